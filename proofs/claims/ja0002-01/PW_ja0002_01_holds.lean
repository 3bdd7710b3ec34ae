import PyProof.Rows.All
import Wide.All
import OpenK.AllK
import Wide.FinOn
import PySem.Challenge.RW_ja0002_01
set_option linter.all false
open PySem PySem.W PyProof.Rows
local macro_rules | `(tactic| walk_at $s:str) => `(tactic| k_extra $s)
local macro_rules | `(tactic| k_ne) => `(tactic| (refine neN ?_; (try dsimp only); first | with_reducible assumption | (refine Ne.symm ?_; with_reducible assumption) | (refine Nat.ne_of_lt ?_; with_reducible assumption) | (refine Nat.ne_of_gt ?_; with_reducible assumption)))
section
set_option Elab.async false
set_option maxRecDepth 100000
namespace JaLaw
/-! the written part: what the text's top leaves, the texts of the defs by their places in it -/
noncomputable abbrev wit {α : Type} {x : α} (b : α) (_ : b = x) : α := b
noncomputable def cStmts : Stmt → List Stmt
  | .ClassDef _ _ _ b .. => b
  | _ => []
noncomputable def fP : Stmt → Arguments
  | .FunctionDef _ a .. => a
  | _ => ⟨[], [], none, [], [], none, []⟩
noncomputable def fB : Stmt → List Stmt
  | .FunctionDef _ _ b .. => b
  | _ => []
noncomputable def fS : Stmt → Scope
  | .FunctionDef _ _ _ _ _ _ s .. => s
  | _ => ⟨.function, [], false, false, []⟩
noncomputable def at1 (i : Nat) : Stmt := (Challenge.pw_ja0002_01.main.body[i]?).getD (.Pass ⟨0, 0, 0, 0⟩)
noncomputable def at2 (i j : Nat) : Stmt := ((cStmts (at1 i))[j]?).getD (.Pass ⟨0, 0, 0, 0⟩)
noncomputable abbrev s0p : Arguments := wit (x := fP (at1 0)) _ (by (conv => rhs; whnf))
noncomputable abbrev s0b : List Stmt := wit (x := fB (at1 0)) _ (by (conv => rhs; whnf))
noncomputable abbrev s0s : Scope := wit (x := fS (at1 0)) _ (by (conv => rhs; whnf))
noncomputable abbrev s4x0p : Arguments := wit (x := fP (at2 4 0)) _ (by (conv => rhs; whnf))
noncomputable abbrev s4x0b : List Stmt := wit (x := fB (at2 4 0)) _ (by (conv => rhs; whnf))
noncomputable abbrev s4x0s : Scope := wit (x := fS (at2 4 0)) _ (by (conv => rhs; whnf))
noncomputable abbrev s4x1p : Arguments := wit (x := fP (at2 4 1)) _ (by (conv => rhs; whnf))
noncomputable abbrev s4x1b : List Stmt := wit (x := fB (at2 4 1)) _ (by (conv => rhs; whnf))
noncomputable abbrev s4x1s : Scope := wit (x := fS (at2 4 1)) _ (by (conv => rhs; whnf))
noncomputable abbrev s4x2p : Arguments := wit (x := fP (at2 4 2)) _ (by (conv => rhs; whnf))
noncomputable abbrev s4x2b : List Stmt := wit (x := fB (at2 4 2)) _ (by (conv => rhs; whnf))
noncomputable abbrev s4x2s : Scope := wit (x := fS (at2 4 2)) _ (by (conv => rhs; whnf))
noncomputable abbrev s4x3p : Arguments := wit (x := fP (at2 4 3)) _ (by (conv => rhs; whnf))
noncomputable abbrev s4x3b : List Stmt := wit (x := fB (at2 4 3)) _ (by (conv => rhs; whnf))
noncomputable abbrev s4x3s : Scope := wit (x := fS (at2 4 3)) _ (by (conv => rhs; whnf))
noncomputable abbrev s4x4p : Arguments := wit (x := fP (at2 4 4)) _ (by (conv => rhs; whnf))
noncomputable abbrev s4x4b : List Stmt := wit (x := fB (at2 4 4)) _ (by (conv => rhs; whnf))
noncomputable abbrev s4x4s : Scope := wit (x := fS (at2 4 4)) _ (by (conv => rhs; whnf))
noncomputable abbrev s4x5p : Arguments := wit (x := fP (at2 4 5)) _ (by (conv => rhs; whnf))
noncomputable abbrev s4x5b : List Stmt := wit (x := fB (at2 4 5)) _ (by (conv => rhs; whnf))
noncomputable abbrev s4x5s : Scope := wit (x := fS (at2 4 5)) _ (by (conv => rhs; whnf))
noncomputable abbrev s4x6p : Arguments := wit (x := fP (at2 4 6)) _ (by (conv => rhs; whnf))
noncomputable abbrev s4x6b : List Stmt := wit (x := fB (at2 4 6)) _ (by (conv => rhs; whnf))
noncomputable abbrev s4x6s : Scope := wit (x := fS (at2 4 6)) _ (by (conv => rhs; whnf))
noncomputable abbrev s4x7p : Arguments := wit (x := fP (at2 4 7)) _ (by (conv => rhs; whnf))
noncomputable abbrev s4x7b : List Stmt := wit (x := fB (at2 4 7)) _ (by (conv => rhs; whnf))
noncomputable abbrev s4x7s : Scope := wit (x := fS (at2 4 7)) _ (by (conv => rhs; whnf))
noncomputable abbrev s4x8p : Arguments := wit (x := fP (at2 4 8)) _ (by (conv => rhs; whnf))
noncomputable abbrev s4x8b : List Stmt := wit (x := fB (at2 4 8)) _ (by (conv => rhs; whnf))
noncomputable abbrev s4x8s : Scope := wit (x := fS (at2 4 8)) _ (by (conv => rhs; whnf))
noncomputable abbrev s4x9p : Arguments := wit (x := fP (at2 4 9)) _ (by (conv => rhs; whnf))
noncomputable abbrev s4x9b : List Stmt := wit (x := fB (at2 4 9)) _ (by (conv => rhs; whnf))
noncomputable abbrev s4x9s : Scope := wit (x := fS (at2 4 9)) _ (by (conv => rhs; whnf))
noncomputable abbrev s4x10p : Arguments := wit (x := fP (at2 4 10)) _ (by (conv => rhs; whnf))
noncomputable abbrev s4x10b : List Stmt := wit (x := fB (at2 4 10)) _ (by (conv => rhs; whnf))
noncomputable abbrev s4x10s : Scope := wit (x := fS (at2 4 10)) _ (by (conv => rhs; whnf))
noncomputable abbrev s4x11p : Arguments := wit (x := fP (at2 4 11)) _ (by (conv => rhs; whnf))
noncomputable abbrev s4x11b : List Stmt := wit (x := fB (at2 4 11)) _ (by (conv => rhs; whnf))
noncomputable abbrev s4x11s : Scope := wit (x := fS (at2 4 11)) _ (by (conv => rhs; whnf))
noncomputable abbrev s4x12p : Arguments := wit (x := fP (at2 4 12)) _ (by (conv => rhs; whnf))
noncomputable abbrev s4x12b : List Stmt := wit (x := fB (at2 4 12)) _ (by (conv => rhs; whnf))
noncomputable abbrev s4x12s : Scope := wit (x := fS (at2 4 12)) _ (by (conv => rhs; whnf))
noncomputable abbrev s4x13p : Arguments := wit (x := fP (at2 4 13)) _ (by (conv => rhs; whnf))
noncomputable abbrev s4x13b : List Stmt := wit (x := fB (at2 4 13)) _ (by (conv => rhs; whnf))
noncomputable abbrev s4x13s : Scope := wit (x := fS (at2 4 13)) _ (by (conv => rhs; whnf))
noncomputable abbrev s4x14p : Arguments := wit (x := fP (at2 4 14)) _ (by (conv => rhs; whnf))
noncomputable abbrev s4x14b : List Stmt := wit (x := fB (at2 4 14)) _ (by (conv => rhs; whnf))
noncomputable abbrev s4x14s : Scope := wit (x := fS (at2 4 14)) _ (by (conv => rhs; whnf))
noncomputable abbrev s4x15p : Arguments := wit (x := fP (at2 4 15)) _ (by (conv => rhs; whnf))
noncomputable abbrev s4x15b : List Stmt := wit (x := fB (at2 4 15)) _ (by (conv => rhs; whnf))
noncomputable abbrev s4x15s : Scope := wit (x := fS (at2 4 15)) _ (by (conv => rhs; whnf))
noncomputable abbrev s4x16p : Arguments := wit (x := fP (at2 4 16)) _ (by (conv => rhs; whnf))
noncomputable abbrev s4x16b : List Stmt := wit (x := fB (at2 4 16)) _ (by (conv => rhs; whnf))
noncomputable abbrev s4x16s : Scope := wit (x := fS (at2 4 16)) _ (by (conv => rhs; whnf))
noncomputable abbrev s4x17p : Arguments := wit (x := fP (at2 4 17)) _ (by (conv => rhs; whnf))
noncomputable abbrev s4x17b : List Stmt := wit (x := fB (at2 4 17)) _ (by (conv => rhs; whnf))
noncomputable abbrev s4x17s : Scope := wit (x := fS (at2 4 17)) _ (by (conv => rhs; whnf))
noncomputable abbrev s4x18p : Arguments := wit (x := fP (at2 4 18)) _ (by (conv => rhs; whnf))
noncomputable abbrev s4x18b : List Stmt := wit (x := fB (at2 4 18)) _ (by (conv => rhs; whnf))
noncomputable abbrev s4x18s : Scope := wit (x := fS (at2 4 18)) _ (by (conv => rhs; whnf))
noncomputable abbrev s21x0p : Arguments := wit (x := fP (at2 21 0)) _ (by (conv => rhs; whnf))
noncomputable abbrev s21x0b : List Stmt := wit (x := fB (at2 21 0)) _ (by (conv => rhs; whnf))
noncomputable abbrev s21x0s : Scope := wit (x := fS (at2 21 0)) _ (by (conv => rhs; whnf))
noncomputable abbrev s22p : Arguments := wit (x := fP (at1 22)) _ (by (conv => rhs; whnf))
noncomputable abbrev s22b : List Stmt := wit (x := fB (at1 22)) _ (by (conv => rhs; whnf))
noncomputable abbrev s22s : Scope := wit (x := fS (at1 22)) _ (by (conv => rhs; whnf))
noncomputable abbrev s23p : Arguments := wit (x := fP (at1 23)) _ (by (conv => rhs; whnf))
noncomputable abbrev s23b : List Stmt := wit (x := fB (at1 23)) _ (by (conv => rhs; whnf))
noncomputable abbrev s23s : Scope := wit (x := fS (at1 23)) _ (by (conv => rhs; whnf))
noncomputable abbrev s24p : Arguments := wit (x := fP (at1 24)) _ (by (conv => rhs; whnf))
noncomputable abbrev s24b : List Stmt := wit (x := fB (at1 24)) _ (by (conv => rhs; whnf))
noncomputable abbrev s24s : Scope := wit (x := fS (at1 24)) _ (by (conv => rhs; whnf))
noncomputable abbrev s25p : Arguments := wit (x := fP (at1 25)) _ (by (conv => rhs; whnf))
noncomputable abbrev s25b : List Stmt := wit (x := fB (at1 25)) _ (by (conv => rhs; whnf))
noncomputable abbrev s25s : Scope := wit (x := fS (at1 25)) _ (by (conv => rhs; whnf))
noncomputable abbrev s26p : Arguments := wit (x := fP (at1 26)) _ (by (conv => rhs; whnf))
noncomputable abbrev s26b : List Stmt := wit (x := fB (at1 26)) _ (by (conv => rhs; whnf))
noncomputable abbrev s26s : Scope := wit (x := fS (at1 26)) _ (by (conv => rhs; whnf))
noncomputable abbrev s27p : Arguments := wit (x := fP (at1 27)) _ (by (conv => rhs; whnf))
noncomputable abbrev s27b : List Stmt := wit (x := fB (at1 27)) _ (by (conv => rhs; whnf))
noncomputable abbrev s27s : Scope := wit (x := fS (at1 27)) _ (by (conv => rhs; whnf))
noncomputable abbrev s28p : Arguments := wit (x := fP (at1 28)) _ (by (conv => rhs; whnf))
noncomputable abbrev s28b : List Stmt := wit (x := fB (at1 28)) _ (by (conv => rhs; whnf))
noncomputable abbrev s28s : Scope := wit (x := fS (at1 28)) _ (by (conv => rhs; whnf))
noncomputable abbrev s30p : Arguments := wit (x := fP (at1 30)) _ (by (conv => rhs; whnf))
noncomputable abbrev s30b : List Stmt := wit (x := fB (at1 30)) _ (by (conv => rhs; whnf))
noncomputable abbrev s30s : Scope := wit (x := fS (at1 30)) _ (by (conv => rhs; whnf))
noncomputable abbrev s31p : Arguments := wit (x := fP (at1 31)) _ (by (conv => rhs; whnf))
noncomputable abbrev s31b : List Stmt := wit (x := fB (at1 31)) _ (by (conv => rhs; whnf))
noncomputable abbrev s31s : Scope := wit (x := fS (at1 31)) _ (by (conv => rhs; whnf))
noncomputable abbrev s32p : Arguments := wit (x := fP (at1 32)) _ (by (conv => rhs; whnf))
noncomputable abbrev s32b : List Stmt := wit (x := fB (at1 32)) _ (by (conv => rhs; whnf))
noncomputable abbrev s32s : Scope := wit (x := fS (at1 32)) _ (by (conv => rhs; whnf))
noncomputable abbrev s33p : Arguments := wit (x := fP (at1 33)) _ (by (conv => rhs; whnf))
noncomputable abbrev s33b : List Stmt := wit (x := fB (at1 33)) _ (by (conv => rhs; whnf))
noncomputable abbrev s33s : Scope := wit (x := fS (at1 33)) _ (by (conv => rhs; whnf))
noncomputable abbrev s34p : Arguments := wit (x := fP (at1 34)) _ (by (conv => rhs; whnf))
noncomputable abbrev s34b : List Stmt := wit (x := fB (at1 34)) _ (by (conv => rhs; whnf))
noncomputable abbrev s34s : Scope := wit (x := fS (at1 34)) _ (by (conv => rhs; whnf))
noncomputable abbrev s35p : Arguments := wit (x := fP (at1 35)) _ (by (conv => rhs; whnf))
noncomputable abbrev s35b : List Stmt := wit (x := fB (at1 35)) _ (by (conv => rhs; whnf))
noncomputable abbrev s35s : Scope := wit (x := fS (at1 35)) _ (by (conv => rhs; whnf))
noncomputable abbrev s36p : Arguments := wit (x := fP (at1 36)) _ (by (conv => rhs; whnf))
noncomputable abbrev s36b : List Stmt := wit (x := fB (at1 36)) _ (by (conv => rhs; whnf))
noncomputable abbrev s36s : Scope := wit (x := fS (at1 36)) _ (by (conv => rhs; whnf))
noncomputable abbrev s37p : Arguments := wit (x := fP (at1 37)) _ (by (conv => rhs; whnf))
noncomputable abbrev s37b : List Stmt := wit (x := fB (at1 37)) _ (by (conv => rhs; whnf))
noncomputable abbrev s37s : Scope := wit (x := fS (at1 37)) _ (by (conv => rhs; whnf))
noncomputable abbrev s38p : Arguments := wit (x := fP (at1 38)) _ (by (conv => rhs; whnf))
noncomputable abbrev s38b : List Stmt := wit (x := fB (at1 38)) _ (by (conv => rhs; whnf))
noncomputable abbrev s38s : Scope := wit (x := fS (at1 38)) _ (by (conv => rhs; whnf))
noncomputable abbrev s39p : Arguments := wit (x := fP (at1 39)) _ (by (conv => rhs; whnf))
noncomputable abbrev s39b : List Stmt := wit (x := fB (at1 39)) _ (by (conv => rhs; whnf))
noncomputable abbrev s39s : Scope := wit (x := fS (at1 39)) _ (by (conv => rhs; whnf))
noncomputable abbrev s40p : Arguments := wit (x := fP (at1 40)) _ (by (conv => rhs; whnf))
noncomputable abbrev s40b : List Stmt := wit (x := fB (at1 40)) _ (by (conv => rhs; whnf))
noncomputable abbrev s40s : Scope := wit (x := fS (at1 40)) _ (by (conv => rhs; whnf))
noncomputable abbrev s41p : Arguments := wit (x := fP (at1 41)) _ (by (conv => rhs; whnf))
noncomputable abbrev s41b : List Stmt := wit (x := fB (at1 41)) _ (by (conv => rhs; whnf))
noncomputable abbrev s41s : Scope := wit (x := fS (at1 41)) _ (by (conv => rhs; whnf))
noncomputable def K0 (P : Params) : Frag :=
  (nat_lit 2, ⟨.none, none, (.dict [].toArray 0), #[]⟩) ::
  (nat_lit 3, ⟨(.type "dict"), none, (.dict [⟨PyData.keyHash P (Str.ofString "__name__"), .str (Str.ofString "__name__") 165, (.str (Str.ofString "law_ja0002_01") 665)⟩, ⟨PyData.keyHash P (Str.ofString "__doc__"), .str (Str.ofString "__doc__") 166, .none⟩, ⟨PyData.keyHash P (Str.ofString "__package__"), .str (Str.ofString "__package__") 167, .none⟩, ⟨PyData.keyHash P (Str.ofString "__loader__"), .str (Str.ofString "__loader__") 168, (.builtin "__main__.__loader__#opaque")⟩, ⟨PyData.keyHash P (Str.ofString "__spec__"), .str (Str.ofString "__spec__") 169, .none⟩, ⟨PyData.keyHash P (Str.ofString "__annotations__"), .str (Str.ofString "__annotations__") 170, (.ref 6)⟩, ⟨PyData.keyHash P (Str.ofString "__builtins__"), .str (Str.ofString "__builtins__") 171, (.ref 4)⟩, ⟨PyData.keyHash P (Str.ofString "__file__"), .str (Str.ofString "__file__") 173, (.str (Str.ofString "/claim/cut.py") 172)⟩, ⟨PyData.keyHash P (Str.ofString "__cached__"), .str (Str.ofString "__cached__") 174, .none⟩, ⟨PyData.keyHash P (Str.ofString "_wall"), .str (Str.ofString "_wall") 193, (.ref 21)⟩, ⟨PyData.keyHash P (Str.ofString "BufferReadError"), .str (Str.ofString "BufferReadError") 213, (.ref 31)⟩, ⟨PyData.keyHash P (Str.ofString "BufferWriteError"), .str (Str.ofString "BufferWriteError") 231, (.ref 44)⟩, ⟨PyData.keyHash P (Str.ofString "Buffer"), .str (Str.ofString "Buffer") 404, (.ref 193)⟩, ⟨PyData.keyHash P (Str.ofString "PACKET_LONG_HEADER"), .str (Str.ofString "PACKET_LONG_HEADER") 408, (.int (128) 407)⟩, ⟨PyData.keyHash P (Str.ofString "PACKET_FIXED_BIT"), .str (Str.ofString "PACKET_FIXED_BIT") 410, (.int (64) 409)⟩, ⟨PyData.keyHash P (Str.ofString "PACKET_SPIN_BIT"), .str (Str.ofString "PACKET_SPIN_BIT") 412, (.int (32) 411)⟩, ⟨PyData.keyHash P (Str.ofString "CONNECTION_ID_MAX_SIZE"), .str (Str.ofString "CONNECTION_ID_MAX_SIZE") 414, (.int (20) 413)⟩, ⟨PyData.keyHash P (Str.ofString "RETRY_AEAD_KEY_VERSION_1"), .str (Str.ofString "RETRY_AEAD_KEY_VERSION_1") 416, (.bytes #[190, 12, 105, 11, 159, 102, 87, 90, 29, 118, 107, 84, 227, 104, 200, 78] 415)⟩, ⟨PyData.keyHash P (Str.ofString "RETRY_AEAD_KEY_VERSION_2"), .str (Str.ofString "RETRY_AEAD_KEY_VERSION_2") 418, (.bytes #[143, 180, 176, 27, 86, 172, 72, 226, 96, 251, 203, 206, 173, 124, 204, 146] 417)⟩, ⟨PyData.keyHash P (Str.ofString "RETRY_AEAD_NONCE_VERSION_1"), .str (Str.ofString "RETRY_AEAD_NONCE_VERSION_1") 420, (.bytes #[70, 21, 153, 211, 93, 99, 43, 242, 35, 152, 37, 187] 419)⟩, ⟨PyData.keyHash P (Str.ofString "RETRY_AEAD_NONCE_VERSION_2"), .str (Str.ofString "RETRY_AEAD_NONCE_VERSION_2") 422, (.bytes #[216, 105, 105, 188, 45, 124, 109, 153, 144, 239, 176, 74] 421)⟩, ⟨PyData.keyHash P (Str.ofString "RETRY_INTEGRITY_TAG_SIZE"), .str (Str.ofString "RETRY_INTEGRITY_TAG_SIZE") 424, (.int (16) 423)⟩, ⟨PyData.keyHash P (Str.ofString "QuicPacketType"), .str (Str.ofString "QuicPacketType") 456, (.ref 207)⟩, ⟨PyData.keyHash P (Str.ofString "PACKET_LONG_TYPE_ENCODE_VERSION_1"), .str (Str.ofString "PACKET_LONG_TYPE_ENCODE_VERSION_1") 469, (.ref 212)⟩, ⟨PyData.keyHash P (Str.ofString "PACKET_LONG_TYPE_DECODE_VERSION_1"), .str (Str.ofString "PACKET_LONG_TYPE_DECODE_VERSION_1") 482, (.ref 213)⟩, ⟨PyData.keyHash P (Str.ofString "PACKET_LONG_TYPE_ENCODE_VERSION_2"), .str (Str.ofString "PACKET_LONG_TYPE_ENCODE_VERSION_2") 495, (.ref 214)⟩, ⟨PyData.keyHash P (Str.ofString "PACKET_LONG_TYPE_DECODE_VERSION_2"), .str (Str.ofString "PACKET_LONG_TYPE_DECODE_VERSION_2") 508, (.ref 215)⟩, ⟨PyData.keyHash P (Str.ofString "QuicProtocolVersion"), .str (Str.ofString "QuicProtocolVersion") 534, (.ref 225)⟩, ⟨PyData.keyHash P (Str.ofString "QuicHeader"), .str (Str.ofString "QuicHeader") 577, (.ref 246)⟩, ⟨PyData.keyHash P (Str.ofString "get_retry_integrity_tag"), .str (Str.ofString "get_retry_integrity_tag") 591, (.ref 257)⟩, ⟨PyData.keyHash P (Str.ofString "get_spin_bit"), .str (Str.ofString "get_spin_bit") 598, (.ref 264)⟩, ⟨PyData.keyHash P (Str.ofString "is_long_header"), .str (Str.ofString "is_long_header") 605, (.ref 271)⟩, ⟨PyData.keyHash P (Str.ofString "pull_quic_header"), .str (Str.ofString "pull_quic_header") 627, (.ref 279)⟩, ⟨PyData.keyHash P (Str.ofString "encode_long_header_first_byte"), .str (Str.ofString "encode_long_header_first_byte") 637, (.ref 286)⟩, ⟨PyData.keyHash P (Str.ofString "encode_quic_retry"), .str (Str.ofString "encode_quic_retry") 652, (.ref 294)⟩, ⟨PyData.keyHash P (Str.ofString "encode_quic_version_negotiation"), .str (Str.ofString "encode_quic_version_negotiation") 664, (.ref 301)⟩, ⟨PyData.keyHash P (Str.ofString "_law_take"), .str (Str.ofString "_law_take") 676, (.ref 308)⟩, ⟨PyData.keyHash P (Str.ofString "_law_state"), .str (Str.ofString "_law_state") 685, (.ref 315)⟩, ⟨PyData.keyHash P (Str.ofString "_law_octets"), .str (Str.ofString "_law_octets") 693, (.ref 322)⟩, ⟨PyData.keyHash P (Str.ofString "_law_var"), .str (Str.ofString "_law_var") 703, (.ref 329)⟩, ⟨PyData.keyHash P (Str.ofString "_law_read_var"), .str (Str.ofString "_law_read_var") 712, (.ref 336)⟩, ⟨PyData.keyHash P (Str.ofString "_law_long"), .str (Str.ofString "_law_long") 718, (.ref 341)⟩, ⟨PyData.keyHash P (Str.ofString "_law_due"), .str (Str.ofString "_law_due") 731, (.ref 348)⟩, ⟨PyData.keyHash P (Str.ofString "_law_told"), .str (Str.ofString "_law_told") 743, (.ref 355)⟩, ⟨PyData.keyHash P (Str.ofString "_law_written"), .str (Str.ofString "_law_written") 749, (.ref 360)⟩, ⟨PyData.keyHash P (Str.ofString "_law_seal"), .str (Str.ofString "_law_seal") 759, (.ref 367)⟩, ⟨PyData.keyHash P (Str.ofString "_law_retry"), .str (Str.ofString "_law_retry") 765, (.ref 372)⟩, ⟨PyData.keyHash P (Str.ofString "law"), .str (Str.ofString "law") 771, (.ref 377)⟩].toArray 48), #[]⟩) ::
  (nat_lit 15, ⟨(.type "tuple"), none, (.seq #[] 0), #[]⟩) ::
  (nat_lit 17, ⟨(.type "tuple"), none, (.seq #[(.str (Str.ofString "k") 190)] 0), #[]⟩) ::
  (nat_lit 18, ⟨(.type "tuple"), none, (.seq #[] 0), #[]⟩) ::
  (nat_lit 20, ⟨(.type "code"), none, (.fields #[(.str (Str.ofString "_wall") 187), (.str (Str.ofString "_wall") 188), (.str (Str.ofString "/claim/cut.py") 189), (.int (1) 0), (.int (1) 0), (.int (0) 0), (.int (0) 0), (.int (3) 0), (.ref 15), (.bool true), (.int (181) 0), (.ref 16), .none, (.ref 17), (.ref 18), (.ref 19), (.int (191) 0), (.int (1) 0), (.str (Str.ofString "/claim/cut.py") 192)]), #[]⟩) ::
  (nat_lit 21, ⟨(.type "function"), none, (.func ⟨(Str.ofString "_wall"), (Str.ofString "_wall"), s0p, .stmts s0b, s0s, 3, [], .none, .none, .none, (.str (Str.ofString "__main__") 164), none, (.ref 20), .none, 0⟩), #[]⟩) ::
  (nat_lit 22, ⟨(.type "tuple"), none, (.seq #[(.type "ValueError")] 0), #[]⟩) ::
  (nat_lit 29, ⟨(.type "tuple"), none, (.seq #[] 0), #[]⟩) ::
  (nat_lit 30, ⟨(.type "dict"), none, (.dict [⟨PyData.keyHash P (Str.ofString "__module__"), .str (Str.ofString "__module__") 203, (.str (Str.ofString "aioquic.buffer") 194)⟩, ⟨PyData.keyHash P (Str.ofString "__firstlineno__"), .str (Str.ofString "__firstlineno__") 207, (.int (5) 206)⟩, ⟨PyData.keyHash P (Str.ofString "__static_attributes__"), .str (Str.ofString "__static_attributes__") 208, (.ref 29)⟩, ⟨PyData.keyHash P (Str.ofString "__weakref__"), .str (Str.ofString "__weakref__") 210, (.ref 32)⟩, ⟨PyData.keyHash P (Str.ofString "__doc__"), .str (Str.ofString "__doc__") 211, .none⟩].toArray 3), #[]⟩) ::
  (nat_lit 31, ⟨(.type "type"), none, (.cls ⟨(Str.ofString "BufferReadError"), [(.type "ValueError")], [(.ref 31), (.type "ValueError"), (.type "Exception"), (.type "BaseException"), (.type "object")], 30, (Str.ofString "BufferReadError"), true, [], [], false, none, false⟩), #[(some (.ref 22)), none, (some (.str (Str.ofString "BufferReadError") 196)), (some (.str (Str.ofString "BufferReadError") 204)), (some (.builtin "ValueError.__new__")), (some (.bool true))]⟩) ::
  (nat_lit 32, ⟨(.type "getset_descriptor"), none, (.fields #[(.str (Str.ofString "__weakref__") 209), (.ref 31), (.builtin "ExceptionGroup.__weakref__"), .none]), #[]⟩) ::
  (nat_lit 35, ⟨(.type "tuple"), none, (.seq #[(.type "ValueError")] 0), #[]⟩) ::
  (nat_lit 42, ⟨(.type "tuple"), none, (.seq #[] 0), #[]⟩) ::
  (nat_lit 43, ⟨(.type "dict"), none, (.dict [⟨PyData.keyHash P (Str.ofString "__module__"), .str (Str.ofString "__module__") 221, (.str (Str.ofString "aioquic.buffer") 194)⟩, ⟨PyData.keyHash P (Str.ofString "__firstlineno__"), .str (Str.ofString "__firstlineno__") 225, (.int (7) 224)⟩, ⟨PyData.keyHash P (Str.ofString "__static_attributes__"), .str (Str.ofString "__static_attributes__") 226, (.ref 42)⟩, ⟨PyData.keyHash P (Str.ofString "__weakref__"), .str (Str.ofString "__weakref__") 228, (.ref 45)⟩, ⟨PyData.keyHash P (Str.ofString "__doc__"), .str (Str.ofString "__doc__") 229, .none⟩].toArray 3), #[]⟩) ::
  (nat_lit 44, ⟨(.type "type"), none, (.cls ⟨(Str.ofString "BufferWriteError"), [(.type "ValueError")], [(.ref 44), (.type "ValueError"), (.type "Exception"), (.type "BaseException"), (.type "object")], 43, (Str.ofString "BufferWriteError"), true, [], [], false, none, false⟩), #[(some (.ref 35)), none, (some (.str (Str.ofString "BufferWriteError") 214)), (some (.str (Str.ofString "BufferWriteError") 222)), (some (.builtin "ValueError.__new__")), (some (.bool true))]⟩) ::
  (nat_lit 45, ⟨(.type "getset_descriptor"), none, (.fields #[(.str (Str.ofString "__weakref__") 227), (.ref 44), (.builtin "ExceptionGroup.__weakref__"), .none]), #[]⟩) ::
  (nat_lit 55, ⟨(.type "tuple"), none, (.seq #[(.int (0) 244), .none] 0), #[]⟩) ::
  (nat_lit 56, ⟨(.type "tuple"), none, (.seq #[] 0), #[]⟩) ::
  (nat_lit 58, ⟨(.type "tuple"), none, (.seq #[(.str (Str.ofString "self") 248), (.str (Str.ofString "capacity") 249), (.str (Str.ofString "data") 250)] 0), #[]⟩) ::
  (nat_lit 59, ⟨(.type "tuple"), none, (.seq #[] 0), #[]⟩) ::
  (nat_lit 61, ⟨(.type "code"), none, (.fields #[(.str (Str.ofString "__init__") 245), (.str (Str.ofString "Buffer.__init__") 246), (.str (Str.ofString "/claim/cut.py") 247), (.int (11) 0), (.int (3) 0), (.int (0) 0), (.int (0) 0), (.int (3) 0), (.ref 56), (.bool true), (.int (181) 0), (.ref 57), .none, (.ref 58), (.ref 59), (.ref 60), (.int (251) 0), (.int (11) 0), (.str (Str.ofString "/claim/cut.py") 252)]), #[]⟩) ::
  (nat_lit 62, ⟨(.type "function"), none, (.func ⟨(Str.ofString "__init__"), (Str.ofString "Buffer.__init__"), s4x0p, .stmts s4x0b, s4x0s, 3, [], (.ref 55), .none, .none, (.str (Str.ofString "aioquic.buffer") 194), none, (.ref 61), .none, 0⟩), #[]⟩) ::
  (nat_lit 63, ⟨(.type "tuple"), none, (.seq #[] 0), #[]⟩) ::
  (nat_lit 65, ⟨(.type "tuple"), none, (.seq #[(.str (Str.ofString "self") 257)] 0), #[]⟩) ::
  (nat_lit 66, ⟨(.type "tuple"), none, (.seq #[] 0), #[]⟩) ::
  (nat_lit 68, ⟨(.type "code"), none, (.fields #[(.str (Str.ofString "capacity") 254), (.str (Str.ofString "Buffer.capacity") 255), (.str (Str.ofString "/claim/cut.py") 256), (.int (18) 0), (.int (1) 0), (.int (0) 0), (.int (0) 0), (.int (3) 0), (.ref 63), (.bool true), (.int (181) 0), (.ref 64), .none, (.ref 65), (.ref 66), (.ref 67), (.int (258) 0), (.int (18) 0), (.str (Str.ofString "/claim/cut.py") 259)]), #[]⟩) ::
  (nat_lit 69, ⟨(.type "function"), none, (.func ⟨(Str.ofString "capacity"), (Str.ofString "Buffer.capacity"), s4x1p, .stmts s4x1b, s4x1s, 3, [], .none, .none, .none, (.str (Str.ofString "aioquic.buffer") 194), none, (.ref 68), .none, 0⟩), #[]⟩) ::
  (nat_lit 70, ⟨(.type "property"), none, (.fields #[(.ref 69), .none, .none, .none, (.str (Str.ofString "capacity") 261), (.bool false)]), #[]⟩) ::
  (nat_lit 71, ⟨(.type "tuple"), none, (.seq #[] 0), #[]⟩) ::
  (nat_lit 73, ⟨(.type "tuple"), none, (.seq #[(.str (Str.ofString "self") 265)] 0), #[]⟩) ::
  (nat_lit 74, ⟨(.type "tuple"), none, (.seq #[] 0), #[]⟩) ::
  (nat_lit 76, ⟨(.type "code"), none, (.fields #[(.str (Str.ofString "data") 262), (.str (Str.ofString "Buffer.data") 263), (.str (Str.ofString "/claim/cut.py") 264), (.int (22) 0), (.int (1) 0), (.int (0) 0), (.int (0) 0), (.int (3) 0), (.ref 71), (.bool true), (.int (181) 0), (.ref 72), .none, (.ref 73), (.ref 74), (.ref 75), (.int (266) 0), (.int (22) 0), (.str (Str.ofString "/claim/cut.py") 267)]), #[]⟩) ::
  (nat_lit 77, ⟨(.type "function"), none, (.func ⟨(Str.ofString "data"), (Str.ofString "Buffer.data"), s4x2p, .stmts s4x2b, s4x2s, 3, [], .none, .none, .none, (.str (Str.ofString "aioquic.buffer") 194), none, (.ref 76), .none, 0⟩), #[]⟩) ::
  (nat_lit 78, ⟨(.type "property"), none, (.fields #[(.ref 77), .none, .none, .none, (.str (Str.ofString "data") 269), (.bool false)]), #[]⟩) ::
  (nat_lit 79, ⟨(.type "tuple"), none, (.seq #[] 0), #[]⟩) ::
  (nat_lit 81, ⟨(.type "tuple"), none, (.seq #[(.str (Str.ofString "self") 273), (.str (Str.ofString "start") 274), (.str (Str.ofString "end") 275)] 0), #[]⟩) ::
  (nat_lit 82, ⟨(.type "tuple"), none, (.seq #[] 0), #[]⟩) ::
  (nat_lit 84, ⟨(.type "code"), none, (.fields #[(.str (Str.ofString "data_slice") 270), (.str (Str.ofString "Buffer.data_slice") 271), (.str (Str.ofString "/claim/cut.py") 272), (.int (26) 0), (.int (3) 0), (.int (0) 0), (.int (0) 0), (.int (3) 0), (.ref 79), (.bool true), (.int (181) 0), (.ref 80), .none, (.ref 81), (.ref 82), (.ref 83), (.int (276) 0), (.int (26) 0), (.str (Str.ofString "/claim/cut.py") 277)]), #[]⟩) ::
  (nat_lit 85, ⟨(.type "function"), none, (.func ⟨(Str.ofString "data_slice"), (Str.ofString "Buffer.data_slice"), s4x3p, .stmts s4x3b, s4x3s, 3, [], .none, .none, .none, (.str (Str.ofString "aioquic.buffer") 194), none, (.ref 84), .none, 0⟩), #[]⟩) ::
  (nat_lit 86, ⟨(.type "tuple"), none, (.seq #[] 0), #[]⟩) ::
  (nat_lit 88, ⟨(.type "tuple"), none, (.seq #[(.str (Str.ofString "self") 282)] 0), #[]⟩) ::
  (nat_lit 89, ⟨(.type "tuple"), none, (.seq #[] 0), #[]⟩) ::
  (nat_lit 91, ⟨(.type "code"), none, (.fields #[(.str (Str.ofString "eof") 279), (.str (Str.ofString "Buffer.eof") 280), (.str (Str.ofString "/claim/cut.py") 281), (.int (29) 0), (.int (1) 0), (.int (0) 0), (.int (0) 0), (.int (3) 0), (.ref 86), (.bool true), (.int (181) 0), (.ref 87), .none, (.ref 88), (.ref 89), (.ref 90), (.int (283) 0), (.int (29) 0), (.str (Str.ofString "/claim/cut.py") 284)]), #[]⟩) ::
  (nat_lit 92, ⟨(.type "function"), none, (.func ⟨(Str.ofString "eof"), (Str.ofString "Buffer.eof"), s4x4p, .stmts s4x4b, s4x4s, 3, [], .none, .none, .none, (.str (Str.ofString "aioquic.buffer") 194), none, (.ref 91), .none, 0⟩), #[]⟩) ::
  (nat_lit 93, ⟨(.type "tuple"), none, (.seq #[] 0), #[]⟩) ::
  (nat_lit 95, ⟨(.type "tuple"), none, (.seq #[(.str (Str.ofString "self") 289), (.str (Str.ofString "pos") 290)] 0), #[]⟩) ::
  (nat_lit 96, ⟨(.type "tuple"), none, (.seq #[] 0), #[]⟩) ::
  (nat_lit 98, ⟨(.type "code"), none, (.fields #[(.str (Str.ofString "seek") 286), (.str (Str.ofString "Buffer.seek") 287), (.str (Str.ofString "/claim/cut.py") 288), (.int (32) 0), (.int (2) 0), (.int (0) 0), (.int (0) 0), (.int (3) 0), (.ref 93), (.bool true), (.int (181) 0), (.ref 94), .none, (.ref 95), (.ref 96), (.ref 97), (.int (291) 0), (.int (32) 0), (.str (Str.ofString "/claim/cut.py") 292)]), #[]⟩) ::
  (nat_lit 99, ⟨(.type "function"), none, (.func ⟨(Str.ofString "seek"), (Str.ofString "Buffer.seek"), s4x5p, .stmts s4x5b, s4x5s, 3, [], .none, .none, .none, (.str (Str.ofString "aioquic.buffer") 194), none, (.ref 98), .none, 0⟩), #[]⟩) ::
  (nat_lit 100, ⟨(.type "tuple"), none, (.seq #[] 0), #[]⟩) ::
  (nat_lit 102, ⟨(.type "tuple"), none, (.seq #[(.str (Str.ofString "self") 297)] 0), #[]⟩) ::
  (nat_lit 103, ⟨(.type "tuple"), none, (.seq #[] 0), #[]⟩) ::
  (nat_lit 105, ⟨(.type "code"), none, (.fields #[(.str (Str.ofString "tell") 294), (.str (Str.ofString "Buffer.tell") 295), (.str (Str.ofString "/claim/cut.py") 296), (.int (37) 0), (.int (1) 0), (.int (0) 0), (.int (0) 0), (.int (3) 0), (.ref 100), (.bool true), (.int (181) 0), (.ref 101), .none, (.ref 102), (.ref 103), (.ref 104), (.int (298) 0), (.int (37) 0), (.str (Str.ofString "/claim/cut.py") 299)]), #[]⟩) ::
  (nat_lit 106, ⟨(.type "function"), none, (.func ⟨(Str.ofString "tell"), (Str.ofString "Buffer.tell"), s4x6p, .stmts s4x6b, s4x6s, 3, [], .none, .none, .none, (.str (Str.ofString "aioquic.buffer") 194), none, (.ref 105), .none, 0⟩), #[]⟩) ::
  (nat_lit 107, ⟨(.type "tuple"), none, (.seq #[] 0), #[]⟩) ::
  (nat_lit 109, ⟨(.type "tuple"), none, (.seq #[(.str (Str.ofString "self") 304), (.str (Str.ofString "length") 305), (.str (Str.ofString "value") 306)] 0), #[]⟩) ::
  (nat_lit 110, ⟨(.type "tuple"), none, (.seq #[] 0), #[]⟩) ::
  (nat_lit 112, ⟨(.type "code"), none, (.fields #[(.str (Str.ofString "pull_bytes") 301), (.str (Str.ofString "Buffer.pull_bytes") 302), (.str (Str.ofString "/claim/cut.py") 303), (.int (40) 0), (.int (2) 0), (.int (0) 0), (.int (0) 0), (.int (3) 0), (.ref 107), (.bool true), (.int (181) 0), (.ref 108), .none, (.ref 109), (.ref 110), (.ref 111), (.int (307) 0), (.int (40) 0), (.str (Str.ofString "/claim/cut.py") 308)]), #[]⟩) ::
  (nat_lit 113, ⟨(.type "function"), none, (.func ⟨(Str.ofString "pull_bytes"), (Str.ofString "Buffer.pull_bytes"), s4x7p, .stmts s4x7b, s4x7s, 3, [], .none, .none, .none, (.str (Str.ofString "aioquic.buffer") 194), none, (.ref 112), .none, 0⟩), #[]⟩) ::
  (nat_lit 114, ⟨(.type "tuple"), none, (.seq #[] 0), #[]⟩) ::
  (nat_lit 116, ⟨(.type "tuple"), none, (.seq #[(.str (Str.ofString "self") 313)] 0), #[]⟩) ::
  (nat_lit 117, ⟨(.type "tuple"), none, (.seq #[] 0), #[]⟩) ::
  (nat_lit 119, ⟨(.type "code"), none, (.fields #[(.str (Str.ofString "pull_uint8") 310), (.str (Str.ofString "Buffer.pull_uint8") 311), (.str (Str.ofString "/claim/cut.py") 312), (.int (47) 0), (.int (1) 0), (.int (0) 0), (.int (0) 0), (.int (3) 0), (.ref 114), (.bool true), (.int (181) 0), (.ref 115), .none, (.ref 116), (.ref 117), (.ref 118), (.int (314) 0), (.int (47) 0), (.str (Str.ofString "/claim/cut.py") 315)]), #[]⟩) ::
  (nat_lit 120, ⟨(.type "function"), none, (.func ⟨(Str.ofString "pull_uint8"), (Str.ofString "Buffer.pull_uint8"), s4x8p, .stmts s4x8b, s4x8s, 3, [], .none, .none, .none, (.str (Str.ofString "aioquic.buffer") 194), none, (.ref 119), .none, 0⟩), #[]⟩) ::
  (nat_lit 121, ⟨(.type "tuple"), none, (.seq #[] 0), #[]⟩) ::
  (nat_lit 123, ⟨(.type "tuple"), none, (.seq #[(.str (Str.ofString "self") 320)] 0), #[]⟩) ::
  (nat_lit 124, ⟨(.type "tuple"), none, (.seq #[] 0), #[]⟩) ::
  (nat_lit 126, ⟨(.type "code"), none, (.fields #[(.str (Str.ofString "pull_uint16") 317), (.str (Str.ofString "Buffer.pull_uint16") 318), (.str (Str.ofString "/claim/cut.py") 319), (.int (50) 0), (.int (1) 0), (.int (0) 0), (.int (0) 0), (.int (3) 0), (.ref 121), (.bool true), (.int (181) 0), (.ref 122), .none, (.ref 123), (.ref 124), (.ref 125), (.int (321) 0), (.int (50) 0), (.str (Str.ofString "/claim/cut.py") 322)]), #[]⟩) ::
  (nat_lit 127, ⟨(.type "function"), none, (.func ⟨(Str.ofString "pull_uint16"), (Str.ofString "Buffer.pull_uint16"), s4x9p, .stmts s4x9b, s4x9s, 3, [], .none, .none, .none, (.str (Str.ofString "aioquic.buffer") 194), none, (.ref 126), .none, 0⟩), #[]⟩) ::
  (nat_lit 128, ⟨(.type "tuple"), none, (.seq #[] 0), #[]⟩) ::
  (nat_lit 130, ⟨(.type "tuple"), none, (.seq #[(.str (Str.ofString "self") 327)] 0), #[]⟩) ::
  (nat_lit 131, ⟨(.type "tuple"), none, (.seq #[] 0), #[]⟩) ::
  (nat_lit 133, ⟨(.type "code"), none, (.fields #[(.str (Str.ofString "pull_uint32") 324), (.str (Str.ofString "Buffer.pull_uint32") 325), (.str (Str.ofString "/claim/cut.py") 326), (.int (53) 0), (.int (1) 0), (.int (0) 0), (.int (0) 0), (.int (3) 0), (.ref 128), (.bool true), (.int (181) 0), (.ref 129), .none, (.ref 130), (.ref 131), (.ref 132), (.int (328) 0), (.int (53) 0), (.str (Str.ofString "/claim/cut.py") 329)]), #[]⟩) ::
  (nat_lit 134, ⟨(.type "function"), none, (.func ⟨(Str.ofString "pull_uint32"), (Str.ofString "Buffer.pull_uint32"), s4x10p, .stmts s4x10b, s4x10s, 3, [], .none, .none, .none, (.str (Str.ofString "aioquic.buffer") 194), none, (.ref 133), .none, 0⟩), #[]⟩) ::
  (nat_lit 135, ⟨(.type "tuple"), none, (.seq #[] 0), #[]⟩) ::
  (nat_lit 137, ⟨(.type "tuple"), none, (.seq #[(.str (Str.ofString "self") 334)] 0), #[]⟩) ::
  (nat_lit 138, ⟨(.type "tuple"), none, (.seq #[] 0), #[]⟩) ::
  (nat_lit 140, ⟨(.type "code"), none, (.fields #[(.str (Str.ofString "pull_uint64") 331), (.str (Str.ofString "Buffer.pull_uint64") 332), (.str (Str.ofString "/claim/cut.py") 333), (.int (56) 0), (.int (1) 0), (.int (0) 0), (.int (0) 0), (.int (3) 0), (.ref 135), (.bool true), (.int (181) 0), (.ref 136), .none, (.ref 137), (.ref 138), (.ref 139), (.int (335) 0), (.int (56) 0), (.str (Str.ofString "/claim/cut.py") 336)]), #[]⟩) ::
  (nat_lit 141, ⟨(.type "function"), none, (.func ⟨(Str.ofString "pull_uint64"), (Str.ofString "Buffer.pull_uint64"), s4x11p, .stmts s4x11b, s4x11s, 3, [], .none, .none, .none, (.str (Str.ofString "aioquic.buffer") 194), none, (.ref 140), .none, 0⟩), #[]⟩) ::
  (nat_lit 142, ⟨(.type "tuple"), none, (.seq #[] 0), #[]⟩) ::
  (nat_lit 144, ⟨(.type "tuple"), none, (.seq #[(.str (Str.ofString "self") 341), (.str (Str.ofString "size") 342)] 0), #[]⟩) ::
  (nat_lit 145, ⟨(.type "tuple"), none, (.seq #[] 0), #[]⟩) ::
  (nat_lit 147, ⟨(.type "code"), none, (.fields #[(.str (Str.ofString "pull_uint_var") 338), (.str (Str.ofString "Buffer.pull_uint_var") 339), (.str (Str.ofString "/claim/cut.py") 340), (.int (59) 0), (.int (1) 0), (.int (0) 0), (.int (0) 0), (.int (3) 0), (.ref 142), (.bool true), (.int (181) 0), (.ref 143), .none, (.ref 144), (.ref 145), (.ref 146), (.int (343) 0), (.int (59) 0), (.str (Str.ofString "/claim/cut.py") 344)]), #[]⟩) ::
  (nat_lit 148, ⟨(.type "function"), none, (.func ⟨(Str.ofString "pull_uint_var"), (Str.ofString "Buffer.pull_uint_var"), s4x12p, .stmts s4x12b, s4x12s, 3, [], .none, .none, .none, (.str (Str.ofString "aioquic.buffer") 194), none, (.ref 147), .none, 0⟩), #[]⟩) ::
  (nat_lit 149, ⟨(.type "tuple"), none, (.seq #[] 0), #[]⟩) ::
  (nat_lit 151, ⟨(.type "tuple"), none, (.seq #[(.str (Str.ofString "self") 349), (.str (Str.ofString "value") 350), (.str (Str.ofString "end") 351)] 0), #[]⟩) ::
  (nat_lit 152, ⟨(.type "tuple"), none, (.seq #[] 0), #[]⟩) ::
  (nat_lit 154, ⟨(.type "code"), none, (.fields #[(.str (Str.ofString "push_bytes") 346), (.str (Str.ofString "Buffer.push_bytes") 347), (.str (Str.ofString "/claim/cut.py") 348), (.int (65) 0), (.int (2) 0), (.int (0) 0), (.int (0) 0), (.int (3) 0), (.ref 149), (.bool true), (.int (181) 0), (.ref 150), .none, (.ref 151), (.ref 152), (.ref 153), (.int (352) 0), (.int (65) 0), (.str (Str.ofString "/claim/cut.py") 353)]), #[]⟩) ::
  (nat_lit 155, ⟨(.type "function"), none, (.func ⟨(Str.ofString "push_bytes"), (Str.ofString "Buffer.push_bytes"), s4x13p, .stmts s4x13b, s4x13s, 3, [], .none, .none, .none, (.str (Str.ofString "aioquic.buffer") 194), none, (.ref 154), .none, 0⟩), #[]⟩) ::
  (nat_lit 156, ⟨(.type "tuple"), none, (.seq #[] 0), #[]⟩) ::
  (nat_lit 158, ⟨(.type "tuple"), none, (.seq #[(.str (Str.ofString "self") 358), (.str (Str.ofString "value") 359)] 0), #[]⟩) ::
  (nat_lit 159, ⟨(.type "tuple"), none, (.seq #[] 0), #[]⟩) ::
  (nat_lit 161, ⟨(.type "code"), none, (.fields #[(.str (Str.ofString "push_uint8") 355), (.str (Str.ofString "Buffer.push_uint8") 356), (.str (Str.ofString "/claim/cut.py") 357), (.int (72) 0), (.int (2) 0), (.int (0) 0), (.int (0) 0), (.int (3) 0), (.ref 156), (.bool true), (.int (181) 0), (.ref 157), .none, (.ref 158), (.ref 159), (.ref 160), (.int (360) 0), (.int (72) 0), (.str (Str.ofString "/claim/cut.py") 361)]), #[]⟩) ::
  (nat_lit 162, ⟨(.type "function"), none, (.func ⟨(Str.ofString "push_uint8"), (Str.ofString "Buffer.push_uint8"), s4x14p, .stmts s4x14b, s4x14s, 3, [], .none, .none, .none, (.str (Str.ofString "aioquic.buffer") 194), none, (.ref 161), .none, 0⟩), #[]⟩) ::
  (nat_lit 163, ⟨(.type "tuple"), none, (.seq #[] 0), #[]⟩) ::
  (nat_lit 165, ⟨(.type "tuple"), none, (.seq #[(.str (Str.ofString "self") 366), (.str (Str.ofString "value") 367)] 0), #[]⟩) ::
  (nat_lit 166, ⟨(.type "tuple"), none, (.seq #[] 0), #[]⟩) ::
  (nat_lit 168, ⟨(.type "code"), none, (.fields #[(.str (Str.ofString "push_uint16") 363), (.str (Str.ofString "Buffer.push_uint16") 364), (.str (Str.ofString "/claim/cut.py") 365), (.int (75) 0), (.int (2) 0), (.int (0) 0), (.int (0) 0), (.int (3) 0), (.ref 163), (.bool true), (.int (181) 0), (.ref 164), .none, (.ref 165), (.ref 166), (.ref 167), (.int (368) 0), (.int (75) 0), (.str (Str.ofString "/claim/cut.py") 369)]), #[]⟩) ::
  (nat_lit 169, ⟨(.type "function"), none, (.func ⟨(Str.ofString "push_uint16"), (Str.ofString "Buffer.push_uint16"), s4x15p, .stmts s4x15b, s4x15s, 3, [], .none, .none, .none, (.str (Str.ofString "aioquic.buffer") 194), none, (.ref 168), .none, 0⟩), #[]⟩) ::
  (nat_lit 170, ⟨(.type "tuple"), none, (.seq #[] 0), #[]⟩) ::
  (nat_lit 172, ⟨(.type "tuple"), none, (.seq #[(.str (Str.ofString "self") 374), (.str (Str.ofString "value") 375)] 0), #[]⟩) ::
  (nat_lit 173, ⟨(.type "tuple"), none, (.seq #[] 0), #[]⟩) ::
  (nat_lit 175, ⟨(.type "code"), none, (.fields #[(.str (Str.ofString "push_uint32") 371), (.str (Str.ofString "Buffer.push_uint32") 372), (.str (Str.ofString "/claim/cut.py") 373), (.int (78) 0), (.int (2) 0), (.int (0) 0), (.int (0) 0), (.int (3) 0), (.ref 170), (.bool true), (.int (181) 0), (.ref 171), .none, (.ref 172), (.ref 173), (.ref 174), (.int (376) 0), (.int (78) 0), (.str (Str.ofString "/claim/cut.py") 377)]), #[]⟩) ::
  (nat_lit 176, ⟨(.type "function"), none, (.func ⟨(Str.ofString "push_uint32"), (Str.ofString "Buffer.push_uint32"), s4x16p, .stmts s4x16b, s4x16s, 3, [], .none, .none, .none, (.str (Str.ofString "aioquic.buffer") 194), none, (.ref 175), .none, 0⟩), #[]⟩) ::
  (nat_lit 177, ⟨(.type "tuple"), none, (.seq #[] 0), #[]⟩) ::
  (nat_lit 179, ⟨(.type "tuple"), none, (.seq #[(.str (Str.ofString "self") 382), (.str (Str.ofString "value") 383)] 0), #[]⟩) ::
  (nat_lit 180, ⟨(.type "tuple"), none, (.seq #[] 0), #[]⟩) ::
  (nat_lit 182, ⟨(.type "code"), none, (.fields #[(.str (Str.ofString "push_uint64") 379), (.str (Str.ofString "Buffer.push_uint64") 380), (.str (Str.ofString "/claim/cut.py") 381), (.int (81) 0), (.int (2) 0), (.int (0) 0), (.int (0) 0), (.int (3) 0), (.ref 177), (.bool true), (.int (181) 0), (.ref 178), .none, (.ref 179), (.ref 180), (.ref 181), (.int (384) 0), (.int (81) 0), (.str (Str.ofString "/claim/cut.py") 385)]), #[]⟩) ::
  (nat_lit 183, ⟨(.type "function"), none, (.func ⟨(Str.ofString "push_uint64"), (Str.ofString "Buffer.push_uint64"), s4x17p, .stmts s4x17b, s4x17s, 3, [], .none, .none, .none, (.str (Str.ofString "aioquic.buffer") 194), none, (.ref 182), .none, 0⟩), #[]⟩) ::
  (nat_lit 184, ⟨(.type "tuple"), none, (.seq #[] 0), #[]⟩) ::
  (nat_lit 186, ⟨(.type "tuple"), none, (.seq #[(.str (Str.ofString "self") 390), (.str (Str.ofString "value") 391)] 0), #[]⟩) ::
  (nat_lit 187, ⟨(.type "tuple"), none, (.seq #[] 0), #[]⟩) ::
  (nat_lit 189, ⟨(.type "code"), none, (.fields #[(.str (Str.ofString "push_uint_var") 387), (.str (Str.ofString "Buffer.push_uint_var") 388), (.str (Str.ofString "/claim/cut.py") 389), (.int (84) 0), (.int (2) 0), (.int (0) 0), (.int (0) 0), (.int (3) 0), (.ref 184), (.bool true), (.int (181) 0), (.ref 185), .none, (.ref 186), (.ref 187), (.ref 188), (.int (392) 0), (.int (84) 0), (.str (Str.ofString "/claim/cut.py") 393)]), #[]⟩) ::
  (nat_lit 190, ⟨(.type "function"), none, (.func ⟨(Str.ofString "push_uint_var"), (Str.ofString "Buffer.push_uint_var"), s4x18p, .stmts s4x18b, s4x18s, 3, [], .none, .none, .none, (.str (Str.ofString "aioquic.buffer") 194), none, (.ref 189), .none, 0⟩), #[]⟩) ::
  (nat_lit 191, ⟨(.type "tuple"), none, (.seq #[(.str (Str.ofString "_octets") 395), (.str (Str.ofString "_place") 396)] 0), #[]⟩) ::
  (nat_lit 192, ⟨(.type "dict"), none, (.dict [⟨PyData.keyHash P (Str.ofString "__module__"), .str (Str.ofString "__module__") 239, (.str (Str.ofString "aioquic.buffer") 194)⟩, ⟨PyData.keyHash P (Str.ofString "__firstlineno__"), .str (Str.ofString "__firstlineno__") 243, (.int (9) 242)⟩, ⟨PyData.keyHash P (Str.ofString "__init__"), .str (Str.ofString "__init__") 253, (.ref 62)⟩, ⟨PyData.keyHash P (Str.ofString "capacity"), .str (Str.ofString "capacity") 261, (.ref 70)⟩, ⟨PyData.keyHash P (Str.ofString "data"), .str (Str.ofString "data") 269, (.ref 78)⟩, ⟨PyData.keyHash P (Str.ofString "data_slice"), .str (Str.ofString "data_slice") 278, (.ref 85)⟩, ⟨PyData.keyHash P (Str.ofString "eof"), .str (Str.ofString "eof") 285, (.ref 92)⟩, ⟨PyData.keyHash P (Str.ofString "seek"), .str (Str.ofString "seek") 293, (.ref 99)⟩, ⟨PyData.keyHash P (Str.ofString "tell"), .str (Str.ofString "tell") 300, (.ref 106)⟩, ⟨PyData.keyHash P (Str.ofString "pull_bytes"), .str (Str.ofString "pull_bytes") 309, (.ref 113)⟩, ⟨PyData.keyHash P (Str.ofString "pull_uint8"), .str (Str.ofString "pull_uint8") 316, (.ref 120)⟩, ⟨PyData.keyHash P (Str.ofString "pull_uint16"), .str (Str.ofString "pull_uint16") 323, (.ref 127)⟩, ⟨PyData.keyHash P (Str.ofString "pull_uint32"), .str (Str.ofString "pull_uint32") 330, (.ref 134)⟩, ⟨PyData.keyHash P (Str.ofString "pull_uint64"), .str (Str.ofString "pull_uint64") 337, (.ref 141)⟩, ⟨PyData.keyHash P (Str.ofString "pull_uint_var"), .str (Str.ofString "pull_uint_var") 345, (.ref 148)⟩, ⟨PyData.keyHash P (Str.ofString "push_bytes"), .str (Str.ofString "push_bytes") 354, (.ref 155)⟩, ⟨PyData.keyHash P (Str.ofString "push_uint8"), .str (Str.ofString "push_uint8") 362, (.ref 162)⟩, ⟨PyData.keyHash P (Str.ofString "push_uint16"), .str (Str.ofString "push_uint16") 370, (.ref 169)⟩, ⟨PyData.keyHash P (Str.ofString "push_uint32"), .str (Str.ofString "push_uint32") 378, (.ref 176)⟩, ⟨PyData.keyHash P (Str.ofString "push_uint64"), .str (Str.ofString "push_uint64") 386, (.ref 183)⟩, ⟨PyData.keyHash P (Str.ofString "push_uint_var"), .str (Str.ofString "push_uint_var") 394, (.ref 190)⟩, ⟨PyData.keyHash P (Str.ofString "__static_attributes__"), .str (Str.ofString "__static_attributes__") 397, (.ref 191)⟩, ⟨PyData.keyHash P (Str.ofString "__dict__"), .str (Str.ofString "__dict__") 399, (.ref 194)⟩, ⟨PyData.keyHash P (Str.ofString "__weakref__"), .str (Str.ofString "__weakref__") 401, (.ref 195)⟩, ⟨PyData.keyHash P (Str.ofString "__doc__"), .str (Str.ofString "__doc__") 402, .none⟩].toArray 4), #[]⟩) ::
  (nat_lit 193, ⟨(.type "type"), none, (.cls ⟨(Str.ofString "Buffer"), [(.type "object")], [(.ref 193), (.type "object")], 192, (Str.ofString "Buffer"), true, [], [], false, none, false⟩), #[none, none, (some (.str (Str.ofString "Buffer") 232)), (some (.str (Str.ofString "Buffer") 240)), (some (.builtin "object.__new__")), (some (.bool true))]⟩) ::
  (nat_lit 194, ⟨(.type "getset_descriptor"), none, (.fields #[(.str (Str.ofString "__dict__") 398), (.ref 193), (.builtin "function.__dict__"), (.builtin "function.__dict__#set")]), #[]⟩) ::
  (nat_lit 195, ⟨(.type "getset_descriptor"), none, (.fields #[(.str (Str.ofString "__weakref__") 400), (.ref 193), (.builtin "ExceptionGroup.__weakref__"), .none]), #[]⟩) ::
  (nat_lit 205, ⟨(.type "tuple"), none, (.seq #[] 0), #[]⟩) ::
  (nat_lit 206, ⟨(.type "dict"), none, (.dict [⟨PyData.keyHash P (Str.ofString "__module__"), .str (Str.ofString "__module__") 432, (.str (Str.ofString "aioquic.quic.packet") 405)⟩, ⟨PyData.keyHash P (Str.ofString "__firstlineno__"), .str (Str.ofString "__firstlineno__") 436, (.int (96) 435)⟩, ⟨PyData.keyHash P (Str.ofString "INITIAL"), .str (Str.ofString "INITIAL") 438, (.int (0) 437)⟩, ⟨PyData.keyHash P (Str.ofString "ZERO_RTT"), .str (Str.ofString "ZERO_RTT") 440, (.int (1) 439)⟩, ⟨PyData.keyHash P (Str.ofString "HANDSHAKE"), .str (Str.ofString "HANDSHAKE") 442, (.int (2) 441)⟩, ⟨PyData.keyHash P (Str.ofString "RETRY"), .str (Str.ofString "RETRY") 444, (.int (3) 443)⟩, ⟨PyData.keyHash P (Str.ofString "VERSION_NEGOTIATION"), .str (Str.ofString "VERSION_NEGOTIATION") 446, (.int (4) 445)⟩, ⟨PyData.keyHash P (Str.ofString "ONE_RTT"), .str (Str.ofString "ONE_RTT") 448, (.int (5) 447)⟩, ⟨PyData.keyHash P (Str.ofString "__static_attributes__"), .str (Str.ofString "__static_attributes__") 449, (.ref 205)⟩, ⟨PyData.keyHash P (Str.ofString "__dict__"), .str (Str.ofString "__dict__") 451, (.ref 208)⟩, ⟨PyData.keyHash P (Str.ofString "__weakref__"), .str (Str.ofString "__weakref__") 453, (.ref 209)⟩, ⟨PyData.keyHash P (Str.ofString "__doc__"), .str (Str.ofString "__doc__") 454, .none⟩].toArray 4), #[]⟩) ::
  (nat_lit 207, ⟨(.type "type"), none, (.cls ⟨(Str.ofString "QuicPacketType"), [(.type "object")], [(.ref 207), (.type "object")], 206, (Str.ofString "QuicPacketType"), true, [], [], false, none, false⟩), #[none, none, (some (.str (Str.ofString "QuicPacketType") 425)), (some (.str (Str.ofString "QuicPacketType") 433)), (some (.builtin "object.__new__")), (some (.bool true))]⟩) ::
  (nat_lit 208, ⟨(.type "getset_descriptor"), none, (.fields #[(.str (Str.ofString "__dict__") 450), (.ref 207), (.builtin "function.__dict__"), (.builtin "function.__dict__#set")]), #[]⟩) ::
  (nat_lit 209, ⟨(.type "getset_descriptor"), none, (.fields #[(.str (Str.ofString "__weakref__") 452), (.ref 207), (.builtin "ExceptionGroup.__weakref__"), .none]), #[]⟩) ::
  (nat_lit 212, ⟨(.type "dict"), none, (.dict [⟨0, (.int (0) 457), (.int (0) 458)⟩, ⟨1, (.int (1) 459), (.int (1) 460)⟩, ⟨2, (.int (2) 461), (.int (2) 462)⟩, ⟨3, (.int (3) 463), (.int (3) 464)⟩].toArray 4), #[]⟩) ::
  (nat_lit 213, ⟨(.type "dict"), none, (.dict [⟨0, (.int (0) 470), (.int (0) 471)⟩, ⟨1, (.int (1) 472), (.int (1) 473)⟩, ⟨2, (.int (2) 474), (.int (2) 475)⟩, ⟨3, (.int (3) 476), (.int (3) 477)⟩].toArray 4), #[]⟩) ::
  (nat_lit 214, ⟨(.type "dict"), none, (.dict [⟨0, (.int (0) 483), (.int (1) 484)⟩, ⟨1, (.int (1) 485), (.int (2) 486)⟩, ⟨2, (.int (2) 487), (.int (3) 488)⟩, ⟨3, (.int (3) 489), (.int (0) 490)⟩].toArray 4), #[]⟩) ::
  (nat_lit 215, ⟨(.type "dict"), none, (.dict [⟨1, (.int (1) 496), (.int (0) 497)⟩, ⟨2, (.int (2) 498), (.int (1) 499)⟩, ⟨3, (.int (3) 500), (.int (2) 501)⟩, ⟨0, (.int (0) 502), (.int (3) 503)⟩].toArray 4), #[]⟩) ::
  (nat_lit 223, ⟨(.type "tuple"), none, (.seq #[] 0), #[]⟩) ::
  (nat_lit 224, ⟨(.type "dict"), none, (.dict [⟨PyData.keyHash P (Str.ofString "__module__"), .str (Str.ofString "__module__") 516, (.str (Str.ofString "aioquic.quic.packet") 405)⟩, ⟨PyData.keyHash P (Str.ofString "__firstlineno__"), .str (Str.ofString "__firstlineno__") 520, (.int (107) 519)⟩, ⟨PyData.keyHash P (Str.ofString "NEGOTIATION"), .str (Str.ofString "NEGOTIATION") 522, (.int (0) 521)⟩, ⟨PyData.keyHash P (Str.ofString "VERSION_1"), .str (Str.ofString "VERSION_1") 524, (.int (1) 523)⟩, ⟨PyData.keyHash P (Str.ofString "VERSION_2"), .str (Str.ofString "VERSION_2") 526, (.int (1798521807) 525)⟩, ⟨PyData.keyHash P (Str.ofString "__static_attributes__"), .str (Str.ofString "__static_attributes__") 527, (.ref 223)⟩, ⟨PyData.keyHash P (Str.ofString "__dict__"), .str (Str.ofString "__dict__") 529, (.ref 226)⟩, ⟨PyData.keyHash P (Str.ofString "__weakref__"), .str (Str.ofString "__weakref__") 531, (.ref 227)⟩, ⟨PyData.keyHash P (Str.ofString "__doc__"), .str (Str.ofString "__doc__") 532, .none⟩].toArray 4), #[]⟩) ::
  (nat_lit 225, ⟨(.type "type"), none, (.cls ⟨(Str.ofString "QuicProtocolVersion"), [(.type "object")], [(.ref 225), (.type "object")], 224, (Str.ofString "QuicProtocolVersion"), true, [], [], false, none, false⟩), #[none, none, (some (.str (Str.ofString "QuicProtocolVersion") 509)), (some (.str (Str.ofString "QuicProtocolVersion") 517)), (some (.builtin "object.__new__")), (some (.bool true))]⟩) ::
  (nat_lit 226, ⟨(.type "getset_descriptor"), none, (.fields #[(.str (Str.ofString "__dict__") 528), (.ref 225), (.builtin "function.__dict__"), (.builtin "function.__dict__#set")]), #[]⟩) ::
  (nat_lit 227, ⟨(.type "getset_descriptor"), none, (.fields #[(.str (Str.ofString "__weakref__") 530), (.ref 225), (.builtin "ExceptionGroup.__weakref__"), .none]), #[]⟩) ::
  (nat_lit 237, ⟨(.type "tuple"), none, (.seq #[] 0), #[]⟩) ::
  (nat_lit 239, ⟨(.type "tuple"), none, (.seq #[(.str (Str.ofString "self") 550), (.str (Str.ofString "version") 551), (.str (Str.ofString "packet_type") 552), (.str (Str.ofString "packet_length") 553), (.str (Str.ofString "destination_cid") 554), (.str (Str.ofString "source_cid") 555), (.str (Str.ofString "token") 556), (.str (Str.ofString "integrity_tag") 557), (.str (Str.ofString "supported_versions") 558)] 0), #[]⟩) ::
  (nat_lit 240, ⟨(.type "tuple"), none, (.seq #[] 0), #[]⟩) ::
  (nat_lit 242, ⟨(.type "code"), none, (.fields #[(.str (Str.ofString "__init__") 547), (.str (Str.ofString "QuicHeader.__init__") 548), (.str (Str.ofString "/claim/cut.py") 549), (.int (113) 0), (.int (9) 0), (.int (0) 0), (.int (0) 0), (.int (3) 0), (.ref 237), (.bool true), (.int (181) 0), (.ref 238), .none, (.ref 239), (.ref 240), (.ref 241), (.int (559) 0), (.int (113) 0), (.str (Str.ofString "/claim/cut.py") 560)]), #[]⟩) ::
  (nat_lit 243, ⟨(.type "function"), none, (.func ⟨(Str.ofString "__init__"), (Str.ofString "QuicHeader.__init__"), s21x0p, .stmts s21x0b, s21x0s, 3, [], .none, .none, .none, (.str (Str.ofString "aioquic.quic.packet") 405), none, (.ref 242), .none, 0⟩), #[]⟩) ::
  (nat_lit 244, ⟨(.type "tuple"), none, (.seq #[(.str (Str.ofString "destination_cid") 562), (.str (Str.ofString "integrity_tag") 563), (.str (Str.ofString "packet_length") 564), (.str (Str.ofString "packet_type") 565), (.str (Str.ofString "source_cid") 566), (.str (Str.ofString "supported_versions") 567), (.str (Str.ofString "token") 568), (.str (Str.ofString "version") 569)] 0), #[]⟩) ::
  (nat_lit 245, ⟨(.type "dict"), none, (.dict [⟨PyData.keyHash P (Str.ofString "__module__"), .str (Str.ofString "__module__") 542, (.str (Str.ofString "aioquic.quic.packet") 405)⟩, ⟨PyData.keyHash P (Str.ofString "__firstlineno__"), .str (Str.ofString "__firstlineno__") 546, (.int (111) 545)⟩, ⟨PyData.keyHash P (Str.ofString "__init__"), .str (Str.ofString "__init__") 561, (.ref 243)⟩, ⟨PyData.keyHash P (Str.ofString "__static_attributes__"), .str (Str.ofString "__static_attributes__") 570, (.ref 244)⟩, ⟨PyData.keyHash P (Str.ofString "__dict__"), .str (Str.ofString "__dict__") 572, (.ref 247)⟩, ⟨PyData.keyHash P (Str.ofString "__weakref__"), .str (Str.ofString "__weakref__") 574, (.ref 248)⟩, ⟨PyData.keyHash P (Str.ofString "__doc__"), .str (Str.ofString "__doc__") 575, .none⟩].toArray 4), #[]⟩) ::
  (nat_lit 246, ⟨(.type "type"), none, (.cls ⟨(Str.ofString "QuicHeader"), [(.type "object")], [(.ref 246), (.type "object")], 245, (Str.ofString "QuicHeader"), true, [], [], false, none, false⟩), #[none, none, (some (.str (Str.ofString "QuicHeader") 535)), (some (.str (Str.ofString "QuicHeader") 543)), (some (.builtin "object.__new__")), (some (.bool true))]⟩) ::
  (nat_lit 247, ⟨(.type "getset_descriptor"), none, (.fields #[(.str (Str.ofString "__dict__") 571), (.ref 246), (.builtin "function.__dict__"), (.builtin "function.__dict__#set")]), #[]⟩) ::
  (nat_lit 248, ⟨(.type "getset_descriptor"), none, (.fields #[(.str (Str.ofString "__weakref__") 573), (.ref 246), (.builtin "ExceptionGroup.__weakref__"), .none]), #[]⟩) ::
  (nat_lit 251, ⟨(.type "tuple"), none, (.seq #[] 0), #[]⟩) ::
  (nat_lit 253, ⟨(.type "tuple"), none, (.seq #[(.str (Str.ofString "packet_without_tag") 581), (.str (Str.ofString "original_destination_cid") 582), (.str (Str.ofString "version") 583), (.str (Str.ofString "seal") 584), (.str (Str.ofString "buf") 585), (.str (Str.ofString "aead_key") 586), (.str (Str.ofString "aead_nonce") 587), (.str (Str.ofString "integrity_tag") 588)] 0), #[]⟩) ::
  (nat_lit 254, ⟨(.type "tuple"), none, (.seq #[] 0), #[]⟩) ::
  (nat_lit 256, ⟨(.type "code"), none, (.fields #[(.str (Str.ofString "get_retry_integrity_tag") 578), (.str (Str.ofString "get_retry_integrity_tag") 579), (.str (Str.ofString "/claim/cut.py") 580), (.int (122) 0), (.int (4) 0), (.int (0) 0), (.int (0) 0), (.int (3) 0), (.ref 251), (.bool true), (.int (181) 0), (.ref 252), .none, (.ref 253), (.ref 254), (.ref 255), (.int (589) 0), (.int (122) 0), (.str (Str.ofString "/claim/cut.py") 590)]), #[]⟩) ::
  (nat_lit 257, ⟨(.type "function"), none, (.func ⟨(Str.ofString "get_retry_integrity_tag"), (Str.ofString "get_retry_integrity_tag"), s22p, .stmts s22b, s22s, 3, [], .none, .none, .none, (.str (Str.ofString "aioquic.quic.packet") 405), none, (.ref 256), .none, 0⟩), #[]⟩) ::
  (nat_lit 258, ⟨(.type "tuple"), none, (.seq #[] 0), #[]⟩) ::
  (nat_lit 260, ⟨(.type "tuple"), none, (.seq #[(.str (Str.ofString "first_byte") 595)] 0), #[]⟩) ::
  (nat_lit 261, ⟨(.type "tuple"), none, (.seq #[] 0), #[]⟩) ::
  (nat_lit 263, ⟨(.type "code"), none, (.fields #[(.str (Str.ofString "get_spin_bit") 592), (.str (Str.ofString "get_spin_bit") 593), (.str (Str.ofString "/claim/cut.py") 594), (.int (137) 0), (.int (1) 0), (.int (0) 0), (.int (0) 0), (.int (3) 0), (.ref 258), (.bool true), (.int (181) 0), (.ref 259), .none, (.ref 260), (.ref 261), (.ref 262), (.int (596) 0), (.int (137) 0), (.str (Str.ofString "/claim/cut.py") 597)]), #[]⟩) ::
  (nat_lit 264, ⟨(.type "function"), none, (.func ⟨(Str.ofString "get_spin_bit"), (Str.ofString "get_spin_bit"), s23p, .stmts s23b, s23s, 3, [], .none, .none, .none, (.str (Str.ofString "aioquic.quic.packet") 405), none, (.ref 263), .none, 0⟩), #[]⟩) ::
  (nat_lit 265, ⟨(.type "tuple"), none, (.seq #[] 0), #[]⟩) ::
  (nat_lit 267, ⟨(.type "tuple"), none, (.seq #[(.str (Str.ofString "first_byte") 602)] 0), #[]⟩) ::
  (nat_lit 268, ⟨(.type "tuple"), none, (.seq #[] 0), #[]⟩) ::
  (nat_lit 270, ⟨(.type "code"), none, (.fields #[(.str (Str.ofString "is_long_header") 599), (.str (Str.ofString "is_long_header") 600), (.str (Str.ofString "/claim/cut.py") 601), (.int (139) 0), (.int (1) 0), (.int (0) 0), (.int (0) 0), (.int (3) 0), (.ref 265), (.bool true), (.int (181) 0), (.ref 266), .none, (.ref 267), (.ref 268), (.ref 269), (.int (603) 0), (.int (139) 0), (.str (Str.ofString "/claim/cut.py") 604)]), #[]⟩) ::
  (nat_lit 271, ⟨(.type "function"), none, (.func ⟨(Str.ofString "is_long_header"), (Str.ofString "is_long_header"), s24p, .stmts s24b, s24s, 3, [], .none, .none, .none, (.str (Str.ofString "aioquic.quic.packet") 405), none, (.ref 270), .none, 0⟩), #[]⟩) ::
  (nat_lit 272, ⟨(.type "tuple"), none, (.seq #[.none] 0), #[]⟩) ::
  (nat_lit 273, ⟨(.type "tuple"), none, (.seq #[] 0), #[]⟩) ::
  (nat_lit 275, ⟨(.type "tuple"), none, (.seq #[(.str (Str.ofString "buf") 609), (.str (Str.ofString "host_cid_length") 610), (.str (Str.ofString "packet_start") 611), (.str (Str.ofString "version") 612), (.str (Str.ofString "integrity_tag") 613), (.str (Str.ofString "supported_versions") 614), (.str (Str.ofString "token") 615), (.str (Str.ofString "first_byte") 616), (.str (Str.ofString "destination_cid_length") 617), (.str (Str.ofString "destination_cid") 618), (.str (Str.ofString "source_cid_length") 619), (.str (Str.ofString "source_cid") 620), (.str (Str.ofString "packet_type") 621), (.str (Str.ofString "packet_end") 622), (.str (Str.ofString "token_length") 623), (.str (Str.ofString "rest_length") 624)] 0), #[]⟩) ::
  (nat_lit 276, ⟨(.type "tuple"), none, (.seq #[] 0), #[]⟩) ::
  (nat_lit 278, ⟨(.type "code"), none, (.fields #[(.str (Str.ofString "pull_quic_header") 606), (.str (Str.ofString "pull_quic_header") 607), (.str (Str.ofString "/claim/cut.py") 608), (.int (141) 0), (.int (2) 0), (.int (0) 0), (.int (0) 0), (.int (3) 0), (.ref 273), (.bool true), (.int (181) 0), (.ref 274), .none, (.ref 275), (.ref 276), (.ref 277), (.int (625) 0), (.int (141) 0), (.str (Str.ofString "/claim/cut.py") 626)]), #[]⟩) ::
  (nat_lit 279, ⟨(.type "function"), none, (.func ⟨(Str.ofString "pull_quic_header"), (Str.ofString "pull_quic_header"), s25p, .stmts s25b, s25s, 3, [], (.ref 272), .none, .none, (.str (Str.ofString "aioquic.quic.packet") 405), none, (.ref 278), .none, 0⟩), #[]⟩) ::
  (nat_lit 280, ⟨(.type "tuple"), none, (.seq #[] 0), #[]⟩) ::
  (nat_lit 282, ⟨(.type "tuple"), none, (.seq #[(.str (Str.ofString "version") 631), (.str (Str.ofString "packet_type") 632), (.str (Str.ofString "bits") 633), (.str (Str.ofString "long_type_encode") 634)] 0), #[]⟩) ::
  (nat_lit 283, ⟨(.type "tuple"), none, (.seq #[] 0), #[]⟩) ::
  (nat_lit 285, ⟨(.type "code"), none, (.fields #[(.str (Str.ofString "encode_long_header_first_byte") 628), (.str (Str.ofString "encode_long_header_first_byte") 629), (.str (Str.ofString "/claim/cut.py") 630), (.int (195) 0), (.int (3) 0), (.int (0) 0), (.int (0) 0), (.int (3) 0), (.ref 280), (.bool true), (.int (181) 0), (.ref 281), .none, (.ref 282), (.ref 283), (.ref 284), (.int (635) 0), (.int (195) 0), (.str (Str.ofString "/claim/cut.py") 636)]), #[]⟩) ::
  (nat_lit 286, ⟨(.type "function"), none, (.func ⟨(Str.ofString "encode_long_header_first_byte"), (Str.ofString "encode_long_header_first_byte"), s26p, .stmts s26b, s26s, 3, [], .none, .none, .none, (.str (Str.ofString "aioquic.quic.packet") 405), none, (.ref 285), .none, 0⟩), #[]⟩) ::
  (nat_lit 287, ⟨(.type "tuple"), none, (.seq #[(.int (0) 638)] 0), #[]⟩) ::
  (nat_lit 288, ⟨(.type "tuple"), none, (.seq #[] 0), #[]⟩) ::
  (nat_lit 290, ⟨(.type "tuple"), none, (.seq #[(.str (Str.ofString "version") 642), (.str (Str.ofString "source_cid") 643), (.str (Str.ofString "destination_cid") 644), (.str (Str.ofString "original_destination_cid") 645), (.str (Str.ofString "retry_token") 646), (.str (Str.ofString "seal") 647), (.str (Str.ofString "unused") 648), (.str (Str.ofString "buf") 649)] 0), #[]⟩) ::
  (nat_lit 291, ⟨(.type "tuple"), none, (.seq #[] 0), #[]⟩) ::
  (nat_lit 293, ⟨(.type "code"), none, (.fields #[(.str (Str.ofString "encode_quic_retry") 639), (.str (Str.ofString "encode_quic_retry") 640), (.str (Str.ofString "/claim/cut.py") 641), (.int (201) 0), (.int (7) 0), (.int (0) 0), (.int (0) 0), (.int (3) 0), (.ref 288), (.bool true), (.int (181) 0), (.ref 289), .none, (.ref 290), (.ref 291), (.ref 292), (.int (650) 0), (.int (201) 0), (.str (Str.ofString "/claim/cut.py") 651)]), #[]⟩) ::
  (nat_lit 294, ⟨(.type "function"), none, (.func ⟨(Str.ofString "encode_quic_retry"), (Str.ofString "encode_quic_retry"), s27p, .stmts s27b, s27s, 3, [], (.ref 287), .none, .none, (.str (Str.ofString "aioquic.quic.packet") 405), none, (.ref 293), .none, 0⟩), #[]⟩) ::
  (nat_lit 295, ⟨(.type "tuple"), none, (.seq #[] 0), #[]⟩) ::
  (nat_lit 297, ⟨(.type "tuple"), none, (.seq #[(.str (Str.ofString "source_cid") 656), (.str (Str.ofString "destination_cid") 657), (.str (Str.ofString "supported_versions") 658), (.str (Str.ofString "drawn") 659), (.str (Str.ofString "buf") 660), (.str (Str.ofString "version") 661)] 0), #[]⟩) ::
  (nat_lit 298, ⟨(.type "tuple"), none, (.seq #[] 0), #[]⟩) ::
  (nat_lit 300, ⟨(.type "code"), none, (.fields #[(.str (Str.ofString "encode_quic_version_negotiation") 653), (.str (Str.ofString "encode_quic_version_negotiation") 654), (.str (Str.ofString "/claim/cut.py") 655), (.int (213) 0), (.int (4) 0), (.int (0) 0), (.int (0) 0), (.int (3) 0), (.ref 295), (.bool true), (.int (181) 0), (.ref 296), .none, (.ref 297), (.ref 298), (.ref 299), (.int (662) 0), (.int (213) 0), (.str (Str.ofString "/claim/cut.py") 663)]), #[]⟩) ::
  (nat_lit 301, ⟨(.type "function"), none, (.func ⟨(Str.ofString "encode_quic_version_negotiation"), (Str.ofString "encode_quic_version_negotiation"), s28p, .stmts s28b, s28s, 3, [], .none, .none, .none, (.str (Str.ofString "aioquic.quic.packet") 405), none, (.ref 300), .none, 0⟩), #[]⟩) ::
  (nat_lit 302, ⟨(.type "tuple"), none, (.seq #[] 0), #[]⟩) ::
  (nat_lit 304, ⟨(.type "tuple"), none, (.seq #[(.str (Str.ofString "state") 670), (.str (Str.ofString "most") 671), (.str (Str.ofString "cells") 672), (.str (Str.ofString "at") 673)] 0), #[]⟩) ::
  (nat_lit 305, ⟨(.type "tuple"), none, (.seq #[] 0), #[]⟩) ::
  (nat_lit 307, ⟨(.type "code"), none, (.fields #[(.str (Str.ofString "_law_take") 667), (.str (Str.ofString "_law_take") 668), (.str (Str.ofString "/claim/cut.py") 669), (.int (225) 0), (.int (2) 0), (.int (0) 0), (.int (0) 0), (.int (3) 0), (.ref 302), (.bool true), (.int (181) 0), (.ref 303), .none, (.ref 304), (.ref 305), (.ref 306), (.int (674) 0), (.int (225) 0), (.str (Str.ofString "/claim/cut.py") 675)]), #[]⟩) ::
  (nat_lit 308, ⟨(.type "function"), none, (.func ⟨(Str.ofString "_law_take"), (Str.ofString "_law_take"), s30p, .stmts s30b, s30s, 3, [], .none, .none, .none, (.str (Str.ofString "law_ja0002_01") 665), none, (.ref 307), .none, 0⟩), #[]⟩) ::
  (nat_lit 309, ⟨(.type "tuple"), none, (.seq #[] 0), #[]⟩) ::
  (nat_lit 311, ⟨(.type "tuple"), none, (.seq #[(.str (Str.ofString "script") 680), (.str (Str.ofString "most") 681), (.str (Str.ofString "cells") 682)] 0), #[]⟩) ::
  (nat_lit 312, ⟨(.type "tuple"), none, (.seq #[] 0), #[]⟩) ::
  (nat_lit 314, ⟨(.type "code"), none, (.fields #[(.str (Str.ofString "_law_state") 677), (.str (Str.ofString "_law_state") 678), (.str (Str.ofString "/claim/cut.py") 679), (.int (232) 0), (.int (2) 0), (.int (0) 0), (.int (0) 0), (.int (3) 0), (.ref 309), (.bool true), (.int (181) 0), (.ref 310), .none, (.ref 311), (.ref 312), (.ref 313), (.int (683) 0), (.int (232) 0), (.str (Str.ofString "/claim/cut.py") 684)]), #[]⟩) ::
  (nat_lit 315, ⟨(.type "function"), none, (.func ⟨(Str.ofString "_law_state"), (Str.ofString "_law_state"), s31p, .stmts s31b, s31s, 3, [], .none, .none, .none, (.str (Str.ofString "law_ja0002_01") 665), none, (.ref 314), .none, 0⟩), #[]⟩) ::
  (nat_lit 316, ⟨(.type "tuple"), none, (.seq #[] 0), #[]⟩) ::
  (nat_lit 318, ⟨(.type "tuple"), none, (.seq #[(.str (Str.ofString "state") 689), (.str (Str.ofString "size") 690)] 0), #[]⟩) ::
  (nat_lit 319, ⟨(.type "tuple"), none, (.seq #[] 0), #[]⟩) ::
  (nat_lit 321, ⟨(.type "code"), none, (.fields #[(.str (Str.ofString "_law_octets") 686), (.str (Str.ofString "_law_octets") 687), (.str (Str.ofString "/claim/cut.py") 688), (.int (235) 0), (.int (2) 0), (.int (0) 0), (.int (0) 0), (.int (3) 0), (.ref 316), (.bool true), (.int (181) 0), (.ref 317), .none, (.ref 318), (.ref 319), (.ref 320), (.int (691) 0), (.int (235) 0), (.str (Str.ofString "/claim/cut.py") 692)]), #[]⟩) ::
  (nat_lit 322, ⟨(.type "function"), none, (.func ⟨(Str.ofString "_law_octets"), (Str.ofString "_law_octets"), s32p, .stmts s32b, s32s, 3, [], .none, .none, .none, (.str (Str.ofString "law_ja0002_01") 665), none, (.ref 321), .none, 0⟩), #[]⟩) ::
  (nat_lit 323, ⟨(.type "tuple"), none, (.seq #[] 0), #[]⟩) ::
  (nat_lit 325, ⟨(.type "tuple"), none, (.seq #[(.str (Str.ofString "number") 697), (.str (Str.ofString "wide") 698), (.str (Str.ofString "k") 699), (.str (Str.ofString "most") 700)] 0), #[]⟩) ::
  (nat_lit 326, ⟨(.type "tuple"), none, (.seq #[] 0), #[]⟩) ::
  (nat_lit 328, ⟨(.type "code"), none, (.fields #[(.str (Str.ofString "_law_var") 694), (.str (Str.ofString "_law_var") 695), (.str (Str.ofString "/claim/cut.py") 696), (.int (237) 0), (.int (2) 0), (.int (0) 0), (.int (0) 0), (.int (3) 0), (.ref 323), (.bool true), (.int (181) 0), (.ref 324), .none, (.ref 325), (.ref 326), (.ref 327), (.int (701) 0), (.int (237) 0), (.str (Str.ofString "/claim/cut.py") 702)]), #[]⟩) ::
  (nat_lit 329, ⟨(.type "function"), none, (.func ⟨(Str.ofString "_law_var"), (Str.ofString "_law_var"), s33p, .stmts s33b, s33s, 3, [], .none, .none, .none, (.str (Str.ofString "law_ja0002_01") 665), none, (.ref 328), .none, 0⟩), #[]⟩) ::
  (nat_lit 330, ⟨(.type "tuple"), none, (.seq #[] 0), #[]⟩) ::
  (nat_lit 332, ⟨(.type "tuple"), none, (.seq #[(.str (Str.ofString "octets") 707), (.str (Str.ofString "at") 708), (.str (Str.ofString "size") 709)] 0), #[]⟩) ::
  (nat_lit 333, ⟨(.type "tuple"), none, (.seq #[] 0), #[]⟩) ::
  (nat_lit 335, ⟨(.type "code"), none, (.fields #[(.str (Str.ofString "_law_read_var") 704), (.str (Str.ofString "_law_read_var") 705), (.str (Str.ofString "/claim/cut.py") 706), (.int (242) 0), (.int (2) 0), (.int (0) 0), (.int (0) 0), (.int (3) 0), (.ref 330), (.bool true), (.int (181) 0), (.ref 331), .none, (.ref 332), (.ref 333), (.ref 334), (.int (710) 0), (.int (242) 0), (.str (Str.ofString "/claim/cut.py") 711)]), #[]⟩) ::
  (nat_lit 336, ⟨(.type "function"), none, (.func ⟨(Str.ofString "_law_read_var"), (Str.ofString "_law_read_var"), s34p, .stmts s34b, s34s, 3, [], .none, .none, .none, (.str (Str.ofString "law_ja0002_01") 665), none, (.ref 335), .none, 0⟩), #[]⟩) ::
  (nat_lit 337, ⟨(.type "tuple"), none, (.seq #[] 0), #[]⟩) ::
  (nat_lit 340, ⟨(.type "code"), none, (.fields #[(.str (Str.ofString "_law_long") 713), (.str (Str.ofString "_law_long") 714), (.str (Str.ofString "/claim/cut.py") 715), (.int (249) 0), (.int (3) 0), (.int (0) 0), (.int (0) 0), (.int (3) 0), (.ref 337), (.bool true), (.int (181) 0), (.ref 338), .none, .none, .none, (.ref 339), (.int (716) 0), (.int (249) 0), (.str (Str.ofString "/claim/cut.py") 717)]), #[]⟩) ::
  (nat_lit 341, ⟨(.type "function"), none, (.func ⟨(Str.ofString "_law_long"), (Str.ofString "_law_long"), s35p, .stmts s35b, s35s, 3, [], .none, .none, .none, (.str (Str.ofString "law_ja0002_01") 665), none, (.ref 340), .none, 0⟩), #[]⟩) ::
  (nat_lit 342, ⟨(.type "tuple"), none, (.seq #[] 0), #[]⟩) ::
  (nat_lit 344, ⟨(.type "tuple"), none, (.seq #[(.str (Str.ofString "octets") 722), (.str (Str.ofString "at") 723), (.str (Str.ofString "size") 724), (.str (Str.ofString "first") 725), (.str (Str.ofString "told") 726), (.str (Str.ofString "fields") 727), (.str (Str.ofString "end") 728)] 0), #[]⟩) ::
  (nat_lit 345, ⟨(.type "tuple"), none, (.seq #[] 0), #[]⟩) ::
  (nat_lit 347, ⟨(.type "code"), none, (.fields #[(.str (Str.ofString "_law_due") 719), (.str (Str.ofString "_law_due") 720), (.str (Str.ofString "/claim/cut.py") 721), (.int (288) 0), (.int (3) 0), (.int (0) 0), (.int (0) 0), (.int (3) 0), (.ref 342), (.bool true), (.int (181) 0), (.ref 343), .none, (.ref 344), (.ref 345), (.ref 346), (.int (729) 0), (.int (288) 0), (.str (Str.ofString "/claim/cut.py") 730)]), #[]⟩) ::
  (nat_lit 348, ⟨(.type "function"), none, (.func ⟨(Str.ofString "_law_due"), (Str.ofString "_law_due"), s36p, .stmts s36b, s36s, 3, [], .none, .none, .none, (.str (Str.ofString "law_ja0002_01") 665), none, (.ref 347), .none, 0⟩), #[]⟩) ::
  (nat_lit 349, ⟨(.type "tuple"), none, (.seq #[] 0), #[]⟩) ::
  (nat_lit 351, ⟨(.type "tuple"), none, (.seq #[(.str (Str.ofString "octets") 735), (.str (Str.ofString "at") 736), (.str (Str.ofString "size") 737), (.str (Str.ofString "buf") 738), (.str (Str.ofString "head") 739), (.str (Str.ofString "fields") 740)] 0), #[]⟩) ::
  (nat_lit 352, ⟨(.type "tuple"), none, (.seq #[] 0), #[]⟩) ::
  (nat_lit 354, ⟨(.type "code"), none, (.fields #[(.str (Str.ofString "_law_told") 732), (.str (Str.ofString "_law_told") 733), (.str (Str.ofString "/claim/cut.py") 734), (.int (301) 0), (.int (3) 0), (.int (0) 0), (.int (0) 0), (.int (3) 0), (.ref 349), (.bool true), (.int (181) 0), (.ref 350), .none, (.ref 351), (.ref 352), (.ref 353), (.int (741) 0), (.int (301) 0), (.str (Str.ofString "/claim/cut.py") 742)]), #[]⟩) ::
  (nat_lit 355, ⟨(.type "function"), none, (.func ⟨(Str.ofString "_law_told"), (Str.ofString "_law_told"), s37p, .stmts s37b, s37s, 3, [], .none, .none, .none, (.str (Str.ofString "law_ja0002_01") 665), none, (.ref 354), .none, 0⟩), #[]⟩) ::
  (nat_lit 356, ⟨(.type "tuple"), none, (.seq #[] 0), #[]⟩) ::
  (nat_lit 359, ⟨(.type "code"), none, (.fields #[(.str (Str.ofString "_law_written") 744), (.str (Str.ofString "_law_written") 745), (.str (Str.ofString "/claim/cut.py") 746), (.int (312) 0), (.int (1) 0), (.int (0) 0), (.int (0) 0), (.int (3) 0), (.ref 356), (.bool true), (.int (181) 0), (.ref 357), .none, .none, .none, (.ref 358), (.int (747) 0), (.int (312) 0), (.str (Str.ofString "/claim/cut.py") 748)]), #[]⟩) ::
  (nat_lit 360, ⟨(.type "function"), none, (.func ⟨(Str.ofString "_law_written"), (Str.ofString "_law_written"), s38p, .stmts s38b, s38s, 3, [], .none, .none, .none, (.str (Str.ofString "law_ja0002_01") 665), none, (.ref 359), .none, 0⟩), #[]⟩) ::
  (nat_lit 361, ⟨(.type "tuple"), none, (.seq #[] 0), #[]⟩) ::
  (nat_lit 363, ⟨(.type "tuple"), none, (.seq #[(.str (Str.ofString "key") 753), (.str (Str.ofString "nonce") 754), (.str (Str.ofString "data") 755), (.str (Str.ofString "associated") 756)] 0), #[]⟩) ::
  (nat_lit 364, ⟨(.type "tuple"), none, (.seq #[] 0), #[]⟩) ::
  (nat_lit 366, ⟨(.type "code"), none, (.fields #[(.str (Str.ofString "_law_seal") 750), (.str (Str.ofString "_law_seal") 751), (.str (Str.ofString "/claim/cut.py") 752), (.int (326) 0), (.int (4) 0), (.int (0) 0), (.int (0) 0), (.int (3) 0), (.ref 361), (.bool true), (.int (181) 0), (.ref 362), .none, (.ref 363), (.ref 364), (.ref 365), (.int (757) 0), (.int (326) 0), (.str (Str.ofString "/claim/cut.py") 758)]), #[]⟩) ::
  (nat_lit 367, ⟨(.type "function"), none, (.func ⟨(Str.ofString "_law_seal"), (Str.ofString "_law_seal"), s39p, .stmts s39b, s39s, 3, [], .none, .none, .none, (.str (Str.ofString "law_ja0002_01") 665), none, (.ref 366), .none, 0⟩), #[]⟩) ::
  (nat_lit 368, ⟨(.type "tuple"), none, (.seq #[] 0), #[]⟩) ::
  (nat_lit 371, ⟨(.type "code"), none, (.fields #[(.str (Str.ofString "_law_retry") 760), (.str (Str.ofString "_law_retry") 761), (.str (Str.ofString "/claim/cut.py") 762), (.int (328) 0), (.int (1) 0), (.int (0) 0), (.int (0) 0), (.int (3) 0), (.ref 368), (.bool true), (.int (181) 0), (.ref 369), .none, .none, .none, (.ref 370), (.int (763) 0), (.int (328) 0), (.str (Str.ofString "/claim/cut.py") 764)]), #[]⟩) ::
  (nat_lit 372, ⟨(.type "function"), none, (.func ⟨(Str.ofString "_law_retry"), (Str.ofString "_law_retry"), s40p, .stmts s40b, s40s, 3, [], .none, .none, .none, (.str (Str.ofString "law_ja0002_01") 665), none, (.ref 371), .none, 0⟩), #[]⟩) ::
  (nat_lit 373, ⟨(.type "tuple"), none, (.seq #[] 0), #[]⟩) ::
  (nat_lit 376, ⟨(.type "code"), none, (.fields #[(.str (Str.ofString "law") 766), (.str (Str.ofString "law") 767), (.str (Str.ofString "/claim/cut.py") 768), (.int (344) 0), (.int (1) 0), (.int (0) 0), (.int (0) 0), (.int (3) 0), (.ref 373), (.bool true), (.int (181) 0), (.ref 374), .none, .none, .none, (.ref 375), (.int (769) 0), (.int (344) 0), (.str (Str.ofString "/claim/cut.py") 770)]), #[]⟩) ::
  (nat_lit 377, ⟨(.type "function"), none, (.func ⟨(Str.ofString "law"), (Str.ofString "law"), s41p, .stmts s41b, s41s, 3, [], .none, .none, .none, (.str (Str.ofString "law_ja0002_01") 665), none, (.ref 376), .none, 0⟩), #[]⟩) :: []
noncomputable def as0 : List Addr := [nat_lit 2, nat_lit 3, nat_lit 15, nat_lit 17, nat_lit 18, nat_lit 20, nat_lit 21, nat_lit 22, nat_lit 29, nat_lit 30, nat_lit 31, nat_lit 32, nat_lit 35, nat_lit 42, nat_lit 43, nat_lit 44, nat_lit 45, nat_lit 55, nat_lit 56, nat_lit 58, nat_lit 59, nat_lit 61, nat_lit 62, nat_lit 63, nat_lit 65, nat_lit 66, nat_lit 68, nat_lit 69, nat_lit 70, nat_lit 71, nat_lit 73, nat_lit 74, nat_lit 76, nat_lit 77, nat_lit 78, nat_lit 79, nat_lit 81, nat_lit 82, nat_lit 84, nat_lit 85, nat_lit 86, nat_lit 88, nat_lit 89, nat_lit 91, nat_lit 92, nat_lit 93, nat_lit 95, nat_lit 96, nat_lit 98, nat_lit 99, nat_lit 100, nat_lit 102, nat_lit 103, nat_lit 105, nat_lit 106, nat_lit 107, nat_lit 109, nat_lit 110, nat_lit 112, nat_lit 113, nat_lit 114, nat_lit 116, nat_lit 117, nat_lit 119, nat_lit 120, nat_lit 121, nat_lit 123, nat_lit 124, nat_lit 126, nat_lit 127, nat_lit 128, nat_lit 130, nat_lit 131, nat_lit 133, nat_lit 134, nat_lit 135, nat_lit 137, nat_lit 138, nat_lit 140, nat_lit 141, nat_lit 142, nat_lit 144, nat_lit 145, nat_lit 147, nat_lit 148, nat_lit 149, nat_lit 151, nat_lit 152, nat_lit 154, nat_lit 155, nat_lit 156, nat_lit 158, nat_lit 159, nat_lit 161, nat_lit 162, nat_lit 163, nat_lit 165, nat_lit 166, nat_lit 168, nat_lit 169, nat_lit 170, nat_lit 172, nat_lit 173, nat_lit 175, nat_lit 176, nat_lit 177, nat_lit 179, nat_lit 180, nat_lit 182, nat_lit 183, nat_lit 184, nat_lit 186, nat_lit 187, nat_lit 189, nat_lit 190, nat_lit 191, nat_lit 192, nat_lit 193, nat_lit 194, nat_lit 195, nat_lit 205, nat_lit 206, nat_lit 207, nat_lit 208, nat_lit 209, nat_lit 212, nat_lit 213, nat_lit 214, nat_lit 215, nat_lit 223, nat_lit 224, nat_lit 225, nat_lit 226, nat_lit 227, nat_lit 237, nat_lit 239, nat_lit 240, nat_lit 242, nat_lit 243, nat_lit 244, nat_lit 245, nat_lit 246, nat_lit 247, nat_lit 248, nat_lit 251, nat_lit 253, nat_lit 254, nat_lit 256, nat_lit 257, nat_lit 258, nat_lit 260, nat_lit 261, nat_lit 263, nat_lit 264, nat_lit 265, nat_lit 267, nat_lit 268, nat_lit 270, nat_lit 271, nat_lit 272, nat_lit 273, nat_lit 275, nat_lit 276, nat_lit 278, nat_lit 279, nat_lit 280, nat_lit 282, nat_lit 283, nat_lit 285, nat_lit 286, nat_lit 287, nat_lit 288, nat_lit 290, nat_lit 291, nat_lit 293, nat_lit 294, nat_lit 295, nat_lit 297, nat_lit 298, nat_lit 300, nat_lit 301, nat_lit 302, nat_lit 304, nat_lit 305, nat_lit 307, nat_lit 308, nat_lit 309, nat_lit 311, nat_lit 312, nat_lit 314, nat_lit 315, nat_lit 316, nat_lit 318, nat_lit 319, nat_lit 321, nat_lit 322, nat_lit 323, nat_lit 325, nat_lit 326, nat_lit 328, nat_lit 329, nat_lit 330, nat_lit 332, nat_lit 333, nat_lit 335, nat_lit 336, nat_lit 337, nat_lit 340, nat_lit 341, nat_lit 342, nat_lit 344, nat_lit 345, nat_lit 347, nat_lit 348, nat_lit 349, nat_lit 351, nat_lit 352, nat_lit 354, nat_lit 355, nat_lit 356, nat_lit 359, nat_lit 360, nat_lit 361, nat_lit 363, nat_lit 364, nat_lit 366, nat_lit 367, nat_lit 368, nat_lit 371, nat_lit 372, nat_lit 373, nat_lit 376, nat_lit 377]
noncomputable abbrev jprog : Program := Challenge.rw_ja0002_01.row.prog
noncomputable def q0 : Program := PySem.W.view Challenge.pw_ja0002_01 [0, 2, 3, 4, 6, 7, 8, 9, 10, 11, 12, 13, 14, 15, 16, 17, 18, 19, 20, 21, 22, 23, 24, 26, 28, 30, 31, 32, 33, 34, 35, 36, 37, 38, 39, 40, 41]
noncomputable def loose0 : List PySem.Str := [Str.ofString "Buffer", Str.ofString "QuicPacketType", Str.ofString "PACKET_LONG_TYPE_ENCODE_VERSION_1", Str.ofString "PACKET_LONG_TYPE_DECODE_VERSION_1", Str.ofString "PACKET_LONG_TYPE_ENCODE_VERSION_2", Str.ofString "PACKET_LONG_TYPE_DECODE_VERSION_2", Str.ofString "QuicProtocolVersion", Str.ofString "pull_quic_header", Str.ofString "encode_quic_retry"]
noncomputable def Xt0 (s : Shared) : Bool := xlAt q0 [] s && recOk (RowW.records Challenge.rw_ja0002_01.row.toRowW) s

end JaLaw
end
section
set_option Elab.async false
set_option maxRecDepth 100000
namespace JaLaw
/-! the top's run over a tree of objects, by the library's quick twins -/
noncomputable def runG (n₀ : Nat) (ann : Option Value) (st : SharedT → Thread → Option (SharedT × Thread)) : Nat → SharedT → Thread → Option SharedT
  | 0, _, _ => none
  | n + 1, s, t => match through t with
    | true => some s
    | false => match Fast.tw6613529449190102663 n₀ ann t with
      | false => none
      | true => match st s t with
        | some (s', t') => runG n₀ ann st n s' t'
        | none => none
theorem runG_of {tb : String → Option Builtin} {p : Program} {w : World} {n₀ : Nat} {ann : Option Value} : ∀ {n : Nat} {s r : SharedT} {t : Thread}, runG n₀ ann (stepT (denote tb) p w) n s t = some r → topRun tb p w n₀ ann n s.abs t = some r.abs
  | 0, _, _, _, h => by cases h
  | n + 1, s, r, t, h => by
    unfold runG at h
    rw [← Fast.te6613529449190102663] at h
    unfold topRun
    cases ht : through t with
    | true => rw [ht] at h; cases h; rfl
    | false =>
      rw [ht] at h
      cases hk : stepOk n₀ ann t with
      | false => rw [hk] at h; cases h
      | true =>
        rw [hk] at h
        cases hs : stepT (denote tb) p w s t with
        | none => rw [hs] at h; cases h
        | some r2 => obtain ⟨s₂, t₂⟩ := r2; rw [hs] at h; rw [stepT_spec hs]; exact runG_of h
noncomputable def treeOf : List Obj → Nat → BT → BT
  | [], _, t => t
  | o :: l, n, t => treeOf l (n + 1) (t.ins n o)
noncomputable def bootT (w : World) (os : OsState) : SharedT := ⟨treeOf (boot_heap w.params).objs.toList 0 .nil, (boot_heap w.params).objs.size, (boot_heap w.params).life, #[], boot_drawn, boot_toks, os⟩
set_option maxHeartbeats 0 in
theorem bootT_abs : (fun w os => (bootT w os).abs) = fun w os => (⟨boot_heap w.params, #[], boot_drawn, boot_toks, os⟩ : Shared) := by kernel_rfl
noncomputable def looksT (w : World) (s : SharedT) := (staticsOk (importedModules Challenge.pw_ja0002_01.main.body) (boot_heap w.params) s.abs.heap && namesBound Challenge.pw_ja0002_01 s.abs.heap && gensDone s.abs && laidKept (boot_heap w.params) s.abs.heap,
  Fast.tw4187177175401517315 q0 loose0 (importedModules Challenge.pw_ja0002_01.main.body) Xt0 true s.abs, as0.map s.abs.heap.get?)
noncomputable def leftL (b : Bool) (w : World) (os : OsState) := (runG (boot_heap w.params).objs.size ((boot_heap w.params).nsMap mainGlobals "__annotations__") (Fast.tw10156331382660048174 (Fast.tw11892475500146522536 Fast.tw14364793385576792824) Challenge.pw_ja0002_01 (w.withFollow "special-get-raises" b)) 6082 (bootT w os) (topStub Challenge.pw_ja0002_01)).map (looksT w)
noncomputable def leftR (b : Bool) (w : World) (_ : OsState) := some (true, openGood q0 loose0, (K0 (w.withFollow "special-get-raises" b).params).map fun p => some p.2)
set_option maxHeartbeats 0 in
theorem left_false : leftL false = leftR false := by kernel_rfl
set_option maxHeartbeats 0 in
theorem left_true : leftL true = leftR true := by kernel_rfl
theorem left_both : ∀ b, leftL b = leftR b
  | false => left_false
  | true => left_true
theorem plain_p : opening Challenge.pw_ja0002_01 = plainProg Challenge.pw_ja0002_01.main.scope.names := by kernel_rfl
theorem fence_p : (fun s => fenceModules? Challenge.pw_ja0002_01 s) = fun s => some s := by kernel_rfl
theorem boot_is : (fun w : World => ((boot_heap w.params).isNs mainGlobals && (#[] : Array GenState).size == 0)) = fun _ => true := by kernel_rfl
theorem left0 : LeftO Challenge.pw_ja0002_01 q0 loose0 Xt0 (fun s => as0.map s.heap.get?) (fun w => (K0 w.params).map fun p => some p.2) 6082 := fun w => by
  obtain ⟨⟨h, gs, d, k, os⟩, e, e'⟩ := Option.map_eq_some_iff.mp (boot_open plain_p (N := 6082) rfl (fun s => congrFun fence_p s) w)
  obtain ⟨rfl, rfl, rfl, rfl⟩ : h = boot_heap w.params ∧ gs = #[] ∧ d = boot_drawn ∧ k = boot_toks := by simpa using e'
  have E := congrFun (congrFun (left_both (w.params.followText "special-get-raises")) w) os
  unfold leftL leftR at E
  rw [World.withFollow_self, ← Fast.te10156331382660048174, ← Fast.te11892475500146522536, ← Fast.te14364793385576792824] at E
  obtain ⟨r, hr, hl⟩ := Option.map_eq_some_iff.mp E
  have hr2 := runG_of hr
  rw [show (bootT w os).abs = (⟨boot_heap w.params, #[], boot_drawn, boot_toks, os⟩ : Shared) from congrFun (congrFun bootT_abs w) os] at hr2
  unfold looksT at hl
  rw [← Fast.te4187177175401517315] at hl
  obtain ⟨l1, l2, l3⟩ : _ ∧ _ ∧ _ := by simpa only [Prod.mk.injEq] using hl
  have t : topFrom treeTable Challenge.pw_ja0002_01 w 6082 ⟨boot_heap w.params, #[], boot_drawn, boot_toks, os⟩ = some r.abs := by
    unfold topFrom
    dsimp only
    rw [show ((boot_heap w.params).isNs mainGlobals && (#[] : Array GenState).size == 0) = true from congrFun boot_is w, hr2]
    show (match staticsOk (importedModules Challenge.pw_ja0002_01.main.body) (boot_heap w.params) r.abs.heap && namesBound Challenge.pw_ja0002_01 r.abs.heap && gensDone r.abs && laidKept (boot_heap w.params) r.abs.heap with | true => _ | false => _) = _
    rw [l1]
  unfold openEnds
  rw [e, Option.bind_some, t, Option.map_some]
  exact congrArg some (congr (congrArg Prod.mk l2) l3)
theorem as0_ok : (fun _ => as0) = fun P => (K0 P).map (·.1) := by kernel_rfl
noncomputable abbrev hook0 : Hook := kHook K0 as0 (fun P => congrFun as0_ok P)
end JaLaw
end
section
set_option Elab.async false
set_option maxRecDepth 100000
namespace JaLaw
theorem said0 : PySem.Challenge.rw_ja0002_01.wellSaid = true := by decide +kernel
end JaLaw
end
section
open Sem (wp)
set_option Elab.async false
set_option maxRecDepth 100000
namespace JaLaw
/-! the logic of trees run where no decoder stands on the stack -/
noncomputable def isDecId (id : String) : Bool := id == "bytearray.__contains__" || id == "bytearray.__mod__" || id == "bytearray.__rmod__" || id == "_struct.pack_into.held" || id == "bytearray.find.held" || Builtin.Bytes.decodersThatHold.contains id
noncomputable def isDec : Code → Bool
  | .builtin id _ => isDecId id
  | _ => false
noncomputable def noDec (l : List (Code × Pos)) : Prop := ∀ x ∈ l, isDec x.1 = false
noncomputable def wpN {α : Type} (M : Model) (A : Around) (t : Sem α) (Q : α → Shared → Prop) (E : Value → Shared → Prop) (s : Shared) : Prop :=
  ∀ Γ p, Γ.In A → isDec Γ.code = false → noDec Γ.below → wp M Γ t (fun a _ s' => Q a s') (fun e _ s' => E e s') p s
noncomputable def codeN (M : Model) (A : Around) (c : Code) (R : Result → Shared → Prop) (s : Shared) : Prop :=
  ∀ Γ p, Γ.code = c → Γ.Below A → noDec Γ.below → wpCode M Γ R p s
section
variable {α β : Type} {M : Model} {A : Around} {E : Value → Shared → Prop} {s : Shared} {c : Code} {R : Result → Shared → Prop}
theorem wpN_any {t : Sem α} {Q : α → Shared → Prop} (h : wpAny M A t Q E s) : wpN M A t Q E s := fun Γ p a _ _ => h Γ p a
theorem codeN_any (h : codeAny M A c R s) : codeN M A c R s := fun Γ p a b _ => h Γ p a b
theorem wpN_mono {t : Sem α} {Q Q' : α → Shared → Prop} {E' : Value → Shared → Prop} (h : wpN M A t Q E s) (hQ : ∀ a s, Q a s → Q' a s) (hE : ∀ e s, E e s → E' e s) : wpN M A t Q' E' s :=
  fun Γ p hΓ h1 h2 => Sem.wp_mono M Γ t (fun a _ s => hQ a s) (fun e _ s => hE e s) p s (h Γ p hΓ h1 h2)
theorem codeN_mono {R' : Result → Shared → Prop} (h : codeN M A c R s) (hR : ∀ r s, R r s → R' r s) : codeN M A c R' s :=
  fun Γ p hc hΓ hn => wpCode_mono hR (h Γ p hc hΓ hn)
theorem wpN_pure {a : α} {Q : α → Shared → Prop} (h : Q a s) : wpN M A (pure a) Q E s := wpN_any (wpAny_pure h)
theorem wpN_bind {m : Sem α} {f : α → Sem β} {Q : β → Shared → Prop} (h : wpN M A m (fun a s' => wpN M A (f a) Q E s') E s) : wpN M A (m >>= f) Q E s := fun Γ p hΓ h1 h2 => by
  rw [Sem.wp_bind']
  exact Sem.wp_mono M Γ m (fun a p' s' h' => h' Γ p' hΓ h1 h2) (fun _ _ _ h' => h') p s (h Γ p hΓ h1 h2)
theorem nb {m : Sem α} {f : α → Sem β} {Q : β → Shared → Prop} (h : wpAny M A m (fun a s' => wpN M A (f a) Q E s') E s) : wpN M A (m >>= f) Q E s := wpN_bind (wpN_any h)
theorem nba {m : Sem α} {f : α → Sem β} {Q : β → Shared → Prop} (h : wpN M A m (fun a s' => wpAny M A (f a) Q E s') E s) : wpN M A (m >>= f) Q E s := wpN_bind (wpN_mono h (fun _ _ x => wpN_any x) fun _ _ x => x)
theorem wpN_onRaise {m : Sem α} {k : Value → Sem Unit} {Q : α → Shared → Prop} (h : wpN M A m Q (fun e s' => wpN M A (k e) (fun _ s'' => E e s'') E s') s) : wpN M A (m.onRaise k) Q E s := fun Γ p hΓ h1 h2 => by
  rw [Sem.wp_onRaise]
  exact Sem.wp_mono M Γ m (fun _ _ _ h' => h') (fun e p' s' h' => h' Γ p' hΓ h1 h2) p s (h Γ p hΓ h1 h2)
theorem wpN_holding {vs : List Value} {m : Sem α} {Q : α → Shared → Prop} (h : wpN M A m Q E s) : wpN M A (holding vs m) Q E s :=
  fun Γ p hΓ h1 h2 => by rw [Sem.wp_holding]; exact h Γ p hΓ h1 h2
theorem wpN_keep {vs : List Value} {m : Sem α} {Q : α → Shared → Prop} (h : wpN M A m Q E s) : wpN M A (m.keep vs) Q E s :=
  fun Γ p hΓ h1 h2 => by rw [Sem.wp_keep]; exact h Γ p hΓ h1 h2
theorem noDec_cons {x : Code × Pos} {l : List (Code × Pos)} (h : isDec x.1 = false) (h' : noDec l) : noDec (x :: l) := fun y hy => by
  rcases List.mem_cons.mp hy with rfl | hy
  · exact h
  · exact h' y hy
theorem wpN_run {h : Option Value} {Q : Flow → Shared → Prop}
    (hc : codeN M (A.mark h) c (fun r s' => match r with | .ok f => Q f s' | .error e => E e s') s) (hnb : h ≠ some byPass := by intro x; cases x) :
    wpN M A (run c h) Q E s :=
  fun Γ p hΓ h1 h2 => by rw [Sem.wp_run]; exact hc _ p rfl (hΓ.enter c h p hnb) (noDec_cons h1 h2)
theorem wpN_runValue {Q : Value → Shared → Prop}
    (hc : codeN M A c (fun r s' => match r with | .ok (.ret v) => Q v s' | .ok _ => False | .error e => E e s') s) :
    wpN M A (runValue c) Q E s := fun Γ p hΓ h1 h2 => by rw [Sem.wp_runValue]; exact hc _ p rfl (hΓ.enter c none p (by intro x; cases x)) (noDec_cons h1 h2)
theorem wpN_call {f : Value} {pos : List Value} {kw : List (PySem.Str × Value)} {Q : Value → Shared → Prop}
    (hc : codeN M A (.call f ⟨pos, kw⟩) (fun r s' => match r with | .ok (.ret v) => Q v s' | .ok _ => False | .error e => E e s') s) :
    wpN M A (call f pos kw) Q E s := wpN_runValue hc
/-- a code whose tree itself runs no such call but goes over to one -/
theorem codeN_to (h : wpAny M (A.under c) (M.den c) (fun fin s' => match fin with | .done f => R (.ok f) s' | .again c' => c'.quiet = true ∧ codeN M A c' R s') (fun e s' => R (.error e) s') s) : codeN M A c R s := fun Γ p hc hΓ hn => by
  rw [wpCode_iff_wp, hc]
  refine Sem.wp_mono M Γ _ (fun fin p' s' h' => ?_) (fun _ _ _ h' => h') p s (h Γ p (hc ▸ hΓ.in))
  cases fin with
  | done f => exact h'
  | again c' => exact ⟨h'.1, h'.2 (Γ.goto c') p' rfl (hΓ.goto c') hn⟩
theorem codeN_tree (hd : isDec c = false) (h : wpN M (A.under c) (M.den c) (fun fin s' => match fin with | .done f => R (.ok f) s' | .again c' => c'.quiet = true ∧ codeN M A c' R s') (fun e s' => R (.error e) s') s) : codeN M A c R s := fun Γ p hc hΓ hn => by
  rw [wpCode_iff_wp, hc]
  refine Sem.wp_mono M Γ _ (fun fin p' s' h' => ?_) (fun _ _ _ h' => h') p s (h Γ p (hc ▸ hΓ.in) (by rw [hc]; exact hd) hn)
  cases fin with
  | done f => exact h'
  | again c' => exact ⟨h'.1, h'.2 (Γ.goto c') p' rfl (hΓ.goto c') hn⟩
theorem wpN_stackAny {f : Code × Pos → Bool} {Q : Bool → Shared → Prop} (hf : ∀ c p, isDec c = false → f (c, p) = false) (h : Q false s) : wpN M A (do return (← stack).any f) Q E s := fun Γ p hΓ h1 h2 => by
  have e : List.any ((Γ.code, p) :: Γ.below) f = false := by
    rw [List.any_eq_false]
    rintro ⟨c, q⟩ hx
    rw [hf c q (noDec_cons (x := (Γ.code, p)) h1 h2 _ hx)]
    exact Bool.false_ne_true
  show Q (List.any ((Γ.code, p) :: Γ.below) f) s
  rw [e]
  exact h
theorem wpN_exported {self : Value} {Q : Bool → Shared → Prop} (h : Q false s) : wpN M A (Builtin.Bytes.exported self) Q E s := by
  unfold Builtin.Bytes.exported
  refine wpN_stackAny (fun c p q => ?_) h
  cases c with
  | builtin id args =>
    simp only [isDec, isDecId, Bool.or_eq_false_iff, beq_eq_false_iff_ne, ne_eq] at q
    obtain ⟨⟨⟨⟨⟨q1, q2⟩, q3⟩, q4⟩, q5⟩, q6⟩ := q
    unfold Builtin.Bytes.exported.match_1
    obtain ⟨pos, kw⟩ := args
    refine (dif_neg q1).trans ((dif_neg q2).trans ((dif_neg q3).trans ((dif_neg q4).trans ((dif_neg q5).trans ?_))))
    cases pos with
    | nil => rfl
    | cons v vs =>
      show (Builtin.Bytes.sameRef v self && Builtin.Bytes.decodersThatHold.contains id) = false
      rw [q6, Bool.and_false]
  | _ => rfl
end
section
variable {prog : Program} {w : World} {A : Around} {E : Value → Shared → Prop} {s : Shared} {c : Code} {R : Result → Shared → Prop}
theorem codeN_func {body : List Stmt} {env : Env}
    (h : wpN (model prog w) (A.deeper env) (execs body env) (fun f s' => R (.ok (.ret (match f with | .ret v => v | _ => .none))) s')
      (fun e s' => wpAny (model prog w) (A.deeper env) (leaving env e) (fun _ s'' => R (.error e) s'') (fun e' s'' => R (.error e') s'') s') s) :
    codeN (model prog w) A (.func body env) R s := by
  refine codeN_tree rfl ?_
  show wpN _ (A.deeper env) (do point; match ← (execs body env).onRaise (leaving env) with | .ret v => ret v | _ => ret .none) _ _ s
  refine nb (wpAny_point (wpN_bind (wpN_onRaise (wpN_mono h (fun f s' h' => ?_) fun _ _ h' => wpN_any h'))))
  cases f <;> exact wpN_pure h'
theorem codeN_call_function {a : Addr} {args : Args} {o : Obj} {fd : FuncData} {body : List Stmt} (hroom : A.depth < recursionLimit)
    (ho : s.heap.get? a = some o)
    (hd' : o.data = .func fd) (hco : fd.scope.isCoroutine = false) (hgen : fd.scope.isGenerator = false) (hbody : fd.body = .stmts body) (hcd : s.heap.CodeRec fd.code fd.qualname)
    (h : wpAny (model prog w) A.in1 (bindArgs fd args) (fun binds s₁ =>
      wpAny (model prog w) A.in1 (newFunctionEnv fd.scope fd.globals fd.closure binds (fd.qualname ++ ".<locals>.") (some a) fd.code none fd.builtins)
        (fun env s₂ => s₂.heap.NoLimit ∧ codeN (model prog w) A (.func body env) R s₂) (fun e s' => R (.error e) s') s₁) (fun e s' => R (.error e) s') s) :
    codeN (model prog w) A (.call (.ref a) args) R s := by
  refine codeN_to ?_
  show wpAny _ A.in1 (callAny (.ref a) args) _ _ s
  simp only [callAny]
  refine wpAny_bind (wpAny_load ho ?_)
  obtain ⟨c, oc, vs, tq, hc, hoc, hdc, hq⟩ := hcd
  simp only [hd', callFunction, hco, hgen, hbody, hc]
  rw [hc] at h
  refine wpAny_bind (m := field (.ref c) 1) (wpAny_field hoc hdc hq (wpAny_bind (wpAny_pure ?_)))
  exact wpAny_bind (wpAny_mono h (fun binds s₁ h₁ => wpAny_bind (wpAny_mono h₁ (fun env s₂ h₂ => wpAny_bind (wpAny_enterFrame h₂.1 hroom
    (wpAny_pure (And.intro rfl h₂.2)))) fun _ _ h' => h')) fun _ _ h' => h')
theorem codeN_call_def {a : Addr} {o : Obj} {fd : FuncData} {body : List Stmt} {args : Args} {binds : List (PySem.Str × Value)}
    (hroom : A.depth < recursionLimit) (ho : s.heap.get? a = some o) (hdata : o.data = .func fd) (hlim : s.heap.NoLimit) (hcd : s.heap.CodeRec fd.code fd.qualname)
    (hbody : fd.body = .stmts body) (hbind : BindsTo s fd args binds)
    (hcell : ∀ x ∈ fd.scope.names, x.2 ≠ .cell) (hloc : ∀ x ∈ binds, fd.scope.names.lookup x.1 = some .local)
    (h : ∀ h₀, h₀.Ns s.heap.objs.size (fun x => binds.reverse.lookup x) → (∀ b o, s.heap.get? b = some o → h₀.get? b = some o) →
      wpN (model prog w) (A.deeper (callEnv fd s.heap.objs.size a)) (execs body (callEnv fd s.heap.objs.size a)) (fun f s' => R (.ok (.ret (match f with | .ret v => v | _ => .none))) s')
        (fun e s' => wpAny (model prog w) (A.deeper (callEnv fd s.heap.objs.size a)) (leaving (callEnv fd s.heap.objs.size a) e) (fun _ s'' => R (.error e) s'') (fun e' s'' => R (.error e') s'') s')
        { s with heap := h₀, toks := s.toks + binds.length })
    (hco : fd.scope.isCoroutine = false := by rfl) (hgen : fd.scope.isGenerator = false := by rfl) (hk : fd.scope.kind = .function := by rfl) :
    codeN (model prog w) A (.call (.ref a) args) R s := by
  refine codeN_call_function hroom ho hdata hco hgen hbody hcd (hbind _ _ _ _ ?_)
  refine wpAny_newFunctionEnv hcell hloc (fun h₀ hns₀ hsb₀ => ⟨hlim.fresh _ hsb₀, codeN_func (h h₀ hns₀ fun b o e => ?_)⟩) hk
  exact hsb₀.extBut b o (Nat.ne_of_lt (Heap.lt_size e)) (Heap.get?_push_of_some _ e)
theorem codeN_builtin {id : String} {args : Args} {b : Builtin} (hd : isDecId id = false) (hb : entryFor table id = some b)
    (h : wpN (model prog w) (A.under (.builtin id args)) (b args)
      (fun fin s' => match fin with | .done f => R (.ok f) s' | .again c' => c'.quiet = true ∧ codeN (model prog w) A c' R s') (fun e s' => R (.error e) s') s) :
    codeN (model prog w) A (.builtin id args) R s := by
  refine codeN_tree hd ?_
  show wpN _ _ (match entryFor table id with | some b => b args | none => unsupported ((withoutEnding? id "#data").getD id)) _ _ s
  rw [hb]; exact h
/-- the call of a built-in: what is checked ahead is plain, its tree is walked here -/
theorem codeN_call_builtin {id : String} {args : Args} {b : Builtin} (hq : (Code.builtin id args).quiet = true) (hd : isDecId id = false) (hb : entryFor table id = some b)
    (h : wpAny (model prog w) A.in1 (checkBuiltinCall id args) (fun _ s₁ => wpN (model prog w) (A.under (.builtin id args)) (b args)
      (fun fin s' => match fin with | .done f => R (.ok f) s' | .again c' => c'.quiet = true ∧ codeN (model prog w) A c' R s') (fun e s' => R (.error e) s') s₁)
      (fun e s' => R (.error e) s') s) : codeN (model prog w) A (.call (.builtin id) args) R s := by
  refine codeN_to ?_
  show wpAny _ A.in1 (do checkBuiltinCall id args; again (.builtin id args)) _ _ s
  exact wpAny_bind (wpAny_mono h (fun _ s₁ h₁ => wpAny_pure (And.intro hq (codeN_builtin hd hb h₁))) fun _ _ h' => h')
end
end JaLaw
end
section
set_option Elab.async false
set_option maxRecDepth 100000
namespace JaLaw
/-! the head, for a call that is walked where no decoder stands on the stack -/
noncomputable def decIn (st : List (Code × Pos)) : Bool := st.any fun x => isDec x.1
noncomputable def guardRun (t : Sem Value) : Sem Value := stack >>= fun st => if decIn st = true then pure (.bool true) else t
noncomputable def guardTree (t : Sem Fin) : Sem Fin := stack >>= fun st => if decIn st = true then pure (.done (.ret (.bool true))) else t
theorem decIn_false {st : List (Code × Pos)} (h : decIn st = false) : noDec st := fun x hx => by
  have := List.any_eq_false.mp h x hx
  simpa using this
theorem wpAny_guard {α : Type} {M : Model} {A : Around} {t : Sem α} {a : α} {Q : α → Shared → Prop} {E : Value → Shared → Prop} {s : Shared} (h0 : Q a s) (h : wpN M A t Q E s) :
    wpAny M A (stack >>= fun st => if decIn st = true then pure a else t) Q E s := fun Γ p hΓ => by
  rw [Sem.wp_bind']
  show Sem.wp M Γ (if decIn ((Γ.code, p) :: Γ.below) = true then pure a else t) _ _ p s
  cases hd : decIn ((Γ.code, p) :: Γ.below) with
  | true =>
    rw [if_pos rfl]
    exact h0
  | false =>
    rw [if_neg Bool.false_ne_true]
    have hn := decIn_false hd
    exact h Γ p hΓ (hn _ (.head _)) fun x hx => hn x (.tail _ hx)
theorem guard_to {w : World} {prog : Program} {A : Around} {t : Sem Value} {u : Sem Fin} {Q : Fin → Shared → Prop} {E : Value → Shared → Prop} {s : Shared}
    (h : wpAny (model prog w) A (guardRun t) (fun v s' => Q (.done (.ret v)) s') E s)
    (ht : ∀ Γ p, Γ.In A → Sem.wp (model prog w) Γ t (fun v _ s' => Q (.done (.ret v)) s') (fun e _ s' => E e s') p s → Sem.wp (model prog w) Γ u (fun v _ s' => Q v s') (fun e _ s' => E e s') p s) :
    wpAny (model prog w) A (guardTree u) Q E s := fun Γ p hΓ => by
  have h1 := h Γ p hΓ
  unfold guardRun at h1
  unfold guardTree
  rw [Sem.wp_bind'] at h1 ⊢
  change Sem.wp _ Γ (if decIn ((Γ.code, p) :: Γ.below) = true then pure (Value.bool true) else t) _ _ p s at h1
  show Sem.wp _ Γ (if decIn ((Γ.code, p) :: Γ.below) = true then pure (.done (.ret (.bool true))) else u) _ _ p s
  cases hd : decIn ((Γ.code, p) :: Γ.below) with
  | true =>
    rw [hd, if_pos rfl] at h1
    rw [if_pos rfl]
    exact h1
  | false =>
    rw [hd, if_neg Bool.false_ne_true] at h1
    rw [if_neg Bool.false_ne_true]
    exact ht Γ p hΓ h1
noncomputable abbrev callTree (name : PySem.Str) (vs : List Value) : Sem Fin := do match ← nsGet mainNs name with
      | some f => do ret (← PySem.call f vs)
      | none => unsupported "claim.caller:no-such-global"
theorem guard_step {p : Program} {w : World} {s s' : Shared} {t : Sem Fin} {n : Nat} {o : Outcome} (hz : s.asleep)
    (h : schedN (denote table) p w n (.single s ⟨guardTree t, .builtin "claim.caller" {}, default, []⟩) = .halted o s') :
    ∃ k, schedN (denote table) p w k (.single s ⟨t, .builtin "claim.caller" {}, default, []⟩) = .halted o s' := by
  cases n with
  | zero => cases h
  | succ n =>
    refine ⟨n, ?_⟩
    have e1 : step (denote table) p w s ⟨guardTree t, .builtin "claim.caller" {}, default, []⟩ = .go s ⟨if decIn [(.builtin "claim.caller" {}, default)] = true then pure (.done (.ret (.bool true))) else t, .builtin "claim.caller" {}, default, []⟩ := by
      obtain ⟨hp, g, d, tk, os⟩ := s
      rfl
    rw [if_neg (by decide +kernel)] at e1
    have hc : (⟨guardTree t, .builtin "claim.caller" {}, default, []⟩ : Thread).calm = true := by kernel_rfl
    rcases sstep_single (denote table) p w s ⟨guardTree t, .builtin "claim.caller" {}, default, []⟩ hc hz with q | q
    · rw [schedN, q, e1] at h
      exact h
    · rw [e1] at q
      cases q
theorem holds_guarded {r : OpenRow} {q : Program} {loose : List PySem.Str} {Xt : Shared → Bool} {XP : (PySem.Str → Option Value) → Heap → Prop} {α : Type} {Yf : Shared → α} {Ya : World → α} {YP : World → Heap → Prop} {d : DefRec} {kwd : List (PySem.Str × Expr)} {N : Nat}
    (left : LeftO r.prog q loose Xt Yf Ya N) (hY : ∀ w s, Yf s = Ya w → YP w s.heap) (hYk : ∀ w h h', YP w h → (∀ b o, h.get? b = some o → h'.get? b = some o) → YP w h')
    (hX : ∀ s, Xt s = true → XP (s.heap.nsMap mainGlobals) s.heap) (hXk : ∀ mg h h', XP mg h → (∀ b o, h.get? b = some o → h'.get? b = some o) → XP mg h')
    (hdef : defOf q r.name = some (d, kwd)) (hp : r.prog.theDef r.name = some (d.params, d.body, d.scope)) (hk : kwWritten? d.params.kwonlyargs d.params.kw_defaults = some kwd) (hRf : ∀ s, Xt s = true → RecFacts r.records s.heap) (hwr : (!r.writes || r.records.isEmpty) = true)
    (k1 : r.wellSaid = true) (ok : (chainsOk q && opensWell r.prog && (frees r.toRowW && r.within.isEmpty)) = true) (hb : r.prog.bare) (hw : r.toRowW.promised)
    (call : WalkO q loose XP YP r.toRowW d kwd fun f vs => guardRun (PySem.call f vs)) : r.Holds := by
  have G : r.toRowW.claim.HoldsOpenBy (fun vs => ⟨guardTree (callTree r.name vs), .builtin "claim.caller" {}, default, []⟩) (if r.pinned then [r.name] else []) r.keeps r.writes := by
    refine open_anyG (r := r.toRowW) (run := fun f vs => guardRun (PySem.call f vs)) (tree := fun vs => guardTree (callTree r.name vs)) left hY hYk hX hXk hRf hwr ok hb hw ?_ ?_ ?_
    · intro vs w s mg f Q E hg hf h
      refine guard_to h fun Γ p hΓ hc => ?_
      rw [Sem.wp_bind']
      refine (Sem.wp_nsGet _ _ _ _ _ hg _ _).mpr ?_
      rw [show mg r.name = some f from hf]
      show Sem.wp _ Γ (PySem.call f vs >>= fun v => ret v) _ _ p s
      rw [Sem.wp_bind']
      exact hc
    · intro w s hg G n hn
      have e : n = r.name := by
        cases hpn : r.pinned <;> simp_all
      subst e
      exact pinned_of_view hg G hdef hp hk
    · intro w s₀ s₁ mg mb G Y args vs as hpre hlay L low
      obtain ⟨a, o, pm, cd, doc, dV, kV, h1, h2, h3, h4, h5⟩ := G.fn hdef
      have hname := defOf_name hdef
      exact ⟨.ref a, h1, call w s₀ s₁ mg mb G Y a o pm cd doc dV kV h2 h3 h4 h5 (hname ▸ h1) L.gens args vs as hpre hlay L.reads L.well (L.low low)⟩
  refine ⟨k1, hw, G.1, G.2.1, fun w => ⟨(G.2.2 w).1, fun s' hs' => ?_⟩⟩
  obtain ⟨s₀, hf, hg0, s, hT, h1, h2, h3, CF⟩ := (G.2.2 w).2 s' hs'
  refine ⟨s₀, hf, hg0, s, hT, h1, h2, h3, fun args a b ord c => ?_⟩
  have hch : chainsOk q = true := by
    simp only [Bool.and_eq_true] at ok
    exact ok.1.1
  obtain ⟨s₂, hf2, -, s₃, hT2, hz, -⟩ := (left.behind hX hch w).2 s' hs'
  have e0 : s₂ = s₀ := Option.some.inj (hf2.symm.trans hf)
  subst e0
  obtain ⟨vs, s₁, hl, n, o, s4, hs, rest⟩ := CF args a b ord c
  have hz1 : s₁.asleep := Shared.asleep_of_life ((layAllW_rest _ _ _ hl).2.2.2.trans (hT.2.1.trans hT2.2.1.symm)) hz
  obtain ⟨k, hk2⟩ := guard_step hz1 hs
  exact ⟨vs, s₁, hl, k, o, s4, hk2, rest⟩
end JaLaw
end
section
set_option Elab.async false
set_option maxRecDepth 100000
namespace JaLaw
noncomputable abbrev jP : Program := q0
noncomputable abbrev jL : List PySem.Str := looseW q0 loose0

theorem room1 {a b c k n : Nat} (h : a + k < n) (e : Nat.ble (b + c) k = true) : a + b + c < n := by
  have := Nat.le_of_ble_eq_true e
  (first | lia | omega)
theorem room0 {a k n : Nat} (h : a + k < n) : a < n := Nat.lt_of_le_of_lt (Nat.le_add_right a k) h
theorem room2 {a b c d k n : Nat} (h : a + k < n) (e : Nat.ble (b + c + d) k = true) : a + b + c + d < n := by
  have := Nat.le_of_ble_eq_true e
  (first | lia | omega)
/-! a name of the frame -/
theorem lk_hit {x : PySem.Str} {v : Value} {l : List (PySem.Str × Value)} : List.lookup x ((x, v) :: l) = some v := by rw [List.lookup_cons]; simp
theorem lk_miss {x y : PySem.Str} {v : Value} {l : List (PySem.Str × Value)} {r : Option Value} (h : (x == y) = false) (k : List.lookup x l = r) : List.lookup x ((y, v) :: l) = r := by rw [List.lookup_cons, h]; exact k
theorem lk_rev {x : PySem.Str} {l : List (PySem.Str × Value)} {r : Option Value} (k : List.lookup x (List.reverseAux l []) = r) : List.lookup x l.reverse = r := k
theorem lk_ite_hit {x : PySem.Str} {a b : Option Value} [Decidable (x = x)] : (if x = x then a else b) = a := if_pos rfl
theorem lk_ite_miss {x y : PySem.Str} {a b r : Option Value} [Decidable (x = y)] (h : x ≠ y) (k : b = r) : (if x = y then a else b) = r := (if_neg h).trans k
/-- a map with one name bound anew -/
noncomputable def sto (m : PySem.Str → Option Value) (x : PySem.Str) (v : Value) : PySem.Str → Option Value := fun y => if y = x then some v else m y
theorem lk_sto_hit {m : PySem.Str → Option Value} {x : PySem.Str} {v : Value} : sto m x v x = some v := if_pos rfl
theorem lk_sto_miss {m : PySem.Str → Option Value} {x y : PySem.Str} {v : Value} {r : Option Value} (h : (y == x) = false) (k : m y = r) : sto m x v y = r :=
  (if_neg (by intro e; rw [e, beq_self_eq_true] at h; cases h)).trans k
theorem lk_ite_miss2 {x y : PySem.Str} {a b r : Option Value} [Decidable (x = y)] (h : (x == y) = false) (k : b = r) : (if x = y then a else b) = r :=
  (if_neg (by intro e; rw [e, beq_self_eq_true] at h; cases h)).trans k
theorem store_u {M : Model} {A : Around} {E : Value → Shared → Prop} {s : Shared} {h₀ : Heap} {L a : Addr} {m : PySem.Str → Option Value} {news : List (Addr × Obj)} {cn x : PySem.Str} {cs : Scope} {cd v : Value} {Q : Unit → Shared → Prop} (F : Fr h₀ L s.heap m) (N : News h₀ L s.heap news)
    (h : ∀ h', Fr h₀ L h' (sto m x v) → News h₀ L h' news → Q () { s with heap := h', toks := s.toks + 1 })
    (hk : cs.kind = .function) (hx : (envOf cn cs L a cd).kindOf x = some .local) : wpAny M A (storeName (envOf cn cs L a cd) x v) Q E s :=
  wpAny_storeName_local hx F.ns (fun h' hn hs => h h' (F.set hn hs) (N.set hs)) (by show (cs.kind == .class || (cs.kind == .module && L != mainGlobals)) = false; rw [hk]; rfl)
/-- all but ma stands -/
noncomputable def Keeps (ma : List Addr) (h h' : Heap) : Prop := ∀ b o, h.get? b = some o → b ∉ ma → h'.get? b = some o
theorem Keeps.refl {ma : List Addr} {h : Heap} : Keeps ma h h := fun _ _ e _ => e
theorem Keeps.trans {ma : List Addr} {h h' h'' : Heap} (x : Keeps ma h h') (y : Keeps ma h' h'') : Keeps ma h h'' := fun b o e n => y b o (x b o e n) n
theorem Keeps.mono {ma mb : List Addr} {h h' : Heap} (x : Keeps ma h h') (s : ∀ a ∈ ma, a ∈ mb) : Keeps mb h h' := fun b o e n => x b o e fun q => n (s b q)

theorem news_keep {h₀ h h' : Heap} {L : Addr} {news : List (Addr × Obj)} (N : News h₀ L h news) (k : Keeps [] h h') : News h₀ L h' news :=
  fun p hp => ⟨k _ _ (N p hp).1 (by simp), (N p hp).2⟩
theorem news_upd1 {h₀ h h' : Heap} {L d : Addr} {o o' : Obj} {news news' : List (Addr × Obj)} (N : News h₀ L h news) (U : Upd d o o' news news') (k : Keeps [d] h h') (hd : h'.get? d = some o') : News h₀ L h' news' := by
  obtain ⟨pre, post, rfl, rfl, a, b⟩ := U.split
  intro p hp
  rcases List.mem_append.mp hp with hp | hp
  · have z := N p (List.mem_append.mpr (.inl hp))
    exact ⟨k _ _ z.1 (by simpa using a p hp), z.2⟩
  · rcases List.mem_cons.mp hp with rfl | hp
    · exact ⟨hd, (N (d, o) (List.mem_append.mpr (.inr (.head _)))).2⟩
    · have z := N p (List.mem_append.mpr (.inr (.tail _ hp)))
      exact ⟨k _ _ z.1 (by simpa using b p hp), z.2⟩
theorem news_new {h₀ h h' : Heap} {L x : Addr} {o : Obj} {m : PySem.Str → Option Value} {news : List (Addr × Obj)} (F : Fr h₀ L h m) (N : News h₀ L h' news) (hx : h'.get? x = some o) (hlt : h.objs.size ≤ x) : News h₀ L h' ((x, o) :: news) := by
  intro p hp
  rcases List.mem_cons.mp hp with rfl | hp
  · have hL := F.ns.lt
    refine ⟨hx, Nat.ne_of_gt (Nat.lt_of_lt_of_le hL hlt), Heap.get?_none_of_le ?_⟩
    exact Nat.le_trans F.above (Nat.le_trans (Nat.le_of_lt hL) hlt)
  · exact N p hp
theorem news_lt {h₀ h : Heap} {L x : Addr} {news : List (Addr × Obj)} (N : News h₀ L h news) (hlt : h.objs.size ≤ x) : ∀ p ∈ news, p.1 < x :=
  fun p hp => Nat.lt_of_lt_of_le (Heap.lt_size (N p hp).1) hlt
theorem keeps_less {ma : List Addr} {h₀ h h' : Heap} {L : Addr} {news news' : List (Addr × Obj)} (k : Keeps (news.map (·.1)) h h') (N : News h₀ L h news) (N' : News h₀ L h' news') (hs : ∀ p ∈ news, p.1 ∈ ma ∨ p ∈ news') : Keeps ma h h' := by
  intro b o e n
  by_cases hb : b ∈ news.map (·.1)
  · obtain ⟨p, hp, rfl⟩ := List.mem_map.mp hb
    rcases hs p hp with q | q
    · exact absurd q n
    · have h1 := (N p hp).1
      rw [e] at h1
      cases h1
      exact (N' p q).1
  · exact k b o e hb
theorem kept_of {ma : List Addr} {h h' : Heap} {b : Addr} {o : Obj} (k : Keeps ma h h') (e : h.get? b = some o) (n : b ∉ ma) : h'.get? b = some o := k b o e n
theorem news_new' {h₀ h h' : Heap} {L x : Addr} {o : Obj} {m : PySem.Str → Option Value} {news : List (Addr × Obj)} (F : Fr h₀ L h m) (N : News h₀ L h' news) (hx : h'.get? x = some o) (hn : h.get? x = none) : News h₀ L h' ((x, o) :: news) := by
  intro p hp
  rcases List.mem_cons.mp hp with rfl | hp
  · obtain ⟨oL, _, _, hL, _⟩ := F.ns
    refine ⟨hx, fun e => ?_, ?_⟩
    · rw [show x = L from e, hL] at hn; cases hn
    · cases q : h₀.get? x with
      | none => rfl
      | some o' => have := F.keep _ _ q; rw [hn] at this; cases this
  · exact N p hp
theorem fresh_in {news : List (Addr × Obj)} {h g : Heap} {x : Addr} (k : Keeps (news.map (·.1)) h g) (hg : g.get? x = none) (hl : AllLt x news) : h.get? x = none := by
  cases q : h.get? x with
  | none => rfl
  | some o =>
    by_cases hm : x ∈ news.map (·.1)
    · obtain ⟨p, hp, e⟩ := List.mem_map.mp hm
      exact absurd (ktn_ltOf hl p hp) (by rw [e]; exact Nat.lt_irrefl _)
    · have := k _ _ q hm
      rw [hg] at this
      cases this
noncomputable def AllNe (d : Addr) : List (Addr × Obj) → Prop
  | [] => True
  | p :: r => @Ne Nat p.1 d ∧ AllNe d r
theorem allNe_of {d : Addr} : ∀ {l : List (Addr × Obj)}, (∀ p ∈ l, p.1 ≠ d) → AllNe d l
  | [], _ => trivial
  | p :: _, h => ⟨h p (.head _), allNe_of fun q hq => h q (.tail _ hq)⟩
theorem news_ne {h₀ h : Heap} {L x : Addr} {news : List (Addr × Obj)} (N : News h₀ L h news) (hn : h.get? x = none) : AllNe x news :=
  allNe_of fun p hp e => by have := (N p hp).1; rw [e, hn] at this; cases this
theorem news_sub {h₀ h : Heap} {L : Addr} {news news' : List (Addr × Obj)} (N : News h₀ L h news) (hs : ∀ p ∈ news', p ∈ news) : News h₀ L h news' := fun p hp => N p (hs p hp)
theorem isList_kept {ma : List Addr} {h g : Heap} {c : Addr} {its : Array Value} (k : Keeps ma h g) (hc : h.IsList c its) (n : c ∉ ma) : g.IsList c its := by
  obtain ⟨o, ho, r⟩ := hc
  exact ⟨o, k _ _ ho n, r⟩

section
variable {prog : Program} {w : World} {A₀ A : Around} {s : Shared} {base h₀ : Heap} {env : Env} {outer : List Env} {L : Addr} {m : PySem.Str → Option Value} {news : List (Addr × Obj)} {K : Frag}
  {R : Result → Shared → Prop} {name qual : PySem.Str} {params : Arguments} {body : List Stmt} {scope : Scope} {dV kV doc pm cdv ct oc : Value} {an od : Option Addr} {osl : Array (Option Value)} {f : Addr} {args : Args} {binds : List (PySem.Str × Value)}
  {p : Program} {loose : List PySem.Str} {mean : ExcName → Option Value} {mg mb : PySem.Str → Option Value}
/-- the ground of a called frame: all that stands, less the ledger handed in -/
theorem ground_of (B : Below A₀ base outer h₀) (F : Fr h₀ L s.heap m) (N : News h₀ L s.heap news) (hA : A.frames = some (env :: outer)) (hf : env.frame = some L) (hke : env.scope.kind = .function) :
    Fr h₀ L (hideAll s.heap (news.map (·.1))) m ∧ Below A base (env :: outer) (hideAll s.heap (news.map (·.1))) ∧ h₀.StaysIn (hideAll s.heap (news.map (·.1))) := by
  have nm : ∀ b o, h₀.get? b = some o → b ∉ news.map (·.1) := fun b o e q => by
    obtain ⟨x, hx, rfl⟩ := List.mem_map.mp q
    rw [(N x hx).2.2] at e; cases e
  have st : h₀.StaysIn (hideAll s.heap (news.map (·.1))) := fun b o e => hideAll_get _ (F.keep b o e) (nm b o e)
  obtain ⟨oL, es, ep, hL, hLd, hLk, hLf⟩ := F.ns
  have nL : L ∉ news.map (·.1) := fun q => by
    obtain ⟨x, hx, e⟩ := List.mem_map.mp q
    exact (N x hx).2.1 e
  have hLg := hideAll_get (news.map (·.1)) hL nL
  have hnew : base.get? L = none := by
    cases hq : base.get? L with
    | none => rfl
    | some o => exact absurd (Nat.lt_of_lt_of_le (Heap.lt_size (B.stays L o hq)) F.above) (Nat.lt_irrefl _)
  refine ⟨⟨⟨oL, es, ep, hLg, hLd, hLk, hLf⟩, st, F.above⟩, ⟨hA, fun b o e => st b o (B.stays b o e), ?_⟩, st⟩
  refine .cons (by rw [hke]; decide) hf ⟨oL, es, ep, hLg, hLd, hLk, hLf⟩ hnew ?_
  exact B.frames.of_keeps fun b o e _ => ⟨o, st b o e, rfl⟩

theorem enter_def (B : Below A₀ base outer h₀) (F : Fr h₀ L s.heap m) (X₀ : K.In h₀) (N : News h₀ L s.heap news) (T : Top p loose mean mg mb h₀) (hA : A.frames = some (env :: outer)) (hf : env.frame = some L) (hke : env.scope.kind = .function)
    (ho : K.lookup f = some ⟨oc, od, .func (fnOf name qual params body scope dV kV doc pm an cdv ct), osl⟩) (hcd : codeIn K cdv qual = true) (hroom : A.depth < recursionLimit)
    (hbind : BindsTo s (fnOf name qual params body scope dV kV doc pm an cdv ct) args binds) (hloc : ∀ y ∈ binds, scope.names.lookup y.1 = some .local)
    (h : ∀ g L' h₁, Fr h₀ L g m → Fr g L' h₁ (fun y => binds.reverse.lookup y) → News g L' h₁ news → Below A base (env :: outer) g → K.In g → Top p loose mean mg mb g → Keeps (news.map (·.1)) s.heap g → s.heap.objs.size ≤ L' →
      wpAny (model prog w) (A.deeper (envOf qual scope L' f cdv)) (execs body (envOf qual scope L' f cdv))
        (fun fl s' => LeaveK h₀ L m g (fun r s'' => Keeps (news.map (·.1)) s.heap s''.heap → R r s'') (match fl with | .ret v => v | _ => .none) s')
        (fun e s' => wpAny (model prog w) (A.deeper (envOf qual scope L' f cdv)) (leaving (envOf qual scope L' f cdv) e) (fun _ s'' => R (.error e) s'') (fun e' s'' => R (.error e') s'') s')
        { s with heap := h₁, toks := s.toks + binds.length })
    (hco : scope.isCoroutine = false) (hgen : scope.isGenerator = false) (hk : scope.kind = .function)
    (hcell : ∀ x ∈ scope.names, x.2 ≠ .cell) : codeAny (model prog w) A (.call (.ref f) args) R s := by
  have X := X₀.keeps F.keep
  obtain ⟨Fg, Bg, st⟩ := ground_of B F N hA hf hke
  refine codeAny_call_def (fd := fnOf name qual params body scope dV kV doc pm an cdv ct) (body := body) (binds := binds) hroom (X _ _ ho) rfl (T.nolimit.keeps F.keep) (codeRec_of X hcd) rfl hbind hcell hloc (fun h₁ hns hk₁ => ?_) hco hgen hk
  have kg : Keeps (news.map (·.1)) s.heap (hideAll s.heap (news.map (·.1))) := fun b o e n => hideAll_get _ e n
  refine wpAny_mono (h (hideAll s.heap (news.map (·.1))) s.heap.objs.size h₁ Fg ⟨hns, fun b o e => hk₁ b o (of_hideAll _ e), Nat.le_of_eq (hideAll_size _ _)⟩
    (fun q hq => ⟨hk₁ _ _ (N q hq).1, Nat.ne_of_lt (Heap.lt_size (N q hq).1), hideAll_none _ (List.mem_map_of_mem hq)⟩) Bg (X₀.keeps fun b o e => st b o e) (T.keeps fun b o e => st b o e) kg (Nat.le_refl _)) (fun fl s' hl => ?_) fun _ _ y => y
  obtain ⟨L', m', news', F', N', k⟩ := hl
  obtain ⟨oL, es, ep, hL, hLd, hLk, hLf⟩ := Fg.ns
  refine k ⟨⟨oL, es, ep, F'.keep L oL hL, hLd, hLk, hLf⟩, fun b o e => F'.keep b o (st b o e), F.above⟩ (fun q hq => ⟨(N' q hq).1, fun z => ?_, ?_⟩) fun b o e n => F'.keep b o (kg b o e n)
  · have := (N' q hq).2.2; rw [z, hL] at this; cases this
  · cases z : h₀.get? q.1 with
    | none => rfl
    | some o => have := (N' q hq).2.2; rw [st _ _ z] at this; cases this
end
end JaLaw
end
section
set_option Elab.async false
set_option maxRecDepth 100000
namespace JaLaw
/-! rules for byte arrays and bytes, over lists of octets -/
noncomputable abbrev baO (l : List UInt8) : Obj := { cls := .type "bytearray", data := .bytearray l.toArray }
namespace BA
open Builtin
theorem slot_len : Slot "bytearray" "__len__" "bytearray.__len__" :=
  .of (owner := "bytearray") (n := "__len__") (by rw [typeLookup_type, builtinLookup_eq_fast]; kernel_rfl) (by decide +kernel) (by decide +kernel) (by decide +kernel)
    (by first | exact .inl (by decide +kernel) | exact .inr (by decide +kernel)) (by rw [isSubtype_type]; kernel_rfl)
theorem slot_item : Slot "bytearray" "__getitem__" "bytearray.__getitem__" :=
  .of (owner := "bytearray") (n := "__getitem__") (by rw [typeLookup_type, builtinLookup_eq_fast]; kernel_rfl) (by decide +kernel) (by decide +kernel) (by decide +kernel)
    (by first | exact .inl (by decide +kernel) | exact .inr (by decide +kernel)) (by rw [isSubtype_type]; kernel_rfl)
theorem slot_add : Slot "bytearray" (dunder "add") "bytearray.__add__" :=
  .of (owner := "bytearray") (n := "__add__") (by rw [typeLookup_type, builtinLookup_eq_fast]; kernel_rfl) (by decide +kernel) (by decide +kernel) (by decide +kernel)
    (by first | exact .inl (by decide +kernel) | exact .inr (by decide +kernel)) (by rw [isSubtype_type]; kernel_rfl)
theorem entry_len : entryFor table "bytearray.__len__" = some Builtin.«bytearray.__len__» := entryFor_of_tree (by kernel_rfl)
theorem entry_item : entryFor table "bytearray.__getitem__" = some Builtin.«bytearray.__getitem__» := entryFor_of_tree (by kernel_rfl)
theorem entry_add : entryFor table "bytearray.__add__" = some Builtin.«bytearray.__add__» := entryFor_of_tree (by kernel_rfl)
theorem args_len (a : Value) : argsOk "bytearray.__len__" ⟨[a], []⟩ := by unfold argsOk; kernel_rfl
theorem args_item (a b : Value) : argsOk "bytearray.__getitem__" ⟨[a, b], []⟩ := by unfold argsOk; kernel_rfl
theorem args_add (a b : Value) : argsOk "bytearray.__add__" ⟨[a, b], []⟩ := by unfold argsOk; kernel_rfl
theorem look_buffer : typeLookup (.type "bytearray") "__buffer__" = pure (some (.builtin "bytearray.__buffer__")) := by rw [typeLookup_type, builtinLookup_eq_fast]; kernel_rfl
theorem look_release : typeLookup (.type "bytearray") "__release_buffer__" = pure (some (.builtin "bytearray.__release_buffer__")) := by rw [typeLookup_type, builtinLookup_eq_fast]; kernel_rfl
theorem look_bytes : typeLookup (.type "bytearray") "__bytes__" = pure none := by rw [typeLookup_type, builtinLookup_eq_fast]; kernel_rfl
theorem look_index : typeLookup (.type "bytearray") "__index__" = pure none := by rw [typeLookup_type, builtinLookup_eq_fast]; kernel_rfl
theorem look_radd : typeLookup (.type "bytearray") (dunderR "add") = pure none := by rw [typeLookup_type, builtinLookup_eq_fast]; kernel_rfl
theorem noFill_add : fillsNumberSlot (.type "bytearray") "add" = pure false := PySem.fillsNumberSlot_seq (id := "bytearray.__add__") (r := none) slot_add.lookup (by decide +kernel) look_radd rfl
theorem seq_add : seqSlot? (.type "bytearray") "__add__" = pure (some (.builtin "bytearray.__add__")) := PySem.seqSlot_of slot_add.lookup (by decide +kernel)
theorem sub_self : isSubtype (.type "bytearray") (.type "bytearray") = pure true := by rw [isSubtype_type]; kernel_rfl
section
variable {M : Model} {A : Around} {E : Value → Shared → Prop} {s : Shared} {a : Addr} {l : List UInt8}
theorem type {s : Shared} (h : s.heap.get? a = some (baO l)) : s.TypeIs (.ref a) "bytearray" := ⟨_, h, rfl⟩
theorem payload {Q : Array UInt8 → Shared → Prop} (h : s.heap.get? a = some (baO l)) (hQ : Q l.toArray s) : wpAny M A (Bytes.payload (.ref a)) Q E s := by
  unfold Bytes.payload Bytes.payload?
  refine wpAny_bind (wpAny_bind (wpAny_load h ?_))
  exact wpAny_pure (wpAny_pure hQ)
theorem own {name id : String} {Q : Bool → Shared → Prop} (h : s.heap.get? a = some (baO l)) (hl : typeLookup (.type "bytearray") (name : PySem.Str) = pure (some (.builtin id)))
    (e1 : id.endsWith ("." ++ name) = true) (e2 : id.dropRight (name.length + 1) = "bytearray") (hQ : Q true s) : wpAny M A (Bytes.slotIsOwn (.ref a) name) Q E s := by
  unfold Bytes.slotIsOwn
  refine wpAny_bind (wpAny_specialOf (type h) hl ?_)
  show wpAny M A (if (!id.endsWith ("." ++ name)) = true then pure false else isInstance (.ref a) (.type (id.dropRight (name.length + 1)))) Q E s
  rw [e1, e2]
  exact wpAny_isInstance (type h) sub_self hQ
theorem release {Q : Bool → Shared → Prop} (h : s.heap.get? a = some (baO l)) (hQ : Q false s) : wpAny M A (Bytes.ownRelease (.ref a)) Q E s := by
  unfold Bytes.ownRelease
  exact wpAny_bind (own h look_release (by decide +kernel) (by decide +kernel) (wpAny_pure hQ))
theorem buffer {id : String} {full : Bool} {Q : Option (Array UInt8) → Shared → Prop} (h : s.heap.get? a = some (baO l)) (hQ : Q (some l.toArray) s) : wpAny M A (Bytes.buffer? id (.ref a) full) Q E s := by
  unfold Bytes.buffer?
  refine wpAny_bind (wpAny_specialOf (type h) look_buffer ?_)
  refine wpAny_bind (own h look_buffer (by decide +kernel) (by decide +kernel) ?_)
  refine wpAny_bind (wpAny_specialOf (type h) look_buffer ?_)
  refine wpAny_bind (release h ?_)
  refine wpAny_bind (payload h ?_)
  exact wpAny_pure hQ
theorem quiet {id : String} {Q : Option (Array UInt8) → Shared → Prop} (h : s.heap.get? a = some (baO l)) (hQ : Q (some l.toArray) s) : wpAny M A (Bytes.bufferQuiet? id (.ref a)) Q E s := by
  unfold Bytes.bufferQuiet?
  exact wpAny_bind (wpAny_attempt (buffer h (wpAny_pure hQ)))
end

theorem cut_lo {n : Nat} {i : Int} (h : 0 ≤ i) : clipAt n i = min i.toNat n := by
  obtain ⟨k, rfl⟩ := Int.eq_ofNat_of_zero_le h
  rw [clipAt_nat, Int.toNat_natCast]
theorem picked_hi (l : List UInt8) {j : Int} (h : 0 ≤ j) : KBy.picked l.toArray none (some j) = (l.take j.toNat).toArray := by
  rw [KBc.picked_eq]
  simp only [Option.elim, List.drop_zero, Nat.sub_zero, cut_lo h, List.size_toArray]
  congr 1
  rcases Nat.le_total j.toNat l.length with q | q
  · rw [Nat.min_eq_left q]
  · rw [Nat.min_eq_right q, List.take_of_length_le (Nat.le_refl _), List.take_of_length_le q]
theorem picked_lo (l : List UInt8) {i : Int} (h : 0 ≤ i) : KBy.picked l.toArray (some i) none = (l.drop i.toNat).toArray := by
  rw [KBc.picked_eq]
  simp only [Option.elim, cut_lo h, List.size_toArray]
  congr 1
  rcases Nat.le_total i.toNat l.length with q | q
  · rw [Nat.min_eq_left q, List.take_of_length_le (by rw [List.length_drop]; exact Nat.le_refl _)]
  · rw [Nat.min_eq_right q, Nat.sub_self, List.drop_of_length_le q]; rfl
theorem picked_both (l : List UInt8) {i j : Int} (h : 0 ≤ i) (h' : 0 ≤ j) : KBy.picked l.toArray (some i) (some j) = ((l.drop i.toNat).take (j.toNat - i.toNat)).toArray := by
  rw [KBc.picked_eq]
  simp only [Option.elim, cut_lo h, cut_lo h', List.size_toArray]
  congr 1
  rcases Nat.le_total i.toNat l.length with q | q
  · rw [Nat.min_eq_left q]
    rcases Nat.le_total j.toNat l.length with q' | q'
    · rw [Nat.min_eq_left q']
    · rw [Nat.min_eq_right q', List.take_of_length_le (by rw [List.length_drop]; exact Nat.le_refl _), List.take_of_length_le (by rw [List.length_drop]; (first | lia | omega))]
  · rw [Nat.min_eq_right q, List.drop_of_length_le (Nat.le_refl _), List.drop_of_length_le q]
    simp

/-- a slice of a byte array: a new one -/
theorem meets_slice (l : List UInt8) (a b : Addr) {lv uv : Value} {lo hi : Option Int} (hl : IsPart lv lo) (hu : IsPart uv hi) :
    Meets («bytearray.__getitem__» ⟨[.ref a, .ref b], []⟩) (fun _ R s => s.heap.get? a = some (baO l) ∧ s.heap.IsSliceOf b lv uv .none ∧ l.length ≤ sizeLine ∧
      R (.ok (.ret (.ref s.heap.objs.size))) { s with heap := s.heap.push { cls := .type "bytearray", data := .bytearray (KBy.picked l.toArray lo hi) } }) := by
  refine .of_wp fun prog w A R s hS => ?_
  obtain ⟨ha, ⟨o, ho, hc, hd⟩, hsz, h⟩ := hS
  have hT : s.TypeIs (.ref b) "slice" := ⟨o, ho, hc⟩
  show wpAny _ _ (Bytes.subscript? (.ref b) >>= fun r => _) _ _ s
  refine wpAny_bind ?_
  unfold Bytes.subscript?
  refine wpAny_bind (wpAny_specialOf hT slice_no_index (wpAny_pure ?_))
  refine wpAny_bind (wpAny_typeOf hT ?_)
  show wpAny _ _ (Bytes.sliceParts (.ref b) >>= fun r => _) _ _ s
  refine wpAny_bind ?_
  unfold Bytes.sliceParts
  refine wpAny_bind (wpAny_field (x := .none) ho hd rfl ?_)
  kby_none
  refine wpAny_ite (KBy.ite_no (show ¬ ((Value.none == rawInt 0) = true) from Bool.false_ne_true) ?_)
  refine wpAny_bind (wpAny_field (x := lv) ho hd rfl ?_)
  have go : wpAny (model prog w) A.in1 (sliceIndices (rawPart lo) (rawPart hi) (rawPart none) l.toArray.size) (fun r s' => r = sliceBounds lo hi none l.toArray.size ∧ s' = s) (fun _ _ => False) s :=
    wpAny_of_eq (sliceIndices_raw lo hi none l.toArray.size (fun e => nomatch e)) ⟨rfl, rfl⟩
  have hz2 : sizeOk (.bytearray (KBy.picked l.toArray lo hi)) := by
    show (KBy.picked l.toArray lo hi).size ≤ sizeLine
    exact Nat.le_trans (KBc.size_picked_le _ _ _) (by rw [List.size_toArray]; exact hsz)
  cases hl <;> cases hu <;> (first
    | (kby_none; (refine wpAny_bind (wpAny_field (x := .none) ho hd rfl ?_)); kby_none)
    | (kby_none; (refine wpAny_bind (wpAny_field (x := .int _ _) ho hd rfl ?_)); kby_int)
    | (kby_int; (refine wpAny_bind (wpAny_field (x := .none) ho hd rfl ?_)); kby_none)
    | (kby_int; (refine wpAny_bind (wpAny_field (x := .int _ _) ho hd rfl ?_)); kby_int)) <;> refine wpAny_pure ?_
  all_goals
    refine wpAny_bind (payload ha ?_)
    refine wpAny_bind (wpAny_mono go (fun r s' hr => ?_) fun _ _ e => e.elim)
    obtain ⟨hr1, hr2⟩ := hr
    subst hr1 hr2
    refine wpAny_bind ?_
    unfold Bytes.newBytearray
    exact wpAny_newObj_type (wpAny_pure ⟨_, rfl, h⟩) hz2
end BA

section
variable {prog : Program} {w : World} {A : Around} {E : Value → Shared → Prop} {s : Shared} {h₀ : Heap} {L a x : Addr} {m : PySem.Str → Option Value} {news : List (Addr × Obj)} {l l' : List UInt8} {value slice : Expr} {Q : Value → Shared → Prop}
theorem ba_len (N : News h₀ L s.heap news) (hm : (a, baO l) ∈ news) (hfit : l.length ≤ 1099511627776) (h : ∀ t k, Q (.int (l.length : Nat) t) { s with toks := k }) : wpAny (model prog w) A (call (.builtin "len") [.ref a]) Q E s := by
  have ha : s.heap.get? a = some (baO l) := N.get hm
  refine call_len_slot (n := (l.length : Nat)) (BA.type ha) BA.slot_len (fun Q' q => ?_) (by (first | lia | omega)) (by (first | lia | omega)) (h _ _)
  refine wpAny_call (codeAny_call_builtin BA.slot_len.plain BA.entry_len (BA.slot_len.check _ _ _ _ _ _ _ _ (BA.type ha) (BA.args_len _) ?_))
  show wpAny _ _ (Builtin.Bytes.payload (.ref a) >>= fun (b : Array UInt8) => retInt b.size) _ _ _
  exact wpAny_bind (BA.payload ha (wpAny_bind (wpAny_mkInt (wpAny_pure q))))

theorem ba_slice {lv uv : Value} {lo hi : Option Int} {r : List UInt8} (F : Fr h₀ L s.heap m) (N : News h₀ L s.heap news) (hm : (a, baO l) ∈ news) (hl : IsPart lv lo) (hu : IsPart uv hi) (hz : l.length ≤ 16777216) (hr : KBy.picked l.toArray lo hi = r.toArray)
    (h : ∀ y h', Fr h₀ L h' m → News h₀ L h' ((y, baO r) :: news) → (∀ p ∈ news, p.1 < y) → Q (.ref y) { s with heap := h' })
    (hs : subscripted slice false (.ref a) (.ref s.heap.objs.size) = operate [.ref s.heap.objs.size, .ref a] (getItem (.ref a) (.ref s.heap.objs.size)) := by with_unfolding_all rfl) :
    wpAny (model prog w) A (subscriptTail value slice (.ref a) (.ref s.heap.objs.size)) Q E { s with heap := s.heap.push { cls := .type "slice", data := .fields #[lv, uv, .none] } } := by
  have N1 := N.pushKeep { cls := .type "slice", data := .fields #[lv, uv, .none] }
  have F1 := F.push { cls := .type "slice", data := .fields #[lv, uv, .none] }
  have ha : (s.heap.push { cls := .type "slice", data := .fields #[lv, uv, .none] }).get? a = some (baO l) := N1.get hm
  refine tail_any (s := { s with heap := s.heap.push { cls := .type "slice", data := .fields #[lv, uv, .none] } }) (BA.type ha) BA.slot_item.lookup ?_ hs
  refine getItem_meets (BA.type ha) (by decide) BA.slot_item BA.entry_item (BA.args_item _ _) (BA.meets_slice l a _ hl hu) ⟨ha, Heap.IsSliceOf.new _ _ _ _, by rw [sizeLine_eq]; exact hz, ?_⟩
  have e : ({ cls := .type "bytearray", data := .bytearray (KBy.picked l.toArray lo hi) } : Obj) = baO r := by rw [hr]
  show Q (.ref _) { s with heap := _ }
  rw [e]
  exact h _ _ (F1.push _) (News.push F1 N1 _) fun p hp => Heap.lt_size (N1 p hp).1

theorem ba_item {i : Int} {t : Tok} (N : News h₀ L s.heap news) (hm : (a, baO l) ∈ news) (h0 : 0 ≤ i) (h1 : i < (l.length : Int)) (hfit : l.length ≤ 1099511627776)
    (h : ∀ t' k, Q (.int ((l.getD i.toNat 0).toNat : Nat) t') { s with toks := k })
    (hs : subscripted slice false (.ref a) (.int i t) = operate [.ref a, .int i t] (getItem (.ref a) (.int i t)) := by with_unfolding_all rfl) :
    wpAny (model prog w) A (subscriptTail value slice (.ref a) (.int i t)) Q E s := by
  have ha : s.heap.get? a = some (baO l) := N.get hm
  refine tail_any (BA.type ha) BA.slot_item.lookup ?_ hs
  refine getItem_meets (BA.type ha) (by decide) BA.slot_item BA.entry_item (BA.args_item _ _) (S := fun _ R s => s.heap.get? a = some (baO l) ∧ R (.ok (.ret (.int ((l.getD i.toNat 0).toNat : Nat) s.toks))) { s with toks := s.toks + 1 }) (.of_wp fun prog w A R s hS => ?_) ⟨ha, h _ _⟩
  obtain ⟨ha, hR⟩ := hS
  show wpAny _ _ (Builtin.Bytes.subscript? (.int i t) >>= fun r => _) _ _ s
  refine wpAny_bind ?_
  unfold Builtin.Bytes.subscript?
  refine wpAny_bind (wpAny_specialOf (typeIs_int s i t) F.slot_int_index.lookup ?_)
  show wpAny _ _ (if (!Builtin.Bytes.fitsIndex i) = true then _ else pure (some i)) _ _ s
  have hf : Builtin.Bytes.fitsIndex i = true := by
    simp only [Builtin.Bytes.fitsIndex, Bool.and_eq_true, decide_eq_true_eq]; (first | lia | omega)
  rw [hf]
  refine wpAny_pure ?_
  refine wpAny_bind (BA.payload ha ?_)
  have hl : i.toNat < l.length := by (first | lia | omega)
  have e1 : seqIndex? i l.toArray.size = some i.toNat := by
    have hn : ¬ i < 0 := by (first | lia | omega)
    simp [seqIndex?, hn, h0, h1]
  show wpAny _ _ (match (seqIndex? i l.toArray.size).bind (l.toArray[·]?) with | some x => retInt x.toNat >>= fun r => _ | none => _) _ _ s
  rw [e1]
  have e2 : (some i.toNat).bind (l.toArray[·]?) = some (l.getD i.toNat 0) := by simp [hl]
  rw [e2]
  exact wpAny_bind (wpAny_bind (wpAny_mkInt (wpAny_pure (wpAny_pure ⟨_, rfl, hR⟩))))

/-- bytes of a byte array -/
theorem bytes_ba (N : News h₀ L s.heap news) (hm : (a, baO l) ∈ news) (hz : l.length ≤ 16777216) (h : ∀ t k, Q (.bytes l.toArray t) { s with toks := k }) : wpAny (model prog w) A (call (.type "bytes") [.ref a]) Q E s := by
  have ha : s.heap.get? a = some (baO l) := N.get hm
  refine callType_codes (Q₁ := fun obj s₁ => s₁.TypeIs obj "bytes" ∧ Q obj s₁) F.bm_called (F.bm_typeCall _) F.entry_object_init ?_ fun obj s₁ h₁ => ?_
  · refine codeAny_of_tree ?_
    show wpAny _ A.in1.in1 (do checkBuiltinCall "bytes.__new__" ⟨[.type "bytes", .ref a], []⟩; again (.builtin "bytes.__new__" ⟨[.type "bytes", .ref a], []⟩)) _ _ s
    refine wpAny_bind (wpAny_of_eq (F.bm_newCall _) (wpAny_pure ⟨plainId_quiet F.bm_plain _, codeAny_builtin F.bm_entry ?_⟩))
    rw [Around.under_plainId F.bm_plain _]
    unfold Builtin.«bytes.__new__»
    refine wpAny_bind (wpAny_of_eq (a := true) rfl ?_)
    refine bm_if_false rfl ?_
    refine wpAny_bind (wpAny_of_eq F.bm_sub ?_)
    refine bm_if_false rfl ?_
    refine wpAny_bind (wpAny_of_eq (F.bm_bind _) ?_)
    refine wpAny_bind (wpAny_of_eq (a := ()) rfl ?_)
    refine wpAny_bind (wpAny_of_eq (a := ()) rfl ?_)
    refine bm_if_false rfl ?_
    refine wpAny_bind (wpAny_specialOf (BA.type ha) BA.look_bytes ?_)
    refine wpAny_bind (wpAny_bind ?_)
    show wpAny _ _ (load a >>= _) _ _ _
    refine wpAny_bind (wpAny_load ha ?_)
    refine wpAny_pure (wpAny_pure ?_)
    refine bm_if_false rfl ?_
    refine wpAny_bind (wpAny_specialOf (BA.type ha) BA.look_index ?_)
    refine bm_if_true rfl ?_
    first
      | show wpAny _ _ (Builtin.Bytes.buffer? "bytes.__new__" (.ref a) true >>= _) _ _ _
      | (refine wpAny_bind ?_; show wpAny _ _ (Builtin.Bytes.buffer? "bytes.__new__" (.ref a) true >>= _) _ _ _)
    refine wpAny_bind (BA.buffer ha ?_)
    refine wpAny_bind (wpAny_rule ?_)
    refine wpAny_bind (wpAny_mkBytes ?_ (by rw [List.size_toArray, sizeLine_eq]; exact hz))
    show wpAny _ _ (if (Value.type "bytes" == Value.type "bytes") = true then _ else _) _ _ _
    refine bm_if_true (by decide) ?_
    first
      | exact wpAny_pure ⟨PySem.W.typeIs_bytes _ _ _, h _ _⟩
      | exact wpAny_bind (wpAny_pure (wpAny_pure ⟨PySem.W.typeIs_bytes _ _ _, h _ _⟩))
  · exact ⟨h₁.1, F.args_object_init_2 obj _, object_init_meets F.bm_called.init.lookup F.bm_called.made (by decide) prog w A.in1 _ s₁ ⟨h₁.1, rfl, h₁.2⟩⟩

theorem binaryOp1_none2 {M : Model} {x y : Value} {T U nm : String} {Q : Option Value → Shared → Prop} (hx : s.TypeIs x T) (hy : s.TypeIs y U)
    (hT : fillsNumberSlot (.type T) nm = pure false) (hU : fillsNumberSlot (.type U) nm = pure false) (h : Q none s) : wpAny M A (binaryOp1 nm x y) Q E s := by
  refine wpAny_bind (wpAny_typeOf hx (wpAny_bind (wpAny_typeOf hy (wpAny_bind (wpAny_of_eq hT ?_)))))
  cases c : (Value.type T == Value.type U) with
  | true =>
    refine KFB.if_so rfl ?_
    refine wpAny_bind (wpAny_pure ?_)
    exact wpAny_pure h
  | false =>
    refine KTBy.if_not rfl ?_
    refine wpAny_bind (wpAny_of_eq hU ?_)
    exact wpAny_pure h
theorem ba_concat {b : Value} {U : String} {r : List UInt8} (F : Fr h₀ L s.heap m) (N : News h₀ L s.heap news) (hm : (a, baO l) ∈ news) (hb : s.TypeIs b U) (hU : fillsNumberSlot (.type U) "add" = pure false)
    (hq : ∀ (M : Model) (A : Around) (E : Value → Shared → Prop) (Q : Option (Array UInt8) → Shared → Prop), Q (some r.toArray) s → wpAny M A (Builtin.Bytes.bufferQuiet? "bytearray.__add__" b) Q E s)
    (hz : l.length + r.length ≤ 16777216) (h : ∀ y h', Fr h₀ L h' m → News h₀ L h' ((y, baO (l ++ r)) :: news) → (∀ p ∈ news, p.1 < y) → Q (.ref y) { s with heap := h' }) :
    wpAny (model prog w) A (binaryOp .Add (.ref a) b) Q E s := by
  have ha : s.heap.get? a = some (baO l) := N.get hm
  unfold binaryOp
  refine wpAny_holding ?_
  refine wpAny_bind (binaryOp1_none2 (nm := "add") (BA.type ha) hb BA.noFill_add hU ?_)
  refine wpAny_bind (wpAny_typeOf (BA.type ha) ?_)
  refine wpAny_bind (wpAny_of_eq BA.seq_add ?_)
  refine wpAny_bind (wpAny_rule ?_)
  refine wpAny_call (codeAny_call_builtin BA.slot_add.plain BA.entry_add (BA.slot_add.check _ _ _ _ _ _ _ _ (BA.type ha) (BA.args_add _ _) ?_))
  show wpAny _ _ (Builtin.Bytes.buffer? "bytearray.__add__" (.ref a) >>= fun r => _) _ _ s
  refine wpAny_bind (BA.buffer ha ?_)
  refine wpAny_bind (hq _ _ _ _ ?_)
  have hl : Builtin.Bytes.tooLong (l.toArray.size + r.toArray.size) = false := KBy.tooLong_not (by simp only [List.size_toArray]; exact hz)
  show wpAny _ _ (if Builtin.Bytes.tooLong (l.toArray.size + r.toArray.size) = true then _ else _) _ _ s
  rw [if_neg (by rw [hl]; exact Bool.false_ne_true)]
  refine wpAny_bind ?_
  unfold Builtin.Bytes.newBytearray
  have e : l.toArray ++ r.toArray = (l ++ r).toArray := by simp
  rw [e]
  refine wpAny_newObj_type (wpAny_pure ?_) ?_
  · exact h _ _ (F.push _) (N.push F _) fun p hp => Heap.lt_size (N p hp).1
  · show (l ++ r).toArray.size ≤ sizeLine
    rw [List.size_toArray, List.length_append, sizeLine_eq]; exact hz
theorem ba_add_bytes {t : Tok} {r : List UInt8} (F : Fr h₀ L s.heap m) (N : News h₀ L s.heap news) (hm : (a, baO l) ∈ news) (hz : l.length + r.length ≤ 16777216)
    (h : ∀ y h', Fr h₀ L h' m → News h₀ L h' ((y, baO (l ++ r)) :: news) → (∀ p ∈ news, p.1 < y) → Q (.ref y) { s with heap := h' }) : wpAny (model prog w) A (binaryOp .Add (.ref a) (.bytes r.toArray t)) Q E s :=
  ba_concat F N hm (typeIs_bytes s _ t) KBy.noFill_bytes_add (fun _ _ _ _ q => wpAny_of_eq KBy.quiet_eq q) hz h
theorem ba_add_ba {b : Addr} {r : List UInt8} (F : Fr h₀ L s.heap m) (N : News h₀ L s.heap news) (hm : (a, baO l) ∈ news) (hm' : (b, baO r) ∈ news) (hz : l.length + r.length ≤ 16777216)
    (h : ∀ y h', Fr h₀ L h' m → News h₀ L h' ((y, baO (l ++ r)) :: news) → (∀ p ∈ news, p.1 < y) → Q (.ref y) { s with heap := h' }) : wpAny (model prog w) A (binaryOp .Add (.ref a) (.ref b)) Q E s :=
  ba_concat F N hm (BA.type (N.get hm')) BA.noFill_add (fun _ _ _ _ q => BA.quiet (N.get hm') q) hz h
end
end JaLaw
end
section
set_option Elab.async false
set_option maxRecDepth 100000
namespace JaLaw
/-! numbers and octets -/
noncomputable def beV (l : List UInt8) : Nat := l.foldl (fun a c => a * 256 + c.toNat) 0
noncomputable def toBE : Nat → Nat → List UInt8
  | _, 0 => []
  | n, k + 1 => toBE (n / 256) k ++ [UInt8.ofNat (n % 256)]
theorem toBE_length : ∀ (k n : Nat), (toBE n k).length = k
  | 0, _ => rfl
  | k + 1, n => by rw [toBE, List.length_append, toBE_length k]; rfl
theorem beV_lt (l : List UInt8) : beV l < 256 ^ l.length := by
  have h := KFB.fold_lt l 0
  rw [Nat.zero_add, Nat.one_mul] at h
  exact h
theorem beV_append (l : List UInt8) (c : UInt8) : beV (l ++ [c]) = beV l * 256 + c.toNat := by
  unfold beV
  rw [List.foldl_append]
  rfl
theorem beV_toBE : ∀ (k n : Nat), n < 256 ^ k → beV (toBE n k) = n
  | 0, n, h => by
    have : n = 0 := by simpa using h
    subst this
    rfl
  | k + 1, n, h => by
    rw [toBE, beV_append, beV_toBE k (n / 256) (by rw [Nat.pow_succ] at h; (first | lia | omega))]
    have e : (UInt8.ofNat (n % 256)).toNat = n % 256 := by rw [UInt8.toNat_ofNat']; (first | lia | omega)
    rw [e]
    (first | lia | omega)
theorem u8_map_inj : ∀ {l r : List UInt8}, l.map (fun c => ((c.toNat : Nat) : Int)) = r.map (fun c => ((c.toNat : Nat) : Int)) → l = r
  | [], [], _ => rfl
  | [], _ :: _, h => by cases h
  | _ :: _, [], h => by cases h
  | a :: l, b :: r, h => by
    rw [List.map_cons, List.map_cons, List.cons.injEq] at h
    have e : a = b := UInt8.toNat_inj.mp (Int.ofNat.inj h.1)
    rw [e, u8_map_inj h.2]
theorem toBE_rev_ints : ∀ (k n : Nat), ((toBE n k).reverse.map fun c => ((c.toNat : Nat) : Int)) = KTBy.little k n
  | 0, _ => rfl
  | k + 1, n => by
    rw [toBE, List.reverse_append, List.map_append, toBE_rev_ints k]
    have e : (UInt8.ofNat (n % 256)).toNat = n % 256 := by rw [UInt8.toNat_ofNat']; (first | lia | omega)
    show [(((UInt8.ofNat (n % 256)).toNat : Nat) : Int)] ++ KTBy.little k ((n / 256 : Nat) : Int) = (n : Int) % 256 :: KTBy.little k ((n : Int) / 256)
    rw [e]
    rfl
theorem low_toBE {k n : Nat} (h : n < 256 ^ k) : (KTBy.low (n : Int) k).reverse = toBE n k := by
  have h1 : (KTBy.low (n : Int) k).map (fun c => ((c.toNat : Nat) : Int)) = ((toBE n k).reverse).map (fun c => ((c.toNat : Nat) : Int)) := by
    rw [KTBy.low_ints (by (first | lia | omega)) (by rw [KTBy.p256]; exact_mod_cast h), ← KTBy.little_eq, toBE_rev_ints]
  have h2 := u8_map_inj h1
  rw [h2, List.reverse_reverse]
section
variable {prog : Program} {w : World} {M : Model} {A : Around} {E : Value → Shared → Prop} {s : Shared} {h₀ : Heap} {L a x : Addr} {m : PySem.Str → Option Value} {news : List (Addr × Obj)} {l r : List UInt8} {value slice : Expr} {Q : Value → Shared → Prop} {t u v : Tok}
/-- int.from_bytes(.., 'big'), of up to a thousand octets -/
theorem fb_tree {P : Fin → Shared → Prop} (hl : l.length ≤ 1000) (h : P (.done (.ret (.int (beV l : Nat) s.toks))) { s with toks := s.toks + 1 }) :
    wpAny M A (Builtin.«int.from_bytes» ⟨[.type "int", .bytes l.toArray t, .str (PySem.Str.ofString "big") u], []⟩) P E s := by
  unfold Builtin.«int.from_bytes»
  refine wpAny_bind (wpAny_of_eq (a := true) KFB.type_int ?_)
  refine KFB.if_not rfl ?_
  refine wpAny_bind (wpAny_of_eq (a := true) F.conv_sub_int ?_)
  refine KFB.if_not rfl ?_
  refine wpAny_bind (wpAny_of_eq (a := [some (.bytes l.toArray t), some (.str (PySem.Str.ofString "big") u), none]) (by kernel_rfl) ?_)
  refine wpAny_bind (wpAny_of_eq (a := PySem.Str.ofString "big") (by kernel_rfl) ?_)
  refine wpAny_bind (wpAny_of_eq (a := false) rfl ?_)
  refine wpAny_bind (wpAny_of_eq (a := false) (by kernel_rfl) ?_)
  refine wpAny_bind (wpAny_of_eq (a := l.toArray) rfl ?_)
  show wpAny _ _ (mkIntGrown (l.toArray.toList.foldl (fun (acc : Int) (b : UInt8) => acc * 256 + (b.toNat : Int)) ((0 : Nat) : Int)) >>= fun v => _) _ _ _
  rw [KFB.foldI_eq]
  have e : (l.toArray.toList.foldl (fun (acc : Nat) (b : UInt8) => acc * 256 + b.toNat) 0) = beV l := rfl
  rw [e]
  refine wpAny_bind ?_
  · unfold mkIntGrown
    have hlt : beV l < 2 ^ 8000 := by
      have h1 := beV_lt l
      have h2 : 256 ^ l.length ≤ 256 ^ 1000 := Nat.pow_le_pow_right (by decide) hl
      have h3 : (256 : Nat) ^ 1000 = 2 ^ 8000 := by
        have : (256 : Nat) = 2 ^ 8 := by decide
        rw [this, ← Nat.pow_mul]
      (first | lia | omega)
    have hb : bitsLine = 134217728 := by first | rfl | decide
    have hn : ¬ (((beV l : Nat) : Int).natAbs.log2 ≥ bitsLine) := by
      rw [Int.natAbs_natCast, hb]
      by_cases hz : beV l = 0
      · rw [hz]; decide
      · have := (Nat.log2_lt hz).mpr hlt
        (first | lia | omega)
    rw [if_neg hn]
    refine wpAny_mkInt ?_
    refine KFB.if_so (by decide +kernel) ?_
    exact wpAny_bind (wpAny_pure (wpAny_pure h))
theorem fb_call (N : News h₀ L s.heap news) (hm : (x, KFB.bound) ∈ news) (hl : l.length ≤ 1000) (h : ∀ t' k, Q (.int (beV l : Nat) t') { s with toks := k }) :
    wpAny (model prog w) A (call (.ref x) [.bytes l.toArray t, .str (PySem.Str.ofString "big") u]) Q E s :=
  KFB.call_of (KFB.at_of N hm) (fun z => fb_tree hl z) (h _ _)
/-- n.to_bytes(k, 'big') -/
theorem tb_call {n k : Nat} (hk : k ≤ 1000) (hn : n < 256 ^ k) (h : ∀ t' k', Q (.bytes (toBE n k).toArray t') { s with toks := k' }) :
    wpAny (model prog w) A (call (.builtin "int.to_bytes") [.int (n : Int) t, .int (k : Int) u, .str (PySem.Str.ofString "big") v]) Q E s := by
  refine wpAny_call_entry KTBy.slot (typeIs_int s (n : Int) t) KTBy.entry ?_ (KTBy.args _ _ _)
  have hb := KTBy.bits_le (B := (256 : Int) ^ k) (x := (n : Int)) (k := k) rfl (by (first | lia | omega)) (by rw [KTBy.p256]; exact_mod_cast hn)
  show wpAny _ _ (Builtin.Int.intOfSelf (.int (n : Int) t) >>= fun y => _) _ _ s
  refine wpAny_bind (wpAny_of_eq (a := (n : Int)) rfl ?_)
  show wpAny _ _ (Builtin.Int.intBindNamed "to_bytes" ["length", "byteorder", "signed"] 0 2 [.int (k : Int) u, .str (PySem.Str.ofString "big") v] [] >>= fun l => _) _ _ s
  refine wpAny_bind (wpAny_of_eq (a := [some (.int (k : Int) u), some (.str (PySem.Str.ofString "big") v), none]) (by kernel_rfl) ?_)
  show wpAny _ _ (Builtin.Int.intIndex "int.to_bytes" (.int (k : Int) u) >>= fun n => _) _ _ s
  refine wpAny_bind (wpAny_of_eq (a := (k : Int)) rfl ?_)
  refine KTBy.if_not (by show (decide ((k : Int) < -(2 ^ 63 : Int)) || decide ((k : Int) ≥ 2 ^ 63)) = false; rw [decide_eq_false (show ¬ ((k : Int) < -(2 ^ 63 : Int)) by (first | lia | omega)), decide_eq_false (show ¬ ((k : Int) ≥ 2 ^ 63) by (first | lia | omega))]; rfl) ?_
  refine wpAny_bind (wpAny_of_eq (a := PySem.Str.ofString "big") (by kernel_rfl) ?_)
  refine wpAny_bind (wpAny_of_eq (a := false) rfl ?_)
  refine wpAny_bind (wpAny_of_eq (a := false) (by kernel_rfl) ?_)
  refine wpAny_ite_false (decide_eq_false (show ¬ ((k : Int) < 0) by (first | lia | omega))) ?_
  refine wpAny_ite_false (decide_eq_false (show ¬ ((k : Int) > 2 ^ 63 - 1 - 33) by (first | lia | omega))) ?_
  refine wpAny_ite_false (decide_eq_false (show ¬ ((k : Int) > (sizeLine : Int)) by rw [sizeLine_eq]; (first | lia | omega))) ?_
  refine KTBy.if_not (by show (decide ((n : Int) < 0) && !false) = false; rw [decide_eq_false (show ¬ (n : Int) < 0 by (first | lia | omega))]; rfl) ?_
  refine KTBy.if_not (by show (_ && decide ((Builtin.Int.intBits (n : Int) : Int) > 8 * (k : Int))) = false; rw [decide_eq_false (show ¬ ((Builtin.Int.intBits (n : Int) : Int) > 8 * (k : Int)) by (first | lia | omega)), Bool.and_false]) ?_
  have hlow : (List.reverse (KTBy.low (n : Int) (Int.toNat (k : Int)))).toArray = (toBE n k).toArray := by rw [Int.toNat_natCast, low_toBE hn]
  refine wpAny_bind (wpAny_mkBytes (b := (List.reverse (KTBy.low (n : Int) (Int.toNat (k : Int)))).toArray) ?_ (by rw [hlow, List.size_toArray, toBE_length, sizeLine_eq]; (first | lia | omega)))
  rw [hlow]
  exact wpAny_pure ⟨_, rfl, h _ _⟩

theorem bs_len (hfit : l.length ≤ 1099511627776) (h : ∀ t' k, Q (.int (l.length : Nat) t') { s with toks := k }) : wpAny (model prog w) A (call (.builtin "len") [.bytes l.toArray t]) Q E s := by
  refine len_bytes (by rw [List.size_toArray]; exact hfit) ?_
  rw [List.size_toArray]
  exact h _ _
theorem bs_add (hz : l.length + r.length ≤ 16777216) (h : ∀ t' k, Q (.bytes (l ++ r).toArray t') { s with toks := k }) : wpAny (model prog w) A (binaryOp .Add (.bytes l.toArray t) (.bytes r.toArray u)) Q E s :=
  KBy.add_bytes (by simpa using hz) fun t' k => by rw [List.append_toArray]; exact h t' k
theorem bs_eq (h : Q (.bool (l == r)) s) : wpAny (model prog w) A (compareOp .Eq (.bytes l.toArray t) (.bytes r.toArray u)) Q E s := eq_bytes h
theorem bs_ne (h : Q (.bool (l != r)) s) : wpAny (model prog w) A (compareOp .NotEq (.bytes l.toArray t) (.bytes r.toArray u)) Q E s := ne_bytes h
theorem bs_item {i : Int} {ui : Tok} (hfit : l.length ≤ 1099511627776) (h0 : 0 ≤ i) (h1 : i < (l.length : Int)) (h : ∀ t' k, Q (.int ((l.getD i.toNat 0).toNat : Nat) t') { s with toks := k })
    (hs : subscripted slice false (.bytes l.toArray t) (.int i ui) = operate [.bytes l.toArray t, .int i ui] (getItem (.bytes l.toArray t) (.int i ui)) := by with_unfolding_all rfl)
    (ht : ∀ r, letTemporaryGo value (.bytes l.toArray t) r = pure () := by intro _; with_unfolding_all rfl) :
    wpAny (model prog w) A (subscriptTail value slice (.bytes l.toArray t) (.int i ui)) Q E s := KBy.item_N hfit h0 h1 (h _ _) hs ht
theorem bs_slice {lv uv : Value} {lo hi : Option Int} (hF : Fr h₀ L s.heap m) (hN : News h₀ L s.heap news) (hl : IsPart lv lo) (hu : IsPart uv hi) (hz : l.length ≤ 16777216) (hr : KBy.picked l.toArray lo hi = r.toArray)
    (h : ∀ h' t' k, Fr h₀ L h' m → News h₀ L h' news → Q (.bytes r.toArray t') { s with heap := h', toks := k })
    (hs : subscripted slice false (.bytes l.toArray t) (.ref s.heap.objs.size) = operate [.ref s.heap.objs.size, .bytes l.toArray t] (getItem (.bytes l.toArray t) (.ref s.heap.objs.size)) := by with_unfolding_all rfl)
    (ht : ∀ r, letTemporaryGo value (.bytes l.toArray t) r = pure () := by intro _; with_unfolding_all rfl) :
    wpAny (model prog w) A (subscriptTail value slice (.bytes l.toArray t) (.ref s.heap.objs.size)) Q E { s with heap := s.heap.push { cls := .type "slice", data := .fields #[lv, uv, .none] } } :=
  tail_of_ItemOn ⟨"bytes", _, FB.slot_bytes_getitem.lookup, typeIs_bytes _ _ _, getItem_meets (typeIs_bytes _ _ _) (by decide) FB.slot_bytes_getitem FB.entry_bytes_getitem (FB.args_bytes_getitem_2 _ _) (KBc.meets_slice2 l.toArray t _ hl hu)
    ⟨Heap.IsSliceOf.new _ _ _ _, Nat.le_trans (KBc.size_picked_le _ _ _) (by rw [List.size_toArray, sizeLine_eq]; exact hz), fun t' k => by rw [hr]; exact h _ _ _ (hF.push _) (News.pushKeep hN _)⟩⟩ hs ht
theorem bs_one {D : Addr} {n : Int} {tn : Tok} {c : Nat} (F : Fr h₀ L s.heap m) (N : News h₀ L s.heap news) (hh : A.handled = none) (hm : (D, listOf #[.int n tn] c) ∈ news) (h0 : 0 ≤ n) (h1 : n < 256)
    (h : ∀ h' t' k, Fr h₀ L h' m → News h₀ L h' news → Q (.bytes [UInt8.ofNat n.toNat].toArray t') { s with heap := h', toks := k }) : wpAny (model prog w) A (call (.type "bytes") [.ref D]) Q E s :=
  KBa.make_K (vs := [.int n tn]) (ns := [n]) F N hh ⟨_, N.get hm, rfl, _, rfl⟩ (.cons _ _ .nil) (fun k hk => by rw [List.mem_singleton] at hk; subst hk; exact ⟨h0, h1⟩) (by simp) fun h' t' k F' N' _ => h h' t' k F' N'
theorem int_no_bytes : typeLookup (.type "int") "__bytes__" = pure none := by rw [typeLookup_type, builtinLookup_eq_fast]; kernel_rfl
theorem isType_bytes : isType (.type "bytes") = pure true := by first | rfl | kernel_rfl | (unfold isType; rw [isSubtype_type]; kernel_rfl)
theorem bytes_count {n : Nat} {i : Int} (hi : i = (n : Int)) (hn : n ≤ 1000) (h : ∀ t' k, Q (.bytes (List.replicate n (0 : UInt8)).toArray t') { s with toks := k }) : wpAny (model prog w) A (call (.type "bytes") [.int i t]) Q E s := by
  refine callType_codes (Q₁ := fun obj s₁ => s₁.TypeIs obj "bytes" ∧ Q obj s₁) F.bm_called (F.bm_typeCall _) F.entry_object_init ?_ fun obj s₁ h₁ => ?_
  · refine codeAny_of_tree ?_
    show wpAny _ A.in1.in1 (do checkBuiltinCall "bytes.__new__" ⟨[.type "bytes", .int i t], []⟩; again (.builtin "bytes.__new__" ⟨[.type "bytes", .int i t], []⟩)) _ _ s
    refine wpAny_bind (wpAny_of_eq (F.bm_newCall _) (wpAny_pure ⟨plainId_quiet F.bm_plain _, codeAny_builtin F.bm_entry ?_⟩))
    rw [Around.under_plainId F.bm_plain _]
    unfold Builtin.«bytes.__new__»
    refine wpAny_bind (wpAny_of_eq isType_bytes ?_)
    refine bm_if_false rfl ?_
    refine wpAny_bind (wpAny_of_eq F.bm_sub ?_)
    refine bm_if_false rfl ?_
    refine wpAny_bind (wpAny_of_eq (F.bm_bind _) ?_)
    refine wpAny_bind (wpAny_of_eq (a := ()) rfl ?_)
    refine wpAny_bind (wpAny_of_eq (a := ()) rfl ?_)
    refine bm_if_false rfl ?_
    refine wpAny_bind (wpAny_specialOf (typeIs_int s i t) int_no_bytes ?_)
    refine wpAny_bind (wpAny_of_eq (a := false) rfl ?_)
    refine bm_if_false rfl ?_
    refine wpAny_bind (wpAny_specialOf (typeIs_int s i t) F.slot_int_index.lookup ?_)
    refine bm_if_false rfl ?_
    refine wpAny_bind (wpAny_attempt (wpAny_of_eq (rfl : asIndex (.int i t) = pure i) ?_))
    have hf : Builtin.Bytes.fitsIndex i = true := by
      simp only [Builtin.Bytes.fitsIndex, Bool.and_eq_true, decide_eq_true_eq]; (first | lia | omega)
    refine bm_if_false (by rw [hf]; rfl) ?_
    refine wpAny_ite_false (decide_eq_false (show ¬ (i < 0) by (first | lia | omega))) ?_
    refine wpAny_ite_false (decide_eq_false (show ¬ (i > 2 ^ 63 - 34) by (first | lia | omega))) ?_
    have ht : Builtin.Bytes.tooLong i.toNat = false := KBy.tooLong_not (by (first | lia | omega))
    refine bm_if_false ht ?_
    refine wpAny_bind (wpAny_rule ?_)
    have er : (Array.replicate i.toNat (0 : UInt8)) = (List.replicate n (0 : UInt8)).toArray := by rw [hi, Int.toNat_natCast, List.toArray_replicate]
    rw [er]
    refine wpAny_bind (wpAny_mkBytes ?_ (by rw [List.size_toArray, List.length_replicate, sizeLine_eq]; (first | lia | omega)))
    show wpAny _ _ (if (Value.type "bytes" == Value.type "bytes") = true then _ else _) _ _ _
    refine bm_if_true (by decide) ?_
    first
      | exact wpAny_pure ⟨PySem.W.typeIs_bytes _ _ _, h _ _⟩
      | exact wpAny_bind (wpAny_pure (wpAny_pure ⟨PySem.W.typeIs_bytes _ _ _, h _ _⟩))
  · exact ⟨h₁.1, F.args_object_init_2 obj _, object_init_meets F.bm_called.init.lookup F.bm_called.made (by decide) prog w A.in1 _ s₁ ⟨h₁.1, rfl, h₁.2⟩⟩
end
end JaLaw
end
section
set_option Elab.async false
set_option maxRecDepth 100000
namespace JaLaw
/-! ints that are naturals: shifts, masks, powers -/
section
variable {prog : Program} {w : World} {A : Around} {E : Value → Shared → Prop} {s : Shared} {Q : Value → Shared → Prop} {t u : Tok} {xi yi : Int} {x y k : Nat}
theorem int_shr (hx : xi = x) (hk : yi = k) (h : ∀ t' k', Q (.int (x / 2 ^ k : Nat) t') { s with toks := k' }) : wpAny (model prog w) A (binaryOp .RShift (.int xi t) (.int yi u)) Q E s := by
  subst hx hk
  refine rshift_int (Int.natCast_nonneg _) ?_
  rw [Int.toNat_natCast, Int.fdiv_eq_ediv_of_nonneg _ (Int.pow_nonneg (by decide))]
  have e : ((x : Int) / 2 ^ k) = ((x / 2 ^ k : Nat) : Int) := by rw [Int.natCast_ediv, Int.natCast_pow]; rfl
  rw [e]
  exact h _ _
theorem int_shl (hx : xi = x) (hk : yi = k) (hk2 : k ≤ 1000) (hx2 : x < 2 ^ 64) (h : ∀ t' k', Q (.int (x * 2 ^ k : Nat) t') { s with toks := k' }) : wpAny (model prog w) A (binaryOp .LShift (.int xi t) (.int yi u)) Q E s := by
  subst hx hk
  refine lshift_int_small (Int.natCast_nonneg _) (by (first | lia | omega)) (by rw [Int.natAbs_natCast]; exact hx2) ?_
  have e : ((x : Int) * 2 ^ (k : Int).toNat) = ((x * 2 ^ k : Nat) : Int) := by rw [Int.toNat_natCast, Int.natCast_mul, Int.natCast_pow]; rfl
  rw [e]
  exact h _ _
theorem int_shl1 (hk : yi = k) (hk2 : k ≤ 1000) (h : ∀ t' k', Q (.int (2 ^ k : Nat) t') { s with toks := k' }) : wpAny (model prog w) A (binaryOp .LShift (.int 1 t) (.int yi u)) Q E s :=
  int_shl (x := 1) rfl hk hk2 (by decide) (by rw [Nat.one_mul]; exact h)
theorem bitAnd_nat (x y : Nat) : Builtin.bitAnd (x : Int) (y : Int) = ((x &&& y : Nat) : Int) := by
  unfold Builtin.bitAnd
  rw [decide_eq_true (Int.natCast_nonneg x), decide_eq_true (Int.natCast_nonneg y)]
  rfl
theorem bitOr_nat (x y : Nat) : Builtin.bitOr (x : Int) (y : Int) = ((x ||| y : Nat) : Int) := by
  have hn : ∀ z : Nat, ¬ (0 ≤ Builtin.bitNot (z : Int)) := fun z => by unfold Builtin.bitNot; (first | lia | omega)
  have hb : ∀ z : Nat, Builtin.bitNot (Builtin.bitNot (z : Int)) = z := fun z => by unfold Builtin.bitNot; (first | lia | omega)
  unfold Builtin.bitOr Builtin.bitAnd
  rw [decide_eq_false (hn x), decide_eq_false (hn y)]
  show Builtin.bitNot (Builtin.bitNot (((Builtin.bitNot (Builtin.bitNot (x : Int))).toNat ||| (Builtin.bitNot (Builtin.bitNot (y : Int))).toNat : Nat) : Int)) = _
  rw [hb, hb, hb]
  rfl
theorem int_and (hx : xi = x) (hy : yi = y) (h : ∀ t' k', Q (.int (x &&& y : Nat) t') { s with toks := k' }) : wpAny (model prog w) A (binaryOp .BitAnd (.int xi t) (.int yi u)) Q E s := by
  subst hx hy
  refine and_int ?_
  rw [bitAnd_nat]
  exact h _ _
theorem int_mask (hx : xi = x) (hy : yi = ((2 ^ k - 1 : Nat) : Int)) (h : ∀ t' k', Q (.int (x % 2 ^ k : Nat) t') { s with toks := k' }) : wpAny (model prog w) A (binaryOp .BitAnd (.int xi t) (.int yi u)) Q E s :=
  int_and hx hy (by rw [Nat.and_two_pow_sub_one_eq_mod]; exact h)
theorem int_or (hx : xi = x) (hy : yi = y) (h : ∀ t' k', Q (.int (x ||| y : Nat) t') { s with toks := k' }) : wpAny (model prog w) A (binaryOp .BitOr (.int xi t) (.int yi u)) Q E s := by
  subst hx hy
  refine or_int ?_
  rw [bitOr_nat]
  exact h _ _
theorem int_pow (hx : xi = x) (hk : yi = k) (hk2 : k ≤ 1000000) (hx2 : x < 2 ^ 64) (h : ∀ t' k', Q (.int (x ^ k : Nat) t') { s with toks := k' }) : wpAny (model prog w) A (binaryOp .Pow (.int xi t) (.int yi u)) Q E s := by
  subst hx hk
  refine pow_int_small (Int.natCast_nonneg _) (by (first | lia | omega)) (by rw [Int.natAbs_natCast]; exact hx2) ?_
  rw [Int.toNat_natCast, ← Int.natCast_pow]
  exact h _ _
theorem var_exp (k : Nat) : (8 * ((2 ^ k : Nat) : Int) - 2) = ((8 * 2 ^ k - 2 : Nat) : Int) := by
  have : 1 ≤ 2 ^ k := Nat.one_le_two_pow
  (first | lia | omega)
theorem one_shl (n : Nat) : (((2 ^ n : Nat) : Int) - 1) = ((2 ^ n - 1 : Nat) : Int) := by
  have : 1 ≤ 2 ^ n := Nat.one_le_two_pow
  (first | lia | omega)
end
end JaLaw
end
section
open Sem (wp)
set_option Elab.async false
set_option maxRecDepth 100000
namespace JaLaw
namespace BA
open Builtin
theorem mro : mroOf (.type "bytearray") = pure [.type "bytearray", .type "object"] := by rw [mroOf_type]; kernel_rfl
theorem lookup_new : typeLookup (.type "bytearray") "__new__" = pure (some (.builtin "bytearray.__new__")) := by rw [typeLookup_type, builtinLookup_eq_fast]; kernel_rfl
theorem slot_init : Slot "bytearray" "__init__" "bytearray.__init__" :=
  .of (owner := "bytearray") (n := "__init__") (by rw [typeLookup_type, builtinLookup_eq_fast]; kernel_rfl) (by decide +kernel) (by decide +kernel) (by decide +kernel)
    (by first | exact .inl (by decide +kernel) | exact .inr (by decide +kernel)) (by rw [isSubtype_type]; kernel_rfl)
theorem called : TypeCalled "bytearray" "bytearray.__new__" "bytearray.__init__" :=
  ⟨by decide +kernel, by decide +kernel, ⟨_, _, mro⟩, madeBy_type mro lookup_new (by decide +kernel), by decide +kernel, by rw [isSubtype_type]; kernel_rfl, slot_init⟩
theorem typeCall (a : Value) : checkTypeCall "bytearray" ⟨[a], []⟩ = pure () := by kernel_rfl
theorem newCall (a : Value) : checkBuiltinCall "bytearray.__new__" ⟨[.type "bytearray", a], []⟩ = pure () := by kernel_rfl
theorem entry_new : entryFor table "bytearray.__new__" = some Builtin.«list.__new__» :=
  entryFor_alias (id' := "list.__new__") (by rw [fastTable_eq_tree]; kernel_rfl) (by kernel_rfl) (by kernel_rfl) (by rw [fastTable_eq_tree]; kernel_rfl)
theorem entry_init : entryFor table "bytearray.__init__" = some Builtin.«bytearray.__init__» := entryFor_of_tree (by kernel_rfl)
theorem plain_new : plainId "bytearray.__new__" = true := by decide +kernel
theorem args_init (a b : Value) : argsOk "bytearray.__init__" ⟨[a, b], []⟩ := by unfold argsOk; kernel_rfl
theorem bind_init (v : Value) : Bytes.bindOptional "bytearray.__init__" "bytearray" ["source", "encoding", "errors"] [v] [] = pure [some v, none, none] := by kernel_rfl
set_option maxRecDepth 1000000 in
set_option maxHeartbeats 4000000 in
theorem owner_new : ("bytearray.__new__".splitOn ".__new__").headD "" = "bytearray" := by simp +decide [String.splitOn, String.splitOnAux]
section
variable {prog : Program} {w : World} {A : Around} {E : Value → Shared → Prop} {s : Shared} {v : Value} {Q : Value → Shared → Prop} {l : List UInt8} {a : Addr}
theorem code_new (a : Value) {Q₁ : Value → Shared → Prop}
    (h : Q₁ (.ref s.heap.objs.size) { s with heap := s.heap.push (baO []) }) :
    codeAny (model prog w) A (.call (.builtin "bytearray.__new__") ⟨[.type "bytearray", a], []⟩) (wants Q₁ E) s := by
  refine codeAny_of_tree ?_
  show wpAny _ A.in1 (do checkBuiltinCall "bytearray.__new__" ⟨[.type "bytearray", a], []⟩; again (.builtin "bytearray.__new__" ⟨[.type "bytearray", a], []⟩)) _ _ s
  refine wpAny_bind (wpAny_of_eq (newCall a) (wpAny_pure ⟨plainId_quiet plain_new _, codeAny_builtin_stack entry_new rfl fun p st => ?_⟩))
  rw [Around.under_plainId plain_new _]
  have hsub := sub_self
  have hown := owner_new
  obtain ⟨hp, g, d, tk, os⟩ := s
  simp only [hown]
  wp_walk
  exact h
theorem write_any {r : List UInt8} {f : Array UInt8 → Array UInt8} {Q : Unit → Shared → Prop} (h : s.heap.get? a = some (baO l)) (hf : f l.toArray = r.toArray) (hz : r.length ≤ sizeLine)
    (hQ : ∀ h', Heap.SameBut a s.heap h' → h'.get? a = some (baO r) → Q () { s with heap := h' }) : wpAny (model prog w) A (Bytes.write (.ref a) f) Q E s := by
  show wpAny _ _ (updateBytearray a f) _ _ _
  unfold updateBytearray
  refine wpAny_bind (wpAny_load h ?_)
  show wpAny _ _ (update a (Obj.mapBytearray f) >>= fun _ => lookBehind a) _ _ _
  refine wpAny_bind (wpAny_update h ?_)
  have h2 : (s.heap.update a (Obj.mapBytearray f)).get? a = some (baO r) := by
    have e : Obj.mapBytearray f (baO l) = baO r := by
      show ({ cls := .type "bytearray", data := .bytearray (f l.toArray) } : Obj) = _
      rw [hf]
    rw [← e]
    exact Heap.get?_update_self (Obj.mapBytearray f) h rfl
  refine wpAny_lookBehind h2 ?_ (hQ _ (Heap.SameBut.update ..) h2)
  show (if r.toArray.size > sizeLine then some "bytearray:memory" else none) = none
  rw [if_neg]
  rw [List.size_toArray]
  (first | lia | omega)
theorem init_bytes {t : Tok} {P : Fin → Shared → Prop} (h : s.heap.get? a = some (baO [])) (hl : l.length ≤ 16777216)
    (hQ : ∀ h', Heap.SameBut a s.heap h' → h'.get? a = some (baO l) → P (.done (.ret .none)) { s with heap := h' }) : wpN (model prog w) A (Builtin.«bytearray.__init__» ⟨[.ref a, .bytes l.toArray t], []⟩) P E s := by
  unfold Builtin.«bytearray.__init__»
  refine nb (release h ?_)
  refine nb (wpAny_of_eq (bind_init _) ?_)
  refine nb (wpAny_of_eq (a := ()) rfl ?_)
  refine nb (wpAny_of_eq (a := ()) rfl ?_)
  refine wpN_bind ?_
  refine wpN_bind (wpN_exported ?_)
  show wpN _ _ (Bytes.exportsOf (.ref a) >>= fun n => pure (decide (n > 0))) _ _ _
  refine nb ?_
  show wpAny _ _ (load a >>= _) _ _ _
  refine wpAny_bind (wpAny_load h ?_)
  refine wpAny_pure ?_
  refine wpN_pure ?_
  refine wpN_any ?_
  refine bm_if_false rfl ?_
  refine wpAny_bind (write_any h (r := []) rfl (Nat.zero_le _) fun h1 hs1 ha1 => ?_)
  refine wpAny_bind (wpAny_of_eq (a := none) rfl ?_)
  refine bm_if_false rfl ?_
  refine wpAny_bind (wpAny_of_eq (a := ()) rfl ?_)
  refine wpAny_bind (wpAny_of_eq (a := none) (by unfold specialOf; show (typeLookup (.type "bytes") _) = _; rw [typeLookup_type, builtinLookup_eq_fast]; kernel_rfl) ?_)
  refine bm_if_false rfl ?_
  refine wpAny_bind (wpAny_of_eq (a := some l.toArray) KBy.buffer_eq ?_)
  refine wpAny_bind (wpAny_rule ?_)
  refine wpAny_bind (write_any ha1 (r := l) rfl (by rw [sizeLine_eq]; exact hl) fun h2 hs2 ha2 => ?_)
  exact wpAny_pure (hQ h2 (hs1.trans hs2) ha2)
theorem init_int {t : Tok} {i : Int} {n : Nat} {P : Fin → Shared → Prop} (h : s.heap.get? a = some (baO [])) (hi : i = (n : Int)) (hl : n ≤ 16777216)
    (hQ : ∀ h', Heap.SameBut a s.heap h' → h'.get? a = some (baO (List.replicate n 0)) → P (.done (.ret .none)) { s with heap := h' }) : wpN (model prog w) A (Builtin.«bytearray.__init__» ⟨[.ref a, .int i t], []⟩) P E s := by
  unfold Builtin.«bytearray.__init__»
  refine nb (release h ?_)
  refine nb (wpAny_of_eq (bind_init _) ?_)
  refine nb (wpAny_of_eq (a := ()) rfl ?_)
  refine nb (wpAny_of_eq (a := ()) rfl ?_)
  refine wpN_bind ?_
  refine wpN_bind (wpN_exported ?_)
  show wpN _ _ (Bytes.exportsOf (.ref a) >>= fun n => pure (decide (n > 0))) _ _ _
  refine nb ?_
  show wpAny _ _ (load a >>= _) _ _ _
  refine wpAny_bind (wpAny_load h ?_)
  refine wpAny_pure ?_
  refine wpN_pure ?_
  refine wpN_any ?_
  refine bm_if_false rfl ?_
  refine wpAny_bind (write_any h (r := []) rfl (Nat.zero_le _) fun h1 hs1 ha1 => ?_)
  refine wpAny_bind (wpAny_of_eq (a := none) rfl ?_)
  refine bm_if_false rfl ?_
  refine wpAny_bind (wpAny_of_eq (a := ()) rfl ?_)
  refine wpAny_bind (wpAny_specialOf (typeIs_int _ i t) F.slot_int_index.lookup ?_)
  refine bm_if_true rfl ?_
  refine wpAny_bind (wpAny_attempt (wpAny_of_eq (rfl : asIndex (.int i t) = pure i) ?_))
  have hf : Bytes.fitsIndex i = true := by
    simp only [Bytes.fitsIndex, Bool.and_eq_true, decide_eq_true_eq]; (first | lia | omega)
  refine bm_if_false (by rw [hf]; rfl) ?_
  refine wpAny_ite_false (decide_eq_false (show ¬ (i < 0) by (first | lia | omega))) ?_
  refine bm_if_false (by rw [beq_eq_false_iff_ne]; (first | lia | omega)) ?_
  have ht : Bytes.tooLong i.toNat = false := KBy.tooLong_not (by (first | lia | omega))
  refine bm_if_false ht ?_
  refine wpAny_bind (wpAny_rule ?_)
  have er : (Array.replicate i.toNat (0 : UInt8)) = (List.replicate n (0 : UInt8)).toArray := by rw [hi, Int.toNat_natCast, List.toArray_replicate]
  rw [er]
  by_cases c : i > 0
  · dsimp only
    rw [if_pos c]
    refine wpAny_bind (write_any ha1 (r := List.replicate n 0) rfl (by rw [sizeLine_eq, List.length_replicate]; exact hl) fun h2 hs2 ha2 => ?_)
    exact wpAny_pure (hQ h2 (hs1.trans hs2) ha2)
  · dsimp only
    rw [if_neg c]
    have e0 : n = 0 := by (first | lia | omega)
    subst e0
    exact wpAny_pure (hQ h1 hs1 ha1)
theorem call_N {v : Value} {r : List UInt8} {h₀ : Heap} {L : Addr} {m : PySem.Str → Option Value} {news : List (Addr × Obj)} (Fh : Fr h₀ L s.heap m) (Nh : News h₀ L s.heap news)
    (hi : ∀ (A : Around) (E : Value → Shared → Prop) (s : Shared) (a : Addr) (P : Fin → Shared → Prop), s.heap.get? a = some (baO []) →
      (∀ h', Heap.SameBut a s.heap h' → h'.get? a = some (baO r) → P (.done (.ret .none)) { s with heap := h' }) → wpN (model prog w) A (Builtin.«bytearray.__init__» ⟨[.ref a, v], []⟩) P E s)
    (h : ∀ y h', Fr h₀ L h' m → News h₀ L h' ((y, baO r) :: news) → (∀ p ∈ news, p.1 < y) → Q (.ref y) { s with heap := h' }) :
    wpN (model prog w) A (call (.type "bytearray") [v]) Q E s := by
  refine wpN_call (codeN_to ?_)
  show wpAny _ _ (callAny (.type "bytearray") _) _ _ _
  refine wpAny_pure ⟨Code.quiet_builtin _ (by decide +kernel), codeN_builtin (by decide +kernel) F.entry_type_call ?_⟩
  rw [Around.under_plain (weight_type_call_type "bytearray" [v] []) rfl]
  have h1 := called.notType
  have h2 := called.canCreate
  unfold Builtin.«type.__call__»
  refine nb (wpAny_of_eq (a := ()) (typeCall v) ?_)
  refine nb (wpAny_of_eq mro ?_)
  refine nb (wpAny_of_eq called.made ?_)
  refine nb (wpAny_pure ?_)
  refine nb (wpAny_holding (wpAny_call (codeAny_mono (code_new (E := fun _ _ => False) (Q₁ := fun r s' => r = .ref s.heap.objs.size ∧ s' = { s with heap := s.heap.push (baO []) }) v ⟨rfl, rfl⟩) fun r1 s1 hr => ?_)))
  rcases r1 with e | (v1 | _ | _ | _) <;> first | exact hr.elim | skip
  obtain ⟨rfl, rfl⟩ := hr
  have hT : ({ s with heap := s.heap.push (baO []) } : Shared).TypeIs (.ref s.heap.objs.size) "bytearray" := ⟨_, Heap.get?_push_size _ rfl, rfl⟩
  refine nb (wpAny_isInstance hT called.sub ?_)
  dsimp only
  refine wpN_bind (wpN_holding ?_)
  unfold callSpecial?
  refine nb (wpAny_specialOf hT slot_init.lookup ?_)
  dsimp only
  refine wpN_holding ?_
  refine nb (wpAny_of_eq (slot_init.bind _) ?_)
  refine wpN_bind (wpN_call (codeN_call_builtin (plainId_quiet slot_init.plain _) (by decide +kernel) entry_init (slot_init.check _ _ _ _ _ _ _ _ hT (args_init _ _) ?_)))
  rw [Around.under_plainId slot_init.plain _]
  refine hi _ _ _ _ _ (Heap.get?_push_size _ rfl) fun h' hs hg => ?_
  refine wpN_pure (wpN_pure ?_)
  exact h _ h' (Fh.filled hs) (News.filled Fh Nh hs hg) fun p hp => Heap.lt_size (Nh p hp).1
end
end BA
end JaLaw
end
section
open PySem.Calls Builtin
open Sem (wp)
set_option Elab.async false
set_option maxRecDepth 100000
namespace JaLaw
section
variable {prog : Program} {w : World} {A₀ A : Around} {s : Shared} {base h₀ : Heap} {env : Env} {outer : List Env} {L : Addr} {m : PySem.Str → Option Value} {news : List (Addr × Obj)} {K : Frag}
  {R : Result → Shared → Prop} {name qual : PySem.Str} {params : Arguments} {body : List Stmt} {scope : Scope} {dV kV doc pm cdv ct oc : Value} {an od : Option Addr} {osl : Array (Option Value)} {f : Addr} {args : Args} {binds : List (PySem.Str × Value)}
  {p : Program} {loose : List PySem.Str} {mean : ExcName → Option Value} {mg mb : PySem.Str → Option Value}
theorem enter_defN (B : Below A₀ base outer h₀) (F : Fr h₀ L s.heap m) (X₀ : K.In h₀) (N : News h₀ L s.heap news) (T : Top p loose mean mg mb h₀) (hA : A.frames = some (env :: outer)) (hf : env.frame = some L) (hke : env.scope.kind = .function)
    (ho : K.lookup f = some ⟨oc, od, .func (fnOf name qual params body scope dV kV doc pm an cdv ct), osl⟩) (hcd : codeIn K cdv qual = true) (hroom : A.depth < recursionLimit)
    (hbind : BindsTo s (fnOf name qual params body scope dV kV doc pm an cdv ct) args binds) (hloc : ∀ y ∈ binds, scope.names.lookup y.1 = some .local)
    (h : ∀ g L' h₁, Fr h₀ L g m → Fr g L' h₁ (fun y => binds.reverse.lookup y) → News g L' h₁ news → Below A base (env :: outer) g → K.In g → Top p loose mean mg mb g → Keeps (news.map (·.1)) s.heap g → s.heap.objs.size ≤ L' →
      wpN (model prog w) (A.deeper (envOf qual scope L' f cdv)) (execs body (envOf qual scope L' f cdv))
        (fun fl s' => LeaveK h₀ L m g (fun r s'' => Keeps (news.map (·.1)) s.heap s''.heap → R r s'') (match fl with | .ret v => v | _ => .none) s')
        (fun e s' => wpAny (model prog w) (A.deeper (envOf qual scope L' f cdv)) (leaving (envOf qual scope L' f cdv) e) (fun _ s'' => R (.error e) s'') (fun e' s'' => R (.error e') s'') s')
        { s with heap := h₁, toks := s.toks + binds.length })
    (hco : scope.isCoroutine = false) (hgen : scope.isGenerator = false) (hk : scope.kind = .function)
    (hcell : ∀ x ∈ scope.names, x.2 ≠ .cell) : codeN (model prog w) A (.call (.ref f) args) R s := by
  have X := X₀.keeps F.keep
  obtain ⟨Fg, Bg, st⟩ := ground_of B F N hA hf hke
  refine codeN_call_def (fd := fnOf name qual params body scope dV kV doc pm an cdv ct) (body := body) (binds := binds) hroom (X _ _ ho) rfl (T.nolimit.keeps F.keep) (codeRec_of X hcd) rfl hbind hcell hloc (fun h₁ hns hk₁ => ?_) hco hgen hk
  have kg : Keeps (news.map (·.1)) s.heap (hideAll s.heap (news.map (·.1))) := fun b o e n => hideAll_get _ e n
  refine wpN_mono (h (hideAll s.heap (news.map (·.1))) s.heap.objs.size h₁ Fg ⟨hns, fun b o e => hk₁ b o (of_hideAll _ e), Nat.le_of_eq (hideAll_size _ _)⟩
    (fun q hq => ⟨hk₁ _ _ (N q hq).1, Nat.ne_of_lt (Heap.lt_size (N q hq).1), hideAll_none _ (List.mem_map_of_mem hq)⟩) Bg (X₀.keeps fun b o e => st b o e) (T.keeps fun b o e => st b o e) kg (Nat.le_refl _)) (fun fl s' hl => ?_) fun _ _ y => y
  obtain ⟨L', m', news', F', N', k⟩ := hl
  obtain ⟨oL, es, ep, hL, hLd, hLk, hLf⟩ := Fg.ns
  refine k ⟨⟨oL, es, ep, F'.keep L oL hL, hLd, hLk, hLf⟩, fun b o e => F'.keep b o (st b o e), F.above⟩ (fun q hq => ⟨(N' q hq).1, fun z => ?_, ?_⟩) fun b o e n => F'.keep b o (kg b o e n)
  · have := (N' q hq).2.2; rw [z, hL] at this; cases this
  · cases z : h₀.get? q.1 with
    | none => rfl
    | some o => have := (N' q hq).2.2; rw [st _ _ z] at this; cases this
end
section
variable {prog : Program} {w : World} {A : Around} {K : Frag} {C : Addr} {R : Result → Shared → Prop} {h : Heap} {g : Array GenState} {d : Drawn} {t : Nat} {os : OsState}
theorem make_coreN {rest : List Value} {kw : List (PySem.Str × Value)} {init : Value} (Y : Makes (model prog w) h C) (hi : Looks (model prog w) h (typeLookup (.ref C) "__init__") (some init))
    (hb : ∀ self, Looks (model prog w) h (bindSpecial init self) (init, [self])) (hne : (some init != some (Value.builtin "object.__init__")) = true ∨ (rest = [] ∧ kw = []))
    (hq : codeN (model prog w) (A.under (.builtin "type.__call__" ⟨.ref C :: rest, kw⟩)) (.call init ⟨.ref (h.objs.size + 1) :: rest, kw⟩) (InitBack (h.objs.size + 1) R) ⟨(h.push emptyDict).push (instObj C h.objs.size), g, d, t, os⟩) :
    codeN (model prog w) A (.call (.ref C) ⟨rest, kw⟩) R ⟨h, g, d, t, os⟩ := by
  have Y' := Y
  obtain ⟨⟨oc, od, cd, sl, hC, e1, e2, e4⟩, made, base, self, top, call, typ⟩ := Y
  refine codeN_to ?_
  show wpAny _ _ (callAny (.ref C) _) _ _ _
  refine nd_load hC ?_
  show wpAny _ _ (callAny.viaDunder (.ref C) _) _ _ _
  unfold callAny.viaDunder
  refine wpAny_bind (call.at ?_)
  dsimp only
  rw [tc_bind]
  refine wpAny_bind (wpAny_pure (wpAny_bind (wpAny_pure ?_)))
  refine wpAny_pure (a := Fin.again (.call (.builtin "type.__call__") ⟨.ref C :: rest, kw⟩)) (And.intro rfl ?_)
  refine codeN_call_builtin (Code.quiet_builtin _ (by decide +kernel)) (by decide +kernel) entry_typeCall (check_slot tc_kind tc_split typ (tc_args _ _ _) ?_)
  unfold Builtin.«type.__call__»
  have hm : Looks (model prog w) h (mroOf (.ref C)) cd.mro := ((Looks.ld (part := none) hC).andThen .now).andThen .now
  refine nb (hm.at ?_)
  dsimp only
  rw [e4]
  refine nb (made.at ?_)
  dsimp only
  refine nb (wpAny_pure ?_)
  refine nb (wpAny_holding (wpAny_call (codeAny_mono (new_K (R := fun r s' => r = .ok (.ret (.ref (h.objs.size + 1))) ∧ s' = ⟨(h.push emptyDict).push (instObj C h.objs.size), g, d, t, os⟩) Y' hi hne ⟨rfl, rfl⟩) fun r1 s1 hr => ?_)))
  obtain ⟨rfl, rfl⟩ := hr
  have k : ∀ b o, h.get? b = some o → ((h.push emptyDict).push (instObj C h.objs.size)).get? b = some o := fun b o e => Heap.get?_push_of_some _ (Heap.get?_push_of_some _ e)
  have hx : ((h.push emptyDict).push (instObj C h.objs.size)).get? (h.objs.size + 1) = some (instObj C h.objs.size) := by heap_get
  have t1 : Looks (model prog w) ((h.push emptyDict).push (instObj C h.objs.size)) (typeOf (.ref (h.objs.size + 1))) (.ref C) := (Looks.ld hx).andThen .now
  have s1 := self.keeps k
  have i1 := hi.keeps k
  have b1 := (hb (.ref (h.objs.size + 1))).keeps k
  dsimp only
  unfold isInstance callSpecial? specialOf
  refine nb (wpAny_bind (t1.at (s1.at ?_)))
  dsimp only
  refine wpN_bind (wpN_holding ?_)
  refine nb (wpAny_bind (t1.at (i1.at ?_)))
  dsimp only
  refine wpN_holding (nb (b1.at ?_))
  dsimp only
  refine wpN_bind (wpN_call ?_)
  refine codeN_mono hq fun r s' z => ?_
  rcases r with e | (v | _ | _ | _) <;> first | exact z | exact z.elim | skip
  obtain ⟨rfl, z⟩ := z
  exact wpN_pure (wpN_pure z)
end
section
variable {prog : Program} {w : World} {A : Around} {K : Frag} {C x : Addr} {s : Shared} {h₀ : Heap} {L : Addr} {m : PySem.Str → Option Value} {news : List (Addr × Obj)} {R : Result → Shared → Prop}
theorem make_KN {rest : List Value} {kw : List (PySem.Str × Value)} {fI : Addr} (F : Fr h₀ L s.heap m) (N : News h₀ L s.heap news) (X : K.In s.heap) (hm : makesIn K C = true)
    (hi : findIn K (.ref C) "__init__" = some (some (.ref fI))) (hf : typeIn K (.ref fI) = some (.type "function"))
    (h : ∀ x dx h', Fr h₀ L h' m → News h₀ L h' ((x, instObj C dx) :: (dx, emptyDict) :: news) → (∀ p ∈ news, p.1 < dx) → dx < x →
      codeN (model prog w) (A.under (.builtin "type.__call__" ⟨.ref C :: rest, kw⟩)) (.call (.ref fI) ⟨.ref x :: rest, kw⟩) (InitBack x R) { s with heap := h' }) :
    codeN (model prog w) A (.call (.ref C) ⟨rest, kw⟩) R s := by
  obtain ⟨hh, g, d, t, os⟩ := s
  refine make_coreN (makes_of X hm) (looks_findIn X hi) (fun self => bind_fn X self hf) (.inl rfl) (h _ hh.objs.size _ ((F.push _).push _) ?_ (fun p hp => Heap.lt_size (N p hp).1) (Nat.lt_succ_self _))
  have := (N.push F emptyDict).push (F.push _) (instObj C hh.objs.size)
  rwa [Heap.size_push] at this
end
end JaLaw
end
section
open PySem.Calls
open Sem (wp)
set_option Elab.async false
set_option maxRecDepth 100000
namespace JaLaw
section
variable {α : Type} {M : Model} {A : Around} {E : Value → Shared → Prop} {s : Shared} {env : Env} {K : Frag} {h₀ : Heap}
theorem n_mono_any {t : Sem α} {Q : α → Shared → Prop} (h : wpAny M A t Q E s) : wpN M A t Q E s := wpN_any h
theorem wpN_standAt {pos : Pos} {Q : Unit → Shared → Prop} (h : Q () s) : wpN M A (standAt pos) Q E s := wpN_any (wpAny_standAt h)
theorem wpN_operate {vs : List Value} {m : Sem Value} {Q : Value → Shared → Prop} (h : wpN M A m Q E s) : wpN M A (operate vs m) Q E s :=
  fun Γ p hΓ h1 h2 => by rw [Sem.wp_operate]; exact h Γ p hΓ h1 h2
/-- one statement, the rest runs on where it ends plainly -/
theorem n_cons {st : Stmt} {rest : List Stmt} {Q : Flow → Shared → Prop}
    (h : wpN M A (exec st env) (fun f s' => match f with | .next => wpN M A (execs rest env) Q E s' | f => Q f s') E s) : wpN M A (execs (st :: rest) env) Q E s := by
  rw [execs_cons]
  refine wpN_bind (wpN_mono h (fun f s' h' => ?_) fun _ _ x => x)
  cases f <;> first | exact h' | exact wpN_pure h'
theorem n_nil {Q : Flow → Shared → Prop} (h : Q .next s) : wpN M A (execs [] env) Q E s := wpN_pure h
theorem n_if {test : Expr} {body orelse : List Stmt} {pos : Pos} {Q : Flow → Shared → Prop}
    (h : wpN M A (isTrue test env (eval test env)) (fun b s' => if b = true then wpN M A (execs body env) Q E s' else wpN M A (execs orelse env) Q E s') E s) : wpN M A (exec (.If test body orelse pos) env) Q E s := by
  rw [exec_If]
  refine nb (wpAny_standAt (wpN_bind (wpN_mono h (fun b s' h' => ?_) fun _ _ x => x)))
  cases b
  · rw [if_neg Bool.false_ne_true] at h' ⊢; exact h'
  · rw [if_pos rfl] at h' ⊢; exact h'
theorem n_isTrue_cmp {l r : Expr} {op : CmpOp} {pos : Pos} {whole : Sem Value} {Q : Bool → Shared → Prop} (hm : behindInMarks op r = false)
    (h : wpN M A (eval l env) (fun a s1 => wpN M A (eval r env) (fun b s2 => wpAny M A (compareOp op a b) (fun c s3 => wpAny M A (truthy c) Q E s3) E s2) E s1) E s) : wpN M A (isTrue (.Compare l [op] [r] pos) env whole) Q E s := by
  rw [isTrue_Compare1, markedBehindIn_of_false hm]
  refine wpN_bind (wpN_mono h (fun a s1 h1 => ?_) fun _ _ x => x)
  refine wpN_bind (wpN_holding (wpN_mono h1 (fun b s2 h2 => ?_) fun _ _ x => x))
  refine nb (wpAny_standAt (nb (wpAny_operateT (wpAny_mono h2 (fun c s3 h3 => wpN_holding (wpN_any h3)) fun _ _ x => x))))
theorem n_isTrue_or {x y : Expr} {pos : Pos} {whole : Sem Value} {Q : Bool → Shared → Prop}
    (h : wpN M A (isTrue x env (eval x env)) (fun b s1 => if b = true then Q true s1 else wpN M A (isTrue y env (eval y env)) Q E s1) E s) : wpN M A (isTrue (.BoolOp .Or [x, y] pos) env whole) Q E s := by
  show wpN M A (allTrue .Or [x, y] env) Q E s
  unfold allTrue
  refine wpN_bind (wpN_mono h (fun b s1 h1 => ?_) fun _ _ x => x)
  cases b
  · dsimp only
    unfold allTrue
    rw [if_neg Bool.false_ne_true] at h1
    refine wpN_bind (wpN_mono h1 (fun b s2 h2 => ?_) fun _ _ x => x)
    cases b
    · unfold allTrue
      exact wpN_pure h2
    · exact wpN_pure h2
  · rw [if_pos rfl] at h1
    exact wpN_pure h1
theorem n_and2 {x y : Expr} {pos : Pos} {Q : Value → Shared → Prop}
    (h : wpN M A (eval x env) (fun v s1 => wpAny M A (truthy v) (fun b s2 => if b = true then wpN M A (eval y env) Q E s2 else Q v s2) E s1) E s) : wpN M A (eval (.BoolOp .And [x, y] pos) env) Q E s := by
  show wpN M A (boolOp pos .And [eval x env, eval y env]) Q E s
  unfold boolOp
  refine wpN_bind (wpN_mono h (fun v s1 h1 => ?_) fun _ _ x => x)
  refine nb (wpAny_standAt (nb (wpAny_holding (wpAny_mono h1 (fun b s2 h2 => ?_) fun _ _ x => x))))
  cases b
  · rw [if_neg Bool.false_ne_true] at h2
    exact wpN_pure h2
  · rw [if_pos rfl] at h2
    exact h2
theorem n_cmp {l r : Expr} {op : CmpOp} {pos : Pos} {Q : Value → Shared → Prop} (hm : behindInMarks op r = false)
    (h : wpN M A (eval l env) (fun a s1 => wpN M A (eval r env) (fun b s2 => wpAny M A (compareOp op a b) Q E s2) E s1) E s) : wpN M A (eval (.Compare l [op] [r] pos) env) Q E s := by
  rw [eval_Compare1, markedBehindIn_of_false hm]
  refine wpN_bind (wpN_mono h (fun a s1 h1 => ?_) fun _ _ x => x)
  refine wpN_bind (wpN_holding (wpN_mono h1 (fun b s2 h2 => ?_) fun _ _ x => x))
  exact nb (wpAny_standAt (wpN_any (wpAny_operateT h2)))
theorem n_assign_name {x : PySem.Str} {value : Expr} {pos pos' : Pos} {Q : Flow → Shared → Prop} (hs : swapsWith value (some (.Name x pos')) pos.line env = pure false)
    (h : wpN M A (eval value env) (fun v s1 => wpAny M A (bindName env x v) (fun _ s2 => Q .next s2) E s1) E s) : wpN M A (exec (.Assign [.Name x pos'] value pos) env) Q E s := by
  rw [exec_Assign_Name _ _ _ _ _ hs]
  refine nb (wpAny_standAt (wpN_bind (wpN_mono h (fun v s1 h1 => ?_) fun _ _ x => x)))
  exact nb (wpAny_standAt (nb (wpAny_mono h1 (fun _ _ x => wpN_pure x) fun _ _ x => x)))
theorem n_assign_attr {o : Expr} {attr : PySem.Str} {value : Expr} {pos pos' : Pos} {Q : Flow → Shared → Prop} (hs : swapsWith value (some (.Attribute o attr pos')) pos.line env = pure false)
    (h : wpN M A (eval value env) (fun v s1 => wpAny M A (eval o env) (fun ov s2 => wpAny M A (setAttr ov attr v) (fun _ s3 => Q .next s3) E s2) E s1) E s) : wpN M A (exec (.Assign [.Attribute o attr pos'] value pos) env) Q E s := by
  rw [plainObj_exec_Assign_Attribute _ _ _ _ _ hs]
  refine nb (wpAny_standAt (wpN_bind (wpN_mono h (fun v s1 h1 => ?_) fun _ _ x => x)))
  rw [assign_Attribute]
  refine nb (wpAny_bind (wpAny_holding (wpAny_mono h1 (fun ov s2 h2 => ?_) fun _ _ x => x)))
  refine wpAny_bind (wpAny_standAt (wpAny_bind (wpAny_holding (wpAny_mono h2 (fun _ s3 h3 => ?_) fun _ _ x => x))))
  exact fun Γ p hΓ => by
    rw [Sem.wp_release]
    exact wpN_pure h3
theorem n_return {e : Expr} {pos : Pos} {Q : Flow → Shared → Prop} (h : wpN M A (eval e env) (fun v s1 => Q (.ret v) s1) E s) : wpN M A (exec (.Return (some e) pos) env) Q E s := by
  rw [exec_Return_some]
  exact nb (wpAny_standAt (wpN_bind (wpN_mono h (fun v s1 h1 => wpN_pure h1) fun _ _ x => x)))
theorem n_call_name {id : PySem.Str} {p pos : Pos} {args : List Expr} {keywords : List Keyword} {Q : Value → Shared → Prop}
    (h : wpAny M A (eval (.Name id p) env) (fun f s₁ => wpN M A (callWith pos f [] (backTo pos (starEach args env)) (backToKw pos (keywordEach keywords env))) Q E s₁) E s) :
    wpN M A (eval (.Call (.Name id p) args keywords pos) env) Q E s := by
  rw [arm_eval_Call_Name']
  exact nb h
theorem n_callWith {P : Heap → Prop} {pos : Pos} {f : Value} {first : List Value} {Q : Value → Shared → Prop} {args : List (Bool × Sem Value)} {keywords : List (Option PySem.Str × Sem Value)} (hplain : (args.any (·.1) || keywords.any (·.1.isNone)) = false)
    (hk : ∀ h, P h → ∃ k, (k = Keeper.frame ∨ k = Keeper.machine ∨ k = Keeper.boundFrame) ∧ Looks M h (keeperOf f) k)
    (h : wpN M A (evalArgs f true args keywords) (fun a s₁ => P s₁.heap ∧ wpN M A (call f (first ++ a.pos) a.kw) Q E s₁) E s) : wpN M A (callWith pos f first args keywords) Q E s := by
  unfold callWith
  refine wpN_bind (wpN_holding (wpN_mono h (fun a s₁ h₁ => nb (wpAny_standAt ?_)) fun _ _ x => x))
  obtain ⟨k, hk', L⟩ := hk _ h₁.1
  simp only [hplain]
  refine nb (L.here ?_)
  have tail : ∀ {t : Sem Value}, wpN M A t Q E s₁ → wpN M A (t >>= fun r => holding [r] point >>= fun _ => pure r) Q E s₁ :=
    fun ht => wpN_bind (wpN_mono ht (fun r s₂ hr => nb (wpAny_holding (wpAny_point (wpN_pure hr)))) fun _ _ x => x)
  have marked (mk : Value) : wpN M A (callMarked mk f (first ++ a.pos) a.kw) Q E s₁ := by unfold callMarked; exact wpN_keep h₁.2
  rcases hk' with rfl | rfl | rfl <;> dsimp only <;> first | exact tail h₁.2 | (split <;> first | exact tail h₁.2 | exact tail (marked _))
theorem n_cW {pos : Pos} {f : Value} {first : List Value} {e : Expr} {rest : List Expr} {Q : Value → Shared → Prop} (hk : keepIn K f = true)
    (h : wpAny M A (spliced (backTo pos (starEach (e :: rest) env))) (fun vs s₁ => K.In s₁.heap ∧ wpN M A (call f (first ++ vs)) Q E s₁) E s)
    (he : starEach (e :: rest) env = (false, eval e env) :: starEach rest env := by rfl) (hplain : (backTo pos (starEach rest env)).any (·.1) = false := by rfl) :
    wpN M A (callWith pos f first (backTo pos (starEach (e :: rest) env)) []) Q E s := by
  rw [he] at h ⊢
  exact n_callWith (by show ((false || (backTo pos (starEach rest env)).any (·.1)) || false) = false; rw [hplain]; rfl) (keeps_K hk) (wpN_any (evalArgs_plain h))
theorem n_cKW {pos : Pos} {f : Value} {first : List Value} {e : Expr} {rest : List Expr} {kws : List Keyword} {Q : Value → Shared → Prop} (hk : keepIn K f = true) (hall : (backToKw pos (keywordEach kws env)).all (·.1.isSome) = true)
    (h : wpAny M A (spliced (backTo pos (starEach (e :: rest) env))) (fun vs s₁ => wpAny M A (evalAll ((backToKw pos (keywordEach kws env)).map (·.2)))
      (fun ks s₂ => K.In s₂.heap ∧ wpN M A (call f (first ++ vs) (((backToKw pos (keywordEach kws env)).filterMap (·.1)).zip ks)) Q E s₂) E s₁) E s)
    (hplain : ((backTo pos (starEach (e :: rest) env)).any (·.1) || (backToKw pos (keywordEach kws env)).any (·.1.isNone)) = false := by rfl) (he : starEach (e :: rest) env = (false, eval e env) :: starEach rest env := by rfl) :
    wpN M A (callWith pos f first (backTo pos (starEach (e :: rest) env)) (backToKw pos (keywordEach kws env))) Q E s :=
  n_callWith hplain (keeps_K hk) (wpN_any (evalArgs_kw2 hall h he))
theorem n_cKW0 {pos : Pos} {f : Value} {first : List Value} {kws : List Keyword} {Q : Value → Shared → Prop} (hk : keepIn K f = true) (hall : (backToKw pos (keywordEach kws env)).all (·.1.isSome) = true)
    (h : wpAny M A (evalAll ((backToKw pos (keywordEach kws env)).map (·.2))) (fun ks s₂ => K.In s₂.heap ∧ wpN M A (call f (first ++ []) (((backToKw pos (keywordEach kws env)).filterMap (·.1)).zip ks)) Q E s₂) E s)
    (hplain : ((backTo pos (starEach [] env)).any (·.1) || (backToKw pos (keywordEach kws env)).any (·.1.isNone)) = false := by rfl) :
    wpN M A (callWith pos f first (backTo pos (starEach [] env)) (backToKw pos (keywordEach kws env))) Q E s :=
  n_callWith hplain (keeps_K hk) (wpN_any (evalArgs_kw2_nil hall h))
theorem n_cT {pos : Pos} {T : String} {first : List Value} {e : Expr} {rest : List Expr} {Q : Value → Shared → Prop}
    (h : wpAny M A (spliced (backTo pos (starEach (e :: rest) env))) (fun vs s₁ => wpN M A (call (.type T) (first ++ vs)) Q E s₁) E s)
    (he : starEach (e :: rest) env = (false, eval e env) :: starEach rest env := by rfl) (hplain : (backTo pos (starEach rest env)).any (·.1) = false := by rfl) :
    wpN M A (callWith pos (.type T) first (backTo pos (starEach (e :: rest) env)) []) Q E s := by
  rw [he] at h ⊢
  refine n_callWith (P := fun _ => True) (by show ((false || (backTo pos (starEach rest env)).any (·.1)) || false) = false; rw [hplain]; rfl) (fun h _ => ⟨.machine, .inr (.inl rfl), Looks.of_pure rfl⟩) (wpN_any (evalArgs_plain (wpAny_mono h (fun _ _ x => ⟨trivial, x⟩) fun _ _ x => x)))
end
end JaLaw
end
section
open PySem.Calls
open Sem (wp)
set_option Elab.async false
set_option maxRecDepth 100000
namespace JaLaw
section
variable {M : Model} {A : Around} {E : Value → Shared → Prop} {s : Shared} {env : Env} {K : Frag}
theorem n_expr {e : Expr} {pos : Pos} {Q : Flow → Shared → Prop} (h : wpN M A (eval e env) (fun v s' => match v with | .ref _ => False | _ => Q .next s') E s)
    (hi : interactive env = false := by rfl) (hs : swapsWith e none pos.line env = pure false := by rfl) : wpN M A (exec (.Expr e pos) env) Q E s := by
  rw [exec_Expr env e pos hi hs]
  refine nb (wpAny_standAt (wpN_bind (wpN_mono h (fun v s' h' => ?_) fun _ _ x => x)))
  have hv : ∀ a, v ≠ .ref a := fun a hva => by subst hva; exact h'
  rw [dropValue_plain hv]
  refine wpN_pure ?_
  cases v <;> first | exact h' | exact (hv _ rfl).elim
theorem n_method {o : Expr} {name : PySem.Str} {apos pos : Pos} {args : List Expr} {pl : Sem Bool} {Q : Value → Shared → Prop}
    (h : wpAny M A (eval o env) (fun ov s₁ => wpAny M A (getMethod ov name pl) (fun fx s₂ => wpN M A (callWith pos fx.1 fx.2 (backTo pos (starEach args env)) []) Q E s₂) E s₁) E s)
    (he : eval (.Call (.Attribute o name apos) args [] pos) env = (do
      let ov ← eval o env
      standAt apos.atName
      let (f, first) ← holding [ov] (getMethod ov name pl)
      callWith pos f first (backTo pos (starEach args env)) []) := by rfl) :
    wpN M A (eval (.Call (.Attribute o name apos) args [] pos) env) Q E s := by
  rw [he]
  refine nb (wpAny_mono h (fun ov s₁ h₁ => nb (wpAny_standAt (nb (wpAny_holding (wpAny_mono h₁ (fun fx s₂ h₂ => ?_) fun _ _ x => x))))) fun _ _ x => x)
  exact h₂
theorem n_spl_nil {pos : Pos} {Q : List Value → Shared → Prop} (h : Q [] s) : wpN M A (spliced (backTo pos (starEach [] env))) Q E s := wpN_pure h
theorem n_spl_cons {pos : Pos} {e : Expr} {rest : List Expr} {Q : List Value → Shared → Prop}
    (h : wpN M A (eval e env) (fun v s₁ => wpN M A (spliced (backTo pos (starEach rest env))) (fun vs s₂ => Q (v :: vs) s₂) E s₁) E s)
    (he : starEach (e :: rest) env = (false, eval e env) :: starEach rest env := by rfl) : wpN M A (spliced (backTo pos (starEach (e :: rest) env))) Q E s := by
  rw [he]
  show wpN M A (eval e env >>= fun v => pure [v] >>= fun here => holding here (spliced (backTo pos (starEach rest env))) >>= fun r => pure (here ++ r)) Q E s
  refine wpN_bind (wpN_mono h (fun v s₁ h₁ => ?_) fun _ _ x => x)
  refine nb (wpAny_pure ?_)
  refine wpN_bind (wpN_holding (wpN_mono h₁ (fun vs s₂ h₂ => wpN_pure h₂) fun _ _ x => x))
theorem n_args_plain {f : Value} {x : Sem Value} {rest : List (Bool × Sem Value)} {Q : Args → Shared → Prop}
    (h : wpN M A (spliced ((false, x) :: rest)) (fun vs s' => Q ⟨vs, []⟩ s') E s) : wpN M A (evalArgs f true ((false, x) :: rest) []) Q E s := by
  unfold evalArgs
  show wpN M A (spliced ((false, x) :: rest) >>= _) Q E s
  refine wpN_bind (wpN_mono h (fun vs s' h' => ?_) fun _ _ x => x)
  refine wpN_holding ?_
  exact nb (wpAny_pure (nb (wpAny_pure (wpN_pure h'))))
/-- a call of a def, one of its arguments calling so -/
theorem n_cWN {pos : Pos} {f : Value} {first : List Value} {e : Expr} {rest : List Expr} {Q : Value → Shared → Prop} (hk : keepIn K f = true)
    (h : wpN M A (spliced (backTo pos (starEach (e :: rest) env))) (fun vs s₁ => K.In s₁.heap ∧ wpN M A (call f (first ++ vs)) Q E s₁) E s)
    (he : starEach (e :: rest) env = (false, eval e env) :: starEach rest env := by rfl) (hplain : (backTo pos (starEach rest env)).any (·.1) = false := by rfl) :
    wpN M A (callWith pos f first (backTo pos (starEach (e :: rest) env)) []) Q E s := by
  rw [he] at h ⊢
  exact n_callWith (by show ((false || (backTo pos (starEach rest env)).any (·.1)) || false) = false; rw [hplain]; rfl) (keeps_K hk) (n_args_plain h)
end
end JaLaw
end
section
set_option Elab.async false
set_option maxRecDepth 100000
namespace JaLaw
theorem rowsJaTake0 : True := by
  k_with_none
  exact True.intro
theorem fillTake : PySem.Challenge.rw_ja0002_01.Holds → (JaLaw.K0 = JaLaw.K0) := by
  k_fill
  intro _; rfl
theorem rowsJaTake1 : True := by
  k_with "eval Name" => (k_here; (with_reducible show wpAny _ _ (eval (Expr.Name _ _) (envOf _ _ _ _ _)) _ _ _); k_dflt (first | (refine' ld ?k1 ?k2 ?_ ?k3 ?k4 ?k5; (case k4 => kernel_rfl!); (case k1 => with_reducible assumption); (case k2 => ((try dsimp only [List.reverse, List.reverseAux]); (repeat (first | with_reducible exact lk_hit | with_reducible exact lk_sto_hit | with_reducible exact lk_ite_hit | (with_reducible refine lk_sto_miss (by kernel_rfl!) ?_) | (with_reducible refine lk_ite_miss2 (by kernel_rfl!) ?_) | (with_reducible refine lk_miss (by kernel_rfl!) ?_) | with_reducible refine lk_rev ?_)))); (case k3 => kernel_rfl!); (case k5 => decide +kernel); k_whole) | (refine' name_K ?k0 ?k1 ?k2 ?k3 ?_ ?k4 ?k5 ?k6; (case k5 => kernel_rfl!); (case k0 => with_reducible assumption); (case k1 => with_reducible assumption); (case k2 => exact topRead_of (by with_reducible assumption)); (case k3 => k_is); (case k4 => kernel_rfl!); (case k6 => decide +kernel); k_whole) | (refine' name_B ?k0 ?k1 ?k2 ?k3 ?k4 ?k5 ?_ ?k6 ?k7 ?k8; (case k7 => kernel_rfl!); (case k0 => with_reducible assumption); (case k1 => with_reducible assumption); (case k2 => exact topRead_of (by with_reducible assumption)); (case k3 => k_is); (case k4 => boot_fast); (case k5 => decide); (case k6 => kernel_rfl!); (case k8 => decide +kernel); k_whole)))
  k_with "storeName" => (k_here; (try dsimp only); (with_reducible show wpAny _ _ (storeName (envOf _ _ _ _ _) _ _) _ _ _); k_dflt (refine' store_u ?k1 ?k2 ?_ ?k3 ?k4; (case k4 => kernel_rfl!); (case k3 => kernel_rfl!); (case k1 => with_reducible assumption); (case k2 => with_reducible assumption); k_whole); intro h' F' N'; (try k_sweep))
  k_with "exec Assign" => (k_here; k_fold)
  k_with "exec If" => (k_here; k_fold)
  exact True.intro
section
variable {w : World} {mean : ExcName → Option Value} {mg mb : PySem.Str → Option Value} {dp un : Nat} {gd : Option (List Code)} {cn : PySem.Str} {cs : Scope} {a : Addr} {ccd : Value} {cl : List (PySem.Str × Addr)} {outer : List Env} {A₀ : Around} {base h₀ : Heap} {L : Addr} {m : PySem.Str → Option Value} {s : Shared} {Q E : Value → Shared → Prop} {R : Result → Shared → Prop}
theorem fmod_in (x : Int) {y : Int} (h : 0 < y) : 0 ≤ Int.fmod x y ∧ Int.fmod x y < y := by
  rw [Int.fmod_eq_emod_of_nonneg _ (Int.le_of_lt h)]
  exact ⟨Int.emod_nonneg _ (Int.ne_of_gt h), Int.emod_lt_of_pos _ h⟩
theorem upd_old {d : Addr} {o o' : Obj} {news news' : List (Addr × Obj)} (U : Upd d o o' news news') : (d, o) ∈ news := by
  obtain ⟨pre, post, rfl, -, -, -⟩ := U.split
  simp
theorem news_one {h₀ h : Heap} {L : Addr} {p : Addr × Obj} {news : List (Addr × Obj)} (N : News h₀ L h news) (hm : p ∈ news) : News h₀ L h [p] := fun q hq => by
  rw [List.mem_singleton] at hq
  exact hq ▸ N p hm
/-- the draws' state: a list of the place and the cells -/
noncomputable abbrev stO (k : Int) (t : Tok) (c : Addr) (n : Nat) : Obj := listOf #[.int k t, .ref c] n
structure Cells (h : Heap) (st c : Addr) (ns : List Int) : Prop where
  ex : ∃ vs : List Value, h.IsList c vs.toArray ∧ IntsAre vs ns
  ne : c ≠ st
  pos : 0 < ns.length
  le : ns.length ≤ 63
theorem Cells.keeps {h h' : Heap} {st c : Addr} {ns : List Int} {ma : List Addr} (x : Cells h st c ns) (k : Keeps ma h h') (n : c ∉ ma) : Cells h' st c ns :=
  let ⟨vs, a, b⟩ := x.ex
  ⟨⟨vs, isList_kept k a n, b⟩, x.ne, x.pos, x.le⟩

set_option maxHeartbeats 8000000 in
theorem take_ct {st c : Addr} {t1 t2 : Tok} {at_ most : Int} {n : Nat} {ns : List Int} (B : Below A₀ base outer h₀) (F : Fr h₀ L s.heap m) (X : (K0 w.params).In h₀) (N : News h₀ L s.heap [(st, stO at_ t1 c n)]) (T : Top jP jL mean mg mb h₀) (hk : cs.kind = .function) (hd : dp + 1 < recursionLimit) (hu : un + 8 < cLine)
    (hC : Cells s.heap st c ns) (hat : 0 ≤ at_ ∧ at_ < 1000000) (hm : 0 < most)
    (hret : ∀ (r : Int) (t t' : Tok) (h' : Heap) (tk' : Nat), 0 ≤ r → r < most → Fr h₀ L h' m → h'.get? st = some (stO (at_ + 1) t' c n) → Keeps [st] s.heap h' → Q (.int r t) { s with heap := h', toks := tk' }) :
    wpAny (model jprog w) (ktrTop dp un gd cn cs L a ccd cl outer) (call (.ref 308) [.ref st, .int most t2]) Q E s := by
  obtain ⟨⟨vs, hc, hi⟩, hcn, hn1, hn2⟩ := hC
  refine wpAny_call ?_
  k_dflt (refine' enter_def (binds := [(Str.ofString "state", .ref st), (Str.ofString "most", .int most t2)]) ?k1 ?k2 ?k3 ?k4 ?k5 ?kA ?kF ?kK ?k6 ?k7 ?k8 ?k9 ?kB ?_ ?c2 ?c3 ?c4 ?c5; (case kA => exact rfl); (case kF => exact rfl); (case kK => assumption); (case k1 => k_asm); (case k2 => k_asm); (case k3 => k_asm); (case k4 => k_asm); (case k5 => k_asm); (case k6 => k_is); (case k7 => k_is); (case k8 => first | exact room0 hd | ktr_room); (case k9 => first | exact BindsTo.of_eq (by kernel_rfl!) | exact BindsTo.of_eq rfl | exact binds_K (by k_in) rfl (by k_is) rfl rfl rfl); (case c5 => decide); (case kB => exact locs rfl); (case c2 => exact rfl); (case c3 => exact rfl); (case c4 => exact rfl); k_whole; intro g' L' h' FG' F' N' B' X' T' hkp hge; (try dsimp only); k_fold)
  have hc' := isList_kept hkp hc (by simpa using hcn)
  k_steps
  all_goals (
    (rename Keeps _ _ _ => kK)
    (rename News _ _ _ _ => kN)
    exact hret _ _ _ _ _ (fmod_in _ hm).1 (fmod_in _ hm).2 (by assumption) (kN _ (.head _)).1 kK)
theorem take_full {st c : Addr} {t1 t2 : Tok} {at_ most : Int} {n : Nat} {ns : List Int} {news : List (Addr × Obj)} {news' : Tok → List (Addr × Obj)} (B : Below A₀ base outer h₀) (F : Fr h₀ L s.heap m) (X : (K0 w.params).In h₀) (N : News h₀ L s.heap news) (T : Top jP jL mean mg mb h₀) (hk : cs.kind = .function) (hd : dp + 1 < recursionLimit) (hu : un + 8 < cLine)
    (U : ∀ t', Upd st (stO at_ t1 c n) (stO (at_ + 1) t' c n) news (news' t'))
    (hC : Cells s.heap st c ns) (hat : 0 ≤ at_ ∧ at_ < 1000000) (hm : 0 < most)
    (hret : ∀ (r : Int) (t t' : Tok) (h' : Heap) (tk' : Nat), 0 ≤ r → r < most → Fr h₀ L h' m → News h₀ L h' (news' t') → Cells h' st c ns → Q (.int r t) { s with heap := h', toks := tk' }) :
    wpAny (model jprog w) (ktrTop dp un gd cn cs L a ccd cl outer) (call (.ref 308) [.ref st, .int most t2]) Q E s := by
  have N1 : News h₀ L s.heap [(st, stO at_ t1 c n)] := news_one N (upd_old (U 0))
  exact take_ct B F X N1 T hk hd hu hC hat hm fun r t t' h' tk' h0 h1 F' ho kp => hret r t t' h' tk' h0 h1 F' (news_upd1 N (U t') kp ho) (hC.keeps kp (by simpa using hC.ne))
end
end JaLaw
end
section
set_option Elab.async false
set_option maxRecDepth 100000
namespace JaLaw
/-! an exception in flight over the frames l, all of the ground G kept (frames but for their slots) -/
noncomputable def Rz (base G : Heap) (l : List Env) (e : Addr) (cls : Value) (h : Heap) : Prop :=
  (∃ B a0, base.StaysIn B ∧ (∀ b o, G.get? b = some o → b ∉ l.filterMap (·.frame) → B.get? b = some o) ∧ Heap.FlyingW B l e cls a0 h) ∧ G.UpToSlots h
/-- the same, noted once by the frame L -/
noncomputable def RzH (base G : Heap) (l : List Env) (e : Addr) (cls : Value) (L : Addr) (h : Heap) : Prop :=
  (∃ B a0, base.StaysIn B ∧ (∀ b o, G.get? b = some o → b ∉ l.filterMap (·.frame) → B.get? b = some o) ∧ Heap.HeldW B l e cls a0 L h) ∧ G.UpToSlots h
section
variable {M : Model} {A : Around} {E : Value → Shared → Prop} {s' : Shared} {base g g₂ h : Heap} {outer : List Env} {L a e : Addr} {m : PySem.Str → Option Value} {name : PySem.Str} {scope : Scope} {cd : Value} {Q : Unit → Shared → Prop} {news : List (Addr × Obj)} {cls : Value}
theorem rz_made {vs : List Value} (K : Below A base outer g) (hx : Heap.MadeExcOf h s'.heap e cls vs) (F : Fr g L h m) (N : News g L h news)
    (hQ : ∀ h', Rz base g outer e cls h' → Q () { s' with heap := h' }) (hk : scope.kind = .function := by rfl) :
    wpAny M (A.deeper (envOf name scope L a cd)) (leaving (envOf name scope L a cd) (.ref e)) Q E s' :=
  leave_raiseS K hx F N (fun h' _ R _ U => by
    obtain ⟨⟨B, hB, hG, _, hfl, _⟩, _⟩ := R
    exact hQ h' ⟨⟨B, _, hB, hG, hfl⟩, U⟩) hk
theorem made_of {X : String} {h h' : Heap} {vs : List Value} (x : Heap.MadeExc h h' e X vs) : Heap.MadeExcOf h h' e (.type X) vs := ⟨x.keeps, x.new, x.there⟩
theorem off_frames (F : Fr g L g₂ m) {b : Addr} {o : Obj} (q : g.get? b = some o) (nm : b ∉ outer.filterMap (·.frame)) : b ∉ (envOf name scope L a cd :: outer).filterMap (·.frame) := fun hm => by
  rcases kts_mem hm with z | z
  · rw [z, kts_self F] at q
    cases q
  · exact nm z
theorem rz_on (K : Below A base outer g) (F : Fr g L g₂ m) (R : Rz base g₂ (envOf name scope L a cd :: outer) e cls s'.heap)
    (hQ : ∀ h', Rz base g outer e cls h' → Q () { s' with heap := h' }) :
    wpAny M (A.deeper (envOf name scope L a cd)) (leaving (envOf name scope L a cd) (.ref e)) Q E s' := by
  obtain ⟨⟨B, a0, hB, hG, hfl⟩, hsm⟩ := R
  exact wpAny_leaves_onW (Around.frames_deeper K.stack) rfl hfl fun h' x1 x2 => hQ h' ⟨⟨B, a0, hB, fun b o q nm => hG b o (F.keep b o q) (off_frames F q nm), x1⟩, (Heap.UpToSlots.of_keeps F.keep).trans (hsm.trans x2)⟩
theorem rz_onH (K : Below A base outer g) (F : Fr g L g₂ m) (R : RzH base g₂ (envOf name scope L a cd :: outer) e cls L s'.heap)
    (hQ : ∀ h', Rz base g outer e cls h' → Q () { s' with heap := h' }) :
    wpAny M (A.deeper (envOf name scope L a cd)) (leaving (envOf name scope L a cd) (.ref e)) Q E s' := by
  obtain ⟨⟨B, a0, hB, hG, hh⟩, hsm⟩ := R
  unfold leaving
  refine wpAny_bind (wpAny_noteFrame_againW rfl hh.2.2.2 ?_)
  refine wpAny_landsW hh fun h' hfl x2 => ?_
  obtain ⟨k1, k2, ⟨_, _, k3⟩, k4⟩ := hfl
  exact hQ h' ⟨⟨B, a0, hB, fun b o q nm => hG b o (F.keep b o q) (off_frames F q nm), k1, k2, k3, k4⟩, (Heap.UpToSlots.of_keeps F.keep).trans (hsm.trans x2)⟩
/-- a loop's frame notes the exception as it passes -/
theorem rz_note (K : Below A base outer g) (R : Rz base g₂ (envOf name scope L a cd :: outer) e cls s'.heap)
    (hQ : ∀ h', RzH base g₂ (envOf name scope L a cd :: outer) e cls L h' → Q () { s' with heap := h' }) :
    wpAny M (A.deeper (envOf name scope L a cd)) (noteFrame (.ref e) (envOf name scope L a cd)) Q E s' := by
  obtain ⟨⟨B, a0, hB, hG, hfl⟩, hsm⟩ := R
  exact wpAny_looks_onW (Around.frames_deeper K.stack) rfl hfl fun h' x1 x2 => hQ h' ⟨⟨B, a0, hB, hG, x1⟩, hsm.trans x2⟩
theorem treesLot {x : Value} (h : Q () s') : wpAny M A (theTreesLotGoes x) Q E s' := by
  unfold theTreesLotGoes
  refine wpAny_bind (wpAny_stack fun st _ _ _ => ?_)
  exact wpAny_bind (wpAny_standAt (wpAny_bind (wpAny_holding (wpAny_point (wpAny_standAt h)))))
theorem Rz.base_sub {base' : Heap} {l : List Env} {h' : Heap} (R : Rz base' g l e cls h') (k : base.StaysIn base') : Rz base g l e cls h' := by
  obtain ⟨⟨B, a0, hB, hG, hfl⟩, hsm⟩ := R
  exact ⟨⟨B, a0, fun b o q => hB b o (k b o q), hG, hfl⟩, hsm⟩
end
end JaLaw
end
section
set_option Elab.async false
set_option maxRecDepth 100000
namespace JaLaw
theorem rowsJaBuf10 : True := by
  k_with_none
  k_with "sz" => (first | with_reducible assumption | ((try simp only [List.length_append, List.length_take, List.length_drop, List.length_cons, List.length_nil, toBE_length, List.length_replicate]); (first | lia | omega)))
  exact True.intro
theorem rowsJaBuf11 : True := by
  k_with "And" => ((with_reducible show Frag.In _ _ ∧ _); refine ⟨(by first | with_reducible assumption | exact Frag.In.keeps (by with_reducible assumption) (Fr.keep (by with_reducible assumption))), ?_⟩; try dsimp only [List.nil_append, List.cons_append])
  k_with "exec Raise some none" => (k_here; (with_reducible show wpAny _ _ (exec (Stmt.Raise (some (Expr.Call (Expr.Name (Str.ofString "ValueError") _) _ [] _)) none _) _) _ _ _); with_unfolding_all refine Raise_madeB PySem.F.excCall_ValueError PySem.F.excRaise_ValueError rfl (tp_builtin (v := .type "ValueError") (by with_reducible assumption) (by with_reducible assumption) PyProof.Rows.Boot.«ValueError» ⟨rfl, ?_⟩))
  k_with "eval Name" => (k_here; (with_reducible show wpAny _ _ (eval (Expr.Name _ _) (envOf _ _ _ _ _)) _ _ _); k_dflt (first | (refine' ld ?k1 ?k2 ?_ ?k3 ?k4 ?k5; (case k4 => kernel_rfl!); (case k1 => with_reducible assumption); (case k2 => ((try dsimp only [List.reverse, List.reverseAux]); (repeat (first | with_reducible exact lk_hit | with_reducible exact lk_sto_hit | with_reducible exact lk_ite_hit | (with_reducible refine lk_sto_miss (by kernel_rfl!) ?_) | (with_reducible refine lk_ite_miss2 (by kernel_rfl!) ?_) | (with_reducible refine lk_miss (by kernel_rfl!) ?_) | with_reducible refine lk_rev ?_)))); (case k3 => kernel_rfl!); (case k5 => decide +kernel); k_whole) | (refine' name_K ?k0 ?k1 ?k2 ?k3 ?_ ?k4 ?k5 ?k6; (case k5 => kernel_rfl!); (case k0 => with_reducible assumption); (case k1 => with_reducible assumption); (case k2 => exact topRead_of (by with_reducible assumption)); (case k3 => k_is); (case k4 => kernel_rfl!); (case k6 => decide +kernel); k_whole) | (refine' name_B ?k0 ?k1 ?k2 ?k3 ?k4 ?k5 ?_ ?k6 ?k7 ?k8; (case k7 => kernel_rfl!); (case k0 => with_reducible assumption); (case k1 => with_reducible assumption); (case k2 => exact topRead_of (by with_reducible assumption)); (case k3 => k_is); (case k4 => boot_fast); (case k5 => decide); (case k6 => kernel_rfl!); (case k8 => decide +kernel); k_whole)))
  k_with "storeName" => (k_here; (try dsimp only); (with_reducible show wpAny _ _ (storeName (envOf _ _ _ _ _) _ _) _ _ _); k_dflt (refine' store_u ?k1 ?k2 ?_ ?k3 ?k4; (case k4 => kernel_rfl!); (case k3 => kernel_rfl!); (case k1 => with_reducible assumption); (case k2 => with_reducible assumption); k_whole); intro h' F' N'; (try k_sweep))
  k_with "exec Assign" => (k_here; k_fold)
  k_with "exec If" => (k_here; k_fold)
  k_with "call builtin:len" => (k_here; (with_reducible show wpAny _ _ (call (Value.builtin "len") [Value.ref _]) _ _ _); k_dflt (refine' ba_len ?k1 ?k2 ?k3 ?_; (case k1 => k_asm); (case k2 => k_mem); (case k3 => (k_extra "sz")); k_whole); intro _ _)
  k_with "subscriptTail" => (k_here; (with_reducible show wpAny _ _ (subscriptTail _ (Expr.Slice _ _ none _) (Value.ref _) (Value.ref _)) _ _ _); (with_reducible rename Fr _ _ _ _ => F'); (with_reducible rename News _ _ _ _ => N'); k_dflt (first | (refine' ba_slice (s := ⟨_, _, _, _, _⟩) F' N' ?k1 (by constructor) (by constructor) ?k2 ?k3 ?_; (case k1 => k_mem); (case k2 => (k_extra "sz")); (case k3 => first | exact BA.picked_hi _ (by (first | lia | omega)) | exact BA.picked_lo _ (by (first | lia | omega)) | exact BA.picked_both _ (by (first | lia | omega)) (by (first | lia | omega))); k_whole)); intro y' h' F' N' l1; (try k_lt l1); (try k_sweep))
  k_with "subscriptTail" => (k_here; (with_reducible show wpAny _ _ (subscriptTail _ _ (Value.ref _) (Value.int _ _)) _ _ _); k_dflt (refine' ba_item ?k1 ?k2 ?k3 ?k4 ?k5 ?_; (case k1 => k_asm); (case k2 => k_mem); (case k3 => (first | lia | omega)); (case k4 => (first | lia | omega)); (case k5 => (first | lia | omega)); k_whole); intro _ _)
  k_with "call type:bytes" => (k_here; (with_reducible show wpAny _ _ (call (Value.type "bytes") [Value.ref _]) _ _ _); k_dflt (refine' bytes_ba ?k1 ?k2 ?k3 ?_; (case k1 => k_asm); (case k2 => k_mem); (case k3 => (k_extra "sz")); k_whole); intro _ _)
  k_with "leaving ref" => (k_here; first | (refine' rz_made ?k1 (made_of ?k0) ?k2 ?k3 ?_; (case k0 => assumption); (case k1 => assumption); (case k2 => assumption); (case k3 => k_asm); k_whole; intro h' R'; (try dsimp only at R' ⊢)) | (refine' rz_made ?k1 ?k0 ?k2 ?k3 ?_; (case k0 => assumption); (case k1 => assumption); (case k2 => assumption); (case k3 => k_asm); k_whole; intro h' R'; (try dsimp only at R' ⊢)) | (refine' rz_on ?k1 ?k2 ?k3 ?_; (case k3 => assumption); (case k1 => assumption); (case k2 => assumption); k_whole; intro h' R'; (try dsimp only at R' ⊢)) | (refine' rz_onH ?k1 ?k2 ?k3 ?_; (case k3 => assumption); (case k1 => assumption); (case k2 => assumption); k_whole; intro h' R'; (try dsimp only at R' ⊢)))
  exact True.intro

section
variable {w : World} {mean : ExcName → Option Value} {mg mb : PySem.Str → Option Value} {dp un : Nat} {gd : Option (List Code)} {cn : PySem.Str} {cs : Scope} {a : Addr} {ccd : Value} {cl : List (PySem.Str × Addr)} {outer : List Env} {A₀ : Around} {base h₀ : Heap} {L : Addr} {m : PySem.Str → Option Value} {s : Shared} {Q E : Value → Shared → Prop} {R : Result → Shared → Prop}
noncomputable abbrev bufD (P : Params) (k1 k2 : Tok) (ba : Addr) (p : Int) (t : Tok) : Obj :=
  dictOf [⟨PyData.keyHash P (Str.ofString "_octets"), .str (Str.ofString "_octets") k1, .ref ba⟩, ⟨PyData.keyHash P (Str.ofString "_place"), .str (Str.ofString "_place") k2, .int p t⟩] 2
variable {x dx ba : Addr} {k1 k2 tp : Tok} {p : Int} {l : List UInt8}
set_option maxHeartbeats 8000000 in
theorem eof_ct (B : Below A₀ base outer h₀) (F : Fr h₀ L s.heap m) (X : (K0 w.params).In h₀) (N : News h₀ L s.heap [(dx, bufD w.params k1 k2 ba p tp), (x, instObj 193 dx), (ba, baO l)]) (T : Top jP jL mean mg mb h₀) (hk : cs.kind = .function) (hd : dp + 1 < recursionLimit) (hu : un + 8 < cLine) (hl : l.length ≤ 100000)
    (hret : ∀ (h' : Heap) (tk' : Nat), Fr h₀ L h' m → Keeps [] s.heap h' → R (.ok (.ret (.bool (p == (l.length : Int))))) { s with heap := h', toks := tk' }) :
    codeAny (model jprog w) (ktrTop dp un gd cn cs L a ccd cl outer) (.call (.ref 92) ⟨[.ref x], []⟩) R s := by
  k_dflt (refine' enter_def (binds := [(Str.ofString "self", .ref x)]) ?k1 ?k2 ?k3 ?k4 ?k5 ?kA ?kF ?kK ?k6 ?k7 ?k8 ?k9 ?kB ?_ ?c2 ?c3 ?c4 ?c5; (case kA => exact rfl); (case kF => exact rfl); (case kK => assumption); (case k1 => k_asm); (case k2 => k_asm); (case k3 => k_asm); (case k4 => k_asm); (case k5 => k_asm); (case k6 => k_is); (case k7 => k_is); (case k8 => first | exact room0 hd | ktr_room); (case k9 => first | exact BindsTo.of_eq (by kernel_rfl!) | exact BindsTo.of_eq rfl | exact binds_K (by k_in) rfl (by k_is) rfl rfl rfl); (case c5 => decide); (case kB => exact locs rfl); (case c2 => exact rfl); (case c3 => exact rfl); (case c4 => exact rfl); k_whole; intro g' L' h' FG' F' N' B' X' T' hkp hge; (try dsimp only); k_fold)
  k_steps
  all_goals (
    (rename Keeps _ _ _ => kK)
    exact hret _ _ (by assumption) (keeps_less kK N (by assumption) (by repeat' (first | exact List.forall_mem_nil _ | (refine List.forall_mem_cons.mpr ⟨?_, ?_⟩) | exact Or.inl (by k_mem) | exact Or.inr (by k_mem)))))
set_option maxHeartbeats 8000000 in
theorem tell_ct (B : Below A₀ base outer h₀) (F : Fr h₀ L s.heap m) (X : (K0 w.params).In h₀) (N : News h₀ L s.heap [(dx, bufD w.params k1 k2 ba p tp), (x, instObj 193 dx)]) (T : Top jP jL mean mg mb h₀) (hk : cs.kind = .function) (hd : dp + 1 < recursionLimit) (hu : un + 8 < cLine)
    (hret : ∀ (h' : Heap) (tk' : Nat), Fr h₀ L h' m → Keeps [] s.heap h' → R (.ok (.ret (.int p tp))) { s with heap := h', toks := tk' }) :
    codeAny (model jprog w) (ktrTop dp un gd cn cs L a ccd cl outer) (.call (.ref 106) ⟨[.ref x], []⟩) R s := by
  k_dflt (refine' enter_def (binds := [(Str.ofString "self", .ref x)]) ?k1 ?k2 ?k3 ?k4 ?k5 ?kA ?kF ?kK ?k6 ?k7 ?k8 ?k9 ?kB ?_ ?c2 ?c3 ?c4 ?c5; (case kA => exact rfl); (case kF => exact rfl); (case kK => assumption); (case k1 => k_asm); (case k2 => k_asm); (case k3 => k_asm); (case k4 => k_asm); (case k5 => k_asm); (case k6 => k_is); (case k7 => k_is); (case k8 => first | exact room0 hd | ktr_room); (case k9 => first | exact BindsTo.of_eq (by kernel_rfl!) | exact BindsTo.of_eq rfl | exact binds_K (by k_in) rfl (by k_is) rfl rfl rfl); (case c5 => decide); (case kB => exact locs rfl); (case c2 => exact rfl); (case c3 => exact rfl); (case c4 => exact rfl); k_whole; intro g' L' h' FG' F' N' B' X' T' hkp hge; (try dsimp only); k_fold)
  k_steps
  all_goals (
    (rename Keeps _ _ _ => kK)
    exact hret _ _ (by assumption) (keeps_less kK N (by assumption) (by repeat' (first | exact List.forall_mem_nil _ | (refine List.forall_mem_cons.mpr ⟨?_, ?_⟩) | exact Or.inl (by k_mem) | exact Or.inr (by k_mem)))))

set_option maxHeartbeats 8000000 in
theorem cap_ct (B : Below A₀ base outer h₀) (F : Fr h₀ L s.heap m) (X : (K0 w.params).In h₀) (N : News h₀ L s.heap [(dx, bufD w.params k1 k2 ba p tp), (x, instObj 193 dx), (ba, baO l)]) (T : Top jP jL mean mg mb h₀) (hk : cs.kind = .function) (hd : dp + 1 < recursionLimit) (hu : un + 8 < cLine) (hl : l.length ≤ 100000)
    (hret : ∀ (t : Tok) (h' : Heap) (tk' : Nat), Fr h₀ L h' m → Keeps [] s.heap h' → R (.ok (.ret (.int (l.length : Nat) t))) { s with heap := h', toks := tk' }) :
    codeAny (model jprog w) (ktrTop dp un gd cn cs L a ccd cl outer) (.call (.ref 69) ⟨[.ref x], []⟩) R s := by
  k_dflt (refine' enter_def (binds := [(Str.ofString "self", .ref x)]) ?k1 ?k2 ?k3 ?k4 ?k5 ?kA ?kF ?kK ?k6 ?k7 ?k8 ?k9 ?kB ?_ ?c2 ?c3 ?c4 ?c5; (case kA => exact rfl); (case kF => exact rfl); (case kK => assumption); (case k1 => k_asm); (case k2 => k_asm); (case k3 => k_asm); (case k4 => k_asm); (case k5 => k_asm); (case k6 => k_is); (case k7 => k_is); (case k8 => first | exact room0 hd | ktr_room); (case k9 => first | exact BindsTo.of_eq (by kernel_rfl!) | exact BindsTo.of_eq rfl | exact binds_K (by k_in) rfl (by k_is) rfl rfl rfl); (case c5 => decide); (case kB => exact locs rfl); (case c2 => exact rfl); (case c3 => exact rfl); (case c4 => exact rfl); k_whole; intro g' L' h' FG' F' N' B' X' T' hkp hge; (try dsimp only); k_fold)
  k_steps
  all_goals (
    (rename Keeps _ _ _ => kK)
    exact hret _ _ _ (by assumption) (keeps_less kK N (by assumption) (by repeat' (first | exact List.forall_mem_nil _ | (refine List.forall_mem_cons.mpr ⟨?_, ?_⟩) | exact Or.inl (by k_mem) | exact Or.inr (by k_mem)))))
set_option maxHeartbeats 8000000 in
theorem data_ct (B : Below A₀ base outer h₀) (F : Fr h₀ L s.heap m) (X : (K0 w.params).In h₀) (N : News h₀ L s.heap [(dx, bufD w.params k1 k2 ba p tp), (x, instObj 193 dx), (ba, baO l)]) (T : Top jP jL mean mg mb h₀) (hk : cs.kind = .function) (hd : dp + 1 < recursionLimit) (hu : un + 8 < cLine) (hl : l.length ≤ 100000) (hp : 0 ≤ p)
    (hret : ∀ (t : Tok) (h' : Heap) (tk' : Nat), Fr h₀ L h' m → Keeps [] s.heap h' → R (.ok (.ret (.bytes (l.take p.toNat).toArray t))) { s with heap := h', toks := tk' }) :
    codeAny (model jprog w) (ktrTop dp un gd cn cs L a ccd cl outer) (.call (.ref 77) ⟨[.ref x], []⟩) R s := by
  k_dflt (refine' enter_def (binds := [(Str.ofString "self", .ref x)]) ?k1 ?k2 ?k3 ?k4 ?k5 ?kA ?kF ?kK ?k6 ?k7 ?k8 ?k9 ?kB ?_ ?c2 ?c3 ?c4 ?c5; (case kA => exact rfl); (case kF => exact rfl); (case kK => assumption); (case k1 => k_asm); (case k2 => k_asm); (case k3 => k_asm); (case k4 => k_asm); (case k5 => k_asm); (case k6 => k_is); (case k7 => k_is); (case k8 => first | exact room0 hd | ktr_room); (case k9 => first | exact BindsTo.of_eq (by kernel_rfl!) | exact BindsTo.of_eq rfl | exact binds_K (by k_in) rfl (by k_is) rfl rfl rfl); (case c5 => decide); (case kB => exact locs rfl); (case c2 => exact rfl); (case c3 => exact rfl); (case c4 => exact rfl); k_whole; intro g' L' h' FG' F' N' B' X' T' hkp hge; (try dsimp only); k_fold)
  k_steps
  all_goals (
    (rename Keeps _ _ _ => kK)
    exact hret _ _ _ (by assumption) (keeps_less kK N (by assumption) (by repeat' (first | exact List.forall_mem_nil _ | (refine List.forall_mem_cons.mpr ⟨?_, ?_⟩) | exact Or.inl (by k_mem) | exact Or.inr (by k_mem)))))
theorem take_drop_eq {l : List UInt8} {p n : Int} (hp : 0 ≤ p) (hn : 0 ≤ n) : (l.drop p.toNat).take ((p + n).toNat - p.toNat) = (l.drop p.toNat).take n.toNat := by
  congr 1
  (first | lia | omega)
set_option maxHeartbeats 8000000 in
theorem pull_ct {n : Int} {tn : Tok} (B : Below A₀ base outer h₀) (F : Fr h₀ L s.heap m) (X : (K0 w.params).In h₀) (N : News h₀ L s.heap [(dx, bufD w.params k1 k2 ba p tp), (x, instObj 193 dx), (ba, baO l)]) (T : Top jP jL mean mg mb h₀) (hk : cs.kind = .function) (hd : dp + 3 < recursionLimit) (hu : un + 16 < cLine) (hl : l.length ≤ 100000) (hp : 0 ≤ p ∧ p ≤ l.length) (hne : @Ne Nat dx x ∧ @Ne Nat dx ba ∧ @Ne Nat x ba)
    (hret : ∀ (t t' : Tok) (h' : Heap) (tk' : Nat), 0 ≤ n → p + n ≤ l.length → Fr h₀ L h' m → Keeps [dx] s.heap h' → h'.get? dx = some (bufD w.params k1 k2 ba (p + n) t') → R (.ok (.ret (.bytes ((l.drop p.toNat).take n.toNat).toArray t))) { s with heap := h', toks := tk' })
    (hraise : ∀ (e : Addr) (g h' : Heap) (tk' : Nat), n < 0 ∨ l.length < p + n → Fr h₀ L g m → Rz base g (envX cn cs L a ccd cl :: outer) e (.ref 31) h' → R (.error (.ref e)) { s with heap := h', toks := tk' }) :
    codeAny (model jprog w) (ktrTop dp un gd cn cs L a ccd cl outer) (.call (.ref 113) ⟨[.ref x, .int n tn], []⟩) R s := by
  k_dflt (refine' enter_def (binds := [(Str.ofString "self", .ref x), (Str.ofString "length", .int n tn)]) ?k1 ?k2 ?k3 ?k4 ?k5 ?kA ?kF ?kK ?k6 ?k7 ?k8 ?k9 ?kB ?_ ?c2 ?c3 ?c4 ?c5; (case kA => exact rfl); (case kF => exact rfl); (case kK => assumption); (case k1 => k_asm); (case k2 => k_asm); (case k3 => k_asm); (case k4 => k_asm); (case k5 => k_asm); (case k6 => k_is); (case k7 => k_is); (case k8 => first | exact room0 hd | ktr_room); (case k9 => first | exact BindsTo.of_eq (by kernel_rfl!) | exact BindsTo.of_eq rfl | exact binds_K (by k_in) rfl (by k_is) rfl rfl rfl); (case c5 => decide); (case kB => exact locs rfl); (case c2 => exact rfl); (case c3 => exact rfl); (case c4 => exact rfl); k_whole; intro g' L' h' FG' F' N' B' X' T' hkp hge; (try dsimp only); k_fold)
  k_steps
  all_goals first
    | exact hraise _ g' _ _ (by (first | lia | omega)) FG' (by assumption)
    | ((rename Keeps _ _ _ => kK)
       (rename News _ _ _ _ => kN)
       (rw [take_drop_eq hp.1 (by (first | lia | omega))])
       exact hret _ _ _ _ (by (first | lia | omega)) (by (first | lia | omega)) (by assumption) (keeps_less kK N (by assumption) (by repeat' (first | exact List.forall_mem_nil _ | (refine List.forall_mem_cons.mpr ⟨?_, ?_⟩) | exact Or.inl (by k_mem) | exact Or.inr (by k_mem)))) (kN.get (by k_mem)))
    | fail
end
end JaLaw
end
section
set_option Elab.async false
set_option maxRecDepth 100000
namespace JaLaw
theorem rowsJaBuf20 : True := by
  k_with_none
  k_with "sz" => (first | with_reducible assumption | ((try simp only [List.length_append, List.length_take, List.length_drop, List.length_cons, List.length_nil, toBE_length, List.length_replicate]); (first | lia | omega)))
  exact True.intro
theorem rowsJaBuf21 : True := by
  k_with "callWith ref" => (k_here; (with_reducible show wpAny _ _ (callWith _ (Value.ref _) _ (backTo _ (starEach [] _)) (backToKw _ (keywordEach (_ :: _) _))) _ _ _); k_dflt (refine' callWith_KW0 ?k1 ?k2 ?k3 ?_; (case k1 => with_reducible assumption); (case k2 => k_is); (case k3 => exact rfl); k_whole))
  k_with "callWith ref" => (k_here; (with_reducible show wpAny _ _ (callWith _ (Value.ref _) _ (backTo _ (starEach (_ :: _) _)) []) _ _ _); k_dflt (refine' callWith_K ?k1 ?k2 ?_; (case k1 => with_reducible assumption); (case k2 => k_is); k_whole))
  k_with "callWith ref" => (k_here; (with_reducible show wpAny _ _ (callWith _ (Value.ref _) _ (backTo _ (starEach [] _)) []) _ _ _); k_dflt (refine' callWith_K0 ?k1 ?k2 ?_; (case k1 => exact (by first | with_reducible assumption | exact Frag.In.keeps (by with_reducible assumption) (Fr.keep (by with_reducible assumption)))); (case k2 => k_is); k_whole))
  k_with "And" => ((with_reducible show Frag.In _ _ ∧ _); refine ⟨(by first | with_reducible assumption | exact Frag.In.keeps (by with_reducible assumption) (Fr.keep (by with_reducible assumption))), ?_⟩; try dsimp only [List.nil_append, List.cons_append])
  k_with "exec Raise some none" => (k_here; (with_reducible show wpAny _ _ (exec (Stmt.Raise (some (Expr.Call (Expr.Name (Str.ofString "ValueError") _) _ [] _)) none _) _) _ _ _); with_unfolding_all refine Raise_madeB PySem.F.excCall_ValueError PySem.F.excRaise_ValueError rfl (tp_builtin (v := .type "ValueError") (by with_reducible assumption) (by with_reducible assumption) PyProof.Rows.Boot.«ValueError» ⟨rfl, ?_⟩))
  k_with "eval Name" => (k_here; (with_reducible show wpAny _ _ (eval (Expr.Name _ _) (envOf _ _ _ _ _)) _ _ _); k_dflt (first | (refine' ld ?k1 ?k2 ?_ ?k3 ?k4 ?k5; (case k4 => kernel_rfl!); (case k1 => with_reducible assumption); (case k2 => ((try dsimp only [List.reverse, List.reverseAux]); (repeat (first | with_reducible exact lk_hit | with_reducible exact lk_sto_hit | with_reducible exact lk_ite_hit | (with_reducible refine lk_sto_miss (by kernel_rfl!) ?_) | (with_reducible refine lk_ite_miss2 (by kernel_rfl!) ?_) | (with_reducible refine lk_miss (by kernel_rfl!) ?_) | with_reducible refine lk_rev ?_)))); (case k3 => kernel_rfl!); (case k5 => decide +kernel); k_whole) | (refine' name_K ?k0 ?k1 ?k2 ?k3 ?_ ?k4 ?k5 ?k6; (case k5 => kernel_rfl!); (case k0 => with_reducible assumption); (case k1 => with_reducible assumption); (case k2 => exact topRead_of (by with_reducible assumption)); (case k3 => k_is); (case k4 => kernel_rfl!); (case k6 => decide +kernel); k_whole) | (refine' name_B ?k0 ?k1 ?k2 ?k3 ?k4 ?k5 ?_ ?k6 ?k7 ?k8; (case k7 => kernel_rfl!); (case k0 => with_reducible assumption); (case k1 => with_reducible assumption); (case k2 => exact topRead_of (by with_reducible assumption)); (case k3 => k_is); (case k4 => boot_fast); (case k5 => decide); (case k6 => kernel_rfl!); (case k8 => decide +kernel); k_whole)))
  k_with "storeName" => (k_here; (try dsimp only); (with_reducible show wpAny _ _ (storeName (envOf _ _ _ _ _) _ _) _ _ _); k_dflt (refine' store_u ?k1 ?k2 ?_ ?k3 ?k4; (case k4 => kernel_rfl!); (case k3 => kernel_rfl!); (case k1 => with_reducible assumption); (case k2 => with_reducible assumption); k_whole); intro h' F' N'; (try k_sweep))
  k_with "exec Assign" => (k_here; k_fold)
  k_with "exec If" => (k_here; k_fold)
  k_with "call builtin:len" => (k_here; (with_reducible show wpAny _ _ (call (Value.builtin "len") [Value.ref _]) _ _ _); k_dflt (refine' ba_len ?k1 ?k2 ?k3 ?_; (case k1 => k_asm); (case k2 => k_mem); (case k3 => (k_extra "sz")); k_whole); intro _ _)
  k_with "subscriptTail" => (k_here; (with_reducible show wpAny _ _ (subscriptTail _ (Expr.Slice _ _ none _) (Value.ref _) (Value.ref _)) _ _ _); (with_reducible rename Fr _ _ _ _ => F'); (with_reducible rename News _ _ _ _ => N'); k_dflt (first | (refine' ba_slice (s := ⟨_, _, _, _, _⟩) F' N' ?k1 (by constructor) (by constructor) ?k2 ?k3 ?_; (case k1 => k_mem); (case k2 => (k_extra "sz")); (case k3 => first | exact BA.picked_hi _ (by (first | lia | omega)) | exact BA.picked_lo _ (by (first | lia | omega)) | exact BA.picked_both _ (by (first | lia | omega)) (by (first | lia | omega))); k_whole)); intro y' h' F' N' l1; (try k_lt l1); (try k_sweep))
  k_with "subscriptTail" => (k_here; (with_reducible show wpAny _ _ (subscriptTail _ _ (Value.ref _) (Value.int _ _)) _ _ _); k_dflt (refine' ba_item ?k1 ?k2 ?k3 ?k4 ?k5 ?_; (case k1 => k_asm); (case k2 => k_mem); (case k3 => (first | lia | omega)); (case k4 => (first | lia | omega)); (case k5 => (first | lia | omega)); k_whole); intro _ _)
  k_with "call builtin:len" => (k_here; (with_reducible show wpAny _ _ (call (Value.builtin "len") [Value.bytes _ _]) _ _ _); k_dflt (refine bs_len (by (k_extra "sz")) ?_; intro _ _))
  k_with "subscriptTail" => (k_here; (with_reducible show wpAny _ _ (subscriptTail _ _ (Value.bytes _ _) (Value.int _ _)) _ _ _); k_dflt (refine bs_item (by (k_extra "sz")) (by (k_extra "sz")) (by (k_extra "sz")) ?_; intro _ _))
  k_with "subscriptTail" => (k_here; (with_reducible show wpAny _ _ (subscriptTail _ (Expr.Slice _ _ none _) (Value.bytes _ _) (Value.ref _)) _ _ _); (with_reducible rename Fr _ _ _ _ => F'); (with_reducible rename News _ _ _ _ => N'); k_dflt (refine' bs_slice (s := ⟨_, _, _, _, _⟩) F' N' (by constructor) (by constructor) (by (k_extra "sz")) ?k3 ?_; (case k3 => first | exact BA.picked_hi _ (by (first | lia | omega)) | exact BA.picked_lo _ (by (first | lia | omega)) | exact BA.picked_both _ (by (first | lia | omega)) (by (first | lia | omega))); k_whole; intro _ _ _ _ _))
  k_with "call ref" => (k_here; (with_reducible show wpAny _ _ (call (Value.ref _) [Value.bytes _ _, Value.str _ _]) _ _ _); kfb_any; k_dflt (refine fb_call (by k_asm) (by k_mem) (by (k_extra "sz")) ?_); intro _ _)
  k_with "leaving ref" => (k_here; first | (refine' rz_made ?k1 (made_of ?k0) ?k2 ?k3 ?_; (case k0 => assumption); (case k1 => assumption); (case k2 => assumption); (case k3 => k_asm); k_whole; intro h' R'; (try dsimp only at R' ⊢)) | (refine' rz_made ?k1 ?k0 ?k2 ?k3 ?_; (case k0 => assumption); (case k1 => assumption); (case k2 => assumption); (case k3 => k_asm); k_whole; intro h' R'; (try dsimp only at R' ⊢)) | (refine' rz_on ?k1 ?k2 ?k3 ?_; (case k3 => assumption); (case k1 => assumption); (case k2 => assumption); k_whole; intro h' R'; (try dsimp only at R' ⊢)) | (refine' rz_onH ?k1 ?k2 ?k3 ?_; (case k3 => assumption); (case k1 => assumption); (case k2 => assumption); k_whole; intro h' R'; (try dsimp only at R' ⊢)))
  exact True.intro

section
variable {w : World} {mean : ExcName → Option Value} {mg mb : PySem.Str → Option Value} {dp un : Nat} {gd : Option (List Code)} {cn : PySem.Str} {cs : Scope} {a : Addr} {ccd : Value} {cl : List (PySem.Str × Addr)} {outer : List Env} {A₀ : Around} {base h₀ : Heap} {L : Addr} {m : PySem.Str → Option Value} {s : Shared} {Q E : Value → Shared → Prop} {R : Result → Shared → Prop}
variable {x dx ba : Addr} {k1 k2 tp : Tok} {p : Int} {l : List UInt8} {news : List (Addr × Obj)} {news' : Tok → List (Addr × Obj)}
theorem sub3 {p q r : Addr × Obj} {news : List (Addr × Obj)} {h₀ h : Heap} {L : Addr} (N : News h₀ L h news) (hp : p ∈ news) (hq : q ∈ news) (hr : r ∈ news) : News h₀ L h [p, q, r] :=
  news_sub N (List.forall_mem_cons.mpr ⟨hp, List.forall_mem_cons.mpr ⟨hq, List.forall_mem_cons.mpr ⟨hr, List.forall_mem_nil _⟩⟩⟩)
theorem pull_full {n : Int} {tn : Tok} (B : Below A₀ base outer h₀) (F : Fr h₀ L s.heap m) (X : (K0 w.params).In h₀) (N : News h₀ L s.heap news) (T : Top jP jL mean mg mb h₀) (hk : cs.kind = .function) (hd : dp + 3 < recursionLimit) (hu : un + 16 < cLine) (hx : (x, instObj 193 dx) ∈ news) (hb : (ba, baO l) ∈ news) (U : ∀ t', Upd dx (bufD w.params k1 k2 ba p tp) (bufD w.params k1 k2 ba (p + n) t') news (news' t'))
    (hl : l.length ≤ 100000) (hp : 0 ≤ p ∧ p ≤ l.length) (hne : @Ne Nat dx x ∧ @Ne Nat dx ba ∧ @Ne Nat x ba)
    (hret : ∀ (t t' : Tok) (h' : Heap) (tk' : Nat), 0 ≤ n → p + n ≤ l.length → Fr h₀ L h' m → News h₀ L h' (news' t') → R (.ok (.ret (.bytes ((l.drop p.toNat).take n.toNat).toArray t))) { s with heap := h', toks := tk' })
    (hraise : ∀ (e : Addr) (g h' : Heap) (tk' : Nat), n < 0 ∨ l.length < p + n → Fr h₀ L g m → Rz base g (envX cn cs L a ccd cl :: outer) e (.ref 31) h' → R (.error (.ref e)) { s with heap := h', toks := tk' }) :
    codeAny (model jprog w) (ktrTop dp un gd cn cs L a ccd cl outer) (.call (.ref 113) ⟨[.ref x, .int n tn], []⟩) R s :=
  pull_ct B F X (sub3 N (upd_old (U 0)) hx hb) T hk hd hu hl hp hne (fun t t' h' tk' h0 h1 F' kp ho => hret t t' h' tk' h0 h1 F' (news_upd1 N (U t') kp ho)) hraise
theorem rowsJaBuf22 : True := by
  k_with "call ref" => (k_here; (with_reducible show wpAny _ _ (call (Value.ref 113) _) _ _ _); k_dflt ((refine wpAny_call ?_); (refine' pull_full ?k1 ?k2 ?k3 ?k4 ?k5 ?k6 ?k7 ?k8 ?kx ?kb ?ku ?kl ?kp ?kn ?_ ?_; (case k1 => k_asm); (case k2 => k_asm); (case k3 => k_asm); (case k4 => k_asm); (case k5 => k_asm); (case k6 => first | exact rfl | assumption); (case k7 => first | exact room1 hd rfl | exact room2 hd rfl | ktr_room); (case k8 => first | exact room1 hu rfl | exact room2 hu rfl | ktr_units); (case kx => k_mem); (case kb => k_mem); (case ku => intro _; k_upd); (case kl => (k_extra "sz")); (case kp => (k_extra "sz")); (case kn => first | with_reducible assumption | exact ⟨by k_ne, by k_ne, by k_ne⟩ | (first | lia | omega))); k_whole); (all_goals (first | (intro t' t2' h' tk' c0' c1' F' N'; (try dsimp only); (try k_sweep)) | (intro e' g2' h' tk' c' F2' R'; (try dsimp only)))))
  exact True.intro

theorem beV_one {l : List UInt8} (h : l.length = 1) : beV l < 256 := by
  have := beV_lt l
  rw [h] at this
  exact this
set_option maxHeartbeats 8000000 in
theorem pull8_ct (B : Below A₀ base outer h₀) (F : Fr h₀ L s.heap m) (X : (K0 w.params).In h₀) (N : News h₀ L s.heap [(dx, bufD w.params k1 k2 ba p tp), (x, instObj 193 dx), (ba, baO l)]) (T : Top jP jL mean mg mb h₀) (hk : cs.kind = .function) (hd : dp + 5 < recursionLimit) (hu : un + 24 < cLine) (hl : l.length ≤ 100000) (hp : 0 ≤ p ∧ p ≤ l.length) (hne : @Ne Nat dx x ∧ @Ne Nat dx ba ∧ @Ne Nat x ba)
    (hret : ∀ (t t' : Tok) (h' : Heap) (tk' : Nat), p + 1 ≤ l.length → Fr h₀ L h' m → Keeps [dx] s.heap h' → h'.get? dx = some (bufD w.params k1 k2 ba (p + 1) t') → R (.ok (.ret (.int (beV ((l.drop p.toNat).take 1) : Nat) t))) { s with heap := h', toks := tk' })
    (hraise : ∀ (e : Addr) (g h' : Heap) (tk' : Nat), l.length < p + 1 → Fr h₀ L g m → Rz base g (envX cn cs L a ccd cl :: outer) e (.ref 31) h' → R (.error (.ref e)) { s with heap := h', toks := tk' }) :
    codeAny (model jprog w) (ktrTop dp un gd cn cs L a ccd cl outer) (.call (.ref 120) ⟨[.ref x], []⟩) R s := by
  k_dflt (refine' enter_def (binds := [(Str.ofString "self", .ref x)]) ?k1 ?k2 ?k3 ?k4 ?k5 ?kA ?kF ?kK ?k6 ?k7 ?k8 ?k9 ?kB ?_ ?c2 ?c3 ?c4 ?c5; (case kA => exact rfl); (case kF => exact rfl); (case kK => assumption); (case k1 => k_asm); (case k2 => k_asm); (case k3 => k_asm); (case k4 => k_asm); (case k5 => k_asm); (case k6 => k_is); (case k7 => k_is); (case k8 => first | exact room0 hd | ktr_room); (case k9 => first | exact BindsTo.of_eq (by kernel_rfl!) | exact BindsTo.of_eq rfl | exact binds_K (by k_in) rfl (by k_is) rfl rfl rfl); (case c5 => decide); (case kB => exact locs rfl); (case c2 => exact rfl); (case c3 => exact rfl); (case c4 => exact rfl); k_whole; intro g' L' h' FG' F' N' B' X' T' hkp hge; (try dsimp only); k_fold)
  k_steps
  all_goals first
    | exact hraise _ g' _ _ (by (first | lia | omega)) FG' (by assumption)
    | ((rename Keeps _ _ _ => kK)
       (rename News _ _ _ _ => kN)
       exact hret _ _ _ _ (by (first | lia | omega)) (by assumption) (keeps_less kK N (by assumption) (by repeat' (first | exact List.forall_mem_nil _ | (refine List.forall_mem_cons.mpr ⟨?_, ?_⟩) | exact Or.inl (by k_mem) | exact Or.inr (by k_mem)))) (kN.get (by k_mem)))
    | fail
set_option maxHeartbeats 8000000 in
theorem pull32_ct (B : Below A₀ base outer h₀) (F : Fr h₀ L s.heap m) (X : (K0 w.params).In h₀) (N : News h₀ L s.heap [(dx, bufD w.params k1 k2 ba p tp), (x, instObj 193 dx), (ba, baO l)]) (T : Top jP jL mean mg mb h₀) (hk : cs.kind = .function) (hd : dp + 5 < recursionLimit) (hu : un + 24 < cLine) (hl : l.length ≤ 100000) (hp : 0 ≤ p ∧ p ≤ l.length) (hne : @Ne Nat dx x ∧ @Ne Nat dx ba ∧ @Ne Nat x ba)
    (hret : ∀ (t t' : Tok) (h' : Heap) (tk' : Nat), p + 4 ≤ l.length → Fr h₀ L h' m → Keeps [dx] s.heap h' → h'.get? dx = some (bufD w.params k1 k2 ba (p + 4) t') → R (.ok (.ret (.int (beV ((l.drop p.toNat).take 4) : Nat) t))) { s with heap := h', toks := tk' })
    (hraise : ∀ (e : Addr) (g h' : Heap) (tk' : Nat), l.length < p + 4 → Fr h₀ L g m → Rz base g (envX cn cs L a ccd cl :: outer) e (.ref 31) h' → R (.error (.ref e)) { s with heap := h', toks := tk' }) :
    codeAny (model jprog w) (ktrTop dp un gd cn cs L a ccd cl outer) (.call (.ref 134) ⟨[.ref x], []⟩) R s := by
  k_dflt (refine' enter_def (binds := [(Str.ofString "self", .ref x)]) ?k1 ?k2 ?k3 ?k4 ?k5 ?kA ?kF ?kK ?k6 ?k7 ?k8 ?k9 ?kB ?_ ?c2 ?c3 ?c4 ?c5; (case kA => exact rfl); (case kF => exact rfl); (case kK => assumption); (case k1 => k_asm); (case k2 => k_asm); (case k3 => k_asm); (case k4 => k_asm); (case k5 => k_asm); (case k6 => k_is); (case k7 => k_is); (case k8 => first | exact room0 hd | ktr_room); (case k9 => first | exact BindsTo.of_eq (by kernel_rfl!) | exact BindsTo.of_eq rfl | exact binds_K (by k_in) rfl (by k_is) rfl rfl rfl); (case c5 => decide); (case kB => exact locs rfl); (case c2 => exact rfl); (case c3 => exact rfl); (case c4 => exact rfl); k_whole; intro g' L' h' FG' F' N' B' X' T' hkp hge; (try dsimp only); k_fold)
  k_steps
  all_goals first
    | exact hraise _ g' _ _ (by (first | lia | omega)) FG' (by assumption)
    | ((rename Keeps _ _ _ => kK)
       (rename News _ _ _ _ => kN)
       exact hret _ _ _ _ (by (first | lia | omega)) (by assumption) (keeps_less kK N (by assumption) (by repeat' (first | exact List.forall_mem_nil _ | (refine List.forall_mem_cons.mpr ⟨?_, ?_⟩) | exact Or.inl (by k_mem) | exact Or.inr (by k_mem)))) (kN.get (by k_mem)))
    | fail
theorem two6 (c : UInt8) : c.toNat / 2 ^ 6 ≤ 3 ∧ 2 ^ (c.toNat / 2 ^ 6) ≤ 8 := by
  have h := c.toNat_lt
  have h3 : c.toNat / 2 ^ 6 ≤ 3 := by (first | lia | omega)
  exact ⟨h3, Nat.le_trans (Nat.pow_le_pow_right (by decide) h3) (by decide)⟩
theorem rowsJaBuf23 : True := by
  k_with "binaryOp RShift int int" => (k_here; k_dflt (refine int_shr (k := 6) rfl rfl ?_; intro _ _))
  k_with "binaryOp LShift int int" => (k_here; k_dflt (first | (refine int_shl1 rfl (by (first | lia | omega)) ?_; intro _ _) | (refine int_shl1 (var_exp _) (by (first | lia | omega)) ?_; intro _ _)))
  k_with "binaryOp Mult int int" => (k_here; k_dflt (refine mul_int ?_ (IntMulOk.of_left (by decide))))
  k_with "binaryOp BitAnd int int" => (k_here; k_dflt (refine int_mask rfl (one_shl _) ?_; intro _ _))
  exact True.intro
set_option maxHeartbeats 8000000 in
theorem pullv_ct (B : Below A₀ base outer h₀) (F : Fr h₀ L s.heap m) (X : (K0 w.params).In h₀) (N : News h₀ L s.heap [(dx, bufD w.params k1 k2 ba p tp), (x, instObj 193 dx), (ba, baO l)]) (T : Top jP jL mean mg mb h₀) (hk : cs.kind = .function) (hd : dp + 5 < recursionLimit) (hu : un + 24 < cLine) (hl : l.length ≤ 100000) (hp : 0 ≤ p ∧ p ≤ l.length) (hne : @Ne Nat dx x ∧ @Ne Nat dx ba ∧ @Ne Nat x ba)
    (hret : ∀ (t t' : Tok) (h' : Heap) (tk' : Nat), p < l.length → p + (2 ^ ((l.getD p.toNat 0).toNat / 2 ^ 6) : Nat) ≤ l.length → Fr h₀ L h' m → Keeps [dx] s.heap h' → h'.get? dx = some (bufD w.params k1 k2 ba (p + (2 ^ ((l.getD p.toNat 0).toNat / 2 ^ 6) : Nat)) t') →
      R (.ok (.ret (.int (beV ((l.drop p.toNat).take (2 ^ ((l.getD p.toNat 0).toNat / 2 ^ 6))) % 2 ^ (8 * 2 ^ ((l.getD p.toNat 0).toNat / 2 ^ 6) - 2) : Nat) t))) { s with heap := h', toks := tk' })
    (hraise : ∀ (e : Addr) (g h' : Heap) (tk' : Nat), l.length ≤ p ∨ l.length < p + (2 ^ ((l.getD p.toNat 0).toNat / 2 ^ 6) : Nat) → Fr h₀ L g m → Rz base g (envX cn cs L a ccd cl :: outer) e (.ref 31) h' → R (.error (.ref e)) { s with heap := h', toks := tk' }) :
    codeAny (model jprog w) (ktrTop dp un gd cn cs L a ccd cl outer) (.call (.ref 148) ⟨[.ref x], []⟩) R s := by
  have hk := two6 (l.getD p.toNat 0)
  k_dflt (refine' enter_def (binds := [(Str.ofString "self", .ref x)]) ?k1 ?k2 ?k3 ?k4 ?k5 ?kA ?kF ?kK ?k6 ?k7 ?k8 ?k9 ?kB ?_ ?c2 ?c3 ?c4 ?c5; (case kA => exact rfl); (case kF => exact rfl); (case kK => assumption); (case k1 => k_asm); (case k2 => k_asm); (case k3 => k_asm); (case k4 => k_asm); (case k5 => k_asm); (case k6 => k_is); (case k7 => k_is); (case k8 => first | exact room0 hd | ktr_room); (case k9 => first | exact BindsTo.of_eq (by kernel_rfl!) | exact BindsTo.of_eq rfl | exact binds_K (by k_in) rfl (by k_is) rfl rfl rfl); (case c5 => decide); (case kB => exact locs rfl); (case c2 => exact rfl); (case c3 => exact rfl); (case c4 => exact rfl); k_whole; intro g' L' h' FG' F' N' B' X' T' hkp hge; (try dsimp only); k_fold)
  k_steps
  all_goals first
    | exact hraise _ g' _ _ (by (first | lia | omega)) FG' (by assumption)
    | exact hraise _ g' _ _ ((by assumption : _ ∨ _).elim (fun z => absurd z (Int.not_lt.mpr (Int.natCast_nonneg _))) .inr) FG' (by assumption)
    | ((rename Keeps _ _ _ => kK)
       (rename News _ _ _ _ => kN)
       exact hret _ _ _ _ (by (first | lia | omega)) (by (first | lia | omega)) (by assumption) (keeps_less kK N (by assumption) (by repeat' (first | exact List.forall_mem_nil _ | (refine List.forall_mem_cons.mpr ⟨?_, ?_⟩) | exact Or.inl (by k_mem) | exact Or.inr (by k_mem)))) (kN.get (by k_mem)))
    | fail
end
end JaLaw
end
section
set_option Elab.async false
set_option maxRecDepth 100000
namespace JaLaw
theorem rowsJaBuf30 : True := by
  k_with_none
  k_with "sz" => (first | with_reducible assumption | ((try simp only [List.length_append, List.length_take, List.length_drop, List.length_cons, List.length_nil, toBE_length, List.length_replicate]); (first | lia | omega)))
  exact True.intro
theorem rowsJaBuf31 : True := by
  k_with "eval Name" => (k_here; (with_reducible show wpAny _ _ (eval (Expr.Name _ _) (envOf _ _ _ _ _)) _ _ _); k_dflt (first | (refine' ld ?k1 ?k2 ?_ ?k3 ?k4 ?k5; (case k4 => kernel_rfl!); (case k1 => with_reducible assumption); (case k2 => ((try dsimp only [List.reverse, List.reverseAux]); (repeat (first | with_reducible exact lk_hit | with_reducible exact lk_sto_hit | with_reducible exact lk_ite_hit | (with_reducible refine lk_sto_miss (by kernel_rfl!) ?_) | (with_reducible refine lk_ite_miss2 (by kernel_rfl!) ?_) | (with_reducible refine lk_miss (by kernel_rfl!) ?_) | with_reducible refine lk_rev ?_)))); (case k3 => kernel_rfl!); (case k5 => decide +kernel); k_whole) | (refine' name_K ?k0 ?k1 ?k2 ?k3 ?_ ?k4 ?k5 ?k6; (case k5 => kernel_rfl!); (case k0 => with_reducible assumption); (case k1 => with_reducible assumption); (case k2 => exact topRead_of (by with_reducible assumption)); (case k3 => k_is); (case k4 => kernel_rfl!); (case k6 => decide +kernel); k_whole) | (refine' name_B ?k0 ?k1 ?k2 ?k3 ?k4 ?k5 ?_ ?k6 ?k7 ?k8; (case k7 => kernel_rfl!); (case k0 => with_reducible assumption); (case k1 => with_reducible assumption); (case k2 => exact topRead_of (by with_reducible assumption)); (case k3 => k_is); (case k4 => boot_fast); (case k5 => decide); (case k6 => kernel_rfl!); (case k8 => decide +kernel); k_whole)))
  k_with "storeName" => (k_here; (try dsimp only); (with_reducible show wpAny _ _ (storeName (envOf _ _ _ _ _) _ _) _ _ _); k_dflt (refine' store_u ?k1 ?k2 ?_ ?k3 ?k4; (case k4 => kernel_rfl!); (case k3 => kernel_rfl!); (case k1 => with_reducible assumption); (case k2 => with_reducible assumption); k_whole); intro h' F' N'; (try k_sweep))
  k_with "exec Assign" => (k_here; k_fold)
  k_with "exec If" => (k_here; k_fold)
  k_with "call builtin:len" => (k_here; (with_reducible show wpAny _ _ (call (Value.builtin "len") [Value.ref _]) _ _ _); k_dflt (refine' ba_len ?k1 ?k2 ?k3 ?_; (case k1 => k_asm); (case k2 => k_mem); (case k3 => (k_extra "sz")); k_whole); intro _ _)
  k_with "subscriptTail" => (k_here; (with_reducible show wpAny _ _ (subscriptTail _ (Expr.Slice _ _ none _) (Value.ref _) (Value.ref _)) _ _ _); (with_reducible rename Fr _ _ _ _ => F'); (with_reducible rename News _ _ _ _ => N'); k_dflt (first | (refine' ba_slice (s := ⟨_, _, _, _, _⟩) F' N' ?k1 (by constructor) (by constructor) ?k2 ?k3 ?_; (case k1 => k_mem); (case k2 => (k_extra "sz")); (case k3 => first | exact BA.picked_hi _ (by (first | lia | omega)) | exact BA.picked_lo _ (by (first | lia | omega)) | exact BA.picked_both _ (by (first | lia | omega)) (by (first | lia | omega))); k_whole)); intro y' h' F' N' l1; (try k_lt l1); (try k_sweep))
  k_with "subscriptTail" => (k_here; (with_reducible show wpAny _ _ (subscriptTail _ _ (Value.ref _) (Value.int _ _)) _ _ _); k_dflt (refine' ba_item ?k1 ?k2 ?k3 ?k4 ?k5 ?_; (case k1 => k_asm); (case k2 => k_mem); (case k3 => (first | lia | omega)); (case k4 => (first | lia | omega)); (case k5 => (first | lia | omega)); k_whole); intro _ _)
  k_with "binaryOp Add" => (k_here; (with_reducible show wpAny _ _ (binaryOp _ (Value.ref _) (Value.bytes _ _)) _ _ _); k_dflt (refine' ba_add_bytes ?k1 ?k2 ?k3 ?k4 ?_; (case k1 => k_asm); (case k2 => k_asm); (case k3 => k_mem); (case k4 => (k_extra "sz")); k_whole); intro y' h' F' N' l1; (try k_lt l1); (try k_sweep))
  k_with "binaryOp Add" => (k_here; (with_reducible show wpAny _ _ (binaryOp _ (Value.ref _) (Value.ref _)) _ _ _); k_dflt (refine' ba_add_ba ?k1 ?k2 ?k3 ?k5 ?k4 ?_; (case k1 => k_asm); (case k2 => k_asm); (case k3 => k_mem); (case k5 => k_mem); (case k4 => (k_extra "sz")); k_whole); intro y' h' F' N' l1; (try k_lt l1); (try k_sweep))
  k_with "call builtin:len" => (k_here; (with_reducible show wpAny _ _ (call (Value.builtin "len") [Value.bytes _ _]) _ _ _); k_dflt (refine bs_len (by (k_extra "sz")) ?_; intro _ _))
  k_with "subscriptTail" => (k_here; (with_reducible show wpAny _ _ (subscriptTail _ _ (Value.bytes _ _) (Value.int _ _)) _ _ _); k_dflt (refine bs_item (by (k_extra "sz")) (by (k_extra "sz")) (by (k_extra "sz")) ?_; intro _ _))
  k_with "subscriptTail" => (k_here; (with_reducible show wpAny _ _ (subscriptTail _ (Expr.Slice _ _ none _) (Value.bytes _ _) (Value.ref _)) _ _ _); (with_reducible rename Fr _ _ _ _ => F'); (with_reducible rename News _ _ _ _ => N'); k_dflt (refine' bs_slice (s := ⟨_, _, _, _, _⟩) F' N' (by constructor) (by constructor) (by (k_extra "sz")) ?k3 ?_; (case k3 => first | exact BA.picked_hi _ (by (first | lia | omega)) | exact BA.picked_lo _ (by (first | lia | omega)) | exact BA.picked_both _ (by (first | lia | omega)) (by (first | lia | omega))); k_whole; intro _ _ _ _ _))
  exact True.intro

section
variable {w : World} {mean : ExcName → Option Value} {mg mb : PySem.Str → Option Value} {dp un : Nat} {gd : Option (List Code)} {cn : PySem.Str} {cs : Scope} {a : Addr} {ccd : Value} {cl : List (PySem.Str × Addr)} {outer : List Env} {A₀ : Around} {base h₀ : Heap} {L : Addr} {m : PySem.Str → Option Value} {s : Shared} {Q E : Value → Shared → Prop} {R : Result → Shared → Prop}
variable {x dx ba : Addr} {k1 k2 tp : Tok} {p : Int} {l r : List UInt8} {news : List (Addr × Obj)} {news' : Tok → List (Addr × Obj)}
set_option maxHeartbeats 8000000 in
theorem seek_ct {q : Int} {tq : Tok} (B : Below A₀ base outer h₀) (F : Fr h₀ L s.heap m) (X : (K0 w.params).In h₀) (N : News h₀ L s.heap [(dx, bufD w.params k1 k2 ba p tp), (x, instObj 193 dx), (ba, baO l)]) (T : Top jP jL mean mg mb h₀) (hk : cs.kind = .function) (hd : dp + 1 < recursionLimit) (hu : un + 8 < cLine) (hl : l.length ≤ 100000) (hq : 0 ≤ q ∧ q ≤ l.length) (hne : @Ne Nat dx x ∧ @Ne Nat dx ba ∧ @Ne Nat x ba)
    (hret : ∀ (h' : Heap) (tk' : Nat), Fr h₀ L h' m → Keeps [dx] s.heap h' → h'.get? dx = some (bufD w.params k1 k2 ba q tq) → R (.ok (.ret .none)) { s with heap := h', toks := tk' }) :
    codeAny (model jprog w) (ktrTop dp un gd cn cs L a ccd cl outer) (.call (.ref 99) ⟨[.ref x, .int q tq], []⟩) R s := by
  k_dflt (refine' enter_def (binds := [(Str.ofString "self", .ref x), (Str.ofString "pos", .int q tq)]) ?k1 ?k2 ?k3 ?k4 ?k5 ?kA ?kF ?kK ?k6 ?k7 ?k8 ?k9 ?kB ?_ ?c2 ?c3 ?c4 ?c5; (case kA => exact rfl); (case kF => exact rfl); (case kK => assumption); (case k1 => k_asm); (case k2 => k_asm); (case k3 => k_asm); (case k4 => k_asm); (case k5 => k_asm); (case k6 => k_is); (case k7 => k_is); (case k8 => first | exact room0 hd | ktr_room); (case k9 => first | exact BindsTo.of_eq (by kernel_rfl!) | exact BindsTo.of_eq rfl | exact binds_K (by k_in) rfl (by k_is) rfl rfl rfl); (case c5 => decide); (case kB => exact locs rfl); (case c2 => exact rfl); (case c3 => exact rfl); (case c4 => exact rfl); k_whole; intro g' L' h' FG' F' N' B' X' T' hkp hge; (try dsimp only); k_fold)
  k_steps
  all_goals first
    | (exfalso; (first | lia | omega))
    | ((rename Keeps _ _ _ => kK)
       (rename News _ _ _ _ => kN)
       exact hret _ _ (by assumption) (keeps_less kK N (by assumption) (by repeat' (first | exact List.forall_mem_nil _ | (refine List.forall_mem_cons.mpr ⟨?_, ?_⟩) | exact Or.inl (by k_mem) | exact Or.inr (by k_mem)))) (kN.get (by k_mem)))
    | fail
set_option maxHeartbeats 8000000 in
theorem push_ct {tr : Tok} (B : Below A₀ base outer h₀) (F : Fr h₀ L s.heap m) (X : (K0 w.params).In h₀) (N : News h₀ L s.heap [(dx, bufD w.params k1 k2 ba p tp), (x, instObj 193 dx), (ba, baO l)]) (T : Top jP jL mean mg mb h₀) (hk : cs.kind = .function) (hd : dp + 1 < recursionLimit) (hu : un + 8 < cLine) (hl : l.length ≤ 100000) (hp : 0 ≤ p) (hr : p + r.length ≤ l.length) (hne : @Ne Nat dx x ∧ @Ne Nat dx ba ∧ @Ne Nat x ba)
    (hret : ∀ (ba' : Addr) (t' : Tok) (h' : Heap) (tk' : Nat), s.heap.get? ba' = none → Fr h₀ L h' m → Keeps [dx] s.heap h' → h'.get? dx = some (bufD w.params k1 k2 ba' (p + r.length) t') → h'.get? ba' = some (baO (l.take p.toNat ++ r ++ l.drop (p.toNat + r.length))) → R (.ok (.ret .none)) { s with heap := h', toks := tk' }) :
    codeAny (model jprog w) (ktrTop dp un gd cn cs L a ccd cl outer) (.call (.ref 155) ⟨[.ref x, .bytes r.toArray tr], []⟩) R s := by
  k_dflt (refine' enter_def (binds := [(Str.ofString "self", .ref x), (Str.ofString "value", .bytes r.toArray tr)]) ?k1 ?k2 ?k3 ?k4 ?k5 ?kA ?kF ?kK ?k6 ?k7 ?k8 ?k9 ?kB ?_ ?c2 ?c3 ?c4 ?c5; (case kA => exact rfl); (case kF => exact rfl); (case kK => assumption); (case k1 => k_asm); (case k2 => k_asm); (case k3 => k_asm); (case k4 => k_asm); (case k5 => k_asm); (case k6 => k_is); (case k7 => k_is); (case k8 => first | exact room0 hd | ktr_room); (case k9 => first | exact BindsTo.of_eq (by kernel_rfl!) | exact BindsTo.of_eq rfl | exact binds_K (by k_in) rfl (by k_is) rfl rfl rfl); (case c5 => decide); (case kB => exact locs rfl); (case c2 => exact rfl); (case c3 => exact rfl); (case c4 => exact rfl); k_whole; intro g' L' h' FG' F' N' B' X' T' hkp hge; (try dsimp only); k_fold)
  k_steps
  all_goals first
    | (exfalso; (first | lia | omega))
    | ((rename Keeps _ _ _ => kK)
       (rename News g' _ _ _ => kI)
       (rename News h₀ _ _ _ => kN)
       (rw [show (p + (r.length : Int)).toNat = p.toNat + r.length by (first | lia | omega)] at kN kI)
       exact hret _ _ _ _ (fresh_in hkp (kI _ (.head _)).2.2 (by simp only [AllLt, and_true]; (first | lia | omega))) (by assumption) (keeps_less kK N (by assumption) (by repeat' (first | exact List.forall_mem_nil _ | (refine List.forall_mem_cons.mpr ⟨?_, ?_⟩) | exact Or.inl (by k_mem) | exact Or.inr (by k_mem)))) (kN.get (by k_mem)) (kN.get (by k_mem)))
    | fail
end
end JaLaw
end
section
set_option Elab.async false
set_option maxRecDepth 100000
namespace JaLaw
section
variable {w : World} {mean : ExcName → Option Value} {mg mb : PySem.Str → Option Value} {dp un : Nat} {gd : Option (List Code)} {cn : PySem.Str} {cs : Scope} {a : Addr} {ccd : Value} {cl : List (PySem.Str × Addr)} {outer : List Env} {A₀ : Around} {base h₀ : Heap} {L : Addr} {m : PySem.Str → Option Value} {s : Shared} {Q E : Value → Shared → Prop} {R : Result → Shared → Prop}
variable {x dx ba : Addr} {k1 k2 tp : Tok} {p : Int} {l r : List UInt8} {news : List (Addr × Obj)} {news' : Tok → List (Addr × Obj)} {news2 : Addr → Tok → List (Addr × Obj)}
theorem sub2 {p q : Addr × Obj} {news : List (Addr × Obj)} {h₀ h : Heap} {L : Addr} (N : News h₀ L h news) (hp : p ∈ news) (hq : q ∈ news) : News h₀ L h [p, q] :=
  news_sub N (List.forall_mem_cons.mpr ⟨hp, List.forall_mem_cons.mpr ⟨hq, List.forall_mem_nil _⟩⟩)
theorem eof_full (B : Below A₀ base outer h₀) (F : Fr h₀ L s.heap m) (X : (K0 w.params).In h₀) (N : News h₀ L s.heap news) (T : Top jP jL mean mg mb h₀) (hk : cs.kind = .function) (hd : dp + 1 < recursionLimit) (hu : un + 8 < cLine) (hd' : (dx, bufD w.params k1 k2 ba p tp) ∈ news) (hx : (x, instObj 193 dx) ∈ news) (hb : (ba, baO l) ∈ news) (hl : l.length ≤ 100000)
    (hret : ∀ (h' : Heap) (tk' : Nat), Fr h₀ L h' m → News h₀ L h' news → R (.ok (.ret (.bool (p == (l.length : Int))))) { s with heap := h', toks := tk' }) :
    codeAny (model jprog w) (ktrTop dp un gd cn cs L a ccd cl outer) (.call (.ref 92) ⟨[.ref x], []⟩) R s :=
  eof_ct B F X (sub3 N hd' hx hb) T hk hd hu hl fun h' tk' F' kp => hret h' tk' F' (news_keep N kp)
theorem tell_full (B : Below A₀ base outer h₀) (F : Fr h₀ L s.heap m) (X : (K0 w.params).In h₀) (N : News h₀ L s.heap news) (T : Top jP jL mean mg mb h₀) (hk : cs.kind = .function) (hd : dp + 1 < recursionLimit) (hu : un + 8 < cLine) (hd' : (dx, bufD w.params k1 k2 ba p tp) ∈ news) (hx : (x, instObj 193 dx) ∈ news)
    (hret : ∀ (h' : Heap) (tk' : Nat), Fr h₀ L h' m → News h₀ L h' news → R (.ok (.ret (.int p tp))) { s with heap := h', toks := tk' }) :
    codeAny (model jprog w) (ktrTop dp un gd cn cs L a ccd cl outer) (.call (.ref 106) ⟨[.ref x], []⟩) R s :=
  tell_ct B F X (sub2 N hd' hx) T hk hd hu fun h' tk' F' kp => hret h' tk' F' (news_keep N kp)
theorem cap_full (B : Below A₀ base outer h₀) (F : Fr h₀ L s.heap m) (X : (K0 w.params).In h₀) (N : News h₀ L s.heap news) (T : Top jP jL mean mg mb h₀) (hk : cs.kind = .function) (hd : dp + 1 < recursionLimit) (hu : un + 8 < cLine) (hd' : (dx, bufD w.params k1 k2 ba p tp) ∈ news) (hx : (x, instObj 193 dx) ∈ news) (hb : (ba, baO l) ∈ news) (hl : l.length ≤ 100000)
    (hret : ∀ (t : Tok) (h' : Heap) (tk' : Nat), Fr h₀ L h' m → News h₀ L h' news → R (.ok (.ret (.int (l.length : Nat) t))) { s with heap := h', toks := tk' }) :
    codeAny (model jprog w) (ktrTop dp un gd cn cs L a ccd cl outer) (.call (.ref 69) ⟨[.ref x], []⟩) R s :=
  cap_ct B F X (sub3 N hd' hx hb) T hk hd hu hl fun t h' tk' F' kp => hret t h' tk' F' (news_keep N kp)
theorem data_full (B : Below A₀ base outer h₀) (F : Fr h₀ L s.heap m) (X : (K0 w.params).In h₀) (N : News h₀ L s.heap news) (T : Top jP jL mean mg mb h₀) (hk : cs.kind = .function) (hd : dp + 1 < recursionLimit) (hu : un + 8 < cLine) (hd' : (dx, bufD w.params k1 k2 ba p tp) ∈ news) (hx : (x, instObj 193 dx) ∈ news) (hb : (ba, baO l) ∈ news) (hl : l.length ≤ 100000) (hp : 0 ≤ p)
    (hret : ∀ (t : Tok) (h' : Heap) (tk' : Nat), Fr h₀ L h' m → News h₀ L h' news → R (.ok (.ret (.bytes (l.take p.toNat).toArray t))) { s with heap := h', toks := tk' }) :
    codeAny (model jprog w) (ktrTop dp un gd cn cs L a ccd cl outer) (.call (.ref 77) ⟨[.ref x], []⟩) R s :=
  data_ct B F X (sub3 N hd' hx hb) T hk hd hu hl hp fun t h' tk' F' kp => hret t h' tk' F' (news_keep N kp)
theorem seek_full {q : Int} {tq : Tok} (B : Below A₀ base outer h₀) (F : Fr h₀ L s.heap m) (X : (K0 w.params).In h₀) (N : News h₀ L s.heap news) (T : Top jP jL mean mg mb h₀) (hk : cs.kind = .function) (hd : dp + 1 < recursionLimit) (hu : un + 8 < cLine) (hx : (x, instObj 193 dx) ∈ news) (hb : (ba, baO l) ∈ news) (U : Upd dx (bufD w.params k1 k2 ba p tp) (bufD w.params k1 k2 ba q tq) news (news' 0))
    (hl : l.length ≤ 100000) (hq : 0 ≤ q ∧ q ≤ l.length) (hne : @Ne Nat dx x ∧ @Ne Nat dx ba ∧ @Ne Nat x ba)
    (hret : ∀ (h' : Heap) (tk' : Nat), Fr h₀ L h' m → News h₀ L h' (news' 0) → R (.ok (.ret .none)) { s with heap := h', toks := tk' }) :
    codeAny (model jprog w) (ktrTop dp un gd cn cs L a ccd cl outer) (.call (.ref 99) ⟨[.ref x, .int q tq], []⟩) R s :=
  seek_ct B F X (sub3 N (upd_old U) hx hb) T hk hd hu hl hq hne fun h' tk' F' kp ho => hret h' tk' F' (news_upd1 N U kp ho)
theorem push_full {tr : Tok} (B : Below A₀ base outer h₀) (F : Fr h₀ L s.heap m) (X : (K0 w.params).In h₀) (N : News h₀ L s.heap news) (T : Top jP jL mean mg mb h₀) (hk : cs.kind = .function) (hd : dp + 1 < recursionLimit) (hu : un + 8 < cLine) (hx : (x, instObj 193 dx) ∈ news) (hb : (ba, baO l) ∈ news) (U : ∀ ba' t', Upd dx (bufD w.params k1 k2 ba p tp) (bufD w.params k1 k2 ba' (p + r.length) t') news (news2 ba' t'))
    (hl : l.length ≤ 100000) (hp : 0 ≤ p) (hr : p + r.length ≤ l.length) (hne : @Ne Nat dx x ∧ @Ne Nat dx ba ∧ @Ne Nat x ba)
    (hret : ∀ (ba' : Addr) (t' : Tok) (h' : Heap) (tk' : Nat), AllNe ba' news → Fr h₀ L h' m → News h₀ L h' ((ba', baO (l.take p.toNat ++ r ++ l.drop (p.toNat + r.length))) :: news2 ba' t') → R (.ok (.ret .none)) { s with heap := h', toks := tk' }) :
    codeAny (model jprog w) (ktrTop dp un gd cn cs L a ccd cl outer) (.call (.ref 155) ⟨[.ref x, .bytes r.toArray tr], []⟩) R s :=
  push_ct B F X (sub3 N (upd_old (U 0 0)) hx hb) T hk hd hu hl hp hr hne fun ba' t' h' tk' hn F' kp ho hb' => hret ba' t' h' tk' (news_ne N hn) F' (news_new' F (news_upd1 N (U ba' t') kp ho) hb' hn)
theorem pull8_full (B : Below A₀ base outer h₀) (F : Fr h₀ L s.heap m) (X : (K0 w.params).In h₀) (N : News h₀ L s.heap news) (T : Top jP jL mean mg mb h₀) (hk : cs.kind = .function) (hd : dp + 5 < recursionLimit) (hu : un + 24 < cLine) (hx : (x, instObj 193 dx) ∈ news) (hb : (ba, baO l) ∈ news) (U : ∀ t', Upd dx (bufD w.params k1 k2 ba p tp) (bufD w.params k1 k2 ba (p + 1) t') news (news' t'))
    (hl : l.length ≤ 100000) (hp : 0 ≤ p ∧ p ≤ l.length) (hne : @Ne Nat dx x ∧ @Ne Nat dx ba ∧ @Ne Nat x ba)
    (hret : ∀ (t t' : Tok) (h' : Heap) (tk' : Nat), p + 1 ≤ l.length → Fr h₀ L h' m → News h₀ L h' (news' t') → R (.ok (.ret (.int (beV ((l.drop p.toNat).take 1) : Nat) t))) { s with heap := h', toks := tk' })
    (hraise : ∀ (e : Addr) (g h' : Heap) (tk' : Nat), l.length < p + 1 → Fr h₀ L g m → Rz base g (envX cn cs L a ccd cl :: outer) e (.ref 31) h' → R (.error (.ref e)) { s with heap := h', toks := tk' }) :
    codeAny (model jprog w) (ktrTop dp un gd cn cs L a ccd cl outer) (.call (.ref 120) ⟨[.ref x], []⟩) R s :=
  pull8_ct B F X (sub3 N (upd_old (U 0)) hx hb) T hk hd hu hl hp hne (fun t t' h' tk' h1 F' kp ho => hret t t' h' tk' h1 F' (news_upd1 N (U t') kp ho)) hraise
theorem pull32_full (B : Below A₀ base outer h₀) (F : Fr h₀ L s.heap m) (X : (K0 w.params).In h₀) (N : News h₀ L s.heap news) (T : Top jP jL mean mg mb h₀) (hk : cs.kind = .function) (hd : dp + 5 < recursionLimit) (hu : un + 24 < cLine) (hx : (x, instObj 193 dx) ∈ news) (hb : (ba, baO l) ∈ news) (U : ∀ t', Upd dx (bufD w.params k1 k2 ba p tp) (bufD w.params k1 k2 ba (p + 4) t') news (news' t'))
    (hl : l.length ≤ 100000) (hp : 0 ≤ p ∧ p ≤ l.length) (hne : @Ne Nat dx x ∧ @Ne Nat dx ba ∧ @Ne Nat x ba)
    (hret : ∀ (t t' : Tok) (h' : Heap) (tk' : Nat), p + 4 ≤ l.length → Fr h₀ L h' m → News h₀ L h' (news' t') → R (.ok (.ret (.int (beV ((l.drop p.toNat).take 4) : Nat) t))) { s with heap := h', toks := tk' })
    (hraise : ∀ (e : Addr) (g h' : Heap) (tk' : Nat), l.length < p + 4 → Fr h₀ L g m → Rz base g (envX cn cs L a ccd cl :: outer) e (.ref 31) h' → R (.error (.ref e)) { s with heap := h', toks := tk' }) :
    codeAny (model jprog w) (ktrTop dp un gd cn cs L a ccd cl outer) (.call (.ref 134) ⟨[.ref x], []⟩) R s :=
  pull32_ct B F X (sub3 N (upd_old (U 0)) hx hb) T hk hd hu hl hp hne (fun t t' h' tk' h1 F' kp ho => hret t t' h' tk' h1 F' (news_upd1 N (U t') kp ho)) hraise
/-- the size and the value of a variable-length number at p -/
noncomputable abbrev vS (l : List UInt8) (p : Int) : Nat := 2 ^ ((l.getD p.toNat 0).toNat / 2 ^ 6)
noncomputable def vV (l : List UInt8) (p : Int) : Nat := beV ((l.drop p.toNat).take (vS l p)) % 2 ^ (8 * vS l p - 2)
theorem pullv_full (B : Below A₀ base outer h₀) (F : Fr h₀ L s.heap m) (X : (K0 w.params).In h₀) (N : News h₀ L s.heap news) (T : Top jP jL mean mg mb h₀) (hk : cs.kind = .function) (hd : dp + 5 < recursionLimit) (hu : un + 24 < cLine) (hx : (x, instObj 193 dx) ∈ news) (hb : (ba, baO l) ∈ news) (U : ∀ t', Upd dx (bufD w.params k1 k2 ba p tp) (bufD w.params k1 k2 ba (p + (vS l p : Nat)) t') news (news' t'))
    (hl : l.length ≤ 100000) (hp : 0 ≤ p ∧ p ≤ l.length) (hne : @Ne Nat dx x ∧ @Ne Nat dx ba ∧ @Ne Nat x ba)
    (hret : ∀ (t t' : Tok) (h' : Heap) (tk' : Nat), p < l.length → p + (vS l p : Nat) ≤ l.length → Fr h₀ L h' m → News h₀ L h' (news' t') → R (.ok (.ret (.int (vV l p : Nat) t))) { s with heap := h', toks := tk' })
    (hraise : ∀ (e : Addr) (g h' : Heap) (tk' : Nat), l.length ≤ p ∨ l.length < p + (vS l p : Nat) → Fr h₀ L g m → Rz base g (envX cn cs L a ccd cl :: outer) e (.ref 31) h' → R (.error (.ref e)) { s with heap := h', toks := tk' }) :
    codeAny (model jprog w) (ktrTop dp un gd cn cs L a ccd cl outer) (.call (.ref 148) ⟨[.ref x], []⟩) R s :=
  pullv_ct B F X (sub3 N (upd_old (U 0)) hx hb) T hk hd hu hl hp hne (fun t t' h' tk' h0 h1 F' kp ho => hret t t' h' tk' h0 h1 F' (news_upd1 N (U t') kp ho)) hraise
end
end JaLaw
end
section
set_option Elab.async false
namespace JaLaw
/-! what is read: in plain words -/
noncomputable abbrev u8 (l : List UInt8) (p : Int) : Nat := beV ((l.drop p.toNat).take 1)
noncomputable abbrev u32 (l : List UInt8) (p : Int) : Nat := beV ((l.drop p.toNat).take 4)
noncomputable abbrev cutI (l : List UInt8) (p n : Int) : List UInt8 := (l.drop p.toNat).take n.toNat
structure Row where
  ver : Option Nat
  kind : Nat
  size : Int
  dcid : List UInt8
  scid : List UInt8
  token : List UInt8
  tag : List UInt8
  vers : List Int
noncomputable def rows (l : List UInt8) (q : Int) (i : Nat) : List Int := (List.range i).map fun j : Nat => ((u32 l (q + 4 * (j : Int)) : Nat) : Int)
theorem rows_length (l : List UInt8) (q : Int) (i : Nat) : (rows l q i).length = i := by simp [rows]
theorem rows_succ (l : List UInt8) (q : Int) (i : Nat) : rows l q (i + 1) = rows l q i ++ [((u32 l (q + 4 * i) : Nat) : Int)] := by
  simp only [rows, List.range_succ, List.map_append, List.map_cons, List.map_nil]
noncomputable def rdFin (l : List UInt8) (p r : Int) (v c : Nat) (d s : List UInt8) : Option (Row × Int) :=
  if c = 0 then
    if (l.length : Int) ≤ r ∨ (l.length : Int) < r + (vS l r : Nat) then none else
    if (l.length : Int) < r + (vS l r : Nat) + (vV l r : Nat) then none else
    if (l.length : Int) ≤ r + (vS l r : Nat) + (vV l r : Nat) ∨ (l.length : Int) < r + (vS l r : Nat) + (vV l r : Nat) + (vS l (r + (vS l r : Nat) + (vV l r : Nat)) : Nat) then none else
    if (l.length : Int) < r + (vS l r : Nat) + (vV l r : Nat) + (vS l (r + (vS l r : Nat) + (vV l r : Nat)) : Nat) + (vV l (r + (vS l r : Nat) + (vV l r : Nat)) : Nat) then none else
    some (⟨some v, 0, r + (vS l r : Nat) + (vV l r : Nat) + (vS l (r + (vS l r : Nat) + (vV l r : Nat)) : Nat) + (vV l (r + (vS l r : Nat) + (vV l r : Nat)) : Nat) - p, d, s, cutI l (r + (vS l r : Nat)) (vV l r : Nat), [], []⟩,
      r + (vS l r : Nat) + (vV l r : Nat) + (vS l (r + (vS l r : Nat) + (vV l r : Nat)) : Nat))
  else if c = 3 then
    if (l.length : Int) - r - 16 < 0 then none else
    some (⟨some v, 3, (l.length : Int) - p, d, s, cutI l r ((l.length : Int) - r - 16), cutI l (r + ((l.length : Int) - r - 16)) 16, []⟩, l.length)
  else
    if (l.length : Int) ≤ r ∨ (l.length : Int) < r + (vS l r : Nat) then none else
    if (l.length : Int) < r + (vS l r : Nat) + (vV l r : Nat) then none else
    some (⟨some v, c, r + (vS l r : Nat) + (vV l r : Nat) - p, d, s, [], [], []⟩, r + (vS l r : Nat))
noncomputable def code2 (v c : Nat) : Nat := if v = 1798521807 then (c + 3) % 4 else c
noncomputable def rdVer (l : List UInt8) (p r : Int) (v f : Nat) (d s : List UInt8) : Option (Row × Int) :=
  if v = 0 then
    if ((l.length : Int) - r) % 4 = 0 then some (⟨some 0, 4, (l.length : Int) - p, d, s, [], [], rows l r (((l.length : Int) - r) / 4).toNat⟩, l.length) else none
  else if f / 64 % 2 = 0 then none else rdFin l p r v (code2 v (f / 16 % 4)) d s
noncomputable def rdLong (l : List UInt8) (p : Int) (f : Nat) : Option (Row × Int) :=
  if (l.length : Int) < p + 1 + 4 then none else
  if (l.length : Int) < p + 1 + 4 + 1 then none else
  if 20 < u8 l (p + 1 + 4) then none else
  if (l.length : Int) < p + 1 + 4 + 1 + (u8 l (p + 1 + 4) : Nat) then none else
  if (l.length : Int) < p + 1 + 4 + 1 + (u8 l (p + 1 + 4) : Nat) + 1 then none else
  if 20 < u8 l (p + 1 + 4 + 1 + (u8 l (p + 1 + 4) : Nat)) then none else
  if (l.length : Int) < p + 1 + 4 + 1 + (u8 l (p + 1 + 4) : Nat) + 1 + (u8 l (p + 1 + 4 + 1 + (u8 l (p + 1 + 4) : Nat)) : Nat) then none else
  rdVer l p (p + 1 + 4 + 1 + (u8 l (p + 1 + 4) : Nat) + 1 + (u8 l (p + 1 + 4 + 1 + (u8 l (p + 1 + 4) : Nat)) : Nat)) (u32 l (p + 1)) f
    (cutI l (p + 1 + 4 + 1) (u8 l (p + 1 + 4) : Nat)) (cutI l (p + 1 + 4 + 1 + (u8 l (p + 1 + 4) : Nat) + 1) (u8 l (p + 1 + 4 + 1 + (u8 l (p + 1 + 4) : Nat)) : Nat))
/-- a header at p, of octets, with an own id of k octets: the row and where it ends -/
noncomputable def readP (l : List UInt8) (p k : Int) : Option (Row × Int) :=
  if (l.length : Int) < p + 1 then none else
  if 128 ≤ u8 l p then rdLong l p (u8 l p) else
  if u8 l p / 64 % 2 = 0 then none else
  if k < 0 ∨ (l.length : Int) < p + 1 + k then none else
  some (⟨none, 5, (l.length : Int) - p, cutI l (p + 1) k, [], [], [], []⟩, p + 1 + k)
noncomputable def verV : Option Nat → Tok → Value
  | none, _ => .none
  | some v, t => .int v t
noncomputable abbrev posR (l : List UInt8) (p : Int) : Int := p + 1 + 4 + 1 + (beV ((l.drop (p + 1 + 4).toNat).take 1) : Nat) + 1 + (beV ((l.drop (p + 1 + 4 + 1 + (beV ((l.drop (p + 1 + 4).toNat).take 1) : Nat)).toNat).take 1) : Nat)
structure Halt (P : Prop) : Prop where
  out : P
theorem halt {P : Prop} (h : Halt P) : P := h.out
theorem join_bind {M : Model} {A : Around} {E : Value → Shared → Prop} {Q : Flow → Shared → Prop} {s : Shared} {h₀ : Heap} {L : Addr} {m : PySem.Str → Option Value} {news : List (Addr × Obj)} {st : Stmt} {env : Env} (x : PySem.Str) (P : Value → Prop) (F : Fr h₀ L s.heap m) (N : News h₀ L s.heap news)
    (h1 : wpAny M A (exec st env) (fun f s' => Halt (f = .next ∧ ∃ v h' tk', P v ∧ s' = { s with heap := h', toks := tk' } ∧ Fr h₀ L h' (fun y => if y = x then some v else m y) ∧ News h₀ L h' news)) E s)
    (h2 : ∀ v h' tk', P v → Fr h₀ L h' (fun y => if y = x then some v else m y) → News h₀ L h' news → Q .next { s with heap := h', toks := tk' }) : wpAny M A (exec st env) Q E s :=
  wpAny_mono h1 (fun f s' ⟨⟨e, v, h', tk', p, e2, F', N'⟩⟩ => by subst e e2; exact h2 v h' tk' p F' N') fun _ _ x => x
theorem join_upd {M : Model} {A : Around} {E : Value → Shared → Prop} {Q : Flow → Shared → Prop} {s : Shared} {h₀ : Heap} {L : Addr} {m : PySem.Str → Option Value} {news : List (Addr × Obj)} {st : Stmt} {env : Env} (x : PySem.Str) (P : Value → Prop) (F : Fr h₀ L s.heap m) (N : News h₀ L s.heap news)
    (h1 : wpAny M A (exec st env) (fun f s' => Halt (f = .next ∧ ∃ v h' tk' m', P v ∧ s' = { s with heap := h', toks := tk' } ∧ Fr h₀ L h' m' ∧ m' x = some v ∧ (∀ y, y ≠ x → m' y = m y) ∧ News h₀ L h' news)) E s)
    (h2 : ∀ v h' tk', P v → Fr h₀ L h' (fun y => if y = x then some v else m y) → News h₀ L h' news → Q .next { s with heap := h', toks := tk' }) : wpAny M A (exec st env) Q E s :=
  wpAny_mono h1 (fun f s' ⟨⟨e, v, h', tk', m', p, e2, F', e3, e4, N'⟩⟩ => by
    subst e e2
    have hm : m' = fun y => if y = x then some v else m y := by
      funext y
      by_cases q : y = x
      · subst q; rw [if_pos rfl]; exact e3
      · rw [if_neg q]; exact e4 y q
    subst hm
    exact h2 v h' tk' p F' N') fun _ _ x => x
theorem picked_len (l : List UInt8) {i n : Int} (h : 0 ≤ i) (hn : 0 ≤ n) : KBy.picked l.toArray (some i) (some (i + n)) = (cutI l i n).toArray := by
  rw [BA.picked_both l h (by (first | lia | omega))]
  show ((l.drop i.toNat).take ((i + n).toNat - i.toNat)).toArray = _
  rw [show (i + n).toNat - i.toNat = n.toNat by (first | lia | omega)]
theorem picked_4 (l : List UInt8) {i : Int} (h : 0 ≤ i) : KBy.picked l.toArray (some i) (some (i + 4)) = ((l.drop i.toNat).take 4).toArray := picked_len l h (by decide)
theorem u8_at (l : List UInt8) {i : Int} (h0 : 0 ≤ i) (h1 : i < (l.length : Int)) : (l.getD i.toNat 0).toNat = u8 l i := by
  have hl : i.toNat < l.length := by (first | lia | omega)
  have e : (l.drop i.toNat).take 1 = [l.getD i.toNat 0] := by
    rw [List.drop_eq_getElem_cons hl, List.take_succ_cons, List.take_zero, List.getD_eq_getElem?_getD, List.getElem?_eq_getElem hl, Option.getD_some]
  show _ = beV ((l.drop i.toNat).take 1)
  rw [e]
  show _ = 0 * 256 + (l.getD i.toNat 0).toNat
  (first | lia | omega)
section
variable {prog : Program} {w : World} {A : Around} {E : Value → Shared → Prop} {s : Shared} {t : Tok} {l : List UInt8} {value slice : Expr} {Q : Value → Shared → Prop}
theorem bs_item8 {i : Int} {ui : Tok} (hfit : l.length ≤ 1099511627776) (h0 : 0 ≤ i) (h1 : i < (l.length : Int)) (h : ∀ t' k, Q (.int (u8 l i : Nat) t') { s with toks := k })
    (hs : subscripted slice false (.bytes l.toArray t) (.int i ui) = operate [.bytes l.toArray t, .int i ui] (getItem (.bytes l.toArray t) (.int i ui)) := by with_unfolding_all rfl)
    (ht : ∀ r, letTemporaryGo value (.bytes l.toArray t) r = pure () := by intro _; with_unfolding_all rfl) :
    wpAny (model prog w) A (subscriptTail value slice (.bytes l.toArray t) (.int i ui)) Q E s := bs_item hfit h0 h1 (fun t' k => by rw [u8_at l h0 h1]; exact h t' k) hs ht
end
noncomputable abbrev posQ (l : List UInt8) (p : Int) : Int := p + 1 + 4 + 1 + (u8 l (p + 1 + 4) : Nat) + 1 + (u8 l (p + 1 + 4 + 1 + (u8 l (p + 1 + 4) : Nat)) : Nat)
end JaLaw
end
section
set_option Elab.async false
set_option maxRecDepth 100000
namespace JaLaw
theorem rowsJaPush0 : True := by
  k_with_none
  exact True.intro
theorem rowsJaPush1 : True := by
  k_with "callWith ref" => (k_here; (with_reducible show wpAny _ _ (callWith _ (Value.ref _) _ (backTo _ (starEach [] _)) (backToKw _ (keywordEach (_ :: _) _))) _ _ _); k_dflt (refine' callWith_KW0 ?k1 ?k2 ?k3 ?_; (case k1 => with_reducible assumption); (case k2 => k_is); (case k3 => exact rfl); k_whole))
  k_with "callWith ref" => (k_here; (with_reducible show wpAny _ _ (callWith _ (Value.ref _) _ (backTo _ (starEach (_ :: _) _)) []) _ _ _); k_dflt (refine' callWith_K ?k1 ?k2 ?_; (case k1 => with_reducible assumption); (case k2 => k_is); k_whole))
  k_with "callWith ref" => (k_here; (with_reducible show wpAny _ _ (callWith _ (Value.ref _) _ (backTo _ (starEach [] _)) []) _ _ _); k_dflt (refine' callWith_K0 ?k1 ?k2 ?_; (case k1 => exact (by first | with_reducible assumption | exact Frag.In.keeps (by with_reducible assumption) (Fr.keep (by with_reducible assumption)))); (case k2 => k_is); k_whole))
  k_with "And" => ((with_reducible show Frag.In _ _ ∧ _); refine ⟨(by first | with_reducible assumption | exact Frag.In.keeps (by with_reducible assumption) (Fr.keep (by with_reducible assumption))), ?_⟩; try dsimp only [List.nil_append, List.cons_append])
  k_with "eval Name" => (k_here; (with_reducible show wpAny _ _ (eval (Expr.Name _ _) (envOf _ _ _ _ _)) _ _ _); k_dflt (first | (refine' ld ?k1 ?k2 ?_ ?k3 ?k4 ?k5; (case k4 => kernel_rfl!); (case k1 => with_reducible assumption); (case k2 => ((try dsimp only [List.reverse, List.reverseAux]); (repeat (first | with_reducible exact lk_hit | with_reducible exact lk_sto_hit | with_reducible exact lk_ite_hit | (with_reducible refine lk_sto_miss (by kernel_rfl!) ?_) | (with_reducible refine lk_ite_miss2 (by kernel_rfl!) ?_) | (with_reducible refine lk_miss (by kernel_rfl!) ?_) | with_reducible refine lk_rev ?_)))); (case k3 => kernel_rfl!); (case k5 => decide +kernel); k_whole) | (refine' name_K ?k0 ?k1 ?k2 ?k3 ?_ ?k4 ?k5 ?k6; (case k5 => kernel_rfl!); (case k0 => with_reducible assumption); (case k1 => with_reducible assumption); (case k2 => exact topRead_of (by with_reducible assumption)); (case k3 => k_is); (case k4 => kernel_rfl!); (case k6 => decide +kernel); k_whole) | (refine' name_B ?k0 ?k1 ?k2 ?k3 ?k4 ?k5 ?_ ?k6 ?k7 ?k8; (case k7 => kernel_rfl!); (case k0 => with_reducible assumption); (case k1 => with_reducible assumption); (case k2 => exact topRead_of (by with_reducible assumption)); (case k3 => k_is); (case k4 => boot_fast); (case k5 => decide); (case k6 => kernel_rfl!); (case k8 => decide +kernel); k_whole)))
  k_with "exec Expr" => (k_here; k_fold)
  k_with "call ref" => (k_here; (with_reducible show wpAny _ _ (call (Value.ref _) [Value.bytes _ _, Value.str _ _]) _ _ _); kfb_any; k_dflt (refine fb_call (by k_asm) (by k_mem) (by (first | with_reducible assumption | ((try simp only [List.length_append, List.length_take, List.length_drop, List.length_cons, List.length_nil, toBE_length, List.length_replicate]); (first | lia | omega)))) ?_); intro _ _)
  exact True.intro

theorem allNe_mem {x : Addr} : ∀ {l : List (Addr × Obj)}, AllNe x l → ∀ p ∈ l, p.1 ≠ x
  | [], _, _, h => nomatch h
  | _ :: _, h, _, hp => by
    rcases List.mem_cons.mp hp with rfl | hp
    · exact h.1
    · exact allNe_mem h.2 _ hp
theorem fresh_ne {news : List (Addr × Obj)} {h g : Heap} {x : Addr} (k : Keeps (news.map (·.1)) h g) (hg : g.get? x = none) (hl : AllNe x news) : h.get? x = none := by
  cases q : h.get? x with
  | none => rfl
  | some o =>
    by_cases hm : x ∈ news.map (·.1)
    · obtain ⟨p, hp, e⟩ := List.mem_map.mp hm
      exact absurd e (allNe_mem hl p hp)
    · have := k _ _ q hm
      rw [hg] at this
      cases this
section
variable {w : World} {mean : ExcName → Option Value} {mg mb : PySem.Str → Option Value} {dp un : Nat} {gd : Option (List Code)} {cn : PySem.Str} {cs : Scope} {a : Addr} {ccd : Value} {cl : List (PySem.Str × Addr)} {outer : List Env} {A₀ : Around} {base h₀ : Heap} {L : Addr} {m : PySem.Str → Option Value} {s : Shared} {Q E : Value → Shared → Prop} {R : Result → Shared → Prop}
variable {x dx ba : Addr} {k1 k2 tp : Tok} {p : Int} {l r W Z : List UInt8} {news : List (Addr × Obj)} {news2 : Addr → Tok → List (Addr × Obj)}
/-- octets behind those written -/
theorem push_w {tr : Tok} (B : Below A₀ base outer h₀) (F : Fr h₀ L s.heap m) (X : (K0 w.params).In h₀) (N : News h₀ L s.heap news) (T : Top jP jL mean mg mb h₀) (hk : cs.kind = .function) (hd : dp + 1 < recursionLimit) (hu : un + 8 < cLine) (hp : p = (W.length : Int)) (hx : (x, instObj 193 dx) ∈ news) (hb : (ba, baO (W ++ Z)) ∈ news) (U : ∀ ba' t', Upd dx (bufD w.params k1 k2 ba p tp) (bufD w.params k1 k2 ba' ((W ++ r).length : Nat) t') news (news2 ba' t'))
    (hl : (W ++ Z).length ≤ 100000) (hr : r.length ≤ Z.length) (hne : @Ne Nat dx x ∧ @Ne Nat dx ba ∧ @Ne Nat x ba)
    (hret : ∀ (ba' : Addr) (t' : Tok) (h' : Heap) (tk' : Nat), AllNe ba' news → Fr h₀ L h' m → News h₀ L h' ((ba', baO ((W ++ r) ++ Z.drop r.length)) :: news2 ba' t') → R (.ok (.ret .none)) { s with heap := h', toks := tk' }) :
    codeAny (model jprog w) (ktrTop dp un gd cn cs L a ccd cl outer) (.call (.ref 155) ⟨[.ref x, .bytes r.toArray tr], []⟩) R s := by
  subst hp
  refine push_full (p := (W.length : Int)) (k1 := k1) (k2 := k2) (tp := tp) B F X N T hk hd hu hx hb (news2 := news2) (fun ba' t' => ?_) hl (by (first | lia | omega)) (by rw [List.length_append]; (first | lia | omega)) hne fun ba' t' h' tk' hn F' N' => ?_
  · have e : ((W.length : Int) + (r.length : Int)) = (((W ++ r).length : Nat) : Int) := by rw [List.length_append]; (first | lia | omega)
    rw [e]
    exact U ba' t'
  · refine hret ba' t' h' tk' hn F' ?_
    have e1 : (W ++ Z).take (W.length : Int).toNat = W := by rw [Int.toNat_natCast, List.take_left]
    have e2 : (W ++ Z).drop ((W.length : Int).toNat + r.length) = Z.drop r.length := by rw [Int.toNat_natCast, ← List.drop_drop, List.drop_left]
    rw [e1, e2] at N'
    exact N'
end
theorem rowsJaPush2 : True := by
  k_with "binaryOp BitAnd int int" => (k_here; k_dflt (first | (refine int_mask (k := 8) rfl (by decide) ?_; intro _ _) | (refine int_mask (k := 32) rfl (by decide) ?_; intro _ _)))
  k_with "call builtin:int.to_bytes" => (k_here; (with_reducible show wpAny _ _ (call (Value.builtin "int.to_bytes") [Value.int _ _, Value.int _ _, Value.str _ _]) _ _ _); k_dflt (first | (refine tb_call (k := 1) (by decide) (by (first | lia | omega)) ?_; intro _ _) | (refine tb_call (k := 4) (by decide) (by (first | lia | omega)) ?_; intro _ _)))
  k_with "call ref" => (k_here; (with_reducible show wpAny _ _ (call (Value.ref 155) _) _ _ _); k_dflt ((refine wpAny_call ?_); (refine' push_w ?k1 ?k2 ?k3 ?k4 ?k5 ?k6 ?k7 ?k8 ?kq ?kx ?kb ?ku ?kl ?kp ?kn ?_; (case k1 => k_asm); (case k2 => k_asm); (case k3 => k_asm); (case k4 => k_asm); (case k5 => k_asm); (case k6 => first | exact rfl | assumption); (case k7 => first | exact room1 hd rfl | exact room2 hd rfl | ktr_room); (case k8 => first | exact room1 hu rfl | exact room2 hu rfl | ktr_units); (case kq => first | assumption | rfl); (case kx => k_mem); (case kb => k_mem); (case ku => intro _ _; k_upd); (case kl => assumption); (case kp => (rw [toBE_length]; assumption)); (case kn => (first | lia | omega))); k_whole); (intro ba' t' h' tk' hn' F' N'; (try simp only [AllNe, and_true] at hn'); (try dsimp only); (try k_sweep)))
  exact True.intro
section
variable {w : World} {mean : ExcName → Option Value} {mg mb : PySem.Str → Option Value} {dp un : Nat} {gd : Option (List Code)} {cn : PySem.Str} {cs : Scope} {a : Addr} {ccd : Value} {cl : List (PySem.Str × Addr)} {outer : List Env} {A₀ : Around} {base h₀ : Heap} {L : Addr} {m : PySem.Str → Option Value} {s : Shared} {Q E : Value → Shared → Prop} {R : Result → Shared → Prop}
variable {x dx ba : Addr} {k1 k2 tp tv : Tok} {p : Int} {v : Nat} {W Z : List UInt8}
set_option maxHeartbeats 8000000 in
theorem push8_ct (B : Below A₀ base outer h₀) (F : Fr h₀ L s.heap m) (X : (K0 w.params).In h₀) (N : News h₀ L s.heap [(dx, bufD w.params k1 k2 ba p tp), (x, instObj 193 dx), (ba, baO (W ++ Z))]) (T : Top jP jL mean mg mb h₀) (hk : cs.kind = .function) (hd : dp + 3 < recursionLimit) (hu : un + 16 < cLine) (hp : p = (W.length : Int)) (hl : (W ++ Z).length ≤ 100000) (hr : 1 ≤ Z.length) (hne : @Ne Nat dx x ∧ @Ne Nat dx ba ∧ @Ne Nat x ba)
    (hret : ∀ (ba' : Addr) (t' : Tok) (h' : Heap) (tk' : Nat), s.heap.get? ba' = none → Fr h₀ L h' m → Keeps [dx] s.heap h' → h'.get? dx = some (bufD w.params k1 k2 ba' ((W ++ toBE (v % 2 ^ 8) 1).length : Nat) t') → h'.get? ba' = some (baO ((W ++ toBE (v % 2 ^ 8) 1) ++ Z.drop 1)) → R (.ok (.ret .none)) { s with heap := h', toks := tk' }) :
    codeAny (model jprog w) (ktrTop dp un gd cn cs L a ccd cl outer) (.call (.ref 162) ⟨[.ref x, .int (v : Int) tv], []⟩) R s := by
  have hv8 : v % 2 ^ 8 < 256 := Nat.mod_lt _ (by decide)
  k_dflt (refine' enter_def (binds := [(Str.ofString "self", .ref x), (Str.ofString "value", .int (v : Int) tv)]) ?k1 ?k2 ?k3 ?k4 ?k5 ?kA ?kF ?kK ?k6 ?k7 ?k8 ?k9 ?kB ?_ ?c2 ?c3 ?c4 ?c5; (case kA => exact rfl); (case kF => exact rfl); (case kK => assumption); (case k1 => k_asm); (case k2 => k_asm); (case k3 => k_asm); (case k4 => k_asm); (case k5 => k_asm); (case k6 => k_is); (case k7 => k_is); (case k8 => first | exact room0 hd | ktr_room); (case k9 => first | exact BindsTo.of_eq (by kernel_rfl!) | exact BindsTo.of_eq rfl | exact binds_K (by k_in) rfl (by k_is) rfl rfl rfl); (case c5 => decide); (case kB => exact locs rfl); (case c2 => exact rfl); (case c3 => exact rfl); (case c4 => exact rfl); k_whole; intro g' L' h' FG' F' N' B' X' T' hkp hge; (try dsimp only); k_fold)
  k_steps
  all_goals first
    | ((rename Keeps _ _ _ => kK)
       (rename News g' _ _ _ => kI)
       (rename News h₀ _ _ _ => kN)
       (simp only [toBE_length] at kN kI)
       exact hret _ _ _ _ (fresh_ne hkp (kI _ (.head _)).2.2 (by simp only [AllNe, and_true]; assumption)) (by assumption) (keeps_less kK N (by assumption) (by repeat' (first | exact List.forall_mem_nil _ | (refine List.forall_mem_cons.mpr ⟨?_, ?_⟩) | exact Or.inl (by k_mem) | exact Or.inr (by k_mem)))) (kN.get (by k_mem)) (kN.get (by k_mem)))
    | fail
set_option maxHeartbeats 8000000 in
theorem push32_ct (B : Below A₀ base outer h₀) (F : Fr h₀ L s.heap m) (X : (K0 w.params).In h₀) (N : News h₀ L s.heap [(dx, bufD w.params k1 k2 ba p tp), (x, instObj 193 dx), (ba, baO (W ++ Z))]) (T : Top jP jL mean mg mb h₀) (hk : cs.kind = .function) (hd : dp + 3 < recursionLimit) (hu : un + 16 < cLine) (hp : p = (W.length : Int)) (hl : (W ++ Z).length ≤ 100000) (hr : 4 ≤ Z.length) (hne : @Ne Nat dx x ∧ @Ne Nat dx ba ∧ @Ne Nat x ba)
    (hret : ∀ (ba' : Addr) (t' : Tok) (h' : Heap) (tk' : Nat), s.heap.get? ba' = none → Fr h₀ L h' m → Keeps [dx] s.heap h' → h'.get? dx = some (bufD w.params k1 k2 ba' ((W ++ toBE (v % 2 ^ 32) 4).length : Nat) t') → h'.get? ba' = some (baO ((W ++ toBE (v % 2 ^ 32) 4) ++ Z.drop 4)) → R (.ok (.ret .none)) { s with heap := h', toks := tk' }) :
    codeAny (model jprog w) (ktrTop dp un gd cn cs L a ccd cl outer) (.call (.ref 176) ⟨[.ref x, .int (v : Int) tv], []⟩) R s := by
  have hv32 : v % 2 ^ 32 < 256 ^ 4 := Nat.mod_lt _ (by decide)
  k_dflt (refine' enter_def (binds := [(Str.ofString "self", .ref x), (Str.ofString "value", .int (v : Int) tv)]) ?k1 ?k2 ?k3 ?k4 ?k5 ?kA ?kF ?kK ?k6 ?k7 ?k8 ?k9 ?kB ?_ ?c2 ?c3 ?c4 ?c5; (case kA => exact rfl); (case kF => exact rfl); (case kK => assumption); (case k1 => k_asm); (case k2 => k_asm); (case k3 => k_asm); (case k4 => k_asm); (case k5 => k_asm); (case k6 => k_is); (case k7 => k_is); (case k8 => first | exact room0 hd | ktr_room); (case k9 => first | exact BindsTo.of_eq (by kernel_rfl!) | exact BindsTo.of_eq rfl | exact binds_K (by k_in) rfl (by k_is) rfl rfl rfl); (case c5 => decide); (case kB => exact locs rfl); (case c2 => exact rfl); (case c3 => exact rfl); (case c4 => exact rfl); k_whole; intro g' L' h' FG' F' N' B' X' T' hkp hge; (try dsimp only); k_fold)
  k_steps
  all_goals first
    | ((rename Keeps _ _ _ => kK)
       (rename News g' _ _ _ => kI)
       (rename News h₀ _ _ _ => kN)
       (simp only [toBE_length] at kN kI)
       exact hret _ _ _ _ (fresh_ne hkp (kI _ (.head _)).2.2 (by simp only [AllNe, and_true]; assumption)) (by assumption) (keeps_less kK N (by assumption) (by repeat' (first | exact List.forall_mem_nil _ | (refine List.forall_mem_cons.mpr ⟨?_, ?_⟩) | exact Or.inl (by k_mem) | exact Or.inr (by k_mem)))) (kN.get (by k_mem)) (kN.get (by k_mem)))
    | fail
end
end JaLaw
end
section
set_option Elab.async false
set_option maxRecDepth 100000
namespace JaLaw
section
variable {prog : Program} {w : World} {A : Around} {E : Value → Shared → Prop} {s : Shared} {Q : Value → Shared → Prop} {t u : Tok} {xi yi : Int} {x y : Nat}
theorem int_div (hx : xi = x) (hy : yi = y) (h0 : 0 < y) (h1 : y < 1000000) (h : ∀ t' k', Q (.int (x / y : Nat) t') { s with toks := k' }) : wpAny (model prog w) A (binaryOp .FloorDiv (.int xi t) (.int yi u)) Q E s := by
  subst hx hy
  refine floordiv_int (by (first | lia | omega)) ?_ (.inl (PyProof.noPylong_small (by (first | lia | omega))))
  rw [Int.fdiv_eq_ediv_of_nonneg _ (by (first | lia | omega)), ← Int.natCast_ediv]
  exact h _ _
theorem int_mod (hx : xi = x) (hy : yi = y) (h0 : 0 < y) (h : ∀ t' k', Q (.int (x % y : Nat) t') { s with toks := k' }) : wpAny (model prog w) A (binaryOp .Mod (.int xi t) (.int yi u)) Q E s := by
  subst hx hy
  refine mod_int (by (first | lia | omega)) ?_
  rw [Int.fmod_eq_emod_of_nonneg _ (by (first | lia | omega)), ← Int.natCast_emod]
  exact h _ _
theorem int_emod (hy : 0 < yi) (h : ∀ t' k', Q (.int (xi % yi) t') { s with toks := k' }) : wpAny (model prog w) A (binaryOp .Mod (.int xi t) (.int yi u)) Q E s := by
  refine mod_int (by (first | lia | omega)) ?_
  rw [Int.fmod_eq_emod_of_nonneg _ (by (first | lia | omega))]
  exact h _ _
theorem lst_item {h₀ : Heap} {L a : Addr} {news : List (Addr × Obj)} {arr : Array Value} {n : Nat} {k : Int} {v : Value} {value slice : Expr} (N : News h₀ L s.heap news) (hm : (a, listOf arr n) ∈ news) (h0 : 0 ≤ k) (hk : k < 2 ^ 63) (hx : arr[k.toNat]? = some v) (h : Q v s)
    (hs : subscripted slice false (.ref a) (.int k u) = operate [.ref a, .int k u] (getItem (.ref a) (.int k u)) := by with_unfolding_all rfl) : wpAny (model prog w) A (subscriptTail value slice (.ref a) (.int k u)) Q E s :=
  have hl : s.heap.IsList a arr := ⟨_, N.get hm, rfl, _, rfl⟩
  tail_any hl.typeIs slot_list_getitem.lookup (wpAny_getItem_list hl h0 hk hx h) hs
theorem menu3 {h₀ : Heap} {L a : Addr} {news : List (Addr × Obj)} {n : Nat} {k : Int} {t0 t1 t2 : Tok} {value slice : Expr} (N : News h₀ L s.heap news) (hm : (a, listOf #[.int 0 t0, .int 1 t1, .int 2 t2] n) ∈ news) (h0 : 0 ≤ k) (hk : k < 3) (h : ∀ t, Q (.int k t) s)
    (hs : subscripted slice false (.ref a) (.int k u) = operate [.ref a, .int k u] (getItem (.ref a) (.int k u)) := by with_unfolding_all rfl) : wpAny (model prog w) A (subscriptTail value slice (.ref a) (.int k u)) Q E s := by
  obtain rfl | rfl | rfl : k = 0 ∨ k = 1 ∨ k = 2 := by (first | lia | omega)
  · exact lst_item N hm (by decide) (by decide) rfl (h _) hs
  · exact lst_item N hm (by decide) (by decide) rfl (h _) hs
  · exact lst_item N hm (by decide) (by decide) rfl (h _) hs
noncomputable abbrev tupO (vs : Array Value) : Obj := { cls := .type "tuple", data := .seq vs }
theorem tup_item {h₀ : Heap} {L a : Addr} {news : List (Addr × Obj)} {l : List Value} {k : Int} {v : Value} {value slice : Expr} (N : News h₀ L s.heap news) (hm : (a, tupO l.toArray) ∈ news) (h0 : 0 ≤ k) (hk : k < 2 ^ 63) (hx : l[k.toNat]? = some v) (h : Q v s)
    (hs : subscripted slice false (.ref a) (.int k u) = operate [.ref a, .int k u] (getItem (.ref a) (.int k u)) := by with_unfolding_all rfl) : wpAny (model prog w) A (subscriptTail value slice (.ref a) (.int k u)) Q E s := by
  have hl : k.toNat < l.length := (List.getElem?_eq_some_iff.mp hx).1
  refine item_tupleT (j := k.toNat) (News.isTup N hm) (by (first | lia | omega)) hk ?_ hx h hs
  have hn : ¬ k < 0 := by (first | lia | omega)
  have h1 : k < (l.length : Int) := by (first | lia | omega)
  simp [seqIndex?, hn, h0, h1]
theorem pow_pos2 (k : Nat) : 0 < 2 ^ k := Nat.pow_pos (by decide)
end
end JaLaw
end
section
set_option Elab.async false
set_option maxRecDepth 100000
namespace JaLaw
theorem rowsJaOct0 : True := by
  k_with_none
  exact True.intro
section
variable {w : World} {mean : ExcName → Option Value} {mg mb : PySem.Str → Option Value} {dp un : Nat} {gd : Option (List Code)} {cn : PySem.Str} {cs : Scope} {a : Addr} {ccd : Value} {cl : List (PySem.Str × Addr)} {outer : List Env} {A₀ : Around} {base h₀ : Heap} {L : Addr} {m : PySem.Str → Option Value} {s : Shared} {Q E : Value → Shared → Prop} {R : Result → Shared → Prop}
variable {st c : Addr} {t1 t2 : Tok} {at_ most : Int} {n cap : Nat} {vs : List Value} {ns : List Int} {news : List (Addr × Obj)} {news' : Tok → List (Addr × Obj)} {news2 : Int → Tok → List (Addr × Obj)}
/-- a draw, the cells in the ledger -/
theorem take2 (B : Below A₀ base outer h₀) (F : Fr h₀ L s.heap m) (X : (K0 w.params).In h₀) (N : News h₀ L s.heap news) (T : Top jP jL mean mg mb h₀) (hk : cs.kind = .function) (hd : dp + 1 < recursionLimit) (hu : un + 8 < cLine)
    (U : ∀ t', Upd st (stO at_ t1 c n) (stO (at_ + 1) t' c n) news (news' t')) (hc : (c, listOf vs.toArray cap) ∈ news) (hi : IntsAre vs ns) (hne : @Ne Nat c st) (h1 : 0 < ns.length) (h2 : ns.length ≤ 63)
    (hat : 0 ≤ at_ ∧ at_ < 1000000) (hm : 0 < most)
    (hret : ∀ (r : Int) (t t' : Tok) (h' : Heap) (tk' : Nat), 0 ≤ r → r < most → Fr h₀ L h' m → News h₀ L h' (news' t') → Q (.int r t) { s with heap := h', toks := tk' }) :
    wpAny (model jprog w) (ktrTop dp un gd cn cs L a ccd cl outer) (call (.ref 308) [.ref st, .int most t2]) Q E s :=
  take_full B F X N T hk hd hu U ⟨⟨vs, ⟨_, (N _ hc).1, rfl, _, rfl⟩, hi⟩, hne, h1, h2⟩ hat hm fun r t t' h' tk' h0 h1 F' N' _ => hret r t t' h' tk' h0 h1 F' N'
theorem tb_callI {prog : Program} {A : Around} {t u v : Tok} {r : Int} {k : Nat} (hk : k ≤ 1000) (h0 : 0 ≤ r) (hn : r < ((256 ^ k : Nat) : Int)) (h : ∀ t' k', Q (.bytes (toBE r.toNat k).toArray t') { s with toks := k' }) :
    wpAny (model prog w) A (call (.builtin "int.to_bytes") [.int r t, .int (k : Int) u, .str (PySem.Str.ofString "big") v]) Q E s := by
  obtain ⟨j, rfl⟩ := Int.eq_ofNat_of_zero_le h0
  exact tb_call hk (Int.ofNat_lt.mp hn) (by simpa using h)
end
theorem rowsJaOct1 : True := by
  k_with "callWith ref" => (k_here; (with_reducible show wpAny _ _ (callWith _ (Value.ref _) _ (backTo _ (starEach [] _)) (backToKw _ (keywordEach (_ :: _) _))) _ _ _); k_dflt (refine' callWith_KW0 ?k1 ?k2 ?k3 ?_; (case k1 => with_reducible assumption); (case k2 => k_is); (case k3 => exact rfl); k_whole))
  k_with "callWith ref" => (k_here; (with_reducible show wpAny _ _ (callWith _ (Value.ref _) _ (backTo _ (starEach (_ :: _) _)) []) _ _ _); k_dflt (refine' callWith_K ?k1 ?k2 ?_; (case k1 => with_reducible assumption); (case k2 => k_is); k_whole))
  k_with "callWith ref" => (k_here; (with_reducible show wpAny _ _ (callWith _ (Value.ref _) _ (backTo _ (starEach [] _)) []) _ _ _); k_dflt (refine' callWith_K0 ?k1 ?k2 ?_; (case k1 => exact (by first | with_reducible assumption | exact Frag.In.keeps (by with_reducible assumption) (Fr.keep (by with_reducible assumption)))); (case k2 => k_is); k_whole))
  k_with "And" => ((with_reducible show Frag.In _ _ ∧ _); refine ⟨(by first | with_reducible assumption | exact Frag.In.keeps (by with_reducible assumption) (Fr.keep (by with_reducible assumption))), ?_⟩; try dsimp only [List.nil_append, List.cons_append])
  k_with "eval Name" => (k_here; (with_reducible show wpAny _ _ (eval (Expr.Name _ _) (envOf _ _ _ _ _)) _ _ _); k_dflt (first | (refine' ld ?k1 ?k2 ?_ ?k3 ?k4 ?k5; (case k4 => kernel_rfl!); (case k1 => with_reducible assumption); (case k2 => ((try dsimp only [List.reverse, List.reverseAux]); (repeat (first | with_reducible exact lk_hit | with_reducible exact lk_sto_hit | with_reducible exact lk_ite_hit | (with_reducible refine lk_sto_miss (by kernel_rfl!) ?_) | (with_reducible refine lk_ite_miss2 (by kernel_rfl!) ?_) | (with_reducible refine lk_miss (by kernel_rfl!) ?_) | with_reducible refine lk_rev ?_)))); (case k3 => kernel_rfl!); (case k5 => decide +kernel); k_whole) | (refine' name_K ?k0 ?k1 ?k2 ?k3 ?_ ?k4 ?k5 ?k6; (case k5 => kernel_rfl!); (case k0 => with_reducible assumption); (case k1 => with_reducible assumption); (case k2 => exact topRead_of (by with_reducible assumption)); (case k3 => k_is); (case k4 => kernel_rfl!); (case k6 => decide +kernel); k_whole) | (refine' name_B ?k0 ?k1 ?k2 ?k3 ?k4 ?k5 ?_ ?k6 ?k7 ?k8; (case k7 => kernel_rfl!); (case k0 => with_reducible assumption); (case k1 => with_reducible assumption); (case k2 => exact topRead_of (by with_reducible assumption)); (case k3 => k_is); (case k4 => boot_fast); (case k5 => decide); (case k6 => kernel_rfl!); (case k8 => decide +kernel); k_whole)))
  k_with "call ref" => (k_here; (with_reducible show wpAny _ _ (call (Value.ref 308) _) _ _ _); k_dflt (refine' take2 ?k1 ?k2 ?k3 ?k4 ?k5 ?k6 ?k7 ?k8 ?kU ?kC ?kI ?kN ?kP ?kQ ?kA ?kM ?_; (case k1 => k_asm); (case k2 => k_asm); (case k3 => k_asm); (case k4 => k_asm); (case k5 => k_asm); (case k6 => first | exact rfl | assumption); (case k7 => first | exact room1 hd rfl | exact room2 hd rfl | ktr_room); (case k8 => first | exact room1 hu rfl | exact room2 hu rfl | ktr_units); (case kU => intro _; k_upd); (case kC => k_mem); (case kI => assumption); (case kN => assumption); (case kP => assumption); (case kQ => assumption); (case kA => exact ⟨by (first | lia | omega), by (first | lia | omega)⟩); (case kM => first | assumption | decide | (first | lia | omega)); k_whole); intro r' t' t2' h' tk' h0' h1' F' N'; (try dsimp only); (try k_sweep))
  exact True.intro

theorem rowsJaOct2 : True := by
  k_with "binaryOp Pow int int" => (k_here; k_dflt (refine int_pow (x := 256) rfl rfl (by (first | lia | omega)) (by decide) ?_; intro _ _))
  k_with "call builtin:int.to_bytes" => (k_here; (with_reducible show wpAny _ _ (call (Value.builtin "int.to_bytes") [Value.int _ _, Value.int _ _, Value.str _ _]) _ _ _); k_dflt (refine tb_callI (by (first | lia | omega)) (by assumption) (by assumption) ?_; intro _ _))
  exact True.intro
section
variable {w : World} {mean : ExcName → Option Value} {mg mb : PySem.Str → Option Value} {dp un : Nat} {gd : Option (List Code)} {cn : PySem.Str} {cs : Scope} {a : Addr} {ccd : Value} {cl : List (PySem.Str × Addr)} {outer : List Env} {A₀ : Around} {base h₀ : Heap} {L : Addr} {m : PySem.Str → Option Value} {s : Shared} {Q E : Value → Shared → Prop} {R : Result → Shared → Prop}
variable {st c : Addr} {t1 t2 : Tok} {at_ : Int} {k n cap : Nat} {vs : List Value} {ns : List Int} {news : List (Addr × Obj)} {news2 : Int → Tok → List (Addr × Obj)}
set_option maxHeartbeats 8000000 in
theorem oct_ct (B : Below A₀ base outer h₀) (F : Fr h₀ L s.heap m) (X : (K0 w.params).In h₀) (N : News h₀ L s.heap [(st, stO at_ t1 c n), (c, listOf vs.toArray cap)]) (T : Top jP jL mean mg mb h₀) (hk : cs.kind = .function) (hd : dp + 3 < recursionLimit) (hu : un + 16 < cLine) (hi : IntsAre vs ns) (hne : @Ne Nat c st) (h1 : 0 < ns.length) (h2 : ns.length ≤ 63)
    (hat : 0 ≤ at_ ∧ at_ < 1000000) (hkk : k ≤ 70)
    (hret : ∀ (r : List UInt8) (a' : Int) (t t' : Tok) (h' : Heap) (tk' : Nat), r.length = k → at_ ≤ a' → a' ≤ at_ + 1 → Fr h₀ L h' m → Keeps [st] s.heap h' → h'.get? st = some (stO a' t' c n) → R (.ok (.ret (.bytes r.toArray t))) { s with heap := h', toks := tk' }) :
    codeAny (model jprog w) (ktrTop dp un gd cn cs L a ccd cl outer) (.call (.ref 322) ⟨[.ref st, .int (k : Int) t2], []⟩) R s := by
  have hp256 : (0 : Int) < ((256 ^ k : Nat) : Int) := Int.natCast_pos.mpr (Nat.pow_pos (by decide))
  k_dflt (refine' enter_def (binds := [(Str.ofString "state", .ref st), (Str.ofString "size", .int (k : Int) t2)]) ?k1 ?k2 ?k3 ?k4 ?k5 ?kA ?kF ?kK ?k6 ?k7 ?k8 ?k9 ?kB ?_ ?c2 ?c3 ?c4 ?c5; (case kA => exact rfl); (case kF => exact rfl); (case kK => assumption); (case k1 => k_asm); (case k2 => k_asm); (case k3 => k_asm); (case k4 => k_asm); (case k5 => k_asm); (case k6 => k_is); (case k7 => k_is); (case k8 => first | exact room0 hd | ktr_room); (case k9 => first | exact BindsTo.of_eq (by kernel_rfl!) | exact BindsTo.of_eq rfl | exact binds_K (by k_in) rfl (by k_is) rfl rfl rfl); (case c5 => decide); (case kB => exact locs rfl); (case c2 => exact rfl); (case c3 => exact rfl); (case c4 => exact rfl); k_whole; intro g' L' h' FG' F' N' B' X' T' hkp hge; (try dsimp only); k_fold)
  k_steps
  · (rename Keeps _ _ _ => kK)
    (rename News h₀ _ _ _ => kN)
    exact hret _ (at_ + 1) _ _ _ _ (toBE_length _ _) (by (first | lia | omega)) (by (first | lia | omega)) (by assumption) (keeps_less kK N (by assumption) (by repeat' (first | exact List.forall_mem_nil _ | (refine List.forall_mem_cons.mpr ⟨?_, ?_⟩) | exact Or.inl (by k_mem) | exact Or.inr (by k_mem)))) (kN.get (by k_mem))
  · (rename Keeps _ _ _ => kK)
    (rename News h₀ _ _ _ => kN)
    exact hret [] at_ _ _ _ _ (by simp only [List.length_nil]; (first | lia | omega)) (by (first | lia | omega)) (by (first | lia | omega)) (by assumption) (keeps_less kK N (by assumption) (by repeat' (first | exact List.forall_mem_nil _ | (refine List.forall_mem_cons.mpr ⟨?_, ?_⟩) | exact Or.inl (by k_mem) | exact Or.inr (by k_mem)))) (kN.get (by k_mem))
theorem oct_full {ki : Int} (B : Below A₀ base outer h₀) (F : Fr h₀ L s.heap m) (X : (K0 w.params).In h₀) (N : News h₀ L s.heap news) (T : Top jP jL mean mg mb h₀) (hk : cs.kind = .function) (hd : dp + 3 < recursionLimit) (hu : un + 16 < cLine) (U : ∀ a' t', Upd st (stO at_ t1 c n) (stO a' t' c n) news (news2 a' t')) (hc : (c, listOf vs.toArray cap) ∈ news) (hi : IntsAre vs ns) (hne : @Ne Nat c st) (h1 : 0 < ns.length) (h2 : ns.length ≤ 63)
    (hat : 0 ≤ at_ ∧ at_ < 1000000) (hkk : 0 ≤ ki ∧ ki ≤ 70)
    (hret : ∀ (r : List UInt8) (a' : Int) (t t' : Tok) (h' : Heap) (tk' : Nat), (r.length : Int) = ki → at_ ≤ a' → a' ≤ at_ + 1 → Fr h₀ L h' m → News h₀ L h' (news2 a' t') → R (.ok (.ret (.bytes r.toArray t))) { s with heap := h', toks := tk' }) :
    codeAny (model jprog w) (ktrTop dp un gd cn cs L a ccd cl outer) (.call (.ref 322) ⟨[.ref st, .int ki t2], []⟩) R s := by
  obtain ⟨k, rfl⟩ := Int.eq_ofNat_of_zero_le hkk.1
  exact oct_ct B F X (sub2 N (upd_old (U at_ 0)) hc) T hk hd hu hi hne h1 h2 hat (by (first | lia | omega)) fun r a' t t' h' tk' e0 e1 e2 F' kp eo => hret r a' t t' h' tk' (by rw [e0]) e1 e2 F' (news_upd1 N (U a' t') kp eo)
end
end JaLaw
end
section
set_option Elab.async false
set_option maxRecDepth 100000
namespace JaLaw
section
variable {w : World} {mean : ExcName → Option Value} {mg mb : PySem.Str → Option Value} {dp un : Nat} {gd : Option (List Code)} {cn : PySem.Str} {cs : Scope} {a : Addr} {ccd : Value} {cl : List (PySem.Str × Addr)} {outer : List Env} {A₀ : Around} {base h₀ : Heap} {L : Addr} {m : PySem.Str → Option Value} {s : Shared} {Q E : Value → Shared → Prop} {R : Result → Shared → Prop}
variable {x dx ba : Addr} {k1 k2 tp tv : Tok} {p : Int} {v : Nat} {W Z : List UInt8} {news : List (Addr × Obj)} {news2 : Addr → Tok → List (Addr × Obj)}
theorem push8_full (B : Below A₀ base outer h₀) (F : Fr h₀ L s.heap m) (X : (K0 w.params).In h₀) (N : News h₀ L s.heap news) (T : Top jP jL mean mg mb h₀) (hk : cs.kind = .function) (hd : dp + 3 < recursionLimit) (hu : un + 16 < cLine) (hp : p = (W.length : Int)) (hx : (x, instObj 193 dx) ∈ news) (hb : (ba, baO (W ++ Z)) ∈ news) (U : ∀ ba' t', Upd dx (bufD w.params k1 k2 ba p tp) (bufD w.params k1 k2 ba' ((W ++ toBE (v % 2 ^ 8) 1).length : Nat) t') news (news2 ba' t'))
    (hl : (W ++ Z).length ≤ 100000) (hr : 1 ≤ Z.length) (hne : @Ne Nat dx x ∧ @Ne Nat dx ba ∧ @Ne Nat x ba)
    (hret : ∀ (ba' : Addr) (t' : Tok) (h' : Heap) (tk' : Nat), AllNe ba' news → Fr h₀ L h' m → News h₀ L h' ((ba', baO ((W ++ toBE (v % 2 ^ 8) 1) ++ Z.drop 1)) :: news2 ba' t') → R (.ok (.ret .none)) { s with heap := h', toks := tk' }) :
    codeAny (model jprog w) (ktrTop dp un gd cn cs L a ccd cl outer) (.call (.ref 162) ⟨[.ref x, .int (v : Int) tv], []⟩) R s :=
  push8_ct B F X (sub3 N (upd_old (U 0 0)) hx hb) T hk hd hu hp hl hr hne fun ba' t' h' tk' fr F' kp e1 e2 => hret ba' t' h' tk' (news_ne N fr) F' (news_new' F (news_upd1 N (U ba' t') kp e1) e2 fr)
theorem push32_full (B : Below A₀ base outer h₀) (F : Fr h₀ L s.heap m) (X : (K0 w.params).In h₀) (N : News h₀ L s.heap news) (T : Top jP jL mean mg mb h₀) (hk : cs.kind = .function) (hd : dp + 3 < recursionLimit) (hu : un + 16 < cLine) (hp : p = (W.length : Int)) (hx : (x, instObj 193 dx) ∈ news) (hb : (ba, baO (W ++ Z)) ∈ news) (U : ∀ ba' t', Upd dx (bufD w.params k1 k2 ba p tp) (bufD w.params k1 k2 ba' ((W ++ toBE (v % 2 ^ 32) 4).length : Nat) t') news (news2 ba' t'))
    (hl : (W ++ Z).length ≤ 100000) (hr : 4 ≤ Z.length) (hne : @Ne Nat dx x ∧ @Ne Nat dx ba ∧ @Ne Nat x ba)
    (hret : ∀ (ba' : Addr) (t' : Tok) (h' : Heap) (tk' : Nat), AllNe ba' news → Fr h₀ L h' m → News h₀ L h' ((ba', baO ((W ++ toBE (v % 2 ^ 32) 4) ++ Z.drop 4)) :: news2 ba' t') → R (.ok (.ret .none)) { s with heap := h', toks := tk' }) :
    codeAny (model jprog w) (ktrTop dp un gd cn cs L a ccd cl outer) (.call (.ref 176) ⟨[.ref x, .int (v : Int) tv], []⟩) R s :=
  push32_ct B F X (sub3 N (upd_old (U 0 0)) hx hb) T hk hd hu hp hl hr hne fun ba' t' h' tk' fr F' kp e1 e2 => hret ba' t' h' tk' (news_ne N fr) F' (news_new' F (news_upd1 N (U ba' t') kp e1) e2 fr)
end
end JaLaw
end
section
set_option Elab.async false
set_option maxRecDepth 100000
namespace JaLaw
/-- a byte array of cap octets, W written ahead -/
noncomputable abbrev capL (cap : Nat) (W : List UInt8) : List UInt8 := W ++ List.replicate (cap - W.length) 0
theorem cap_drop (cap : Nat) (W r : List UInt8) : (List.replicate (cap - W.length) (0 : UInt8)).drop r.length = List.replicate (cap - (W ++ r).length) 0 := by
  rw [List.drop_replicate, List.length_append, Nat.sub_sub]
theorem cap_len {cap : Nat} {W : List UInt8} (h : W.length ≤ cap) : (capL cap W).length = cap := by
  rw [List.length_append, List.length_replicate]; (first | lia | omega)
section
variable {w : World} {mean : ExcName → Option Value} {mg mb : PySem.Str → Option Value} {dp un : Nat} {gd : Option (List Code)} {cn : PySem.Str} {cs : Scope} {a : Addr} {ccd : Value} {cl : List (PySem.Str × Addr)} {outer : List Env} {A₀ : Around} {base h₀ : Heap} {L : Addr} {m : PySem.Str → Option Value} {s : Shared} {Q E : Value → Shared → Prop} {R : Result → Shared → Prop}
variable {x dx ba : Addr} {k1 k2 tp tv : Tok} {p : Int} {v cap : Nat} {W r : List UInt8} {news : List (Addr × Obj)} {news2 : Addr → Tok → List (Addr × Obj)}
theorem pushc_full {tr : Tok} (B : Below A₀ base outer h₀) (F : Fr h₀ L s.heap m) (X : (K0 w.params).In h₀) (N : News h₀ L s.heap news) (T : Top jP jL mean mg mb h₀) (hk : cs.kind = .function) (hd : dp + 1 < recursionLimit) (hu : un + 8 < cLine) (hp : p = (W.length : Int)) (hx : (x, instObj 193 dx) ∈ news) (hb : (ba, baO (capL cap W)) ∈ news) (U : ∀ ba' t', Upd dx (bufD w.params k1 k2 ba p tp) (bufD w.params k1 k2 ba' ((W ++ r).length : Nat) t') news (news2 ba' t'))
    (hl : cap ≤ 100000) (hr : W.length + r.length ≤ cap) (hne : @Ne Nat dx x ∧ @Ne Nat dx ba ∧ @Ne Nat x ba)
    (hret : ∀ (ba' : Addr) (t' : Tok) (h' : Heap) (tk' : Nat), AllNe ba' news → Fr h₀ L h' m → News h₀ L h' ((ba', baO (capL cap (W ++ r))) :: news2 ba' t') → R (.ok (.ret .none)) { s with heap := h', toks := tk' }) :
    codeAny (model jprog w) (ktrTop dp un gd cn cs L a ccd cl outer) (.call (.ref 155) ⟨[.ref x, .bytes r.toArray tr], []⟩) R s :=
  push_w (k1 := k1) (k2 := k2) (tp := tp) B F X N T hk hd hu hp hx hb U (by rw [cap_len (by (first | lia | omega))]; exact hl) (by rw [List.length_replicate]; (first | lia | omega)) hne fun ba' t' h' tk' e F' N' => hret ba' t' h' tk' e F' (by rw [cap_drop] at N'; exact N')
theorem push8c_full (B : Below A₀ base outer h₀) (F : Fr h₀ L s.heap m) (X : (K0 w.params).In h₀) (N : News h₀ L s.heap news) (T : Top jP jL mean mg mb h₀) (hk : cs.kind = .function) (hd : dp + 3 < recursionLimit) (hu : un + 16 < cLine) (hp : p = (W.length : Int)) (hx : (x, instObj 193 dx) ∈ news) (hb : (ba, baO (capL cap W)) ∈ news) (U : ∀ ba' t', Upd dx (bufD w.params k1 k2 ba p tp) (bufD w.params k1 k2 ba' ((W ++ toBE (v % 2 ^ 8) 1).length : Nat) t') news (news2 ba' t'))
    (hl : cap ≤ 100000) (hr : W.length + 1 ≤ cap) (hne : @Ne Nat dx x ∧ @Ne Nat dx ba ∧ @Ne Nat x ba)
    (hret : ∀ (ba' : Addr) (t' : Tok) (h' : Heap) (tk' : Nat), AllNe ba' news → Fr h₀ L h' m → News h₀ L h' ((ba', baO (capL cap (W ++ toBE (v % 2 ^ 8) 1))) :: news2 ba' t') → R (.ok (.ret .none)) { s with heap := h', toks := tk' }) :
    codeAny (model jprog w) (ktrTop dp un gd cn cs L a ccd cl outer) (.call (.ref 162) ⟨[.ref x, .int (v : Int) tv], []⟩) R s :=
  push8_full (k1 := k1) (k2 := k2) (tp := tp) B F X N T hk hd hu hp hx hb U (by rw [cap_len (by (first | lia | omega))]; exact hl) (by rw [List.length_replicate]; (first | lia | omega)) hne fun ba' t' h' tk' e F' N' => hret ba' t' h' tk' e F' (by
    have e2 := cap_drop cap W (toBE (v % 2 ^ 8) 1)
    rw [toBE_length] at e2
    rw [e2] at N'; exact N')
theorem push32c_full (B : Below A₀ base outer h₀) (F : Fr h₀ L s.heap m) (X : (K0 w.params).In h₀) (N : News h₀ L s.heap news) (T : Top jP jL mean mg mb h₀) (hk : cs.kind = .function) (hd : dp + 3 < recursionLimit) (hu : un + 16 < cLine) (hp : p = (W.length : Int)) (hx : (x, instObj 193 dx) ∈ news) (hb : (ba, baO (capL cap W)) ∈ news) (U : ∀ ba' t', Upd dx (bufD w.params k1 k2 ba p tp) (bufD w.params k1 k2 ba' ((W ++ toBE (v % 2 ^ 32) 4).length : Nat) t') news (news2 ba' t'))
    (hl : cap ≤ 100000) (hr : W.length + 4 ≤ cap) (hne : @Ne Nat dx x ∧ @Ne Nat dx ba ∧ @Ne Nat x ba)
    (hret : ∀ (ba' : Addr) (t' : Tok) (h' : Heap) (tk' : Nat), AllNe ba' news → Fr h₀ L h' m → News h₀ L h' ((ba', baO (capL cap (W ++ toBE (v % 2 ^ 32) 4))) :: news2 ba' t') → R (.ok (.ret .none)) { s with heap := h', toks := tk' }) :
    codeAny (model jprog w) (ktrTop dp un gd cn cs L a ccd cl outer) (.call (.ref 176) ⟨[.ref x, .int (v : Int) tv], []⟩) R s :=
  push32_full (k1 := k1) (k2 := k2) (tp := tp) B F X N T hk hd hu hp hx hb U (by rw [cap_len (by (first | lia | omega))]; exact hl) (by rw [List.length_replicate]; (first | lia | omega)) hne fun ba' t' h' tk' e F' N' => hret ba' t' h' tk' e F' (by
    have e2 := cap_drop cap W (toBE (v % 2 ^ 32) 4)
    rw [toBE_length] at e2
    rw [e2] at N'; exact N')
theorem datac_full (B : Below A₀ base outer h₀) (F : Fr h₀ L s.heap m) (X : (K0 w.params).In h₀) (N : News h₀ L s.heap news) (T : Top jP jL mean mg mb h₀) (hk : cs.kind = .function) (hd : dp + 1 < recursionLimit) (hu : un + 8 < cLine) (hp : p = (W.length : Int)) (hd' : (dx, bufD w.params k1 k2 ba p tp) ∈ news) (hx : (x, instObj 193 dx) ∈ news) (hb : (ba, baO (capL cap W)) ∈ news) (hl : cap ≤ 100000) (hr : W.length ≤ cap)
    (hret : ∀ (t : Tok) (h' : Heap) (tk' : Nat), Fr h₀ L h' m → News h₀ L h' news → R (.ok (.ret (.bytes W.toArray t))) { s with heap := h', toks := tk' }) :
    codeAny (model jprog w) (ktrTop dp un gd cn cs L a ccd cl outer) (.call (.ref 77) ⟨[.ref x], []⟩) R s := by
  subst hp
  refine data_full B F X N T hk hd hu hd' hx hb (by rw [cap_len hr]; exact hl) (Int.natCast_nonneg _) fun t h' tk' F' N' => ?_
  rw [Int.toNat_natCast, List.take_left]
  exact hret t h' tk' F' N'
theorem eofc_full (B : Below A₀ base outer h₀) (F : Fr h₀ L s.heap m) (X : (K0 w.params).In h₀) (N : News h₀ L s.heap news) (T : Top jP jL mean mg mb h₀) (hk : cs.kind = .function) (hd : dp + 1 < recursionLimit) (hu : un + 8 < cLine) (hp : p = (W.length : Int)) (hd' : (dx, bufD w.params k1 k2 ba p tp) ∈ news) (hx : (x, instObj 193 dx) ∈ news) (hb : (ba, baO (capL cap W)) ∈ news) (hl : cap ≤ 100000) (hr : W.length = cap)
    (hret : ∀ (h' : Heap) (tk' : Nat), Fr h₀ L h' m → News h₀ L h' news → R (.ok (.ret (.bool true))) { s with heap := h', toks := tk' }) :
    codeAny (model jprog w) (ktrTop dp un gd cn cs L a ccd cl outer) (.call (.ref 92) ⟨[.ref x], []⟩) R s := by
  subst hp
  refine eof_full B F X N T hk hd hu hd' hx hb (by rw [cap_len (by (first | lia | omega))]; exact hl) fun h' tk' F' N' => ?_
  rw [cap_len (by (first | lia | omega)), hr, beq_self_eq_true]
  exact hret h' tk' F' N'
end
end JaLaw
end
section
set_option Elab.async false
set_option maxRecDepth 100000
namespace JaLaw
/-! a loop over a list of ints that stands in the ground; the ledger turns as J says -/
section
variable {prog : Program} {w : World} {A : Around} {E : Value → Shared → Prop} {s : Shared} {env : Env} {h₀ : Heap} {x : PySem.Str} {body : List Stmt} {Q : Flow → Shared → Prop}
structure TurnEnd (h₀ : Heap) (L : Addr) (x : PySem.Str) (m₀ : PySem.Str → Option Value) (I : Addr) (oI : Obj) (J : List (Addr × Obj) → Prop) (s₁ : Shared) (f : Flow) (s₂ : Shared) : Prop where
  out : f = .next ∧ ∃ h' tk' m' news', s₂ = { s₁ with heap := h', toks := tk' } ∧ Fr h₀ L h' m' ∧ (∀ y, y ≠ x → m' y = m₀ y) ∧ News h₀ L h' ((I, oI) :: news') ∧ (∀ p ∈ news', p.1 ≠ I) ∧ J news'
theorem iter_listJ {l : Addr} {vs : List Value} {ns : List Int} {m₀ : PySem.Str → Option Value} {news : List (Addr × Obj)} (J : Nat → List (Addr × Obj) → Prop)
    (hh : A.handled = none) (hl : h₀.IsList l vs.toArray) (hi : IntsAre vs ns) (F : Fr h₀ env.locals s.heap m₀) (N : News h₀ env.locals s.heap news) (hj : J 0 news)
    (turn : ∀ i n t news₁ h tk I oI, ns[i]? = some n → (∀ p ∈ news₁, p.1 ≠ I) → J i news₁ → Fr h₀ env.locals h (fun y => if y = x then some (.int n t) else m₀ y) → News h₀ env.locals h ((I, oI) :: news₁) →
      wpAny (model prog w) A (execs body env) (TurnEnd h₀ env.locals x m₀ I oI (J (i + 1)) { s with heap := h, toks := tk }) E { s with heap := h, toks := tk })
    (done : ∀ ov news₁ h tk, J ns.length news₁ → Fr h₀ env.locals h (fun y => if y = x then ov else m₀ y) → News h₀ env.locals h news₁ → Q .next { s with heap := h, toks := tk }) :
    wpAny (model prog w) A (pyIter (.ref l)) (fun it s₂ => LoopAtV prog w A h₀ env x body Q E it s₂) E s := by
  have hls : s.heap.IsList l vs.toArray := hl.at fun o e => F.keep l o e
  obtain ⟨ol, hol, _⟩ := id hl
  have hlt : l < h₀.objs.size := Heap.lt_size hol
  have hne : l ≠ s.heap.objs.size := Nat.ne_of_lt (Nat.lt_trans (Nat.lt_of_lt_of_le hlt F.above) F.ns.lt)
  refine wpAny_pyIter_list hls ?_
  have W := Walks.list (prog := prog) (w := w) hh s.heap.objs.size l hne vs.toArray
  have hlen : vs.toArray.size = ns.length := by simp [hi.length]
  rw [hlen] at W
  have meq : ∀ {m₁ : PySem.Str → Option Value} (ov : Option Value), (∀ y, y ≠ x → m₁ y = m₀ y) → (fun y => if y = x then ov else m₁ y) = fun y => if y = x then ov else m₀ y := fun {m₁} ov hm => by
    funext y
    by_cases q : y = x
    · rw [if_pos q, if_pos q]
    · rw [if_neg q, if_neg q, hm y q]
  let J' : Nat → (PySem.Str → Option Value) → List (Addr × Obj) → Prop := fun i m₁ news₁ => (∀ y, y ≠ x → m₁ y = m₀ y) ∧ J i news₁
  have hI₀ : h₀.get? s.heap.objs.size = none := next_is_new F
  refine ⟨_, _, _, ns.length, _, _, m₀, news, J', rfl, W, ?_, ?_, ?_, ⟨⟨_, Heap.get?_push_size _ rfl, rfl, rfl⟩, hls.at fun o e => Heap.get?_push_of_some _ e⟩, F.push _, (fun p hp => ⟨Heap.get?_push_of_some _ (N p hp).1, (N p hp).2⟩), ⟨fun _ _ => rfl, hj⟩, ?_, ?_⟩
  · intro hm
    rcases List.mem_cons.mp hm with e | hm
    · exact absurd F.ns.lt (e ▸ Nat.lt_irrefl _)
    · exact absurd (Nat.lt_of_lt_of_le hlt F.above) ((List.mem_singleton.mp hm) ▸ Nat.lt_irrefl _)
  · intro b hb
    rw [List.mem_singleton.mp hb]
    exact hI₀
  · intro p hp hI
    exact absurd (Heap.lt_size (N p hp).1) ((List.mem_singleton.mp hI) ▸ Nat.lt_irrefl _)
  · rintro i v m₁ news₁ s₁ own ⟨hh', tk', rfl⟩ hin hP ⟨hm, hJ⟩ hoff hown hget hall hst F₁ N₁
    have hlt' : i < ns.length := hin
    obtain ⟨t, hx⟩ := hi.get i ns[i] (by simp [hlt'])
    have hv : v = .int ns[i] t := by
      have hP' : vs[i]? = some v := by simpa using hP
      rw [hx] at hP'; exact (Option.some.inj hP').symm
    subst hv
    obtain ⟨⟨oI, hoI, -⟩, -⟩ := hst
    have hmem := hall s.heap.objs.size (.head _) hI₀ oI hoI
    have ownI : ∀ p ∈ own, p = (s.heap.objs.size, oI) := fun p hp => by
      have h1 : p.1 = s.heap.objs.size := by
        rcases List.mem_cons.mp (hown p hp) with h1 | h1
        · exact h1
        · have h2 := List.mem_singleton.mp h1
          have h3 := (N₁ p (List.mem_append_left _ hp)).2.2
          rw [h2, hol] at h3
          cases h3
      have h2 : hh'.get? p.1 = some p.2 := hget p hp
      rw [h1, hoI] at h2
      exact Prod.ext h1 (Option.some.inj h2).symm
    rw [meq _ hm] at F₁
    have N₂ : News h₀ env.locals hh' ((s.heap.objs.size, oI) :: news₁) := fun p hp => by
      rcases List.mem_cons.mp hp with rfl | hp
      · exact N₁ _ (List.mem_append_left _ hmem)
      · exact N₁ _ (List.mem_append_right _ hp)
    refine wpAny_mono (turn i ns[i] t news₁ hh' tk' s.heap.objs.size oI (by simp [hlt']) (fun p hp e => hoff p hp (List.mem_singleton.mpr e)) hJ F₁ N₂) (fun f s₂ p => ?_) fun _ _ e => e
    obtain ⟨⟨rfl, h', tk2, m', news', e, F', hm', N', ho, r⟩⟩ := p
    refine .next ⟨rfl, h', tk2, m', news', e, F', fun p hp => ?_, fun p hp hI => ho p hp (List.mem_singleton.mp hI), hm', r⟩
    rcases List.mem_append.mp hp with hp | hp
    · rw [ownI p hp]; exact N' _ (List.mem_cons_self ..)
    · exact N' _ (List.mem_cons_of_mem _ hp)
  · rintro h' tk m' news' F' N' _ ⟨hm, hJ⟩
    have e : m' = fun y => if y = x then m' x else m₀ y := by
      funext y
      by_cases q : y = x
      · subst q; rw [if_pos rfl]
      · rw [if_neg q]; exact hm y q
    rw [e] at F'
    exact done _ news' h' tk hJ F' N'
end
end JaLaw
end
section
open PySem.Calls
open Sem (wp)
set_option Elab.async false
set_option maxRecDepth 100000
namespace JaLaw
/-! a for over a range, walked where no decoder stands on the stack -/
section
variable {M : Model} {A : Around} {E : Value → Shared → Prop} {s : Shared} {env : Env} {c : Code} {R : Result → Shared → Prop}
theorem codeN_loop (hq : c.quiet = true) (hd : isDec c = false) (I : Nat → Shared → Prop)
    (turn : ∀ n s, I n s → wpN M (A.under c) (M.den c)
      (fun fin s' => match fin with
        | .done f => R (.ok f) s'
        | .again c' => (c' = c ∧ ∃ m, m < n ∧ I m s') ∨ (c'.quiet = true ∧ codeN M A c' R s')) (fun e s' => R (.error e) s') s)
    (n : Nat) (h : I n s) : codeN M A c R s := by
  induction n using Nat.strongRecOn generalizing s with
  | ind n ih =>
    refine codeN_tree hd (wpN_mono (turn n s h) (fun fin s' hf => ?_) fun _ _ h' => h')
    cases fin with
    | done f => exact hf
    | again c' =>
      rcases hf with ⟨rfl, m, hm, hI⟩ | hf
      · exact ⟨hq, ih m hm hI⟩
      · exact hf
theorem wpN_noted {α : Type} {m : Sem α} {Q : α → Shared → Prop} (h : wpN M A m Q (notedBy M A env E) s) : wpN M A (m.onRaise fun x => do noteFrame x env; theTreesLotGoes x) Q E s :=
  wpN_onRaise (wpN_mono h (fun _ _ q => q) fun _ _ hx => wpN_any (wpAny_bind (wpAny_mono hx (fun _ _ e => wpAny_theTreesLotGoes e) fun _ _ e => e)))
theorem wpN_runOwn {h : Option Value} {Q : Flow → Shared → Prop}
    (hc : codeN M (A.mark h) c (fun r s' => match r with | .ok f => Q f s' | .error e => cameBackBy M A env E e s') s) (hnb : h ≠ some byPass := by intro x; cases x) :
    wpN M A (runOwn c env h) Q E s := by
  unfold runOwn
  exact wpN_onRaise (wpN_mono (wpN_run hc hnb) (fun _ _ q => q) fun _ _ q => wpN_any q)
theorem n_For {target : Expr} {iter : Expr} {body orelse : List Stmt} {pos : Pos} {Q : Flow → Shared → Prop}
    (h : wpAny M A (eval iter env) (fun x s₁ => wpAny M A (pyIter x) (fun it s₂ =>
      codeN M A (.forLoop target it body orelse env) (fun r s' => match r with | .ok f => Q f s' | .error e => cameBackBy M A env E e s') s₂) E s₁) E s)
    (hs : ∀ x, foldedSetIterable iter env x = pure x := by intro _; rfl) :
    wpN M A (exec (.For target iter body orelse pos) env) Q E s := by
  rw [exec_For]
  refine nb (wpAny_standAt (nb (wpAny_mono h (fun x s₁ h₁ => nb (wpAny_of_eq (hs x) (nb (wpAny_standAt (nb (wpAny_holding (wpAny_mono h₁ (fun it s₂ h₂ => ?_) fun _ _ h' => h'))))))) fun _ _ h' => h')))
  exact wpN_runOwn h₂
end
section
variable {prog : Program} {w : World} {A : Around} {s : Shared} {env : Env} {h₀ : Heap} {R : Result → Shared → Prop}
theorem codeN_forLoop {it : Value} {x : PySem.Str} {px : Pos} {body : List Stmt} (I : Nat → Shared → Prop)
    (turn : ∀ n s, I n s → wpAny (model prog w) A (pyNext it) (fun r s₁ => match r with
      | none => R (.ok .next) s₁
      | some v => wpAny (model prog w) A (assign (.Name x px) env v) (fun _ s₂ => wpN (model prog w) A (execs body env) (fun f s₃ => match f with
          | .next | .cont => ∃ m, m < n ∧ I m s₃
          | .brk => R (.ok .next) s₃
          | .ret v => R (.ok (.ret v)) s₃) (notedBy (model prog w) A env fun e s' => R (.error e) s') s₂) (notedBy (model prog w) A env fun e s' => R (.error e) s') s₁) (notedBy (model prog w) A env fun e s' => R (.error e) s') s)
    (n : Nat) (h : I n s) (ht : ∀ v, letOwnedTupleGo (.Name x px) it v = pure () := by intro _; rfl) : codeN (model prog w) A (.forLoop (.Name x px) it body [] env) R s := by
  refine codeN_loop rfl rfl I (fun n s hI => ?_) n h
  show wpN _ _ ((forTurn (.Name x px) it body [] env).onRaise (fun x => do noteFrame x env; theTreesLotGoes x)) _ _ s
  refine wpN_noted ?_
  simp only [forTurn]
  refine nb (wpAny_standAt (nb (wpAny_onRaise (wpAny_mono (turn n s hI) (fun r s₁ h₁ => ?_) fun _ _ h' => wpAny_standAt h'))))
  cases r with
  | none => exact wpN_pure (.inr ⟨rfl, codeN_any (codeAny_block (wpAny_execs_nil h₁))⟩)
  | some v =>
    refine nb (wpAny_of_eq (ht v) ?_)
    refine nb (wpAny_mono h₁ (fun _ s₂ h₂ => wpN_bind (wpN_mono h₂ (fun f s₃ h₃ => ?_) fun _ _ h' => h')) fun _ _ h' => h')
    cases f with
    | next => exact wpN_pure (.inl ⟨rfl, h₃⟩)
    | cont => exact wpN_pure (.inl ⟨rfl, h₃⟩)
    | brk => exact wpN_pure h₃
    | ret v => exact wpN_pure h₃
structure TurnEndN (h₀ : Heap) (L : Addr) (I : Addr) (oI : Obj) (J : (PySem.Str → Option Value) → List (Addr × Obj) → Prop) (s₁ : Shared) (f : Flow) (s₂ : Shared) : Prop where
  out : f = .next ∧ ∃ h' tk' m' news', s₂ = { s₁ with heap := h', toks := tk' } ∧ Fr h₀ L h' m' ∧ News h₀ L h' ((I, oI) :: news') ∧ (∀ p ∈ news', p.1 ≠ I) ∧ J m' news'
/-- what holds ahead of a turn -/
inductive InvN (h₀ : Heap) (L I : Addr) (N : Nat) (J : Nat → (PySem.Str → Option Value) → List (Addr × Obj) → Prop) (s₁ : Shared) (k : Nat) (s' : Shared) : Prop
  | mk (i : Nat) (m' : PySem.Str → Option Value) (news' : List (Addr × Obj)) (h' : Heap) (tk : Nat) (e : s' = { s₁ with heap := h', toks := tk }) (hI : IsRangeIter h' I (0 + (i : Nat) * 1) ((N : Int) - (i : Nat)) 1)
    (F : Fr h₀ L h' m') (W : News h₀ L h' news') (off : ∀ p ∈ news', p.1 ≠ I) (j : J i m' news') (hi : i ≤ N) (hk : k = N + 1 - i)
/-- what the iterable hands on -/
inductive OpenN (prog : Program) (w : World) (A : Around) (env : Env) (h₀ : Heap) (x : PySem.Str) (body : List Stmt) (Q : Flow → Shared → Prop) (xv : Value) (s₁ : Shared) : Prop
  | mk (r : Addr) (n : Nat) (t u v : Tok) (m₀ : PySem.Str → Option Value) (news : List (Addr × Obj)) (J : Nat → (PySem.Str → Option Value) → List (Addr × Obj) → Prop)
    (e : xv = .ref r) (hh : A.handled = none) (hr : IsRange s₁.heap r 0 n 1 t u v) (hn : n ≤ 1000000) (F : Fr h₀ env.locals s₁.heap m₀) (N : News h₀ env.locals s₁.heap news) (j : J 0 m₀ news)
    (turn : ∀ i t m₁ news₁ h tk I oI (E' : Value → Shared → Prop), i < n → J i m₁ news₁ → (∀ p ∈ news₁, p.1 ≠ I) → Fr h₀ env.locals h (fun y => if y = x then some (.int ((i : Nat) : Int) t) else m₁ y) → News h₀ env.locals h ((I, oI) :: news₁) →
        wpN (model prog w) A (execs body env) (TurnEndN h₀ env.locals I oI (J (i + 1)) { s₁ with heap := h, toks := tk }) E' { s₁ with heap := h, toks := tk })
    (done : ∀ m₁ news₁ h tk, J n m₁ news₁ → Fr h₀ env.locals h m₁ → News h₀ env.locals h news₁ → Q .next { s₁ with heap := h, toks := tk })
section
variable {L I : Addr} {h' : Heap} {m' : PySem.Str → Option Value} {news' : List (Addr × Obj)} {J : Nat → (PySem.Str → Option Value) → List (Addr × Obj) → Prop} {s₁ s₂ : Shared} {n i : Nat}
theorem inv_next (F' : Fr h₀ L h' m') (N' : News h₀ L h' news') (hLI : L ≠ I) (hnew : h₀.get? I = none) (hoff : ∀ p ∈ news', p.1 ≠ I) {h₁ : Heap}
    (hk₁ : ∀ b o, b ∉ [I] → h'.get? b = some o → h₁.get? b = some o) : Fr h₀ L h₁ m' ∧ News h₀ L h₁ news' :=
  ⟨⟨F'.ns.at' fun o e => hk₁ _ o (fun q => hLI (List.mem_singleton.mp q)) e, fun b o e => hk₁ b o (fun q => by rw [List.mem_singleton.mp q, hnew] at e; cases e) (F'.keep b o e), F'.above⟩, fun p hp => ⟨hk₁ _ _ (fun q => hoff p hp (List.mem_singleton.mp q)) (N' p hp).1, (N' p hp).2⟩⟩
theorem inv_end {h₁ h : Heap} {tk₁ : Nat} {oI : Obj} {f : Flow} (hI : h.get? I = some oI) (hst : IsRangeIter h I (0 + ((i + 1 : Nat) : Int) * 1) ((n : Int) - ((i + 1 : Nat) : Int)) 1) (hlt : i < n)
    (H : TurnEndN h₀ L I oI (J (i + 1)) { s₁ with heap := h₁, toks := tk₁ } f s₂) : f = .next ∧ ∃ m, m < n + 1 - i ∧ InvN h₀ L I n J s₁ m s₂ := by
  obtain ⟨⟨rfl, h₃', tk₃, m₂, news₂, rfl, F₃, N₃, ha₃, hJ₃⟩⟩ := H
  have h3 : h₃'.get? I = some oI := (N₃ _ (.head _)).1
  exact ⟨rfl, n + 1 - (i + 1), by (first | lia | omega), i + 1, m₂, news₂, h₃', tk₃, rfl, h3.trans (hI.symm.trans hst), F₃, fun p hp => N₃ p (.tail _ hp), ha₃, hJ₃, hlt, rfl⟩
end
theorem n_For_range {x : PySem.Str} {px pos : Pos} {iter : Expr} {body : List Stmt} {Q : Flow → Shared → Prop} {E : Value → Shared → Prop} (hx : env.kindOf x = some .local)
    (hp : (env.scope.kind == .class || (env.scope.kind == .module && env.locals != env.globals)) = false)
    (h : wpAny (model prog w) A (eval iter env) (fun xv s₁ => Halt (OpenN prog w A env h₀ x body Q xv s₁)) E s)
    (hs : ∀ x, foldedSetIterable iter env x = pure x := by intro _; rfl) :
    wpN (model prog w) A (exec (.For (.Name x px) iter body [] pos) env) Q E s := by
  refine n_For (wpAny_mono h (fun xv s₁ h₁ => ?_) fun _ _ e => e) hs
  obtain ⟨⟨r, n, t, u, v, m₀, news, J, rfl, hh, hr, hn6, F, N, j0, turn, done⟩⟩ := h₁
  have hsize : Builtin.Range.rangeSize 0 (n : Int) 1 = ((n : Nat) : Int) := by rw [rangeSize_nat, Int.sub_zero, Int.toNat_natCast]
  refine wpAny_pyIter_range hr (small_one (by decide) (by decide) (by (first | lia | omega)) (by (first | lia | omega))) ?_
  have W := Walks.range (prog := prog) (w := w) hh s₁.heap.objs.size 0 1 n
  have hnew := next_is_new F
  have hLI : env.locals ≠ s₁.heap.objs.size := Nat.ne_of_lt F.ns.lt
  have hnI : ∀ p ∈ news, p.1 ≠ s₁.heap.objs.size := fun p hp => Nat.ne_of_lt (Heap.lt_size (N p hp).1)
  refine codeN_forLoop (InvN h₀ env.locals s₁.heap.objs.size n J s₁) ?_ (n + 1)
    ⟨0, m₀, news, _, s₁.toks, rfl, (by show IsRangeIter _ _ _ _ _; rw [hsize]; simpa using Heap.get?_push_size _ rfl), F.push _, (fun p hp => ⟨Heap.get?_push_of_some _ (N p hp).1, (N p hp).2⟩), hnI, j0, Nat.zero_le _, rfl⟩
  rintro k s' ⟨i, m', news', h', tk, rfl, hst', F', N', hnw', hJ, hi, rfl⟩
  by_cases hlt : i < n
  · refine W.bound.item i _ _ _ hlt hst' fun v h₁ tk₁ hP hst₁ hk₁ => ?_
    obtain ⟨F₁, N₁⟩ := inv_next F' N' hLI hnew hnw' hk₁
    obtain ⟨-, t1, rfl⟩ := hP
    refine wpAny_assign_Name (wpAny_storeName_local hx F₁.ns (fun h₂ hn₂ hs₂ => ?_) hp)
    have F₂ := F₁.set hn₂ hs₂
    have N₂ := N₁.set hs₂
    have hst₂ := (hs₂.2 s₁.heap.objs.size (Ne.symm hLI)).trans hst₁
    rw [show (0 : Int) + (i : Int) * 1 = ((i : Nat) : Int) by (first | lia | omega)] at F₂
    refine wpN_mono (turn i t1 m' news' h₂ _ s₁.heap.objs.size _ _ hlt hJ hnw' F₂ (List.forall_mem_cons.mpr ⟨⟨hst₂, Ne.symm hLI, hnew⟩, N₂⟩)) (fun f s₃ h₃ => ?_) fun _ _ e => e
    obtain ⟨rfl, he⟩ := inv_end hst₂ hst₂ hlt h₃
    exact he
  · have hin : i = n := by (first | lia | omega)
    subst hin
    refine W.bound.done _ _ _ hst' fun h₁ tk₁ hk₁ => ?_
    obtain ⟨F₁, N₁⟩ := inv_next F' N' hLI hnew hnw' hk₁
    exact done m' news' h₁ tk₁ hJ F₁ N₁
end
end JaLaw
end
section
set_option Elab.async false
set_option maxRecDepth 100000
namespace JaLaw
section
variable {prog : Program} {w : World} {A₀ A : Around} {s : Shared} {base h₀ : Heap} {env : Env} {outer : List Env} {L : Addr} {m : PySem.Str → Option Value} {news : List (Addr × Obj)} {K : Frag}
  {R : Result → Shared → Prop} {name qual : PySem.Str} {params : Arguments} {body : List Stmt} {scope : Scope} {dV kV doc pm cdv ct oc : Value} {an od : Option Addr} {osl : Array (Option Value)} {f : Addr} {args : Args} {binds : List (PySem.Str × Value)}
  {p : Program} {loose : List PySem.Str} {mean : ExcName → Option Value} {mg mb : PySem.Str → Option Value}
/-- a called def with cells, entered with what is kept of the caller's heap -/
theorem enter_defC (B : Below A₀ base outer h₀) (F : Fr h₀ L s.heap m) (X₀ : K.In h₀) (N : News h₀ L s.heap news) (T : Top p loose mean mg mb h₀) (hA : A.frames = some (env :: outer)) (hf : env.frame = some L) (hke : env.scope.kind = .function)
    (ho : K.lookup f = some ⟨oc, od, .func (fnOf name qual params body scope dV kV doc pm an cdv ct), osl⟩) (hcd : codeIn K cdv qual = true) (hroom : A.depth < recursionLimit)
    (hbind : BindsTo s (fnOf name qual params body scope dV kV doc pm an cdv ct) args binds) (hkind : (binds.all fun y => scope.names.lookup y.1 == some .local || scope.names.lookup y.1 == some .cell) = true)
    (hnd : ((cellsFrom 0 scope.names []).map (·.1)).Nodup) {m₁ : PySem.Str → Option Value} (hm : ∀ L', bindL (envOfC qual scope L' f cdv).kindOf binds (fun _ => none) = m₁)
    (h : ∀ g L' h₁ tk cells, Fr h₀ L g m → Fr g L' h₁ m₁ → News g L' h₁ (cells ++ news) →
      CellsAre (bindC (envOfC qual scope L' f cdv).kindOf binds fun _ => none) (cellsFrom (L' + 1) scope.names []) cells → Below A base (env :: outer) g → K.In g → Top p loose mean mg mb g → Keeps (news.map (·.1)) s.heap g → (∀ p ∈ news, p.1 < L') →
      wpAny (model prog w) (A.deeper (envOfC qual scope L' f cdv)) (execs body (envOfC qual scope L' f cdv))
        (fun fl s' => LeaveK h₀ L m g (fun r s'' => Keeps (news.map (·.1)) s.heap s''.heap → R r s'') (match fl with | .ret v => v | _ => .none) s')
        (fun e s' => wpAny (model prog w) (A.deeper (envOfC qual scope L' f cdv)) (leaving (envOfC qual scope L' f cdv) e) (fun _ s'' => R (.error e) s'') (fun e' s'' => R (.error e') s'') s')
        { s with heap := h₁, toks := tk })
    (hco : scope.isCoroutine = false) (hgen : scope.isGenerator = false) (hk : scope.kind = .function) : codeAny (model prog w) A (.call (.ref f) args) R s := by
  have X := X₀.keeps F.keep
  obtain ⟨Fg, Bg, st⟩ := ground_of B F N hA hf hke
  have kg : Keeps (news.map (·.1)) s.heap (hideAll s.heap (news.map (·.1))) := fun b o e n => hideAll_get _ e n
  refine codeAny_call_function hroom (X _ _ ho) rfl hco hgen rfl (codeRec_of X hcd) (hbind _ _ _ _ ?_)
  refine wpAny_newFunctionEnv_cells hk (kindsX hkind _) fun env' he s' x => ?_
  subst he
  refine ⟨(T.nolimit.keeps F.keep).keeps x.toInCall.keep, codeAny_func ?_⟩
  obtain ⟨h₁, tk, rfl, _⟩ := x.done
  have hk₁ := x.toInCall.keep
  obtain ⟨cells, NC, Y⟩ := Cl.news (h₀ := s.heap) (Nat.le_refl _) fun n c hm => ⟨x.cell n c (lookup_of_mem_nodup (cellsFrom_names scope.names 0 (s.heap.objs.size + 1) [] [] rfl ▸ hnd) hm), x.above n c hm⟩
  refine wpAny_mono (h _ s.heap.objs.size h₁ tk cells Fg ⟨hm _ ▸ x.toInCall.ns, fun b o e => hk₁ b o (of_hideAll _ e), Nat.le_of_eq (hideAll_size _ _)⟩ (fun p hp => ?_) Y Bg (X₀.keeps fun b o e => st b o e) (T.keeps fun b o e => st b o e) kg (fun p hp => Heap.lt_size (N p hp).1)) (fun fl s' hl => ?_) fun _ _ y => y
  · rcases List.mem_append.mp hp with hp | hp
    · refine ⟨(NC p hp).1, (NC p hp).2.1, ?_⟩
      cases q : (hideAll s.heap (news.map (·.1))).get? p.1 with
      | none => rfl
      | some o => have := of_hideAll _ q; rw [(NC p hp).2.2] at this; cases this
    · exact ⟨hk₁ _ _ (N p hp).1, Nat.ne_of_lt (Heap.lt_size (N p hp).1), hideAll_none _ (List.mem_map_of_mem hp)⟩
  · obtain ⟨L', m', news', F', N', k⟩ := hl
    obtain ⟨oL, es, ep, hL, hLd, hLk, hLf⟩ := Fg.ns
    refine k ⟨⟨oL, es, ep, F'.keep L oL hL, hLd, hLk, hLf⟩, fun b o e => F'.keep b o (st b o e), F.above⟩ (fun q hq => ⟨(N' q hq).1, fun z => ?_, ?_⟩) fun b o e n => F'.keep b o (kg b o e n)
    · have := (N' q hq).2.2; rw [z, hL] at this; cases this
    · cases z : h₀.get? q.1 with
      | none => rfl
      | some o => have := (N' q hq).2.2; rw [st _ _ z] at this; cases this
end
end JaLaw
end
section
set_option Elab.async false
set_option maxRecDepth 100000
namespace JaLaw
theorem fresh_mem {news led : List (Addr × Obj)} {h g h2 : Heap} {L a : Addr} {o : Obj} (k : Keeps (news.map (·.1)) h g) (N : News g L h2 led) (hm : (a, o) ∈ led) (hl : AllLt a news) : h.get? a = none := fresh_in k (N _ hm).2.2 hl
theorem size4 {a b : Int} {n : Nat} (h : b - a = 4 * (n : Int)) : Builtin.Range.rangeSize a b 4 = ((n : Nat) : Int) := by
  unfold Builtin.Range.rangeSize
  rw [if_pos (by decide)]
  split <;> (first | lia | omega)
theorem small4 {a b : Int} {n : Nat} (h : b - a = 4 * (n : Int)) (ha : 0 ≤ a) (hb : b ≤ 1000000) : Builtin.Range.small a b 4 = true := by
  unfold Builtin.Range.small
  rw [size4 h]
  simp only [Builtin.Range.rangeFitsLong, Bool.and_eq_true, Bool.or_eq_true, decide_eq_true_eq, beq_iff_eq, show (4 : Int) > 0 by decide, if_true]
  (first | lia | omega)
/-! a name bound to a list display over a range of any step -/
section
variable {prog : Program} {w : World} {A : Around} {E : Value → Shared → Prop} {s : Shared} {h₀ : Heap} {L : Addr} {m : PySem.Str → Option Value} {env : Env}
noncomputable def StepSrc (prog : Program) (w : World) (A : Around) (h₀ : Heap) (L : Addr) (m : PySem.Str → Option Value) (env : Env) (elt : Expr) (x : PySem.Str) (scope : Scope) (cl : List (PySem.Str × Addr)) (Fin : Shared → List Value → List (Addr × Obj) → Prop) (xv : Value) (s₁ : Shared) : Prop :=
  ∃ r a b c t u v n news, xv = .ref r ∧ A.handled = none ∧ Fr h₀ L s₁.heap m ∧ News h₀ L s₁.heap news ∧ IsRange s₁.heap r a b c t u v ∧ Builtin.Range.small a b c = true ∧ Builtin.Range.rangeSize a b c = ((n : Nat) : Int) ∧ n ≤ sizeLine ∧
    ∀ s₂ : Shared, (∃ h, s₂ = { s₁ with heap := h }) → LCg.CompRest prog w A h₀ L m env elt x scope cl s₂ (fun _ => True) (fun i v => i < n ∧ ∃ t, v = .int (a + (i : Int) * c) t) (Fin s₂) n 0 [] news
theorem StepSrc.intro {elt : Expr} {x : PySem.Str} {scope : Scope} {cl : List (PySem.Str × Addr)} {Fin : Shared → List Value → List (Addr × Obj) → Prop} {r : Addr} {a b c : Int} {t u v : Tok} {n : Nat} {news : List (Addr × Obj)} {s₁ : Shared}
    (hh : A.handled = none) (F : Fr h₀ L s₁.heap m) (N : News h₀ L s₁.heap news) (hr : IsRange s₁.heap r a b c t u v) (hsm : Builtin.Range.small a b c = true) (hn : Builtin.Range.rangeSize a b c = ((n : Nat) : Int)) (hsz : n ≤ sizeLine)
    (h : ∀ g, LCg.CompRest prog w A h₀ L m env elt x scope cl { s₁ with heap := g } (fun _ => True) (fun i v => i < n ∧ ∃ t, v = .int (a + (i : Int) * c) t) (Fin { s₁ with heap := g }) n 0 [] news) :
    StepSrc prog w A h₀ L m env elt x scope cl Fin (.ref r) s₁ := ⟨r, a, b, c, t, u, v, n, news, rfl, hh, F, N, hr, hsm, hn, hsz, fun _ ⟨g, e⟩ => e ▸ h g⟩
theorem Assign_comp_step {elt iter : Expr} {x y : PySem.Str} {px py : Pos} {scope : Scope} {cl : List (PySem.Str × Addr)} {pos spos : Pos} {Q : Flow → Shared → Prop} (_F : Fr h₀ L s.heap m) (hLe : env.locals = L)
    (hsw : swapsWith (.ListComp elt [⟨.Name x px, iter, [], 0⟩] scope pos) (some (.Name y py)) spos.line env = pure true)
    (hclos : closureFor scope env = pure cl) (hcell : ∀ z ∈ scope.names, z.2 ≠ .cell) (hkind : scope.kind = .function)
    (hnames : ∀ z ∈ scope.names, z.2 = .local → scope.names.lookup z.1 = some .local) (hx : scope.names.lookup x = some .local)
    (hy : env.kindOf y = some .local) (hp : (env.scope.kind == .class || (env.scope.kind == .module && env.locals != env.globals)) = false)
    (h : wpAny (model prog w) A (eval iter env) (StepSrc prog w A h₀ L m env elt x scope cl (fun s₂ => LCg.FinA h₀ L m s₂ y Q)) E s)
    (hs : ∀ x, foldedSetIterable iter env x = pure x := by intro _; rfl) :
    wpAny (model prog w) A (exec (.Assign [.Name y py] (.ListComp elt [⟨.Name x px, iter, [], 0⟩] scope pos) spos) env) Q E s := by
  subst hLe
  rw [exec_Assign_Name_used _ _ _ _ hsw]
  refine wpAny_bind (wpAny_standAt (wpAny_bind ?_))
  show wpAny _ A (do let _ ← comprehension (.ListComp elt [⟨.Name x px, iter, [], 0⟩] scope pos) scope env _ (newList []) false (eval iter env) (some (assign (.Name y py) env))) _ _ s
  refine wpAny_bind (wpAny_mono (wpAny_comprehension_free (use := some (assign (.Name y py) env)) (Q := fun _ s' => Q .next s') rfl hs hclos hkind hnames
    (wpAny_mono h (fun xv s₁ h₁ => ?_) fun _ _ e => e)) (fun _ s' hq => wpAny_pure (wpAny_pure hq)) fun _ _ e => e)
  obtain ⟨r, a, b, c, t, u, v, n, news, rfl, hh, F, N, hr, hsm, hn, hsz, R⟩ := h₁
  refine wpAny_pyIter_range hr hsm ?_
  have still : ∀ i (h h' : Heap) (o : Obj) (nw : List (Addr × Obj)), IsRangeIter h s₁.heap.objs.size (a + (i : Nat) * c) ((n : Int) - (i : Nat)) c → h.get? s₁.heap.objs.size = some o → h'.get? s₁.heap.objs.size = some o → (∀ b o, h₀.get? b = some o → h'.get? b = some o) → News h₀ env.locals h' nw → True → IsRangeIter h' s₁.heap.objs.size (a + (i : Nat) * c) ((n : Int) - (i : Nat)) c := by
    intro i h h' o nw st e e' _ _ _
    have st' : h.get? s₁.heap.objs.size = some _ := st
    show h'.get? s₁.heap.objs.size = some _
    rw [e', ← e]
    exact st'
  refine LCg.block_U (Walks.range hh s₁.heap.objs.size a c n).bound hsz (fun i h st => ⟨_, st⟩) still hcell hkind hx (by show IsRangeIter _ _ _ _ _; rw [hn]; simpa using Heap.get?_push_size _ rfl) (fun b hb => ?_)
    (F.keeps fun _ _ e => Heap.get?_push_of_some _ e) (N.grown fun _ _ e => Heap.get?_push_of_some _ e) (Nat.ne_of_lt F.ns.lt) (next_is_new F) (fun p hp => Nat.ne_of_lt (Heap.lt_size (N p hp).1)) trivial (R _ ⟨_, rfl⟩) ?_
  · rw [List.mem_singleton.mp hb]
    show s₁.heap.objs.size < (s₁.heap.push _).objs.size
    rw [Heap.size_push]
    exact Nat.lt_succ_self _
  · intro D C h' tk m' ys news' F' N' o1 hn' hC₀ hD₀ hCL hDL hCD offC fin
    show wpAny _ A (assign (.Name y py) env (.ref D)) _ _ _
    refine wpAny_assign_Name (wpAny_storeName_local hy F'.ns (fun h₂ hn₂ hs₂ => ?_) hp)
    have hL₀ : h₀.get? env.locals = none := Heap.get?_none_of_le F'.above
    have F₂ : Fr h₀ env.locals h₂ (fun z => if z = y then some (.ref D) else m z) := ⟨hn₂, fun b o e => hs₂.extBut b o (fun q => by rw [q, hL₀] at e; cases e) (F'.keep b o e), F'.above⟩
    refine ⟨m', hn'.sameBut hs₂ hCL, fun h'' hs'' => fin D h'' _ (F₂.change hs'' hCL hC₀) (fun p hp => ?_) o1⟩
    have z : h₂.get? p.1 = some p.2 := hs₂.extBut _ _ (N' p hp).2.1 (N' p hp).1
    refine ⟨hs''.extBut _ _ ?_ z, (N' p hp).2⟩
    rcases List.mem_cons.mp hp with rfl | hp
    · exact Ne.symm hCD
    · exact offC p hp
end
end JaLaw
end
section
set_option Elab.async false
set_option maxRecDepth 100000
namespace JaLaw
theorem rowsJaSt0 : True := by
  k_with_none
  exact True.intro
theorem rowsJaSt1 : True := by
  k_with "newList" => (k_here; k_dflt (refine' newList_K ?k1 ?k2 ?_; (case k1 => with_reducible assumption); (case k2 => with_reducible assumption); k_whole); intro l' h' F' N' l1; (try k_lt l1); (repeat (have := And.left l1; replace l1 := And.right l1)); (try k_sweep))
  k_with "eval Name" => (k_here; (with_reducible show wpAny _ _ (eval (Expr.Name _ _) (envOf _ _ _ _ _)) _ _ _); k_dflt (first | (refine' ld ?k1 ?k2 ?_ ?k3 ?k4 ?k5; (case k4 => kernel_rfl!); (case k1 => with_reducible assumption); (case k2 => ((try dsimp only [List.reverse, List.reverseAux]); (repeat (first | with_reducible exact lk_hit | with_reducible exact lk_sto_hit | with_reducible exact lk_ite_hit | (with_reducible refine lk_sto_miss (by kernel_rfl!) ?_) | (with_reducible refine lk_ite_miss2 (by kernel_rfl!) ?_) | (with_reducible refine lk_miss (by kernel_rfl!) ?_) | with_reducible refine lk_rev ?_)))); (case k3 => kernel_rfl!); (case k5 => decide +kernel); k_whole) | (refine' name_K ?k0 ?k1 ?k2 ?k3 ?_ ?k4 ?k5 ?k6; (case k5 => kernel_rfl!); (case k0 => with_reducible assumption); (case k1 => with_reducible assumption); (case k2 => exact topRead_of (by with_reducible assumption)); (case k3 => k_is); (case k4 => kernel_rfl!); (case k6 => decide +kernel); k_whole) | (refine' name_B ?k0 ?k1 ?k2 ?k3 ?k4 ?k5 ?_ ?k6 ?k7 ?k8; (case k7 => kernel_rfl!); (case k0 => with_reducible assumption); (case k1 => with_reducible assumption); (case k2 => exact topRead_of (by with_reducible assumption)); (case k3 => k_is); (case k4 => boot_fast); (case k5 => decide); (case k6 => kernel_rfl!); (case k8 => decide +kernel); k_whole)))
  k_with "storeName" => (k_here; (try dsimp only); (with_reducible show wpAny _ _ (storeName (envOf _ _ _ _ _) _ _) _ _ _); k_dflt (refine' store_u ?k1 ?k2 ?_ ?k3 ?k4; (case k4 => kernel_rfl!); (case k3 => kernel_rfl!); (case k1 => with_reducible assumption); (case k2 => with_reducible assumption); k_whole); intro h' F' N'; (try k_sweep))
  k_with "exec Assign" => (k_here; k_fold)
  exact True.intro
section
variable {w : World} {mean : ExcName → Option Value} {mg mb : PySem.Str → Option Value} {dp un : Nat} {gd : Option (List Code)} {cn : PySem.Str} {cs : Scope} {a : Addr} {ccd : Value} {cl : List (PySem.Str × Addr)} {outer : List Env} {A₀ : Around} {base h₀ : Heap} {L : Addr} {m : PySem.Str → Option Value} {s : Shared} {Q E : Value → Shared → Prop} {R : Result → Shared → Prop}
variable {sc : Addr} {t1 : Tok} {xs : List Value} {ns : List Int} {news : List (Addr × Obj)}
set_option maxHeartbeats 8000000 in
theorem state_ct (B : Below A₀ base outer h₀) (F : Fr h₀ L s.heap m) (X : (K0 w.params).In h₀) (N : News h₀ L s.heap []) (T : Top jP jL mean mg mb h₀) (hk : cs.kind = .function) (hd : dp + 3 < recursionLimit) (hu : un + 16 < cLine) (hs : s.heap.IsList sc xs.toArray) (hi : IntsAre xs ns) (h2 : ns.length ≤ 63)
    (hret : ∀ (st c : Addr) (t : Tok) (n cap : Nat) (vs : List Value) (ms : List Int) (h' : Heap) (tk' : Nat), IntsAre vs ms → 0 < ms.length → ms.length ≤ 63 → @Ne Nat c st → Fr h₀ L h' m → Keeps [] s.heap h' → h'.get? st = some (stO 0 t c n) → h'.get? c = some (listOf vs.toArray cap) → s.heap.get? st = none → s.heap.get? c = none → R (.ok (.ret (.ref st))) { s with heap := h', toks := tk' }) :
    codeAny (model jprog w) (ktrTop dp un gd cn cs L a ccd cl outer) (.call (.ref 315) ⟨[.ref sc, .int 50 t1], []⟩) R s := by
  k_dflt (refine' enter_def (binds := [(Str.ofString "script", .ref sc), (Str.ofString "most", .int 50 t1)]) ?k1 ?k2 ?k3 ?k4 ?k5 ?kA ?kF ?kK ?k6 ?k7 ?k8 ?k9 ?kB ?_ ?c2 ?c3 ?c4 ?c5; (case kA => exact rfl); (case kF => exact rfl); (case kK => assumption); (case k1 => k_asm); (case k2 => k_asm); (case k3 => k_asm); (case k4 => k_asm); (case k5 => k_asm); (case k6 => k_is); (case k7 => k_is); (case k8 => first | exact room0 hd | ktr_room); (case k9 => first | exact BindsTo.of_eq (by kernel_rfl!) | exact BindsTo.of_eq rfl | exact binds_K (by k_in) rfl (by k_is) rfl rfl rfl); (case c5 => decide); (case kB => exact locs rfl); (case c2 => exact rfl); (case c3 => exact rfl); (case c4 => exact rfl); k_whole; intro g' L' h' FG' F' N' B' X' T' hkp hge; (try dsimp only); k_fold)
  have hs' := isList_kept hkp hs (by simp)
  k_steps
  · (rename Keeps _ _ _ => kK)
    (rename News g' _ _ _ => kI)
    (rename News h₀ _ _ _ => kN)
    (rename IntsAre _ (List.take 50 ns) => hI)
    (rename List.length _ ≤ List.length _ => hL)
    exact hret _ _ _ _ _ _ _ _ _ hI (by assumption) (by (first | lia | omega)) (by (rename @LT.lt Nat _ _ _ => l9); exact Nat.ne_of_lt (by first | assumption | exact l9)) (by assumption) (keeps_less kK N (by assumption) (by repeat' (first | exact List.forall_mem_nil _ | (refine List.forall_mem_cons.mpr ⟨?_, ?_⟩) | exact Or.inl (by k_mem) | exact Or.inr (by k_mem)))) (kN.get (by k_mem)) (kN.get (by k_mem)) (fresh_mem hkp kI (by k_mem) (by simp only [AllLt])) (fresh_mem hkp kI (by k_mem) (by simp only [AllLt]))
  · (rename Keeps _ _ _ => kK)
    (rename News g' _ _ _ => kI)
    (rename News h₀ _ _ _ => kN)
    refine hret _ _ _ _ _ [_] [0] _ _ (.cons _ _ .nil) (by decide) (by decide) ?ne9 (by assumption) (keeps_less kK N (by assumption) (by repeat' (first | exact List.forall_mem_nil _ | (refine List.forall_mem_cons.mpr ⟨?_, ?_⟩) | exact Or.inl (by k_mem) | exact Or.inr (by k_mem)))) (kN.get (by k_mem)) (kN.get (by k_mem)) (fresh_mem hkp kI (by k_mem) (by simp only [AllLt])) (fresh_mem hkp kI (by k_mem) (by simp only [AllLt]))
    case ne9 => first | (refine Nat.ne_of_lt ?_; assumption) | (refine Nat.ne_of_gt ?_; assumption)
end
end JaLaw
end
section
set_option Elab.async false
set_option maxRecDepth 100000
namespace JaLaw
section
variable {w : World} {mean : ExcName → Option Value} {mg mb : PySem.Str → Option Value} {dp un : Nat} {gd : Option (List Code)} {cn : PySem.Str} {cs : Scope} {a : Addr} {ccd : Value} {cl : List (PySem.Str × Addr)} {outer : List Env} {A₀ : Around} {base h₀ : Heap} {L : Addr} {m : PySem.Str → Option Value} {s : Shared} {Q E : Value → Shared → Prop} {R : Result → Shared → Prop}
variable {sc : Addr} {t1 : Tok} {xs : List Value} {ns : List Int} {news : List (Addr × Obj)}
theorem state_full (B : Below A₀ base outer h₀) (F : Fr h₀ L s.heap m) (X : (K0 w.params).In h₀) (N : News h₀ L s.heap news) (T : Top jP jL mean mg mb h₀) (hk : cs.kind = .function) (hd : dp + 3 < recursionLimit) (hu : un + 16 < cLine) (hs : s.heap.IsList sc xs.toArray) (hi : IntsAre xs ns) (h2 : ns.length ≤ 63)
    (hret : ∀ (st c : Addr) (t : Tok) (n cap : Nat) (vs : List Value) (ms : List Int) (h' : Heap) (tk' : Nat), IntsAre vs ms → 0 < ms.length → ms.length ≤ 63 → @Ne Nat c st → Fr h₀ L h' m → News h₀ L h' ((st, stO 0 t c n) :: (c, listOf vs.toArray cap) :: news) → R (.ok (.ret (.ref st))) { s with heap := h', toks := tk' }) :
    codeAny (model jprog w) (ktrTop dp un gd cn cs L a ccd cl outer) (.call (.ref 315) ⟨[.ref sc, .int 50 t1], []⟩) R s :=
  state_ct B F X (news_sub N fun _ h => (nomatch h)) T hk hd hu hs hi h2 fun st c t n cap vs ms h' tk' e1 e2 e3 e4 F' kp g1 g2 n1 n2 => hret st c t n cap vs ms h' tk' e1 e2 e3 e4 F' (news_new' F (news_new' F (news_keep N kp) g2 n2) g1 n1)
end
end JaLaw
end
section
set_option Elab.async false
set_option maxRecDepth 100000
namespace JaLaw
theorem rowsJaVar0 : True := by
  k_with_none
  exact True.intro
theorem rowsJaVar1 : True := by
  k_with "newList" => (k_here; k_dflt (refine' newList_K ?k1 ?k2 ?_; (case k1 => with_reducible assumption); (case k2 => with_reducible assumption); k_whole); intro l' h' F' N' l1; (try k_lt l1); (repeat (have := And.left l1; replace l1 := And.right l1)); (try k_sweep))
  k_with "eval Name" => (k_here; (with_reducible show wpAny _ _ (eval (Expr.Name _ _) (envOf _ _ _ _ _)) _ _ _); k_dflt (first | (refine' ld ?k1 ?k2 ?_ ?k3 ?k4 ?k5; (case k4 => kernel_rfl!); (case k1 => with_reducible assumption); (case k2 => ((try dsimp only [List.reverse, List.reverseAux]); (repeat (first | with_reducible exact lk_hit | with_reducible exact lk_sto_hit | with_reducible exact lk_ite_hit | (with_reducible refine lk_sto_miss (by kernel_rfl!) ?_) | (with_reducible refine lk_ite_miss2 (by kernel_rfl!) ?_) | (with_reducible refine lk_miss (by kernel_rfl!) ?_) | with_reducible refine lk_rev ?_)))); (case k3 => kernel_rfl!); (case k5 => decide +kernel); k_whole) | (refine' name_K ?k0 ?k1 ?k2 ?k3 ?_ ?k4 ?k5 ?k6; (case k5 => kernel_rfl!); (case k0 => with_reducible assumption); (case k1 => with_reducible assumption); (case k2 => exact topRead_of (by with_reducible assumption)); (case k3 => k_is); (case k4 => kernel_rfl!); (case k6 => decide +kernel); k_whole) | (refine' name_B ?k0 ?k1 ?k2 ?k3 ?k4 ?k5 ?_ ?k6 ?k7 ?k8; (case k7 => kernel_rfl!); (case k0 => with_reducible assumption); (case k1 => with_reducible assumption); (case k2 => exact topRead_of (by with_reducible assumption)); (case k3 => k_is); (case k4 => boot_fast); (case k5 => decide); (case k6 => kernel_rfl!); (case k8 => decide +kernel); k_whole)))
  k_with "storeName" => (k_here; (try dsimp only); (with_reducible show wpAny _ _ (storeName (envOf _ _ _ _ _) _ _) _ _ _); k_dflt (refine' store_u ?k1 ?k2 ?_ ?k3 ?k4; (case k4 => kernel_rfl!); (case k3 => kernel_rfl!); (case k1 => with_reducible assumption); (case k2 => with_reducible assumption); k_whole); intro h' F' N'; (try k_sweep))
  k_with "exec If" => (k_here; k_fold)
  exact True.intro

section
variable {prog : Program} {w : World} {A : Around} {E : Value → Shared → Prop} {s : Shared} {Q : Value → Shared → Prop} {t u v : Tok} {xi yi : Int}
theorem pow_lit (x k : Nat) (z : Int) (hx : xi = x) (hk : yi = k) (hz : ((x ^ k : Nat) : Int) = z) (hk2 : k ≤ 1000000) (hx2 : x < 2 ^ 64) (h : ∀ t' k', Q (.int z t') { s with toks := k' }) : wpAny (model prog w) A (binaryOp .Pow (.int xi t) (.int yi u)) Q E s :=
  int_pow hx hk hk2 hx2 fun t' k' => by rw [hz]; exact h t' k'
theorem tb_lit (k z : Nat) {r : Int} (hy : yi = k) (hk : k ≤ 1000) (hz : 256 ^ k = z) (h0 : 0 ≤ r) (hn : r < (z : Int)) (h : ∀ (b : List UInt8) t' k', b.length = k → Q (.bytes b.toArray t') { s with toks := k' }) :
    wpAny (model prog w) A (call (.builtin "int.to_bytes") [.int r t, .int yi u, .str (PySem.Str.ofString "big") v]) Q E s := by
  subst hy hz
  exact tb_callI hk h0 hn fun t' k' => h _ t' k' (toBE_length _ _)
end
noncomputable def forBV : Stmt → List Stmt
  | .For _ _ b _ _ => b
  | _ => []
noncomputable abbrev varT : List Stmt := wit (x := forBV (s33b.headD (.Pass ⟨0, 0, 0, 0⟩))) _ (by (conv => rhs; whnf))
theorem exp_eq (j : Nat) : ((2 ^ j : Nat) : Int) - 1 = ((2 ^ j - 1 : Nat) : Int) := by have := Nat.pow_pos (n := j) (a := 2) (by decide); (first | lia | omega)
theorem var_j {j : Nat} (hj : j ≤ 3) : j = 0 ∨ j = 1 ∨ j = 2 ∨ j = 3 := by (first | lia | omega)
theorem var_fit {j : Nat} {v : Int} (hj : j ≤ 3) (hv : 0 ≤ v ∧ v < 200) : 0 ≤ v + (j : Int) * 64 * ((256 ^ (2 ^ j - 1) : Nat) : Int) ∧ v + (j : Int) * 64 * ((256 ^ (2 ^ j - 1) : Nat) : Int) < ((256 ^ (2 ^ j) : Nat) : Int) := by
  obtain rfl | rfl | rfl | rfl := var_j hj
  · rw [show ((256 ^ (2 ^ 0 - 1) : Nat) : Int) = 1 by decide, show ((256 ^ (2 ^ 0) : Nat) : Int) = 256 by decide]; (first | lia | omega)
  · rw [show ((256 ^ (2 ^ 1 - 1) : Nat) : Int) = 256 by decide, show ((256 ^ (2 ^ 1) : Nat) : Int) = 65536 by decide]; (first | lia | omega)
  · rw [show ((256 ^ (2 ^ 2 - 1) : Nat) : Int) = 16777216 by decide, show ((256 ^ (2 ^ 2) : Nat) : Int) = 4294967296 by decide]; (first | lia | omega)
  · rw [show ((256 ^ (2 ^ 3 - 1) : Nat) : Int) = 72057594037927936 by decide, show ((256 ^ (2 ^ 3) : Nat) : Int) = 18446744073709551616 by decide]; (first | lia | omega)
theorem var_two {j : Nat} (hj : j ≤ 3) : 2 ^ j ≤ 8 := by
  obtain rfl | rfl | rfl | rfl := var_j hj <;> decide
theorem var_e {j : Nat} (hj : j ≤ 3) : 2 ^ j - 1 ≤ 1000000 := by have := var_two hj; (first | lia | omega)
theorem var_j6 {j : Nat} (hj : j ≤ 3) : j ≤ 1000000 := Nat.le_trans hj (by decide)
theorem var_b {j : Nat} (hj : j ≤ 3) : Builtin.Int.intBits ((j : Int) * 64) ≤ 64 := PySem.intBits_le_64 (by (first | lia | omega)) (by (first | lia | omega))
theorem rowsJaVar2 : True := by
  k_with "eval Name" => (k_here; (with_reducible show wpAny _ _ (eval (Expr.Name _ _) (envOf _ _ _ _ _)) _ _ _); k_dflt (first | (refine' ld ?k1 ?k2 ?_ ?k3 ?k4 ?k5; (case k4 => kernel_rfl!); (case k1 => with_reducible assumption); (case k2 => ((try dsimp only [List.reverse, List.reverseAux]); (repeat (first | with_reducible exact lk_hit | with_reducible exact lk_sto_hit | with_reducible exact lk_ite_hit | (with_reducible refine lk_sto_miss (by kernel_rfl!) ?_) | (with_reducible refine lk_ite_miss2 (by kernel_rfl!) ?_) | (with_reducible refine lk_miss (by kernel_rfl!) ?_) | with_reducible refine lk_rev ?_ | with_reducible assumption)))); (case k3 => kernel_rfl!); (case k5 => decide +kernel); k_whole) | (refine' name_K ?k0 ?k1 ?k2 ?k3 ?_ ?k4 ?k5 ?k6; (case k5 => kernel_rfl!); (case k0 => with_reducible assumption); (case k1 => with_reducible assumption); (case k2 => exact topRead_of (by with_reducible assumption)); (case k3 => k_is); (case k4 => kernel_rfl!); (case k6 => decide +kernel); k_whole) | (refine' name_B ?k0 ?k1 ?k2 ?k3 ?k4 ?k5 ?_ ?k6 ?k7 ?k8; (case k7 => kernel_rfl!); (case k0 => with_reducible assumption); (case k1 => with_reducible assumption); (case k2 => exact topRead_of (by with_reducible assumption)); (case k3 => k_is); (case k4 => boot_fast); (case k5 => decide); (case k6 => kernel_rfl!); (case k8 => decide +kernel); k_whole)))
  exact True.intro

theorem rowsJaVar3 : True := by
  k_with "binaryOp Pow int int" => (k_here; k_dflt (first | (refine int_pow (x := 2) (k := 6) rfl rfl (by decide) (by decide) ?_; intro _ _) | (refine int_pow (x := 2) (k := 14) rfl rfl (by decide) (by decide) ?_; intro _ _) | (refine int_pow (x := 2) (k := 30) rfl rfl (by decide) (by decide) ?_; intro _ _) | (refine int_pow (x := 2) (k := 62) rfl rfl (by decide) (by decide) ?_; intro _ _) | (refine int_pow (x := 2) rfl rfl (var_j6 (by with_reducible assumption)) (by decide) ?_; intro _ _) | (refine int_pow (x := 256) rfl (exp_eq _) (var_e (by with_reducible assumption)) (by decide) ?_; intro _ _)))
  k_with "binaryOp Mult int int" => (k_here; k_dflt (first | (refine mul_int ?_ (IntMulOk.of_right (by decide))) | (refine mul_int ?_ (IntMulOk.of_left (var_b (by with_reducible assumption))))))
  k_with "call builtin:int.to_bytes" => (k_here; (with_reducible show wpAny _ _ (call (Value.builtin "int.to_bytes") [Value.int _ _, Value.int _ _, Value.str _ _]) _ _ _); k_dflt (refine tb_callI (Nat.le_trans (var_two (by with_reducible assumption)) (by decide)) (var_fit (by with_reducible assumption) (by with_reducible assumption)).1 (var_fit (by with_reducible assumption) (by with_reducible assumption)).2 ?_; intro _ _))
  exact True.intro
section
variable {w : World} {mean : ExcName → Option Value} {mg mb : PySem.Str → Option Value} {dp un : Nat} {gd : Option (List Code)} {cn : PySem.Str} {cs : Scope} {a : Addr} {ccd : Value} {cl : List (PySem.Str × Addr)} {outer : List Env} {A₀ : Around} {base h₀ : Heap} {L : Addr} {m : PySem.Str → Option Value} {s : Shared} {Q E : Value → Shared → Prop} {R : Result → Shared → Prop}
variable {t1 t2 t3 t4 : Tok} {v k mo : Int} {g h : Heap} {L' : Addr} {tk j : Nat} {M : PySem.Str → Option Value} {news : List (Addr × Obj)} {QQ : Flow → Shared → Prop} {EE : Value → Shared → Prop}
set_option maxHeartbeats 8000000 in
theorem var_turn (X' : (K0 w.params).In g) (T' : Top jP jL mean mg mb g) (F' : Fr g L' h M) (N' : News g L' h news) (h1 : M (Str.ofString "number") = some (.int v t1)) (h2 : M (Str.ofString "most") = some (.int mo t2)) (h3 : M (Str.ofString "k") = some (.int (j : Int) t3)) (h4 : M (Str.ofString "wide") = some (.int k t4))
    (hv : 0 ≤ v ∧ v < 200) (hj : j ≤ 3)
    (hA : ∀ (r : List UInt8) t h' tk', r.length ≤ 8 → Fr g L' h' M → News g L' h' news → QQ (.ret (.bytes r.toArray t)) { s with heap := h', toks := tk' })
    (hB : ∀ h' tk', Fr g L' h' M → News g L' h' news → QQ .next { s with heap := h', toks := tk' }) :
    wpAny (model jprog w) ((ktrTop dp un gd cn cs L a ccd cl outer).deeper (envOf (Str.ofString "_law_var") s33s L' 329 (.ref 328))) (execs varT (envOf (Str.ofString "_law_var") s33s L' 329 (.ref 328))) QQ EE { s with heap := h, toks := tk } := by
  dsimp only [varT, wit]
  k_steps
  all_goals first
    | exact hA _ _ _ _ (by rw [toBE_length]; exact var_two hj) F' N'
    | exact hB _ _ F' N'
theorem rowsJaVar4 : True := by
  k_with "execs cons" => (k_here; (with_reducible show wpAny _ _ (execs (Stmt.If (Expr.BoolOp _ _ _) _ _ _ :: _) _) _ _ _); refine halt ?_)
  k_with "exec For Tuple Call cons nil" => (k_here; k_fold)
  exact True.intro
set_option maxHeartbeats 8000000 in
theorem var_ct (B : Below A₀ base outer h₀) (F : Fr h₀ L s.heap m) (X : (K0 w.params).In h₀) (N : News h₀ L s.heap []) (T : Top jP jL mean mg mb h₀) (hk : cs.kind = .function) (hd : dp + 3 < recursionLimit) (hu : un + 16 < cLine) (hv : 0 ≤ v ∧ v < 200) (hk3 : 0 ≤ k ∧ k ≤ 3)
    (hret : ∀ (r : List UInt8) (t : Tok) (h' : Heap) (tk' : Nat), r.length ≤ 8 → Fr h₀ L h' m → Keeps [] s.heap h' → R (.ok (.ret (.bytes r.toArray t))) { s with heap := h', toks := tk' }) :
    codeAny (model jprog w) (ktrTop dp un gd cn cs L a ccd cl outer) (.call (.ref 329) ⟨[.int v t1, .int k t2], []⟩) R s := by
  k_dflt (refine' enter_def (binds := [(Str.ofString "number", .int v t1), (Str.ofString "wide", .int k t2)]) ?k1 ?k2 ?k3 ?k4 ?k5 ?kA ?kF ?kK ?k6 ?k7 ?k8 ?k9 ?kB ?_ ?c2 ?c3 ?c4 ?c5; (case kA => exact rfl); (case kF => exact rfl); (case kK => assumption); (case k1 => k_asm); (case k2 => k_asm); (case k3 => k_asm); (case k4 => k_asm); (case k5 => k_asm); (case k6 => k_is); (case k7 => k_is); (case k8 => first | exact room0 hd | ktr_room); (case k9 => first | exact BindsTo.of_eq (by kernel_rfl!) | exact BindsTo.of_eq rfl | exact binds_K (by k_in) rfl (by k_is) rfl rfl rfl); (case c5 => decide); (case kB => exact locs rfl); (case c2 => exact rfl); (case c3 => exact rfl); (case c4 => exact rfl); k_whole; intro g' L' h' FG' F' N' B' X' T' hkp hge; (try dsimp only); k_fold)
  k_steps
  refine Halt.mk ?_
  (with_reducible rename Fr g' _ _ _ => kF)
  (with_reducible rename News g' _ _ _ => kN)
  refine var_turn (j := 0) X' T' kF kN rfl rfl rfl rfl hv (by decide) ?a0 ?b0
  case a0 =>
    intro r t h' tk' e F2 N2
    clear kF kN
    k_steps
    (rename Keeps _ _ _ => kK)
    exact hret _ _ _ _ e (by assumption) (keeps_less kK N (by assumption) (by repeat' (first | exact List.forall_mem_nil _ | (refine List.forall_mem_cons.mpr ⟨?_, ?_⟩) | exact Or.inl (by k_mem) | exact Or.inr (by k_mem))))
  case b0 =>
  intro h' tk' F2 N2
  clear kF kN
  k_steps
  refine Halt.mk ?_
  (with_reducible rename Fr g' _ _ _ => kF)
  (with_reducible rename News g' _ _ _ => kN)
  refine var_turn (j := 1) X' T' kF kN rfl rfl rfl rfl hv (by decide) ?a1 ?b1
  case a1 =>
    intro r t h' tk' e F2 N2
    clear kF kN
    k_steps
    (rename Keeps _ _ _ => kK)
    exact hret _ _ _ _ e (by assumption) (keeps_less kK N (by assumption) (by repeat' (first | exact List.forall_mem_nil _ | (refine List.forall_mem_cons.mpr ⟨?_, ?_⟩) | exact Or.inl (by k_mem) | exact Or.inr (by k_mem))))
  case b1 =>
  intro h' tk' F2 N2
  clear kF kN
  k_steps
  refine Halt.mk ?_
  (with_reducible rename Fr g' _ _ _ => kF)
  (with_reducible rename News g' _ _ _ => kN)
  refine var_turn (j := 2) X' T' kF kN rfl rfl rfl rfl hv (by decide) ?a2 ?b2
  case a2 =>
    intro r t h' tk' e F2 N2
    clear kF kN
    k_steps
    (rename Keeps _ _ _ => kK)
    exact hret _ _ _ _ e (by assumption) (keeps_less kK N (by assumption) (by repeat' (first | exact List.forall_mem_nil _ | (refine List.forall_mem_cons.mpr ⟨?_, ?_⟩) | exact Or.inl (by k_mem) | exact Or.inr (by k_mem))))
  case b2 =>
  intro h' tk' F2 N2
  clear kF kN
  k_steps
  refine Halt.mk ?_
  (with_reducible rename Fr g' _ _ _ => kF)
  (with_reducible rename News g' _ _ _ => kN)
  refine var_turn (j := 3) X' T' kF kN rfl rfl rfl rfl hv (by decide) ?a3 ?b3
  case a3 =>
    intro r t h' tk' e F2 N2
    clear kF kN
    k_steps
    (rename Keeps _ _ _ => kK)
    exact hret _ _ _ _ e (by assumption) (keeps_less kK N (by assumption) (by repeat' (first | exact List.forall_mem_nil _ | (refine List.forall_mem_cons.mpr ⟨?_, ?_⟩) | exact Or.inl (by k_mem) | exact Or.inr (by k_mem))))
  case b3 =>
  intro h' tk' F2 N2
  clear kF kN
  k_steps
  (rename Keeps _ _ _ => kK)
  exact hret [] _ _ _ (by decide) (by assumption) (keeps_less kK N (by assumption) (by repeat' (first | exact List.forall_mem_nil _ | (refine List.forall_mem_cons.mpr ⟨?_, ?_⟩) | exact Or.inl (by k_mem) | exact Or.inr (by k_mem))))
theorem var_full {news : List (Addr × Obj)} (B : Below A₀ base outer h₀) (F : Fr h₀ L s.heap m) (X : (K0 w.params).In h₀) (N : News h₀ L s.heap news) (T : Top jP jL mean mg mb h₀) (hk : cs.kind = .function) (hd : dp + 3 < recursionLimit) (hu : un + 16 < cLine) (hv : 0 ≤ v ∧ v < 200) (hk3 : 0 ≤ k ∧ k ≤ 3)
    (hret : ∀ (r : List UInt8) (t : Tok) (h' : Heap) (tk' : Nat), r.length ≤ 8 → Fr h₀ L h' m → News h₀ L h' news → R (.ok (.ret (.bytes r.toArray t))) { s with heap := h', toks := tk' }) :
    codeAny (model jprog w) (ktrTop dp un gd cn cs L a ccd cl outer) (.call (.ref 329) ⟨[.int v t1, .int k t2], []⟩) R s :=
  var_ct B F X (news_sub N fun _ h => (nomatch h)) T hk hd hu hv hk3 fun r t h' tk' e F' kp => hret r t h' tk' e F' (news_keep N kp)
end
end JaLaw
end
section
set_option Elab.async false
set_option maxRecDepth 100000
namespace JaLaw
section
variable {M : Model} {A : Around} {E : Value → Shared → Prop} {s : Shared} {h₀ : Heap} {L a : Addr} {m : PySem.Str → Option Value} {cn x : PySem.Str} {cs : Scope} {ccd : Value} {Q : Unit → Shared → Prop} {news : List (Addr × Obj)} {e : Int} {n : Nat} {t : Tok}
theorem storeU {v : Value} (F : Fr h₀ L s.heap m) (N : News h₀ L s.heap news)
    (h : ∀ h', Fr h₀ L h' (fun y => if y = x then some v else m y) → News h₀ L h' news → Q () { s with heap := h', toks := s.toks + 1 })
    (hk : cs.kind = .function) (hx : (envOfC cn cs L a ccd).kindOf x = some .local) : wpAny M A (storeName (envOfC cn cs L a ccd) x v) Q E s := storeX_L F N h hk hx
/-! a number stored under a letter of its own -/
theorem storeZ (F : Fr h₀ L s.heap m) (N : News h₀ L s.heap news)
    (h : ∀ h' (z : Int), z = e → Fr h₀ L h' (fun y => if y = x then some (.int z t) else m y) → News h₀ L h' news → Q () { s with heap := h', toks := s.toks + 1 })
    (hk : cs.kind = .function) (hx : (envOfC cn cs L a ccd).kindOf x = some .local) : wpAny M A (storeName (envOfC cn cs L a ccd) x (.int e t)) Q E s :=
  storeX_L F N (fun h' F' N' => h h' e rfl F' N') hk hx
theorem storeK (F : Fr h₀ L s.heap m) (N : News h₀ L s.heap news)
    (h : ∀ h' (k : Nat), k = n → Fr h₀ L h' (fun y => if y = x then some (.int (k : Int) t) else m y) → News h₀ L h' news → Q () { s with heap := h', toks := s.toks + 1 })
    (hk : cs.kind = .function) (hx : (envOfC cn cs L a ccd).kindOf x = some .local) : wpAny M A (storeName (envOfC cn cs L a ccd) x (.int (n : Int) t)) Q E s :=
  storeX_L F N (fun h' F' N' => h h' n rfl F' N') hk hx
theorem nneg {z a b : Int} (e : z = a + b) (ha : 0 ≤ a) (hb : 0 ≤ b) : 0 ≤ z := by rw [e]; exact Int.add_nonneg ha hb
theorem fit12 {n : Nat} (h : n ≤ 100000) : n ≤ 1099511627776 := Nat.le_trans h (by decide)
theorem fit24 {n : Nat} (h : n ≤ 100000) : n ≤ 16777216 := Nat.le_trans h (by decide)
end
end JaLaw
end
section
set_option Elab.async false
set_option maxRecDepth 100000
namespace JaLaw
/-! bounds as facts that no arithmetic looks into: a place, a length, a number -/
noncomputable def Pl (b : Int) (k : Nat) (a : Int) : Prop := b ≤ a ∧ a ≤ b + k
noncomputable def Lb (n : Nat) (l : List UInt8) : Prop := l.length ≤ n
noncomputable def Nb (m : Nat) (v : Int) : Prop := 0 ≤ v ∧ v ≤ m
theorem Pl.zero (b : Int) : Pl b 0 b := ⟨Int.le_refl _, by (first | lia | omega)⟩
theorem Pl.in {b a : Int} {k : Nat} (h : Pl b k a) (hb : 0 ≤ b ∧ b < 990000) (hk : Nat.ble k 5000 = true) : 0 ≤ a ∧ a < 1000000 := by
  have := Nat.le_of_ble_eq_true hk; unfold Pl at h; (first | lia | omega)
theorem Pl.in2 {b a : Int} {k : Nat} (h : Pl b k a) (hb : 0 ≤ b ∧ b < 900000) (hk : Nat.ble k 50000 = true) : 0 ≤ a ∧ a < 960000 := by
  have := Nat.le_of_ble_eq_true hk; unfold Pl at h; (first | lia | omega)
theorem Pl.le {b a : Int} {k m : Nat} (h : Pl b k a) (hk : Nat.ble k m = true) : b ≤ a ∧ a ≤ b + m := by
  have := Nat.le_of_ble_eq_true hk; unfold Pl at h; (first | lia | omega)
theorem Pl.add {b a c : Int} {k m : Nat} (h : Pl b k a) (h1 : a ≤ c) (h2 : c ≤ a + m) : Pl b (k + m) c := by unfold Pl at h ⊢; (first | lia | omega)
theorem Lb.le {n m : Nat} {l : List UInt8} (h : Lb n l) (hk : Nat.ble n m = true) : l.length ≤ m := Nat.le_trans h (Nat.le_of_ble_eq_true hk)
theorem Lb.add {n m k : Nat} {l r : List UInt8} (h : Lb n l) (g : Lb m r) (hk : Nat.ble (n + m) k = true) : l.length + r.length ≤ k := Nat.le_trans (Nat.add_le_add h g) (Nat.le_of_ble_eq_true hk)
theorem Lb.app {n m : Nat} {l r : List UInt8} (h : Lb n l) (g : Lb m r) : Lb (n + m) (l ++ r) := by unfold Lb; rw [List.length_append]; exact Nat.add_le_add h g
theorem Lb.nb {n m : Nat} {l : List UInt8} (h : Lb n l) (hk : Nat.ble n m = true) : Nb m (l.length : Nat) := ⟨Int.natCast_nonneg _, Int.ofNat_le.mpr (h.le hk)⟩
theorem Lb.of {n : Nat} {l : List UInt8} {v : Int} (e : (l.length : Int) = v) (h : Nb n v) : Lb n l := by unfold Nb at h; unfold Lb; (first | lia | omega)
theorem Nb.lt {m k : Nat} {v : Int} (h : Nb m v) (hk : Nat.blt m k = true) : 0 ≤ v ∧ v < (k : Int) := by
  have : m + 1 ≤ k := Nat.le_of_ble_eq_true hk
  unfold Nb at h; (first | lia | omega)
theorem Nb.of_ltn {r m : Nat} {most : Int} (h : (r : Int) < most) (e : most = ((m + 1 : Nat) : Int)) : Nb m r := ⟨Int.natCast_nonneg _, by (first | lia | omega)⟩
theorem Nb.of3 : Nb 3 3 := ⟨by decide, by decide⟩
theorem Nb.le {m k : Nat} {v : Int} (h : Nb m v) (hk : Nat.ble m k = true) : Nb k v := by
  have := Nat.le_of_ble_eq_true hk; unfold Nb at h ⊢; (first | lia | omega)
theorem Nb.add {m k : Nat} {v u : Int} (h : Nb m v) (g : Nb k u) : Nb (m + k) (v + u) := by unfold Nb at h g ⊢; (first | lia | omega)
theorem nb_sum {m k : Nat} {z v u : Int} (e : z = v + u) (h : Nb m v) (g : Nb k u) : Nb (m + k) z := e ▸ h.add g
theorem Nb.pair {m k : Nat} {v u : Int} (h : Nb m v) (hk : Nat.ble m k = true) (hu : (k : Int) = u) : 0 ≤ v ∧ v ≤ u := by
  have := Nat.le_of_ble_eq_true hk; unfold Nb at h; (first | lia | omega)
section
variable {w : World} {mean : ExcName → Option Value} {mg mb : PySem.Str → Option Value} {dp un : Nat} {gd : Option (List Code)} {cn : PySem.Str} {cs : Scope} {a : Addr} {ccd : Value} {cl : List (PySem.Str × Addr)} {outer : List Env} {A₀ : Around} {base h₀ : Heap} {L : Addr} {m : PySem.Str → Option Value} {s : Shared} {Q E : Value → Shared → Prop} {R : Result → Shared → Prop}
variable {st c : Addr} {t1 t2 : Tok} {at_ most b : Int} {k n cap : Nat} {vs : List Value} {ns : List Int} {news : List (Addr × Obj)} {news2 : Int → Tok → List (Addr × Obj)}
theorem take2P (B : Below A₀ base outer h₀) (F : Fr h₀ L s.heap m) (X : (K0 w.params).In h₀) (N : News h₀ L s.heap news) (T : Top jP jL mean mg mb h₀) (hk : cs.kind = .function) (hd : dp + 1 < recursionLimit) (hu : un + 8 < cLine)
    (U : ∀ a' t', Upd st (stO at_ t1 c n) (stO a' t' c n) news (news2 a' t')) (hc : (c, listOf vs.toArray cap) ∈ news) (hi : IntsAre vs ns) (hne : @Ne Nat c st) (h1 : 0 < ns.length) (h2 : ns.length ≤ 63)
    (hP : Pl b k at_) (hb : 0 ≤ b ∧ b < 990000) (hkb : Nat.ble k 5000 = true) (hm : 0 < most)
    (hret : ∀ (r a' : Int) (t t' : Tok) (h' : Heap) (tk' : Nat), 0 ≤ r → r < most → Pl b (k + 1) a' → Fr h₀ L h' m → News h₀ L h' (news2 a' t') → Q (.int r t) { s with heap := h', toks := tk' }) :
    wpAny (model jprog w) (ktrTop dp un gd cn cs L a ccd cl outer) (call (.ref 308) [.ref st, .int most t2]) Q E s :=
  take2 B F X N T hk hd hu (U (at_ + 1)) hc hi hne h1 h2 (hP.in hb hkb) hm fun r t t' h' tk' h0 h1 F' N' => hret r (at_ + 1) t t' h' tk' h0 h1 (hP.add (m := 1) (by (first | lia | omega)) (by (first | lia | omega))) F' N'
theorem octP {ki : Int} {nb : Nat} (B : Below A₀ base outer h₀) (F : Fr h₀ L s.heap m) (X : (K0 w.params).In h₀) (N : News h₀ L s.heap news) (T : Top jP jL mean mg mb h₀) (hk : cs.kind = .function) (hd : dp + 3 < recursionLimit) (hu : un + 16 < cLine) (U : ∀ a' t', Upd st (stO at_ t1 c n) (stO a' t' c n) news (news2 a' t')) (hc : (c, listOf vs.toArray cap) ∈ news) (hi : IntsAre vs ns) (hne : @Ne Nat c st) (h1 : 0 < ns.length) (h2 : ns.length ≤ 63)
    (hP : Pl b k at_) (hb : 0 ≤ b ∧ b < 990000) (hkb : Nat.ble k 5000 = true) (hK : Nb nb ki) (hn : Nat.ble nb 70 = true)
    (hret : ∀ (r : List UInt8) (a' : Int) (t t' : Tok) (h' : Heap) (tk' : Nat), Lb nb r → Pl b (k + 1) a' → Fr h₀ L h' m → News h₀ L h' (news2 a' t') → R (.ok (.ret (.bytes r.toArray t))) { s with heap := h', toks := tk' }) :
    codeAny (model jprog w) (ktrTop dp un gd cn cs L a ccd cl outer) (.call (.ref 322) ⟨[.ref st, .int ki t2], []⟩) R s :=
  oct_full B F X N T hk hd hu U hc hi hne h1 h2 (hP.in hb hkb) (hK.pair hn rfl) fun r a' t t' h' tk' e0 e1 e2 F' N' => hret r a' t t' h' tk' (.of e0 hK) (hP.add (m := 1) e1 e2) F' N'
theorem take2nP (B : Below A₀ base outer h₀) (F : Fr h₀ L s.heap m) (X : (K0 w.params).In h₀) (N : News h₀ L s.heap news) (T : Top jP jL mean mg mb h₀) (hk : cs.kind = .function) (hd : dp + 1 < recursionLimit) (hu : un + 8 < cLine)
    (U : ∀ a' t', Upd st (stO at_ t1 c n) (stO a' t' c n) news (news2 a' t')) (hc : (c, listOf vs.toArray cap) ∈ news) (hi : IntsAre vs ns) (hne : @Ne Nat c st) (h1 : 0 < ns.length) (h2 : ns.length ≤ 63)
    (hP : Pl b k at_) (hb : 0 ≤ b ∧ b < 990000) (hkb : Nat.ble k 5000 = true) (hm : 0 < most)
    (hret : ∀ (r : Nat) (a' : Int) (t t' : Tok) (h' : Heap) (tk' : Nat), (r : Int) < most → Pl b (k + 1) a' → Fr h₀ L h' m → News h₀ L h' (news2 a' t') → Q (.int (r : Int) t) { s with heap := h', toks := tk' }) :
    wpAny (model jprog w) (ktrTop dp un gd cn cs L a ccd cl outer) (call (.ref 308) [.ref st, .int most t2]) Q E s :=
  take2P B F X N T hk hd hu U hc hi hne h1 h2 hP hb hkb hm fun r a' t t' h' tk' h0 h1 hp F' N' => by
    obtain ⟨k, rfl⟩ := Int.eq_ofNat_of_zero_le h0
    exact hret k a' t t' h' tk' h1 hp F' N'
theorem varP {v k : Int} {nb : Nat} {most : Int} (B : Below A₀ base outer h₀) (F : Fr h₀ L s.heap m) (X : (K0 w.params).In h₀) (N : News h₀ L s.heap news) (T : Top jP jL mean mg mb h₀) (hk : cs.kind = .function) (hd : dp + 3 < recursionLimit) (hu : un + 16 < cLine) (hv : Nb nb v) (hn : Nat.ble nb 199 = true) (hk0 : 0 ≤ k) (hk1 : k < most) (hm : most ≤ 4)
    (hret : ∀ (r : List UInt8) (t : Tok) (h' : Heap) (tk' : Nat), Lb 8 r → Fr h₀ L h' m → News h₀ L h' news → R (.ok (.ret (.bytes r.toArray t))) { s with heap := h', toks := tk' }) :
    codeAny (model jprog w) (ktrTop dp un gd cn cs L a ccd cl outer) (.call (.ref 329) ⟨[.int v t1, .int k t2], []⟩) R s :=
  var_full B F X N T hk hd hu (by have := hv.le hn; unfold Nb at this; (first | lia | omega)) (by (first | lia | omega)) hret
end
section
variable {prog : Program} {w : World} {A : Around} {E : Value → Shared → Prop} {s : Shared} {Q : Value → Shared → Prop} {t u v : Tok} {h₀ : Heap} {L a : Addr} {m : PySem.Str → Option Value} {news : List (Addr × Obj)} {n c : Nat} {l r : List UInt8} {p q : Nat}
noncomputable def boundsOk (hi : Nat) (vs : List Value) : Bool := vs.all fun v => match v with | .int i _ => decide (0 ≤ i) && decide (i ≤ hi) | _ => false
noncomputable def boundsOk2 (lo hi : Int) (vs : List Value) : Bool := vs.all fun v => match v with | .int i _ => decide (lo ≤ i) && decide (i ≤ hi) | _ => false
theorem menuB (lo hi : Int) {h₀ : Heap} {L a : Addr} {news : List (Addr × Obj)} {n : Nat} {k : Int} {vs : List Value} {value slice : Expr} (N : News h₀ L s.heap news) (hm : (a, listOf vs.toArray n) ∈ news) (h0 : 0 ≤ k) (hk : k < (vs.length : Int)) (hk2 : k < 1000) (hb : boundsOk2 lo hi vs = true)
    (h : ∀ v t, lo ≤ v → v ≤ hi → Q (.int v t) s)
    (hs : subscripted slice false (.ref a) (.int k u) = operate [.ref a, .int k u] (getItem (.ref a) (.int k u)) := by with_unfolding_all rfl) : wpAny (model prog w) A (subscriptTail value slice (.ref a) (.int k u)) Q E s := by
  have hl : k.toNat < vs.length := by (first | lia | omega)
  have hb' := List.all_eq_true.mp hb _ (List.getElem_mem hl)
  have hg : vs.toArray[k.toNat]? = some vs[k.toNat] := by simp [hl]
  cases e : vs[k.toNat] with
  | int i t =>
    rw [e] at hb' hg
    simp only [Bool.and_eq_true, decide_eq_true_eq] at hb'
    exact lst_item N hm h0 (by (first | lia | omega)) hg (h i t hb'.1 hb'.2) hs
  | _ => rw [e] at hb'; cases hb'
/-- an item of a written menu that goes at once -/
theorem menuH (hi : Nat) {k most : Int} {vs : List Value} {value slice : Expr} (N : News h₀ L s.heap ((a, listOf vs.toArray n) :: news)) (h0 : 0 ≤ k) (hk : k < most) (hm : most = ((vs.length : Nat) : Int)) (hk2 : most ≤ 1000) (hb : boundsOk hi vs = true)
    (h : ∀ v t, Nb hi v → News h₀ L s.heap news → Q (.int v t) s)
    (hs : subscripted slice false (.ref a) (.int k u) = operate [.ref a, .int k u] (getItem (.ref a) (.int k u)) := by with_unfolding_all rfl) : wpAny (model prog w) A (subscriptTail value slice (.ref a) (.int k u)) Q E s := by
  have hl : k.toNat < vs.length := by (first | lia | omega)
  have hb' := List.all_eq_true.mp hb _ (List.getElem_mem hl)
  have hg : vs.toArray[k.toNat]? = some vs[k.toNat] := by simp [hl]
  cases e : vs[k.toNat] with
  | int i t =>
    rw [e] at hb' hg
    simp only [Bool.and_eq_true, decide_eq_true_eq] at hb'
    exact lst_item N (.head _) h0 (by (first | lia | omega)) hg (h i t hb' (news_sub N fun _ h => .tail _ h)) hs
  | _ => rw [e] at hb'; cases hb'
/-- bytes([n]): an octet; the list goes at once -/
theorem bs_oneH {k : Int} {tn : Tok} (F : Fr h₀ L s.heap m) (N : News h₀ L s.heap ((a, listOf #[.int k tn] c) :: news)) (hh : A.handled = none) (hk : 0 ≤ k ∧ k < 256)
    (h : ∀ (r : List UInt8) h' t' k, Lb 1 r → Fr h₀ L h' m → News h₀ L h' news → Q (.bytes r.toArray t') { s with heap := h', toks := k }) : wpAny (model prog w) A (call (.type "bytes") [.ref a]) Q E s :=
  bs_one F N hh (.head _) hk.1 hk.2 fun h' t' k F' N' => h _ h' t' k (Nat.le_refl 1) F' (news_sub N' fun _ h => .tail _ h)
theorem bs_addL (h1 : Lb p l) (h2 : Lb q r) (hk : Nat.ble (p + q) 16777216 = true) (h : ∀ (z : List UInt8) t' k, Lb (p + q) z → Q (.bytes z.toArray t') { s with toks := k }) : wpAny (model prog w) A (binaryOp .Add (.bytes l.toArray t) (.bytes r.toArray u)) Q E s :=
  bs_add (h1.add h2 hk) fun t' k => h _ t' k (h1.app h2)
theorem bs_addK (h1 : Lb p l) (h2 : Lb q r) (hk : Nat.ble (p + q) 16777216 = true) (h : ∀ t' k, Lb (p + q) (l ++ r) → Q (.bytes (l ++ r).toArray t') { s with toks := k }) : wpAny (model prog w) A (binaryOp .Add (.bytes l.toArray t) (.bytes r.toArray u)) Q E s :=
  bs_add (h1.add h2 hk) fun t' k => h t' k (h1.app h2)
theorem bs_lenL (h1 : Lb p l) (hk : Nat.ble p 1099511627776 = true) (h : ∀ t' k, Nb p (l.length : Nat) → Q (.int (l.length : Nat) t') { s with toks := k }) : wpAny (model prog w) A (call (.builtin "len") [.bytes l.toArray t]) Q E s :=
  bs_len (h1.le hk) fun t' k => h t' k (h1.nb (Nat.ble_eq_true_of_le (Nat.le_refl _)))
theorem tb_4L {i : Int} (hp : Nb 4294967295 i) (h : ∀ (b : List UInt8) t' k', Lb 4 b → Q (.bytes b.toArray t') { s with toks := k' }) :
    wpAny (model prog w) A (call (.builtin "int.to_bytes") [.int i t, .int 4 u, .str (PySem.Str.ofString "big") v]) Q E s :=
  tb_lit 4 4294967296 rfl (by decide) (by decide +kernel) (hp.lt (k := 4294967296) rfl).1 (hp.lt (k := 4294967296) rfl).2 fun b t' k' e => h b t' k' (Nat.le_of_eq e)
end
end JaLaw
end
section
set_option Elab.async false
set_option maxRecDepth 100000
namespace JaLaw
theorem rowsJaWrit0 : True := by
  k_with_none
  k_with "usef" => (case k1 => k_asm); (case k2 => k_asm); (case k3 => k_asm); (case k4 => k_asm); (case k5 => k_asm); (case k6 => first | exact rfl | assumption); (case k7 => first | exact room1 hd rfl | exact room2 hd rfl | ktr_room); (case k8 => first | exact room1 hu rfl | exact room2 hu rfl | ktr_units)
  exact True.intro
theorem at_0 {a : Value} {l : List Value} : (List.toArray (a :: l))[Int.toNat 0]? = some a := by simp
theorem at_1 {a b : Value} {l : List Value} : (List.toArray (a :: b :: l))[Int.toNat 1]? = some b := by simp
theorem at_2 {a b c : Value} {l : List Value} : (List.toArray (a :: b :: c :: l))[Int.toNat 2]? = some c := by simp
section
variable {prog : Program} {w : World} {A : Around} {E : Value → Shared → Prop} {s : Shared} {Q : Value → Shared → Prop} {t u : Tok}
theorem int_bool01 {b : Bool} (h : ∀ i t' k', 0 ≤ i → i ≤ 1 → Q (.int i t') { s with toks := k' }) : wpAny (model prog w) A (call (.type "int") [.bool b]) Q E s :=
  call_int_bool (by cases b <;> exact h _ _ _ (by decide) (by decide))
end
theorem rowsJaWrit1 : True := by
  k_with "callWith ref" => (k_here; (with_reducible show wpAny _ _ (callWith _ (Value.ref _) _ (backTo _ (starEach [] _)) (backToKw _ (keywordEach (_ :: _) _))) _ _ _); k_dflt (refine' callWith_KW0 ?k1 ?k2 ?k3 ?_; (case k1 => with_reducible assumption); (case k2 => k_is); (case k3 => exact rfl); k_whole))
  k_with "callWith ref" => (k_here; (with_reducible show wpAny _ _ (callWith _ (Value.ref _) _ (backTo _ (starEach (_ :: _) _)) []) _ _ _); k_dflt (refine' callWith_K ?k1 ?k2 ?_; (case k1 => with_reducible assumption); (case k2 => k_is); k_whole))
  k_with "callWith ref" => (k_here; (with_reducible show wpAny _ _ (callWith _ (Value.ref _) _ (backTo _ (starEach [] _)) []) _ _ _); k_dflt (refine' callWith_K0 ?k1 ?k2 ?_; (case k1 => exact (by first | with_reducible assumption | exact Frag.In.keeps (by with_reducible assumption) (Fr.keep (by with_reducible assumption)))); (case k2 => k_is); k_whole))
  k_with "newList" => (k_here; k_dflt (refine' newList_K ?k1 ?k2 ?_; (case k1 => with_reducible assumption); (case k2 => with_reducible assumption); k_whole); intro l' h' F' N' l1; (try k_lt l1); (repeat (have := And.left l1; replace l1 := And.right l1)); (try k_sweep))
  k_with "And" => ((with_reducible show Frag.In _ _ ∧ _); refine ⟨(by first | with_reducible assumption | exact Frag.In.keeps (by with_reducible assumption) (Fr.keep (by with_reducible assumption))), ?_⟩; try dsimp only [List.nil_append, List.cons_append])
  k_with "eval Name" => (k_here; (with_reducible show wpAny _ _ (eval (Expr.Name _ _) (envOf _ _ _ _ _)) _ _ _); k_dflt (first | (refine' ld ?k1 ?k2 ?_ ?k3 ?k4 ?k5; (case k4 => kernel_rfl!); (case k1 => with_reducible assumption); (case k2 => ((try dsimp only [List.reverse, List.reverseAux]); (repeat (first | with_reducible exact lk_hit | with_reducible exact lk_sto_hit | with_reducible exact lk_ite_hit | (with_reducible refine lk_sto_miss (by kernel_rfl!) ?_) | (with_reducible refine lk_ite_miss2 (by kernel_rfl!) ?_) | (with_reducible refine lk_miss (by kernel_rfl!) ?_) | with_reducible refine lk_rev ?_)))); (case k3 => kernel_rfl!); (case k5 => decide +kernel); k_whole) | (refine' name_K ?k0 ?k1 ?k2 ?k3 ?_ ?k4 ?k5 ?k6; (case k5 => kernel_rfl!); (case k0 => with_reducible assumption); (case k1 => with_reducible assumption); (case k2 => exact topRead_of (by with_reducible assumption)); (case k3 => k_is); (case k4 => kernel_rfl!); (case k6 => decide +kernel); k_whole) | (refine' name_B ?k0 ?k1 ?k2 ?k3 ?k4 ?k5 ?_ ?k6 ?k7 ?k8; (case k7 => kernel_rfl!); (case k0 => with_reducible assumption); (case k1 => with_reducible assumption); (case k2 => exact topRead_of (by with_reducible assumption)); (case k3 => k_is); (case k4 => boot_fast); (case k5 => decide); (case k6 => kernel_rfl!); (case k8 => decide +kernel); k_whole)))
  k_with "storeName" => (k_here; (try dsimp only); (with_reducible show wpAny _ _ (storeName (envOf _ _ _ _ _) _ _) _ _ _); k_dflt (refine' store_u ?k1 ?k2 ?_ ?k3 ?k4; (case k4 => kernel_rfl!); (case k3 => kernel_rfl!); (case k1 => with_reducible assumption); (case k2 => with_reducible assumption); k_whole); intro h' F' N'; (try k_sweep))
  k_with "exec Assign" => (k_here; k_fold)
  k_with "exec If" => (k_here; k_fold)
  k_with "eval Name" => (k_here; (with_reducible show wpAny _ _ (eval (Expr.Name _ _) (envOfC _ _ _ _ _)) _ _ _); k_dflt (refine' ldLoc ?k1 ?k2 ?_ ?k3 ?k4 ?k5; (case k4 => exact rfl); (case k1 => with_reducible assumption); (case k2 => first | exact rfl | assumption); (case k3 => exact rfl); (case k5 => decide +kernel); k_whole))
  k_with "call type:int" => (k_here; (with_reducible show wpAny _ _ (call (Value.type "int") [Value.bool _]) _ _ _); k_dflt (refine int_bool01 ?_; intro _ _ _ _ _))
  k_with "binaryOp Mod int int" => (k_here; k_dflt (refine int_emod (by decide) ?_); intro _ _)
  k_with "subscriptTail" => (k_here; (with_reducible show wpAny _ _ (subscriptTail _ _ (Value.ref _) (Value.int _ _)) _ _ _); k_dflt (first | (refine' lst_item ?k1 ?k2 ?k3 ?k4 ?k5 ?_; (case k1 => with_reducible assumption); (case k2 => k_mem); (case k3 => decide); (case k4 => decide); (case k5 => first | with_reducible exact at_0 | with_reducible exact at_1 | with_reducible exact at_2 | exact rfl); k_whole) | (refine' tup_item ?k1 ?k2 ?k3 ?k4 ?k5 ?_; (case k1 => with_reducible assumption); (case k2 => k_mem); (case k3 => decide); (case k4 => decide); (case k5 => exact rfl); k_whole) | (refine' menu3 ?k1 ?k2 ?k3 ?k4 ?_; (case k1 => with_reducible assumption); (case k2 => k_mem); (case k3 => (first | lia | omega)); (case k4 => (first | lia | omega)); k_whole; intro _)))
  k_with "subscriptTail Name Constant ref int" => (k_here; (with_reducible show wpAny _ _ (subscriptTail _ _ (Value.ref _) (Value.int _ _)) _ _ _); k_dflt (first | (refine' lst_item ?k1 ?k2 ?k3 ?k4 ?k5 ?_; (case k1 => with_reducible assumption); (case k2 => k_mem); (case k3 => decide); (case k4 => decide); (case k5 => first | with_reducible exact at_0 | with_reducible exact at_1 | with_reducible exact at_2 | exact rfl); k_whole) | (refine' tup_item ?k1 ?k2 ?k3 ?k4 ?k5 ?_; (case k1 => with_reducible assumption); (case k2 => k_mem); (case k3 => decide); (case k4 => decide); (case k5 => exact rfl); k_whole) | (refine' menu3 ?k1 ?k2 ?k3 ?k4 ?_; (case k1 => with_reducible assumption); (case k2 => k_mem); (case k3 => (first | lia | omega)); (case k4 => (first | lia | omega)); k_whole; intro _)))
  exact True.intro
theorem rowsJaWrit2 : True := by
  k_with "CompRest" => (with_unfolding_all first | (refine LCg.CompRest.succ ?_; intro v' I' oI' C' oC' D' m' h' tk' E' hv' hC' hx' F' N' off' ne'; (first | lcg_open hv' | (obtain ⟨t9', hv9'⟩ := hv'; subst hv9')); (try simp only [LCg.Off3, and_true] at off'); (repeat (have := And.left (And.left off'); have := And.left (And.right (And.left off')); have := And.right (And.right (And.left off')); replace off' := And.right off')); (repeat (have := And.left off'; replace off' := And.right off')); (repeat (have := And.left ne'; replace ne' := And.right ne'))) | refine LCg.CompRest.zero ?_)
  k_with "FinA" => ((unfold LCg.FinA); intro D' h' tk' F' N' o1'; (try simp only [LCg.Off1, and_true] at o1'); (repeat (have := And.left o1'; replace o1' := And.right o1')); (try simp only [List.nil_append, List.cons_append] at N'); (try dsimp only))
  k_with "CompSrc" => (k_here; k_dflt (refine LCg.CompSrc.range (by rfl) (by k_asm) (by k_asm) (by assumption) (by first | decide | rfl) (by first | rfl | decide) (by first | size_fits | exact Nat.le_of_ble_eq_true rfl) ?_; intro gq9; lcg_lit))
  k_with "call ref" => (k_here; (with_reducible show wpAny _ _ (call (Value.ref 308) _) _ _ _); k_dflt (refine' take2P ?k1 ?k2 ?k3 ?k4 ?k5 ?k6 ?k7 ?k8 ?kU ?kC ?kI ?kN ?kP ?kQ ?kL ?kB ?kK ?kM ?_; (k_extra "usef"); (case kU => intro _ _; k_upd); (case kC => k_mem); (case kI => with_reducible assumption); (case kN => with_reducible assumption); (case kP => with_reducible assumption); (case kQ => with_reducible assumption); (case kL => with_reducible assumption); (case kB => with_reducible assumption); (case kK => exact rfl); (case kM => first | assumption | decide | (first | lia | omega)); k_whole); intro r' a' t' t2' h' tk' h0' h1' hp' F' N'; (try dsimp only); (try k_sweep))
  k_with "call ref" => (k_here; (with_reducible show wpAny _ _ (call (Value.ref 322) _) _ _ _); k_dflt ((refine wpAny_call ?_); (refine' octP ?k1 ?k2 ?k3 ?k4 ?k5 ?k6 ?k7 ?k8 ?kU ?kC ?kI ?kN ?kP ?kQ ?kL ?kB ?kK ?kA ?kM ?_; (k_extra "usef"); (case kU => intro _ _; k_upd); (case kC => k_mem); (case kI => with_reducible assumption); (case kN => with_reducible assumption); (case kP => with_reducible assumption); (case kQ => with_reducible assumption); (case kL => with_reducible assumption); (case kB => with_reducible assumption); (case kK => exact rfl); (case kA => first | with_reducible assumption | exact Nb.of3 | exact Nb.of_ltn (m := 8) (most := 9) (by with_reducible assumption) rfl); (case kM => exact rfl)); k_whole); intro r' a' t' t2' h' tk' h0' hp' F' N'; (try dsimp only); (try k_sweep))
  k_with "call ref" => (k_here; (with_reducible show wpAny _ _ (call (Value.ref 329) _) _ _ _); k_dflt ((refine wpAny_call ?_); (refine' varP ?k1 ?k2 ?k3 ?k4 ?k5 ?k6 ?k7 ?k8 ?kv ?kw ?ka ?kb ?kc ?_; (k_extra "usef"); (case kv => first | with_reducible assumption | exact Nb.add (by with_reducible assumption) (by with_reducible assumption)); (case kw => exact rfl); (case ka => with_reducible assumption); (case kb => with_reducible assumption); (case kc => decide)); k_whole); intro r' t' h' tk' hr' F' N'; (try dsimp only); (try k_sweep))
  k_with "subscriptTail" => (k_here; (with_reducible show wpAny _ _ (subscriptTail _ _ (Value.ref _) (Value.int _ _)) _ _ _); (with_reducible rename News _ _ _ _ => oN'); k_dflt (first | (refine' menuH 21 oN' ?k1 ?k2 ?k3 ?k4 ?k5 ?_; (case k1 => with_reducible assumption); (case k2 => with_reducible assumption); (case k3 => exact rfl); (case k4 => decide); (case k5 => exact rfl); k_whole) | (refine' menuH 70 oN' ?k1 ?k2 ?k3 ?k4 ?k5 ?_; (case k1 => with_reducible assumption); (case k2 => with_reducible assumption); (case k3 => exact rfl); (case k4 => decide); (case k5 => exact rfl); k_whole) | (refine' menuH 4294967295 oN' ?k1 ?k2 ?k3 ?k4 ?k5 ?_; (case k1 => with_reducible assumption); (case k2 => with_reducible assumption); (case k3 => exact rfl); (case k4 => decide); (case k5 => exact rfl); k_whole)); clear oN'; intro _ _ _ N')
  k_with "call type:bytes" => (k_here; (with_reducible show wpAny _ _ (call (Value.type "bytes") [Value.ref _]) _ _ _); (with_reducible rename News _ _ _ _ => oN'); (with_reducible rename Fr _ _ _ _ => oF'); k_dflt (refine' bs_oneH oF' oN' ?k3 ?k5 ?_; (case k3 => exact rfl); (case k5 => first | exact (Nb.lt (by with_reducible assumption) rfl) | exact Lb.lt (by with_reducible assumption) rfl | assumption | exact ⟨by (first | lia | omega), by (first | lia | omega)⟩); k_whole); clear oF' oN'; intro _ _ _ _ _ F' N')
  k_with "call builtin:len" => (k_here; (with_reducible show wpAny _ _ (call (Value.builtin "len") [Value.bytes _ _]) _ _ _); k_dflt (refine bs_lenL (by with_reducible assumption) rfl ?_; intro _ _ _))
  k_with "binaryOp Add bytes bytes" => (k_here; (with_reducible show wpAny _ _ (binaryOp _ (Value.bytes _ _) (Value.bytes _ _)) _ _ _); k_dflt (refine bs_addL (by with_reducible assumption) (by with_reducible assumption) rfl ?_; intro _ _ _ _))
  k_with "call builtin:int.to_bytes" => (k_here; k_dflt ((with_reducible show wpAny _ _ (call _ [_, Value.int 4 _, _]) _ _ _); refine tb_4L (by with_reducible assumption) ?_; intro _ _ _ _))
  k_with "exec Assign" => (k_here; k_fold)
  k_with "exec If" => (k_here; k_fold)
  k_with "storeName" => (k_here; (try dsimp only); (with_reducible show wpAny _ _ (storeName (envOfC _ _ _ _ _) _ _) _ _ _); k_dflt (refine' storeU ?k1 ?k2 ?_ ?k3 ?k4; (case k1 => with_reducible assumption); (case k2 => with_reducible assumption); (case k3 => exact rfl); (case k4 => exact rfl); k_whole); intro h' F' N'; (try k_sweep))
  k_with "storeName" => (k_here; (try dsimp only); (with_reducible show wpAny _ _ (storeName (envOfC _ _ _ _ _) _ (Value.int (HAdd.hAdd _ _) _)) _ _ _); k_dflt (refine' storeZ ?k1 ?k2 ?_ ?k3 ?k4; (case k1 => with_reducible assumption); (case k2 => with_reducible assumption); (case k3 => exact rfl); (case k4 => exact rfl); k_whole); intro h' z' e' F' N'; (try (have p' := nb_sum e' (by with_reducible assumption) (by with_reducible assumption))); (try k_sweep))
  exact True.intro

theorem list_ne_tup {h : Heap} {a b : Addr} {x y : Array Value} {k : Nat} (ha : h.get? a = some (listOf x k)) (hb : h.get? b = some (tupO y)) : @Ne Nat a b := fun e => by
  have e : a = b := e
  subst e; rw [ha] at hb
  have q : Value.type "list" = Value.type "tuple" := congrArg Obj.cls (Option.some.inj hb)
  injection q with q
  exact absurd q (by decide)
section
variable {w : World} {mean : ExcName → Option Value} {mg mb : PySem.Str → Option Value} {dp un : Nat} {gd : Option (List Code)} {cn : PySem.Str} {cs : Scope} {a : Addr} {ccd : Value} {cl : List (PySem.Str × Addr)} {outer : List Env} {A₀ : Around} {base h₀ : Heap} {L : Addr} {m : PySem.Str → Option Value} {s : Shared} {Q E : Value → Shared → Prop} {R : Result → Shared → Prop}
variable {st c : Addr} {t1 : Tok} {at_ : Int} {n cap : Nat} {vs : List Value} {ns : List Int}
set_option maxHeartbeats 40000000 in
theorem writ_ct (B : Below A₀ base outer h₀) (F : Fr h₀ L s.heap m) (X : (K0 w.params).In h₀) (N : News h₀ L s.heap [(st, stO at_ t1 c n), (c, listOf vs.toArray cap)]) (T : Top jP jL mean mg mb h₀) (hk : cs.kind = .function) (hd : dp + 8 < recursionLimit) (hu : un + 40 < cLine) (hi : IntsAre vs ns) (hne : @Ne Nat c st) (h1 : 0 < ns.length) (h2 : ns.length ≤ 63)
    (hat : 0 ≤ at_ ∧ at_ < 960000)
    (hret : ∀ (D : Addr) (r : List UInt8) (z a' : Int) (tr tz t' : Tok) (h' : Heap) (tk' : Nat), r.length ≤ 300 → 0 ≤ z → z ≤ 21 → at_ ≤ a' → a' ≤ at_ + 100 → Fr h₀ L h' m → Keeps [st] s.heap h' → h'.get? st = some (stO a' t' c n) →
      h'.get? D = some (tupO #[.bytes r.toArray tr, .int z tz]) → s.heap.get? D = none → R (.ok (.ret (.ref D))) { s with heap := h', toks := tk' }) :
    codeAny (model jprog w) (ktrTop dp un gd cn cs L a ccd cl outer) (.call (.ref 360) ⟨[.ref st], []⟩) R s := by
  have hP0 := Pl.zero at_
  have hb99 : 0 ≤ at_ ∧ at_ < 990000 := ⟨hat.1, Int.lt_trans hat.2 (by decide)⟩
  k_dflt (refine' enter_defC (binds := [(Str.ofString "state", .ref st)]) (m₁ := fun y => none) ?k1 ?k2 ?k3 ?k4 ?k5 ?kA ?kF ?kK ?k6 ?k7 ?k8 ?k9 ?kB ?kD ?kM ?_ ?c2 ?c3 ?c4; (case kA => exact rfl); (case kF => exact rfl); (case kK => assumption); (case k1 => k_asm); (case k2 => k_asm); (case k3 => k_asm); (case k4 => k_asm); (case k5 => k_asm); (case k6 => k_is); (case k7 => k_is); (case k8 => first | exact room0 hd | ktr_room); (case k9 => first | exact BindsTo.of_eq (by kernel_rfl!) | exact BindsTo.of_eq rfl | exact binds_K (by k_in) rfl (by k_is) rfl rfl rfl); (case kB => exact rfl); (case kD => decide +kernel); (case kM => (intro _; kernel_rfl!)); (case c2 => exact rfl); (case c3 => exact rfl); (case c4 => exact rfl); k_whole; intro g' L' h' tk' cells' FG' F' N' Y' B' X' T' hkp l1; (try k_lt l1); k_cells Y'; (rename Obj.data _ = Data.cell _ => d1'); (replace d1' : _ = Data.cell (some (.ref st)) := d1'); (try simp only [List.cons_append, List.nil_append] at N'); (try dsimp only); (try k_lift B'); (try ((with_reducible show wpAny _ _ _ _ _ _); k_fold)))
  k_steps
  all_goals (
    (rename Keeps _ _ _ => kK)
    (rename News g' _ _ _ => kI)
    (rename News h₀ _ _ _ => kN)
    refine hret _ _ _ _ _ _ _ _ _ ?_ ?_ ?_ ?_ ?_ (by assumption) (keeps_less kK N (by assumption) (by repeat' (first | exact List.forall_mem_nil _ | (refine List.forall_mem_cons.mpr ⟨?_, ?_⟩) | exact Or.inl (by k_mem) | exact Or.inr (by k_mem)))) (kN.get (by k_mem)) (kN.get (by k_mem)) (fresh_ne hkp (kI _ (by k_mem)).2.2 ⟨list_ne_tup (kN.get (by k_mem)) (kN.get (by k_mem)), list_ne_tup (kN.get (by k_mem)) (kN.get (by k_mem)), trivial⟩)
    all_goals first
      | decide
      | exact Lb.le (by with_reducible assumption) rfl
      | exact (Pl.le (m := 100) (by with_reducible assumption) rfl).1
      | exact (Pl.le (m := 100) (by with_reducible assumption) rfl).2
      | exact (Nb.pair (k := 21) (by with_reducible assumption) rfl rfl).1
      | exact (Nb.pair (k := 21) (by with_reducible assumption) rfl rfl).2)
variable {news : List (Addr × Obj)} {news2 : Int → Tok → List (Addr × Obj)}
theorem writ_full (B : Below A₀ base outer h₀) (F : Fr h₀ L s.heap m) (X : (K0 w.params).In h₀) (N : News h₀ L s.heap news) (T : Top jP jL mean mg mb h₀) (hk : cs.kind = .function) (hd : dp + 8 < recursionLimit) (hu : un + 40 < cLine) (U : ∀ a' t', Upd st (stO at_ t1 c n) (stO a' t' c n) news (news2 a' t')) (hc : (c, listOf vs.toArray cap) ∈ news) (hi : IntsAre vs ns) (hne : @Ne Nat c st) (h1 : 0 < ns.length) (h2 : ns.length ≤ 63)
    (hat : 0 ≤ at_ ∧ at_ < 960000)
    (hret : ∀ (D : Addr) (r : List UInt8) (z a' : Int) (tr tz t' : Tok) (h' : Heap) (tk' : Nat), r.length ≤ 300 → 0 ≤ z → z ≤ 21 → at_ ≤ a' → a' ≤ at_ + 100 → Fr h₀ L h' m → News h₀ L h' ((D, tupO #[.bytes r.toArray tr, .int z tz]) :: news2 a' t') → R (.ok (.ret (.ref D))) { s with heap := h', toks := tk' }) :
    codeAny (model jprog w) (ktrTop dp un gd cn cs L a ccd cl outer) (.call (.ref 360) ⟨[.ref st], []⟩) R s :=
  writ_ct B F X (sub2 N (upd_old (U at_ 0)) hc) T hk hd hu hi hne h1 h2 hat fun D r z a' tr tz t' h' tk' e0 e1 e2 e3 e4 F' kp eo eD en => hret D r z a' tr tz t' h' tk' e0 e1 e2 e3 e4 F' (news_new' F (news_upd1 N (U a' t') kp eo) eD en)
end
end JaLaw
end
section
set_option Elab.async false
set_option maxRecDepth 100000
namespace JaLaw
theorem rowsJaSeal0 : True := by
  k_with_none
  k_with "sz" => (first | with_reducible assumption | ((try simp only [List.length_append, List.length_take, List.length_drop, List.length_cons, List.length_nil, toBE_length, List.length_replicate]); (first | lia | omega)))
  exact True.intro
theorem seal_lt (n : Nat) : n % (2 ^ 127 - 1) < 256 ^ 16 := Nat.lt_of_lt_of_le (Nat.mod_lt _ (by decide)) (by decide)
theorem rowsJaSeal1 : True := by
  k_with "callWith ref" => (k_here; (with_reducible show wpAny _ _ (callWith _ (Value.ref _) _ (backTo _ (starEach [] _)) (backToKw _ (keywordEach (_ :: _) _))) _ _ _); k_dflt (refine' callWith_KW0 ?k1 ?k2 ?k3 ?_; (case k1 => with_reducible assumption); (case k2 => k_is); (case k3 => exact rfl); k_whole))
  k_with "callWith ref" => (k_here; (with_reducible show wpAny _ _ (callWith _ (Value.ref _) _ (backTo _ (starEach (_ :: _) _)) []) _ _ _); k_dflt (refine' callWith_K ?k1 ?k2 ?_; (case k1 => with_reducible assumption); (case k2 => k_is); k_whole))
  k_with "callWith ref" => (k_here; (with_reducible show wpAny _ _ (callWith _ (Value.ref _) _ (backTo _ (starEach [] _)) []) _ _ _); k_dflt (refine' callWith_K0 ?k1 ?k2 ?_; (case k1 => exact (by first | with_reducible assumption | exact Frag.In.keeps (by with_reducible assumption) (Fr.keep (by with_reducible assumption)))); (case k2 => k_is); k_whole))
  k_with "newList" => (k_here; k_dflt (refine' newList_K ?k1 ?k2 ?_; (case k1 => with_reducible assumption); (case k2 => with_reducible assumption); k_whole); intro l' h' F' N' l1; (try k_lt l1); (repeat (have := And.left l1; replace l1 := And.right l1)); (try k_sweep))
  k_with "And" => ((with_reducible show Frag.In _ _ ∧ _); refine ⟨(by first | with_reducible assumption | exact Frag.In.keeps (by with_reducible assumption) (Fr.keep (by with_reducible assumption))), ?_⟩; try dsimp only [List.nil_append, List.cons_append])
  k_with "eval Name" => (k_here; (with_reducible show wpAny _ _ (eval (Expr.Name _ _) (envOf _ _ _ _ _)) _ _ _); k_dflt (first | (refine' ld ?k1 ?k2 ?_ ?k3 ?k4 ?k5; (case k4 => kernel_rfl!); (case k1 => with_reducible assumption); (case k2 => ((try dsimp only [List.reverse, List.reverseAux]); (repeat (first | with_reducible exact lk_hit | with_reducible exact lk_sto_hit | with_reducible exact lk_ite_hit | (with_reducible refine lk_sto_miss (by kernel_rfl!) ?_) | (with_reducible refine lk_ite_miss2 (by kernel_rfl!) ?_) | (with_reducible refine lk_miss (by kernel_rfl!) ?_) | with_reducible refine lk_rev ?_)))); (case k3 => kernel_rfl!); (case k5 => decide +kernel); k_whole) | (refine' name_K ?k0 ?k1 ?k2 ?k3 ?_ ?k4 ?k5 ?k6; (case k5 => kernel_rfl!); (case k0 => with_reducible assumption); (case k1 => with_reducible assumption); (case k2 => exact topRead_of (by with_reducible assumption)); (case k3 => k_is); (case k4 => kernel_rfl!); (case k6 => decide +kernel); k_whole) | (refine' name_B ?k0 ?k1 ?k2 ?k3 ?k4 ?k5 ?_ ?k6 ?k7 ?k8; (case k7 => kernel_rfl!); (case k0 => with_reducible assumption); (case k1 => with_reducible assumption); (case k2 => exact topRead_of (by with_reducible assumption)); (case k3 => k_is); (case k4 => boot_fast); (case k5 => decide); (case k6 => kernel_rfl!); (case k8 => decide +kernel); k_whole)))
  k_with "call builtin:len" => (k_here; (with_reducible show wpAny _ _ (call (Value.builtin "len") [Value.bytes _ _]) _ _ _); k_dflt (refine bs_len (by (k_extra "sz")) ?_; intro _ _))
  k_with "binaryOp Add bytes bytes" => (k_here; (with_reducible show wpAny _ _ (binaryOp _ (Value.bytes _ _) (Value.bytes _ _)) _ _ _); k_dflt (refine bs_add (by (k_extra "sz")) ?_; intro _ _))
  k_with "call type:bytes" => (k_here; (with_reducible show wpAny _ _ (call (Value.type "bytes") [Value.ref _]) _ _ _); k_dflt (refine' bs_one ?k1 ?k2 ?k3 ?k4 ?k5 ?k6 ?_; (case k1 => k_asm); (case k2 => k_asm); (case k3 => exact rfl); (case k4 => k_mem); (case k5 => (k_extra "sz")); (case k6 => (k_extra "sz")); k_whole); intro _ _ _ F' N')
  k_with "call ref" => (k_here; (with_reducible show wpAny _ _ (call (Value.ref _) [Value.bytes _ _, Value.str _ _]) _ _ _); kfb_any; k_dflt (refine fb_call (by k_asm) (by k_mem) (by (k_extra "sz")) ?_); intro _ _)
  exact True.intro

theorem rowsJaSeal2 : True := by
  k_with "binaryOp Pow int int" => (k_here; k_dflt (refine int_pow (x := 2) (k := 127) rfl rfl (by decide) (by decide) ?_; intro _ _))
  k_with "binaryOp Mod int int" => (k_here; k_dflt (first | (refine int_mod (y := 256) rfl rfl (by decide) ?_; intro _ _) | (refine int_mod (y := 2 ^ 127 - 1) rfl (by decide +kernel) (by decide +kernel) ?_; intro _ _)))
  k_with "call builtin:int.to_bytes" => (k_here; (with_reducible show wpAny _ _ (call (Value.builtin "int.to_bytes") [Value.int _ _, Value.int _ _, Value.str _ _]) _ _ _); k_dflt (refine tb_call (k := 16) (by decide) (seal_lt _) ?_; intro _ _))
  exact True.intro
/-- the seal, in plain words -/
noncomputable def sealP (key nonce data assoc : List UInt8) : List UInt8 := toBE (beV (key ++ nonce ++ [UInt8.ofNat (data.length % 256)] ++ data ++ assoc) % (2 ^ 127 - 1)) 16
section
variable {w : World} {mean : ExcName → Option Value} {mg mb : PySem.Str → Option Value} {dp un : Nat} {gd : Option (List Code)} {cn : PySem.Str} {cs : Scope} {a : Addr} {ccd : Value} {cl : List (PySem.Str × Addr)} {outer : List Env} {A₀ : Around} {base h₀ : Heap} {L : Addr} {m : PySem.Str → Option Value} {s : Shared} {Q E : Value → Shared → Prop} {R : Result → Shared → Prop}
variable {l1 l2 l3 l4 : List UInt8} {t1 t2 t3 t4 : Tok}
set_option maxHeartbeats 8000000 in
theorem seal_ct (B : Below A₀ base outer h₀) (F : Fr h₀ L s.heap m) (X : (K0 w.params).In h₀) (N : News h₀ L s.heap []) (T : Top jP jL mean mg mb h₀) (hk : cs.kind = .function) (hd : dp + 3 < recursionLimit) (hu : un + 16 < cLine) (hl1 : l1.length ≤ 200) (hl2 : l2.length ≤ 200) (hl3 : l3.length ≤ 200) (hl4 : l4.length ≤ 200)
    (hret : ∀ (t : Tok) (h' : Heap) (tk' : Nat), Fr h₀ L h' m → Keeps [] s.heap h' → R (.ok (.ret (.bytes (sealP l1 l2 l3 l4).toArray t))) { s with heap := h', toks := tk' }) :
    codeAny (model jprog w) (ktrTop dp un gd cn cs L a ccd cl outer) (.call (.ref 367) ⟨[.bytes l1.toArray t1, .bytes l2.toArray t2, .bytes l3.toArray t3, .bytes l4.toArray t4], []⟩) R s := by
  k_dflt (refine' enter_def (binds := [(Str.ofString "key", .bytes l1.toArray t1), (Str.ofString "nonce", .bytes l2.toArray t2), (Str.ofString "data", .bytes l3.toArray t3), (Str.ofString "associated", .bytes l4.toArray t4)]) ?k1 ?k2 ?k3 ?k4 ?k5 ?kA ?kF ?kK ?k6 ?k7 ?k8 ?k9 ?kB ?_ ?c2 ?c3 ?c4 ?c5; (case kA => exact rfl); (case kF => exact rfl); (case kK => assumption); (case k1 => k_asm); (case k2 => k_asm); (case k3 => k_asm); (case k4 => k_asm); (case k5 => k_asm); (case k6 => k_is); (case k7 => k_is); (case k8 => first | exact room0 hd | ktr_room); (case k9 => first | exact BindsTo.of_eq (by kernel_rfl!) | exact BindsTo.of_eq rfl | exact binds_K (by k_in) rfl (by k_is) rfl rfl rfl); (case c5 => decide); (case kB => exact locs rfl); (case c2 => exact rfl); (case c3 => exact rfl); (case c4 => exact rfl); k_whole; intro g' L' h' FG' F' N' B' X' T' hkp hge; (try dsimp only); k_fold)
  k_steps
  all_goals (
    (rename Keeps _ _ _ => kK)
    (rename News h₀ _ _ _ => kN)
    exact hret _ _ _ (by assumption) (keeps_less kK N kN (fun _ h => nomatch h)))
theorem seal_full {news : List (Addr × Obj)} (B : Below A₀ base outer h₀) (F : Fr h₀ L s.heap m) (X : (K0 w.params).In h₀) (N : News h₀ L s.heap news) (T : Top jP jL mean mg mb h₀) (hk : cs.kind = .function) (hd : dp + 3 < recursionLimit) (hu : un + 16 < cLine) (hl1 : l1.length ≤ 200) (hl2 : l2.length ≤ 200) (hl3 : l3.length ≤ 200) (hl4 : l4.length ≤ 200)
    (hret : ∀ (t : Tok) (h' : Heap) (tk' : Nat), Fr h₀ L h' m → News h₀ L h' news → R (.ok (.ret (.bytes (sealP l1 l2 l3 l4).toArray t))) { s with heap := h', toks := tk' }) :
    codeAny (model jprog w) (ktrTop dp un gd cn cs L a ccd cl outer) (.call (.ref 367) ⟨[.bytes l1.toArray t1, .bytes l2.toArray t2, .bytes l3.toArray t3, .bytes l4.toArray t4], []⟩) R s :=
  seal_ct B F X (news_sub N fun _ h => (nomatch h)) T hk hd hu hl1 hl2 hl3 hl4 fun t h' tk' F' kp => hret t h' tk' F' (news_keep N kp)
end
end JaLaw
end
section
set_option Elab.async false
set_option maxRecDepth 100000
namespace JaLaw
theorem n_fold {α : Type} {M : Model} {A : Around} {t : Sem α} {Q : α → Shared → Prop} {E : Value → Shared → Prop} {s : Shared} (h : ∀ qk ek, qk = Q → ek = E → wpN M A t qk ek s) : wpN M A t Q E s := h _ _ rfl rfl
section
variable {w : World} {mean : ExcName → Option Value} {mg mb : PySem.Str → Option Value} {dp un : Nat} {gd : Option (List Code)} {cn : PySem.Str} {cs : Scope} {a : Addr} {ccd : Value} {cl : List (PySem.Str × Addr)} {outer : List Env} {A₀ : Around} {base h₀ : Heap} {L : Addr} {m : PySem.Str → Option Value} {s : Shared} {Q E : Value → Shared → Prop} {R : Result → Shared → Prop}
variable {x dx : Addr} {l : List UInt8} {tl : Tok}
set_option maxHeartbeats 8000000 in
theorem initd_ct (B : Below A₀ base outer h₀) (F : Fr h₀ L s.heap m) (X : (K0 w.params).In h₀) (N : News h₀ L s.heap [(x, instObj 193 dx), (dx, dictOf [] 0)]) (T : Top jP jL mean mg mb h₀) (hk : cs.kind = .function) (hd : dp + 3 < recursionLimit) (hu : un + 16 < cLine) (hl : l.length ≤ 100000) (hne : @Ne Nat dx x)
    (hret : ∀ (ba : Addr) (k1 k2 tp : Tok) (h' : Heap) (tk' : Nat), Fr h₀ L h' m → Keeps [dx] s.heap h' → h'.get? dx = some (bufD w.params k1 k2 ba 0 tp) → h'.get? ba = some (baO (l)) → s.heap.get? ba = none → R (.ok (.ret .none)) { s with heap := h', toks := tk' }) :
    codeN (model jprog w) (ktrTop dp un gd cn cs L a ccd cl outer) (.call (.ref 62) ⟨[.ref x], [(PySem.Str.ofString "data", .bytes l.toArray tl)]⟩) R s := by
  k_dflt (refine' enter_defN ?k1 ?k2 ?k3 ?k4 ?k5 ?kA ?kF ?kK ?k6 ?k7 ?k8 ?k9 ?kB ?_ ?c2 ?c3 ?c4 ?c5; (case kA => exact rfl); (case kF => exact rfl); (case kK => assumption); (case k1 => k_asm); (case k2 => k_asm); (case k3 => k_asm); (case k4 => k_asm); (case k5 => k_asm); (case k6 => k_is); (case k7 => k_is); (case k8 => first | exact room0 hd | ktr_room); (case k9 => first | exact BindsTo.of_eq rfl | exact binds_K (by k_in) rfl (by k_is) rfl rfl rfl); (case c5 => decide); (case kB => exact locs rfl); (case c2 => exact rfl); (case c3 => exact rfl); (case c4 => exact rfl); k_whole; intro g' L' h' FG' F' N' B' X' T' hkp hge; (try dsimp only); (try k_fold))
  refine n_fold fun qk ek hq he => ?_
  refine n_cons (n_if (wpN_any ?_))
  k_steps
  refine n_cons (n_assign_attr rfl (n_call_name ?_))
  k_steps
  refine n_cT ?_
  k_steps
  (with_reducible rename Fr _ _ _ _ => kF)
  (with_reducible rename News _ _ _ _ => kN)
  refine BA.call_N kF kN (r := l) (fun A E s a P h hQ => BA.init_bytes h (by (first | lia | omega)) hQ) fun y' h' F' N' l1 => ?_
  clear kF kN
  (try k_lt l1)
  k_steps
  refine n_nil ?_
  dsimp only
  refine wpN_any ?_
  subst hq he
  k_fold
  k_steps
  all_goals (
    (rename Keeps _ _ _ => kK)
    (rename News g' _ _ _ => kI)
    (rename News h₀ _ _ _ => kN)
    exact hret y' _ _ _ _ _ (by assumption) (keeps_less kK N (by assumption) (by repeat' (first | exact List.forall_mem_nil _ | (refine List.forall_mem_cons.mpr ⟨?_, ?_⟩) | exact Or.inl (by k_mem) | exact Or.inr (by k_mem)))) (kN.get (by k_mem)) (kN.get (by k_mem)) (fresh_in hkp (kI (y', baO l) (by k_mem)).2.2 (by simp only [AllLt, and_true]; (first | lia | omega))))
set_option maxHeartbeats 8000000 in
theorem initc_ct (B : Below A₀ base outer h₀) (F : Fr h₀ L s.heap m) (X : (K0 w.params).In h₀) (N : News h₀ L s.heap [(x, instObj 193 dx), (dx, dictOf [] 0)]) (T : Top jP jL mean mg mb h₀) (hk : cs.kind = .function) (hd : dp + 3 < recursionLimit) (hu : un + 16 < cLine) {i : Int} {n : Nat} (hi : i = (n : Int)) (hl : n ≤ 100000) (hne : @Ne Nat dx x)
    (hret : ∀ (ba : Addr) (k1 k2 tp : Tok) (h' : Heap) (tk' : Nat), Fr h₀ L h' m → Keeps [dx] s.heap h' → h'.get? dx = some (bufD w.params k1 k2 ba 0 tp) → h'.get? ba = some (baO (List.replicate n 0)) → s.heap.get? ba = none → R (.ok (.ret .none)) { s with heap := h', toks := tk' }) :
    codeN (model jprog w) (ktrTop dp un gd cn cs L a ccd cl outer) (.call (.ref 62) ⟨[.ref x], [(PySem.Str.ofString "capacity", .int i tl)]⟩) R s := by
  k_dflt (refine' enter_defN ?k1 ?k2 ?k3 ?k4 ?k5 ?kA ?kF ?kK ?k6 ?k7 ?k8 ?k9 ?kB ?_ ?c2 ?c3 ?c4 ?c5; (case kA => exact rfl); (case kF => exact rfl); (case kK => assumption); (case k1 => k_asm); (case k2 => k_asm); (case k3 => k_asm); (case k4 => k_asm); (case k5 => k_asm); (case k6 => k_is); (case k7 => k_is); (case k8 => first | exact room0 hd | ktr_room); (case k9 => first | exact BindsTo.of_eq rfl | exact binds_K (by k_in) rfl (by k_is) rfl rfl rfl); (case c5 => decide); (case kB => exact locs rfl); (case c2 => exact rfl); (case c3 => exact rfl); (case c4 => exact rfl); k_whole; intro g' L' h' FG' F' N' B' X' T' hkp hge; (try dsimp only); (try k_fold))
  refine n_fold fun qk ek hq he => ?_
  refine n_cons (n_if (wpN_any ?_))
  k_steps
  refine n_cons (n_assign_attr rfl (n_call_name ?_))
  k_steps
  refine n_cT ?_
  k_steps
  (with_reducible rename Fr _ _ _ _ => kF)
  (with_reducible rename News _ _ _ _ => kN)
  refine BA.call_N kF kN (r := List.replicate n 0) (fun A E s a P h hQ => BA.init_int h hi (by (first | lia | omega)) hQ) fun y' h' F' N' l1 => ?_
  clear kF kN
  (try k_lt l1)
  k_steps
  refine n_nil ?_
  dsimp only
  refine wpN_any ?_
  subst hq he
  k_fold
  k_steps
  all_goals (
    (rename Keeps _ _ _ => kK)
    (rename News g' _ _ _ => kI)
    (rename News h₀ _ _ _ => kN)
    exact hret y' _ _ _ _ _ (by assumption) (keeps_less kK N (by assumption) (by repeat' (first | exact List.forall_mem_nil _ | (refine List.forall_mem_cons.mpr ⟨?_, ?_⟩) | exact Or.inl (by k_mem) | exact Or.inr (by k_mem)))) (kN.get (by k_mem)) (kN.get (by k_mem)) (fresh_in hkp (kI (y', baO (List.replicate n 0)) (by k_mem)).2.2 (by simp only [AllLt, and_true]; (first | lia | omega))))
theorem bufd_ct {news : List (Addr × Obj)} (B : Below A₀ base outer h₀) (F : Fr h₀ L s.heap m) (X : (K0 w.params).In h₀) (N : News h₀ L s.heap news) (T : Top jP jL mean mg mb h₀) (hk : cs.kind = .function) (hd : dp + 4 < recursionLimit) (hu : un + 20 < cLine) (hl : l.length ≤ 100000)
    (hret : ∀ (x dx ba : Addr) (k1 k2 tp : Tok) (h' : Heap) (tk' : Nat), Fr h₀ L h' m → News h₀ L h' ((x, instObj 193 dx) :: (dx, bufD w.params k1 k2 ba 0 tp) :: (ba, baO (l)) :: news) → dx < x → (∀ p ∈ news, p.1 < dx) → @Ne Nat ba x → @Ne Nat ba dx → AllNe ba news → R (.ok (.ret (.ref x))) { s with heap := h', toks := tk' }) :
    codeN (model jprog w) (ktrTop dp un gd cn cs L a ccd cl outer) (.call (.ref 193) ⟨[], [(PySem.Str.ofString "data", .bytes l.toArray tl)]⟩) R s := by
  refine make_KN F N (X.keeps F.keep) (C := 193) (fI := 62) (by k_is) (by k_is) (by k_is) fun x dx h' F' N' l1 l2 => ?_
  have hn : @Ne Nat dx x := Nat.ne_of_lt l2
  show codeN _ (ktrTop (dp + 1) (un + 1) gd cn cs L a ccd cl outer) _ _ _
  have N2 : News h₀ L h' [(x, instObj 193 dx), (dx, dictOf [] 0)] := sub2 N' (.head _) (.tail _ (.head _))
  refine initd_ct (s := { s with heap := h' }) B F' X N2 T hk (by (first | lia | omega)) (by (first | lia | omega)) hl hn fun ba k1 k2 tp h2 tk2 F2 kp e1 e2 e3 => ?_
  refine ⟨rfl, ?_⟩
  have hnx := news_ne N' e3
  refine hret x dx ba k1 k2 tp h2 tk2 F2 ?_ l2 l1 (Ne.symm hnx.1) (Ne.symm hnx.2.1) hnx.2.2
  have Na : News h₀ L h2 ((x, instObj 193 dx) :: (dx, bufD w.params k1 k2 ba 0 tp) :: news) := by
    refine news_upd1 (o := emptyDict) N' ?_ kp e1
    exact .tail (Ne.symm hn) (.head fun p hp => Nat.ne_of_lt (l1 p hp))
  have Nb := news_new' F' Na e2 e3
  exact news_sub Nb fun p hp => by
    rcases List.mem_cons.mp hp with rfl | hp
    · exact .tail _ (.head _)
    rcases List.mem_cons.mp hp with rfl | hp
    · exact .tail _ (.tail _ (.head _))
    rcases List.mem_cons.mp hp with rfl | hp
    · exact .head _
    · exact .tail _ (.tail _ (.tail _ hp))
theorem bufc_ct {news : List (Addr × Obj)} (B : Below A₀ base outer h₀) (F : Fr h₀ L s.heap m) (X : (K0 w.params).In h₀) (N : News h₀ L s.heap news) (T : Top jP jL mean mg mb h₀) (hk : cs.kind = .function) (hd : dp + 4 < recursionLimit) (hu : un + 20 < cLine) {i : Int} {n : Nat} (hi : i = (n : Int)) (hl : n ≤ 100000)
    (hret : ∀ (x dx ba : Addr) (k1 k2 tp : Tok) (h' : Heap) (tk' : Nat), Fr h₀ L h' m → News h₀ L h' ((x, instObj 193 dx) :: (dx, bufD w.params k1 k2 ba 0 tp) :: (ba, baO (List.replicate n 0)) :: news) → dx < x → (∀ p ∈ news, p.1 < dx) → @Ne Nat ba x → @Ne Nat ba dx → AllNe ba news → R (.ok (.ret (.ref x))) { s with heap := h', toks := tk' }) :
    codeN (model jprog w) (ktrTop dp un gd cn cs L a ccd cl outer) (.call (.ref 193) ⟨[], [(PySem.Str.ofString "capacity", .int i tl)]⟩) R s := by
  refine make_KN F N (X.keeps F.keep) (C := 193) (fI := 62) (by k_is) (by k_is) (by k_is) fun x dx h' F' N' l1 l2 => ?_
  have hn : @Ne Nat dx x := Nat.ne_of_lt l2
  show codeN _ (ktrTop (dp + 1) (un + 1) gd cn cs L a ccd cl outer) _ _ _
  have N2 : News h₀ L h' [(x, instObj 193 dx), (dx, dictOf [] 0)] := sub2 N' (.head _) (.tail _ (.head _))
  refine initc_ct (s := { s with heap := h' }) B F' X N2 T hk (by (first | lia | omega)) (by (first | lia | omega)) hi hl hn fun ba k1 k2 tp h2 tk2 F2 kp e1 e2 e3 => ?_
  refine ⟨rfl, ?_⟩
  have hnx := news_ne N' e3
  refine hret x dx ba k1 k2 tp h2 tk2 F2 ?_ l2 l1 (Ne.symm hnx.1) (Ne.symm hnx.2.1) hnx.2.2
  have Na : News h₀ L h2 ((x, instObj 193 dx) :: (dx, bufD w.params k1 k2 ba 0 tp) :: news) := by
    refine news_upd1 (o := emptyDict) N' ?_ kp e1
    exact .tail (Ne.symm hn) (.head fun p hp => Nat.ne_of_lt (l1 p hp))
  have Nb := news_new' F' Na e2 e3
  exact news_sub Nb fun p hp => by
    rcases List.mem_cons.mp hp with rfl | hp
    · exact .tail _ (.head _)
    rcases List.mem_cons.mp hp with rfl | hp
    · exact .tail _ (.tail _ (.head _))
    rcases List.mem_cons.mp hp with rfl | hp
    · exact .head _
    · exact .tail _ (.tail _ (.tail _ hp))
end
end JaLaw
end
section
set_option Elab.async false
set_option maxRecDepth 100000
namespace JaLaw
theorem rowsJaHdr0 : True := by
  k_with_none
  exact True.intro
theorem rowsJaHdr1 : True := by
  k_with "eval Name" => (k_here; (with_reducible show wpAny _ _ (eval (Expr.Name _ _) (envOf _ _ _ _ _)) _ _ _); k_dflt (first | (refine' ld ?k1 ?k2 ?_ ?k3 ?k4 ?k5; (case k4 => kernel_rfl!); (case k1 => with_reducible assumption); (case k2 => ((try dsimp only [List.reverse, List.reverseAux]); (repeat (first | with_reducible exact lk_hit | with_reducible exact lk_sto_hit | with_reducible exact lk_ite_hit | (with_reducible refine lk_sto_miss (by kernel_rfl!) ?_) | (with_reducible refine lk_ite_miss2 (by kernel_rfl!) ?_) | (with_reducible refine lk_miss (by kernel_rfl!) ?_) | with_reducible refine lk_rev ?_)))); (case k3 => kernel_rfl!); (case k5 => decide +kernel); k_whole) | (refine' name_K ?k0 ?k1 ?k2 ?k3 ?_ ?k4 ?k5 ?k6; (case k5 => kernel_rfl!); (case k0 => with_reducible assumption); (case k1 => with_reducible assumption); (case k2 => exact topRead_of (by with_reducible assumption)); (case k3 => k_is); (case k4 => kernel_rfl!); (case k6 => decide +kernel); k_whole) | (refine' name_B ?k0 ?k1 ?k2 ?k3 ?k4 ?k5 ?_ ?k6 ?k7 ?k8; (case k7 => kernel_rfl!); (case k0 => with_reducible assumption); (case k1 => with_reducible assumption); (case k2 => exact topRead_of (by with_reducible assumption)); (case k3 => k_is); (case k4 => boot_fast); (case k5 => decide); (case k6 => kernel_rfl!); (case k8 => decide +kernel); k_whole)))
  k_with "exec Assign" => (k_here; k_fold)
  exact True.intro
/-! an exception's way out of a loop of the frame that it comes from -/
section
variable {M : Model} {A : Around} {E : Value → Shared → Prop} {s' : Shared} {base g g₂ h : Heap} {outer : List Env} {L a e : Addr} {m : PySem.Str → Option Value} {name : PySem.Str} {scope : Scope} {cd : Value} {Q : Unit → Shared → Prop} {cls : Value}
theorem rz_came (R : RzH base g₂ (envOf name scope L a cd :: outer) e cls L s'.heap)
    (hQ : ∀ h', RzH base g₂ (envOf name scope L a cd :: outer) e cls L h' → E (.ref e) { s' with heap := h' }) : cameBackBy M A (envOf name scope L a cd) E (.ref e) s' := by
  obtain ⟨⟨B, a0, hB, hG, hkb, hen, hl, oe, vs, T, oT, ts, he, hcls, hd, h1, hnT, hTe, hT, hdT, h3⟩, hsm⟩ := R
  have hsz3 : 3 < ts.size := (Array.getElem?_eq_some_iff.mp h3).1
  have other : ∀ b, b ≠ T → (s'.heap.update T (Obj.mapFields (·.setIfInBounds 3 (rawInt L)))).get? b = s'.heap.get? b := fun b hb => Heap.get?_update_other _ _ (Ne.symm hb)
  have noRecord : ∀ b o, s'.heap.get? b = some o → (∀ vs, o.data ≠ .fields vs) → b ≠ T := fun b o hb hnf q => by
    rw [q, hT] at hb; injection hb with hb; subst hb; exact hnf ts hdT
  unfold cameBackBy
  refine wpAny_bind (wpAny_field he hd h1 ?_)
  rw [if_neg (show ¬ ((Value.ref T == Value.none) = true) from by simp)]
  have main : wpAny M A (setFlight (.ref e) (some L)) (fun _ s'' => E (.ref e) s'') E s' := by
    unfold setFlight
    refine wpAny_bind (wpAny_field he hd h1 ?_)
    rw [if_pos (show (Value.ref T != Value.none) = true from by simp)]
    refine wpAny_setField hT hdT hsz3 (hQ _ ⟨⟨B, a0, hB, hG, fun b o hbo => (other b fun q => by rw [q, hnT] at hbo; cases hbo).trans (hkb b o hbo), hen,
      hl.of_keeps fun b o hb hnf => ⟨o, (other b (noRecord b o hb hnf)).trans hb, rfl⟩, ?_⟩, hsm.trans fun b o hb hnf => ⟨o.slots, (other b (noRecord b o hb hnf)).trans hb⟩⟩)
    exact ⟨oe, vs, T, _, _, (other e (Ne.symm hTe)).trans he, hcls, hd, h1, hnT, hTe, Heap.get?_update_self _ hT (Obj.isFreed_of_fields (Obj.data_mapFields hdT _)), Obj.data_mapFields hdT _, by simp [hsz3]⟩
  first
    | exact wpAny_bind (wpAny_pure main)
    | exact main
theorem rz_pass (K : Below A base outer g) (R : Rz base g₂ (envOf name scope L a cd :: outer) e cls s'.heap)
    (hQ : ∀ h', RzH base g₂ (envOf name scope L a cd :: outer) e cls L h' → E (.ref e) { s' with heap := h' }) :
    notedBy M (A.deeper (envOf name scope L a cd)) (envOf name scope L a cd) (cameBackBy M (A.deeper (envOf name scope L a cd)) (envOf name scope L a cd) E) (.ref e) s' :=
  rz_note K R fun h' R' => rz_came (s' := { s' with heap := h' }) R' fun h'' R'' => hQ h'' R''
end
section
variable {prog : Program} {w : World} {A₀ : Around} {E : Value → Shared → Prop} {Q : Flow → Shared → Prop} {s : Shared} {base h₀ : Heap} {outer : List Env} {L a : Addr} {name : PySem.Str} {scope : Scope} {cd : Value}
/-- what a turn that raises leaves -/
noncomputable def RzE (base h₀ : Heap) (outer : List Env) (name : PySem.Str) (scope : Scope) (L a : Addr) (cd : Value) (P : Value → Prop) (s : Shared) (e : Value) (s' : Shared) : Prop :=
  ∃ ea cls g₂ h' tk' m', e = .ref ea ∧ s' = { s with heap := h', toks := tk' } ∧ Fr h₀ L g₂ m' ∧ Rz base g₂ (envOf name scope L a cd :: outer) ea cls h' ∧ P cls
theorem While_rz {test : Expr} {body : List Stmt} {pos : Pos} {m : PySem.Str → Option Value} {news : List (Addr × Obj)} (P : Value → Prop) (J : Nat → (PySem.Str → Option Value) → List (Addr × Obj) → Prop) {n₀ : Nat}
    (B : Below A₀ base outer h₀) (F : Fr h₀ L s.heap m) (N : News h₀ L s.heap news) (hJ : J n₀ m news)
    (turn : ∀ n m₁ news₁ h₁ tk₁, Fr h₀ L h₁ m₁ → News h₀ L h₁ news₁ → J n m₁ news₁ →
      wpAny (model prog w) (A₀.deeper (envOf name scope L a cd)) (isTrue test (envOf name scope L a cd) (eval test (envOf name scope L a cd))) (fun b s₂ =>
        if b = true then wpAny (model prog w) (A₀.deeper (envOf name scope L a cd)) (execs body (envOf name scope L a cd)) (WhileStep h₀ L s J n) (RzE base h₀ outer name scope L a cd P s) s₂ else Q .next s₂) (RzE base h₀ outer name scope L a cd P s) { s with heap := h₁, toks := tk₁ })
    (hE : ∀ ea cls g₂ h' tk' m', Fr h₀ L g₂ m' → RzH base g₂ (envOf name scope L a cd :: outer) ea cls L h' → P cls → E (.ref ea) { s with heap := h', toks := tk' }) :
    wpAny (model prog w) (A₀.deeper (envOf name scope L a cd)) (exec (.While test body [] pos) (envOf name scope L a cd)) Q E s := by
  have pass : ∀ e s', RzE base h₀ outer name scope L a cd P s e s' → notedBy (model prog w) (A₀.deeper (envOf name scope L a cd)) (envOf name scope L a cd) (cameBackBy (model prog w) (A₀.deeper (envOf name scope L a cd)) (envOf name scope L a cd) E) e s' := by
    rintro e s' ⟨ea, cls, g₂, h', tk', m', rfl, rfl, F', R', p⟩
    exact rz_pass B R' fun h'' R'' => hE ea cls g₂ h'' tk' m' F' R'' p
  refine wpAny_While (codeAny_whileLoop (fun n s' => ∃ h₁ tk₁ m₁ news₁, s' = { s with heap := h₁, toks := tk₁ } ∧ Fr h₀ L h₁ m₁ ∧ News h₀ L h₁ news₁ ∧ J n m₁ news₁) ?_ n₀ ⟨s.heap, s.toks, m, news, rfl, F, N, hJ⟩)
  rintro n s' ⟨h₁, tk₁, m₁, news₁, rfl, F₁, N₁, J₁⟩
  refine wpAny_mono (turn n m₁ news₁ h₁ tk₁ F₁ N₁ J₁) (fun b s₂ h₂ => ?_) pass
  cases b with
  | false =>
    simp only [Bool.false_eq_true, if_false] at h₂ ⊢
    exact wpAny_execs_nil h₂
  | true =>
    simp only [if_true] at h₂ ⊢
    refine wpAny_mono h₂ (fun f s₃ h₃ => ?_) pass
    obtain ⟨rfl, h', tk, m₂, news₂, n', rfl, F₂, N₂, hn, J₂⟩ := h₃
    exact ⟨n', hn, h', tk, m₂, news₂, rfl, F₂, N₂, J₂⟩
end
section
variable {prog : Program} {w : World} {A : Around} {E : Value → Shared → Prop} {Q : Value → Shared → Prop} {s : Shared} {env : Env}
theorem u8_lt (l : List UInt8) (p : Int) : beV ((l.drop p.toNat).take 1) < 256 := by
  have h1 := beV_lt ((l.drop p.toNat).take 1)
  have h2 : ((l.drop p.toNat).take 1).length ≤ 1 := by rw [List.length_take]; (first | lia | omega)
  have h3 : 256 ^ ((l.drop p.toNat).take 1).length ≤ 256 ^ 1 := Nat.pow_le_pow_right (by decide) h2
  (first | lia | omega)
theorem small_log {n : Nat} (h : n < 256) : (n : Int).natAbs.log2 < 1920 := by
  rw [Int.natAbs_natCast]
  by_cases h0 : n = 0
  · subst h0; decide
  · rw [Nat.log2_lt h0]
    exact Nat.lt_of_lt_of_le h (Nat.pow_le_pow_right (n := 2) (i := 8) (by decide) (by decide))
theorem text_len {n : Nat} (h : n < 256) : (PySem.Str.ofString (toString (n : Int))).length ≤ 100 := by
  have := int_text_length_le10 (a := (n : Int)) (k := 50) (by decide) (by rw [Int.natAbs_natCast]; exact Nat.lt_of_lt_of_le h (by decide +kernel))
  rw [PySem.ofString_length]
  (first | lia | omega)
/-- a text of three parts, with a small number between: some text -/
theorem joined3 {c1 c2 : PySem.Str} {val : Expr} {k k2 : Nat} {p1 p2 p3 pos : Pos} (h1 : c1.length ≤ 1000) (h2 : c2.length ≤ 1000)
    (h : wpAny (model prog w) A (eval val env) (fun v s₁ => ∃ (n : Nat) (t : Tok), v = .int n t ∧ n < 256 ∧ ∀ x t' k, Q (.str x t') { s₁ with toks := k }) E { s with toks := s.toks + 1 }) :
    wpAny (model prog w) A (eval (.JoinedStr [.Constant (.str c1) k p1, .FormattedValue val (-1) none p2, .Constant (.str c2) k2 p3] pos) env) Q E s := by
  show wpAny _ _ (joinParts Str.empty [eval (.Constant (.str c1) k p1) env, eval (.FormattedValue val (-1) none p2) env, eval (.Constant (.str c2) k2 p3) env]) Q E s
  have l0 : Str.empty.length = 0 := rfl
  refine joinParts_cons (Calls.Constant_str ?_)
  refine ⟨by rw [Str.length_append, l0, sizeLine_eq]; (first | lia | omega), ?_⟩
  refine joinParts_cons (wpAny_FormattedValue_plain (wpAny_mono h (fun v s₁ hv => ?_) fun _ _ x => x))
  obtain ⟨n, t, rfl, hn, hQ⟩ := hv
  have ht := text_len hn
  refine wpAny_formatField_int (small_log hn) ?_
  refine ⟨by show (_ ++ PySem.Str.ofString _).length ≤ _; rw [Str.length_append, Str.length_append, l0, sizeLine_eq]; (first | lia | omega), ?_⟩
  refine joinParts_cons (Calls.Constant_str ?_)
  have hz : ((Str.empty ++ c1 ++ PySem.Str.ofString (toString (n : Int))) ++ c2).length ≤ sizeLine := by rw [Str.length_append, Str.length_append, Str.length_append, l0, sizeLine_eq]; (first | lia | omega)
  refine ⟨hz, ?_⟩
  exact joinParts_nil (hQ _ _ _) hz
end
/-! the bits of a first octet -/
theorem bits_first : ∀ f < 256, (f &&& 128 = f / 128 * 128) ∧ (f &&& 64 = f / 64 % 2 * 64) ∧ (f &&& 48 = f / 16 % 4 * 16) ∧ (f &&& 32 = f / 32 % 2 * 32) := by decide +kernel
section
variable {w : World} {prog : Program} {A : Around} {E : Value → Shared → Prop} {s : Shared} {Q : Value → Shared → Prop} {f : Nat} {xi yi : Int} {t u : Tok}
theorem and_128 (hy : yi = 128) (hx : xi = f) (hf : f < 256) (h : ∀ t' k', Q (.int (f / 128 * 128 : Nat) t') { s with toks := k' }) : wpAny (model prog w) A (binaryOp .BitAnd (.int xi t) (.int yi u)) Q E s :=
  int_and (y := 128) hx hy fun t' k' => by rw [(bits_first f hf).1]; exact h t' k'
theorem and_64 (hy : yi = 64) (hx : xi = f) (hf : f < 256) (h : ∀ t' k', Q (.int (f / 64 % 2 * 64 : Nat) t') { s with toks := k' }) : wpAny (model prog w) A (binaryOp .BitAnd (.int xi t) (.int yi u)) Q E s :=
  int_and (y := 64) hx hy fun t' k' => by rw [(bits_first f hf).2.1]; exact h t' k'
theorem and_48 (hy : yi = 48) (hx : xi = f) (hf : f < 256) (h : ∀ t' k', Q (.int (f / 16 % 4 * 16 : Nat) t') { s with toks := k' }) : wpAny (model prog w) A (binaryOp .BitAnd (.int xi t) (.int yi u)) Q E s :=
  int_and (y := 48) hx hy fun t' k' => by rw [(bits_first f hf).2.2.1]; exact h t' k'
theorem and_32 (hy : yi = 32) (hx : xi = f) (hf : f < 256) (h : ∀ t' k', Q (.int (f / 32 % 2 * 32 : Nat) t') { s with toks := k' }) : wpAny (model prog w) A (binaryOp .BitAnd (.int xi t) (.int yi u)) Q E s :=
  int_and (y := 32) hx hy fun t' k' => by rw [(bits_first f hf).2.2.2]; exact h t' k'
end
theorem long_eq (f : Nat) : (((f / 128 * 128 : Nat) : Int) != 0) = decide (128 ≤ f) := by
  rw [Bool.eq_iff_iff, bne_iff_ne, decide_eq_true_iff]
  (first | lia | omega)
theorem spin_eq (f : Nat) : (((f / 32 % 2 * 32 : Nat) : Int) != 0) = (f / 32 % 2 == 1) := by
  rw [Bool.eq_iff_iff, bne_iff_ne, beq_iff_eq]
  (first | lia | omega)
section
variable {w : World} {mean : ExcName → Option Value} {mg mb : PySem.Str → Option Value} {dp un : Nat} {gd : Option (List Code)} {cn : PySem.Str} {cs : Scope} {a : Addr} {ccd : Value} {cl : List (PySem.Str × Addr)} {outer : List Env} {A₀ : Around} {base h₀ : Heap} {L : Addr} {m : PySem.Str → Option Value} {s : Shared} {Q E : Value → Shared → Prop} {R : Result → Shared → Prop}
variable {f : Nat} {fi : Int} {tf : Tok}
theorem rowsJaHdr2 : True := by
  k_with "binaryOp BitAnd int int" => (k_here; k_dflt (first | refine and_128 (by decide) (by (first | exact rfl | assumption)) (by (first | exact u8_lt _ _ | assumption | (first | lia | omega))) ?_ | refine and_64 (by decide) (by (first | exact rfl | assumption)) (by (first | exact u8_lt _ _ | assumption | (first | lia | omega))) ?_ | refine and_48 (by decide) (by (first | exact rfl | assumption)) (by (first | exact u8_lt _ _ | assumption | (first | lia | omega))) ?_ | refine and_32 (by decide) (by (first | exact rfl | assumption)) (by (first | exact u8_lt _ _ | assumption | (first | lia | omega))) ?_); intro _ _)
  exact True.intro

set_option maxHeartbeats 8000000 in
theorem long_ct (B : Below A₀ base outer h₀) (F : Fr h₀ L s.heap m) (X : (K0 w.params).In h₀) (N : News h₀ L s.heap []) (T : Top jP jL mean mg mb h₀) (hk : cs.kind = .function) (hd : dp + 3 < recursionLimit) (hu : un + 16 < cLine) (hfi : fi = f) (hf : f < 256)
    (hret : ∀ (h' : Heap) (tk' : Nat), Fr h₀ L h' m → Keeps [] s.heap h' → R (.ok (.ret (.bool (decide (128 ≤ f))))) { s with heap := h', toks := tk' }) :
    codeAny (model jprog w) (ktrTop dp un gd cn cs L a ccd cl outer) (.call (.ref 271) ⟨[.int fi tf], []⟩) R s := by
  k_dflt (refine' enter_def (binds := [(Str.ofString "first_byte", .int fi tf)]) ?k1 ?k2 ?k3 ?k4 ?k5 ?kA ?kF ?kK ?k6 ?k7 ?k8 ?k9 ?kB ?_ ?c2 ?c3 ?c4 ?c5; (case kA => exact rfl); (case kF => exact rfl); (case kK => assumption); (case k1 => k_asm); (case k2 => k_asm); (case k3 => k_asm); (case k4 => k_asm); (case k5 => k_asm); (case k6 => k_is); (case k7 => k_is); (case k8 => first | exact room0 hd | ktr_room); (case k9 => first | exact BindsTo.of_eq (by kernel_rfl!) | exact BindsTo.of_eq rfl | exact binds_K (by k_in) rfl (by k_is) rfl rfl rfl); (case c5 => decide); (case kB => exact locs rfl); (case c2 => exact rfl); (case c3 => exact rfl); (case c4 => exact rfl); k_whole; intro g' L' h' FG' F' N' B' X' T' hkp hge; (try dsimp only); k_fold)
  k_steps
  all_goals (
    (rename Keeps _ _ _ => kK)
    (rw [long_eq f])
    exact hret _ _ (by assumption) (keeps_less kK N (by assumption) (by repeat' (first | exact List.forall_mem_nil _ | (refine List.forall_mem_cons.mpr ⟨?_, ?_⟩) | exact Or.inl (by k_mem) | exact Or.inr (by k_mem)))))
set_option maxHeartbeats 8000000 in
theorem spin_ct (B : Below A₀ base outer h₀) (F : Fr h₀ L s.heap m) (X : (K0 w.params).In h₀) (N : News h₀ L s.heap []) (T : Top jP jL mean mg mb h₀) (hk : cs.kind = .function) (hd : dp + 3 < recursionLimit) (hu : un + 16 < cLine) (hfi : fi = f) (hf : f < 256)
    (hret : ∀ (h' : Heap) (tk' : Nat), Fr h₀ L h' m → Keeps [] s.heap h' → R (.ok (.ret (.bool (f / 32 % 2 == 1)))) { s with heap := h', toks := tk' }) :
    codeAny (model jprog w) (ktrTop dp un gd cn cs L a ccd cl outer) (.call (.ref 264) ⟨[.int fi tf], []⟩) R s := by
  k_dflt (refine' enter_def (binds := [(Str.ofString "first_byte", .int fi tf)]) ?k1 ?k2 ?k3 ?k4 ?k5 ?kA ?kF ?kK ?k6 ?k7 ?k8 ?k9 ?kB ?_ ?c2 ?c3 ?c4 ?c5; (case kA => exact rfl); (case kF => exact rfl); (case kK => assumption); (case k1 => k_asm); (case k2 => k_asm); (case k3 => k_asm); (case k4 => k_asm); (case k5 => k_asm); (case k6 => k_is); (case k7 => k_is); (case k8 => first | exact room0 hd | ktr_room); (case k9 => first | exact BindsTo.of_eq (by kernel_rfl!) | exact BindsTo.of_eq rfl | exact binds_K (by k_in) rfl (by k_is) rfl rfl rfl); (case c5 => decide); (case kB => exact locs rfl); (case c2 => exact rfl); (case c3 => exact rfl); (case c4 => exact rfl); k_whole; intro g' L' h' FG' F' N' B' X' T' hkp hge; (try dsimp only); k_fold)
  k_steps
  all_goals (
    (rename Keeps _ _ _ => kK)
    (rw [spin_eq f])
    exact hret _ _ (by assumption) (keeps_less kK N (by assumption) (by repeat' (first | exact List.forall_mem_nil _ | (refine List.forall_mem_cons.mpr ⟨?_, ?_⟩) | exact Or.inl (by k_mem) | exact Or.inr (by k_mem)))))
noncomputable abbrev hdrD (P : Params) (a1 a2 a3 a4 a5 a6 a7 a8 : Tok) (v1 v2 v3 v4 v5 v6 v7 v8 : Value) : Obj :=
  dictOf [⟨PyData.keyHash P (Str.ofString "version"), .str (Str.ofString "version") a1, v1⟩, ⟨PyData.keyHash P (Str.ofString "packet_type"), .str (Str.ofString "packet_type") a2, v2⟩,
    ⟨PyData.keyHash P (Str.ofString "packet_length"), .str (Str.ofString "packet_length") a3, v3⟩, ⟨PyData.keyHash P (Str.ofString "destination_cid"), .str (Str.ofString "destination_cid") a4, v4⟩,
    ⟨PyData.keyHash P (Str.ofString "source_cid"), .str (Str.ofString "source_cid") a5, v5⟩, ⟨PyData.keyHash P (Str.ofString "token"), .str (Str.ofString "token") a6, v6⟩,
    ⟨PyData.keyHash P (Str.ofString "integrity_tag"), .str (Str.ofString "integrity_tag") a7, v7⟩, ⟨PyData.keyHash P (Str.ofString "supported_versions"), .str (Str.ofString "supported_versions") a8, v8⟩] 8
variable {v1 v2 v3 v4 v5 v6 v7 v8 : Value} {x dx : Addr} {news : List (Addr × Obj)}
set_option maxHeartbeats 8000000 in
theorem hinit_ct (B : Below A₀ base outer h₀) (F : Fr h₀ L s.heap m) (X : (K0 w.params).In h₀) (N : News h₀ L s.heap [(x, instObj 246 dx), (dx, dictOf [] 0)]) (T : Top jP jL mean mg mb h₀) (hk : cs.kind = .function) (hd : dp + 3 < recursionLimit) (hu : un + 16 < cLine) (hne : @Ne Nat dx x)
    (hret : ∀ (a1 a2 a3 a4 a5 a6 a7 a8 : Tok) (h' : Heap) (tk' : Nat), Fr h₀ L h' m → Keeps [dx] s.heap h' → h'.get? dx = some (hdrD w.params a1 a2 a3 a4 a5 a6 a7 a8 v1 v2 v3 v4 v5 v6 v7 v8) → R (.ok (.ret .none)) { s with heap := h', toks := tk' }) :
    codeAny (model jprog w) (ktrTop dp un gd cn cs L a ccd cl outer) (.call (.ref 243) ⟨[.ref x], [(Str.ofString "version", v1), (Str.ofString "packet_type", v2), (Str.ofString "packet_length", v3), (Str.ofString "destination_cid", v4), (Str.ofString "source_cid", v5), (Str.ofString "token", v6), (Str.ofString "integrity_tag", v7), (Str.ofString "supported_versions", v8)]⟩) R s := by
  k_dflt (refine' enter_def (binds := [(Str.ofString "self", .ref x), (Str.ofString "version", v1), (Str.ofString "packet_type", v2), (Str.ofString "packet_length", v3), (Str.ofString "destination_cid", v4), (Str.ofString "source_cid", v5), (Str.ofString "token", v6), (Str.ofString "integrity_tag", v7), (Str.ofString "supported_versions", v8)]) ?k1 ?k2 ?k3 ?k4 ?k5 ?kA ?kF ?kK ?k6 ?k7 ?k8 ?k9 ?kB ?_ ?c2 ?c3 ?c4 ?c5; (case kA => exact rfl); (case kF => exact rfl); (case kK => assumption); (case k1 => k_asm); (case k2 => k_asm); (case k3 => k_asm); (case k4 => k_asm); (case k5 => k_asm); (case k6 => k_is); (case k7 => k_is); (case k8 => first | exact room0 hd | ktr_room); (case k9 => first | exact BindsTo.of_eq rfl | exact binds_K (by k_in) rfl (by k_is) rfl rfl rfl); (case c5 => decide); (case kB => exact locs rfl); (case c2 => exact rfl); (case c3 => exact rfl); (case c4 => exact rfl); k_whole; intro g' L' h' FG' F' N' B' X' T' hkp hge; (try dsimp only); k_fold)
  k_steps
  all_goals (
    (rename Keeps _ _ _ => kK)
    (rename News _ _ _ _ => kN)
    exact hret _ _ _ _ _ _ _ _ _ _ (by assumption) (keeps_less kK N (by assumption) (by repeat' (first | exact List.forall_mem_nil _ | (refine List.forall_mem_cons.mpr ⟨?_, ?_⟩) | exact Or.inl (by k_mem) | exact Or.inr (by k_mem)))) (kN.get (by k_mem)))
theorem hdr_full (B : Below A₀ base outer h₀) (F : Fr h₀ L s.heap m) (X : (K0 w.params).In h₀) (N : News h₀ L s.heap news) (T : Top jP jL mean mg mb h₀) (hk : cs.kind = .function) (hd : dp + 4 < recursionLimit) (hu : un + 20 < cLine)
    (hret : ∀ (x dx : Addr) (a1 a2 a3 a4 a5 a6 a7 a8 : Tok) (h' : Heap) (tk' : Nat), Fr h₀ L h' m → News h₀ L h' ((x, instObj 246 dx) :: (dx, hdrD w.params a1 a2 a3 a4 a5 a6 a7 a8 v1 v2 v3 v4 v5 v6 v7 v8) :: news) → dx < x → (∀ p ∈ news, p.1 < dx) → R (.ok (.ret (.ref x))) { s with heap := h', toks := tk' }) :
    codeAny (model jprog w) (ktrTop dp un gd cn cs L a ccd cl outer) (.call (.ref 246) ⟨[], [(Str.ofString "version", v1), (Str.ofString "packet_type", v2), (Str.ofString "packet_length", v3), (Str.ofString "destination_cid", v4), (Str.ofString "source_cid", v5), (Str.ofString "token", v6), (Str.ofString "integrity_tag", v7), (Str.ofString "supported_versions", v8)]⟩) R s := by
  refine make_K F N (X.keeps F.keep) (C := 246) (fI := 243) (by k_is) (by k_is) (by k_is) fun x dx h' F' N' l1 l2 => ?_
  have hn : @Ne Nat dx x := Nat.ne_of_lt l2
  show codeAny _ (ktrTop (dp + 1) (un + 1) gd cn cs L a ccd cl outer) _ _ _
  have N2 : News h₀ L h' [(x, instObj 246 dx), (dx, dictOf [] 0)] := sub2 N' (.head _) (.tail _ (.head _))
  refine hinit_ct (s := { s with heap := h' }) B F' X N2 T hk (by (first | lia | omega)) (by (first | lia | omega)) hn fun a1 a2 a3 a4 a5 a6 a7 a8 h2 tk2 F2 kp e1 => ?_
  refine ⟨rfl, ?_⟩
  refine hret x dx a1 a2 a3 a4 a5 a6 a7 a8 h2 tk2 F2 ?_ l2 l1
  exact news_upd1 (o := emptyDict) N' (.tail (Ne.symm hn) (.head fun p hp => Nat.ne_of_lt (l1 p hp))) kp e1
end
end JaLaw
end
section
set_option Elab.async false
namespace JaLaw
/-! the plain reader, stage by stage -/
noncomputable def finP (l : List UInt8) (p q n : Int) (v c : Nat) (d s tok tag : List UInt8) : Option (Row × Int) :=
  if (l.length : Int) < q + n then none else some (⟨some v, c, q + n - p, d, s, tok, tag, []⟩, q)
noncomputable def finQ (l : List UInt8) (p q : Int) (v c : Nat) (d s tok : List UInt8) : Option (Row × Int) :=
  if (l.length : Int) ≤ q ∨ (l.length : Int) < q + (vS l q : Nat) then none else finP l p (q + (vS l q : Nat)) (vV l q : Nat) v c d s tok []
noncomputable def stG (l : List UInt8) (p q : Int) (f v : Nat) (d : List UInt8) (n : Nat) : Option (Row × Int) :=
  if 20 < n then none else if (l.length : Int) < q + (n : Nat) then none else rdVer l p (q + (n : Nat)) v f d (cutI l q (n : Nat))
noncomputable def stE (l : List UInt8) (p q : Int) (f v : Nat) (d : List UInt8) : Option (Row × Int) :=
  if (l.length : Int) < q + 1 then none else stG l p (q + 1) f v d (u8 l q)
noncomputable def stC (l : List UInt8) (p q : Int) (f v n : Nat) : Option (Row × Int) :=
  if 20 < n then none else if (l.length : Int) < q + (n : Nat) then none else stE l p (q + (n : Nat)) f v (cutI l q (n : Nat))
noncomputable def stB (l : List UInt8) (p q : Int) (f v : Nat) : Option (Row × Int) :=
  if (l.length : Int) < q + 1 then none else stC l p (q + 1) f v (u8 l q)
noncomputable def stA (l : List UInt8) (p q : Int) (f : Nat) : Option (Row × Int) :=
  if (l.length : Int) < q + 4 then none else stB l p (q + 4) f (u32 l q)
noncomputable def stS (l : List UInt8) (p q : Int) (f : Nat) (k : Int) : Option (Row × Int) :=
  if f / 64 % 2 = 0 then none else if k < 0 ∨ (l.length : Int) < q + k then none else some (⟨none, 5, (l.length : Int) - p, cutI l q k, [], [], [], []⟩, q + k)
theorem rdLong_stA (l : List UInt8) (p : Int) (f : Nat) : rdLong l p f = stA l p (p + 1) f := rfl
section
variable {x : Option (Row × Int)} {l d s tok tag : List UInt8} {p r q q1 q2 q3 tl : Int} {v c n f k : Nat}
theorem readP_a (h : (l.length : Int) < p + 1) : readP l p tl = none := by unfold readP; rw [if_pos h]
theorem readP_long (h : ¬ (l.length : Int) < p + 1) (e : f = u8 l p) (e1 : q = p + 1) (g : 128 ≤ f) : readP l p tl = stA l p q f := by
  subst e e1; unfold readP; rw [if_neg h, if_pos g, rdLong_stA]
theorem readP_short (h : ¬ (l.length : Int) < p + 1) (e : f = u8 l p) (e1 : q = p + 1) (g : ¬ 128 ≤ f) : readP l p tl = stS l p q f tl := by
  subst e e1; unfold readP; rw [if_neg h, if_neg g]; rfl
theorem stS_bit (e : x = stS l p q f tl) (h : f / 64 % 2 = 0) : x = none := by rw [e]; unfold stS; rw [if_pos h]
theorem stS_no (e : x = stS l p q f tl) (h : ¬ f / 64 % 2 = 0) (g : tl < 0 ∨ (l.length : Int) < q + tl) : x = none := by rw [e]; unfold stS; rw [if_neg h, if_pos g]
theorem stS_go (e : x = stS l p q f tl) (h : ¬ f / 64 % 2 = 0) (g : ¬ (tl < 0 ∨ (l.length : Int) < q + tl)) (ed : d = cutI l q tl) (e1 : q1 = q + tl) : x = some (⟨none, 5, (l.length : Int) - p, d, [], [], [], []⟩, q1) := by
  subst ed e1; rw [e]; unfold stS; rw [if_neg h, if_neg g]
theorem stA_no (e : x = stA l p q f) (h : (l.length : Int) < q + 4) : x = none := by rw [e]; unfold stA; rw [if_pos h]
theorem stA_go (e : x = stA l p q f) (h : ¬ (l.length : Int) < q + 4) (ev : v = u32 l q) (e1 : q1 = q + 4) : x = stB l p q1 f v := by subst ev e1; rw [e]; unfold stA; rw [if_neg h]
theorem stB_no (e : x = stB l p q f v) (h : (l.length : Int) < q + 1) : x = none := by rw [e]; unfold stB; rw [if_pos h]
theorem stB_go (e : x = stB l p q f v) (h : ¬ (l.length : Int) < q + 1) (ev : n = u8 l q) (e1 : q1 = q + 1) : x = stC l p q1 f v n := by subst ev e1; rw [e]; unfold stB; rw [if_neg h]
theorem stC_big (e : x = stC l p q f v n) (h : (20 : Int) < n) : x = none := by rw [e]; unfold stC; rw [if_pos (by (first | lia | omega))]
theorem stC_no (e : x = stC l p q f v n) (h : (n : Int) < 0 ∨ (l.length : Int) < q + n) : x = none := by
  rw [e]; unfold stC; split
  · rfl
  · rw [if_pos (by (first | lia | omega))]
theorem stC_go (e : x = stC l p q f v n) (h0 : ¬ (20 : Int) < n) (h : ¬ ((n : Int) < 0 ∨ (l.length : Int) < q + n)) (ed : d = cutI l q n) (e1 : q1 = q + n) : x = stE l p q1 f v d := by
  subst ed e1; rw [e]; unfold stC; rw [if_neg (by (first | lia | omega)), if_neg (by (first | lia | omega))]
theorem stE_no (e : x = stE l p q f v d) (h : (l.length : Int) < q + 1) : x = none := by rw [e]; unfold stE; rw [if_pos h]
theorem stE_go (e : x = stE l p q f v d) (h : ¬ (l.length : Int) < q + 1) (ev : n = u8 l q) (e1 : q1 = q + 1) : x = stG l p q1 f v d n := by subst ev e1; rw [e]; unfold stE; rw [if_neg h]
theorem stG_big (e : x = stG l p q f v d n) (h : (20 : Int) < n) : x = none := by rw [e]; unfold stG; rw [if_pos (by (first | lia | omega))]
theorem stG_no (e : x = stG l p q f v d n) (h : (n : Int) < 0 ∨ (l.length : Int) < q + n) : x = none := by
  rw [e]; unfold stG; split
  · rfl
  · rw [if_pos (by (first | lia | omega))]
theorem stG_go (e : x = stG l p q f v d n) (h0 : ¬ (20 : Int) < n) (h : ¬ ((n : Int) < 0 ∨ (l.length : Int) < q + n)) (ed : s = cutI l q n) (e1 : q1 = q + n) : x = rdVer l p q1 v f d s := by
  subst ed e1; rw [e]; unfold stG; rw [if_neg (by (first | lia | omega)), if_neg (by (first | lia | omega))]
theorem rdVer_zero (e : x = rdVer l p r v f d s) (hv : (v : Int) = 0) (hq : q = r + 4 * k) (hl : q = l.length) : x = some (⟨some v, 4, q - p, d, s, [], [], rows l r k⟩, q) := by
  obtain rfl : v = 0 := by (first | lia | omega)
  subst hl
  rw [e]; unfold rdVer
  rw [if_pos rfl, if_pos (by (first | lia | omega)), show (((l.length : Int) - r) / 4).toNat = k by (first | lia | omega)]
theorem rdVer_none (e : x = rdVer l p r v f d s) (hv : (v : Int) = 0) (h : ¬ ((l.length : Int) - r) % 4 = 0) : x = none := by
  rw [e]; unfold rdVer; rw [if_pos (by (first | lia | omega)), if_neg h]
theorem rdVer_bit (e : x = rdVer l p r v f d s) (h : ¬ (v : Int) = 0) (g : f / 64 % 2 = 0) : x = none := by
  rw [e]; unfold rdVer; rw [if_neg (by (first | lia | omega)), if_pos g]
theorem rdVer_fin (e : x = rdVer l p r v f d s) (h : ¬ (v : Int) = 0) (g : ¬ f / 64 % 2 = 0) (ec : c = code2 v (f / 16 % 4)) : x = rdFin l p r v c d s := by
  subst ec; rw [e]; unfold rdVer; rw [if_neg (by (first | lia | omega)), if_neg g]
theorem fin_no (e : x = finP l p q tl v c d s tok tag) (h : (l.length : Int) < q + tl) : x = none := by rw [e]; unfold finP; rw [if_pos h]
theorem fin_go (e : x = finP l p q tl v c d s tok tag) (h : ¬ (l.length : Int) < q + tl) : x = some (⟨some v, c, q + tl - p, d, s, tok, tag, []⟩, q) := by rw [e]; unfold finP; rw [if_neg h]
theorem fin0a (e : x = rdFin l p r v c d s) (hc : (c : Int) = 0) (h : (l.length : Int) ≤ r ∨ (l.length : Int) < r + (vS l r : Nat)) : x = none := by
  obtain rfl : c = 0 := by (first | lia | omega)
  rw [e]; unfold rdFin; rw [if_pos rfl, if_pos h]
theorem fin0b (e : x = rdFin l p r v c d s) (hc : (c : Int) = 0) (g : ¬ ((l.length : Int) ≤ r ∨ (l.length : Int) < r + (vS l r : Nat))) (e1 : q1 = r + (vS l r : Nat)) (en : n = vV l r) (h : (n : Int) < 0 ∨ (l.length : Int) < q1 + n) : x = none := by
  obtain rfl : c = 0 := by (first | lia | omega)
  subst e1 en; rw [e]; unfold rdFin; rw [if_pos rfl, if_neg g, if_pos (by (first | lia | omega))]
theorem fin0c (e : x = rdFin l p r v c d s) (hc : (c : Int) = 0) (g : ¬ ((l.length : Int) ≤ r ∨ (l.length : Int) < r + (vS l r : Nat))) (e1 : q1 = r + (vS l r : Nat)) (en : n = vV l r) (g2 : ¬ ((n : Int) < 0 ∨ (l.length : Int) < q1 + n))
    (e2 : q2 = q1 + n) (h : (l.length : Int) ≤ q2 ∨ (l.length : Int) < q2 + (vS l q2 : Nat)) : x = none := by
  obtain rfl : c = 0 := by (first | lia | omega)
  subst e1 en e2; rw [e]; unfold rdFin; rw [if_pos rfl, if_neg g, if_neg (by (first | lia | omega)), if_pos h]
theorem fin0d (e : x = rdFin l p r v c d s) (hc : (c : Int) = 0) (g : ¬ ((l.length : Int) ≤ r ∨ (l.length : Int) < r + (vS l r : Nat))) (e1 : q1 = r + (vS l r : Nat)) (en : n = vV l r) (g2 : ¬ ((n : Int) < 0 ∨ (l.length : Int) < q1 + n))
    (e2 : q2 = q1 + n) (g3 : ¬ ((l.length : Int) ≤ q2 ∨ (l.length : Int) < q2 + (vS l q2 : Nat))) (e3 : q3 = q2 + (vS l q2 : Nat)) (ek : k = vV l q2) (et : tok = cutI l q1 n) : x = finP l p q3 k v c d s tok [] := by
  obtain rfl : c = 0 := by (first | lia | omega)
  subst e1 en e2 e3 ek et; rw [e]; unfold rdFin; rw [if_pos rfl, if_neg g, if_neg (by (first | lia | omega)), if_neg g3]; rfl
theorem fin1a (e : x = rdFin l p r v c d s) (hc : (c : Int) = 1 ∨ (c : Int) = 2) (h : (l.length : Int) ≤ r ∨ (l.length : Int) < r + (vS l r : Nat)) : x = none := by
  have h0 : ¬ c = 0 := by (first | lia | omega)
  have h3 : ¬ c = 3 := by (first | lia | omega)
  rw [e]; unfold rdFin; rw [if_neg h0, if_neg h3, if_pos h]
theorem fin1b (e : x = rdFin l p r v c d s) (hc : (c : Int) = 1 ∨ (c : Int) = 2) (g : ¬ ((l.length : Int) ≤ r ∨ (l.length : Int) < r + (vS l r : Nat))) (e1 : q1 = r + (vS l r : Nat)) (en : n = vV l r) : x = finP l p q1 n v c d s [] [] := by
  have h0 : ¬ c = 0 := by (first | lia | omega)
  have h3 : ¬ c = 3 := by (first | lia | omega)
  subst e1 en; rw [e]; unfold rdFin; rw [if_neg h0, if_neg h3, if_neg g]; rfl
theorem fin3a (e : x = rdFin l p r v c d s) (hc : c < 4) (h0 : (c : Int) ≠ 0) (h1 : (c : Int) ≠ 1) (h2 : (c : Int) ≠ 2) (h : (l.length : Int) - r - 16 < 0 ∨ (l.length : Int) < r + ((l.length : Int) - r - 16)) : x = none := by
  obtain rfl : c = 3 := by (first | lia | omega)
  rw [e]; unfold rdFin; rw [if_neg (by decide), if_pos rfl, if_pos (by (first | lia | omega))]
theorem fin3b (e1 : q1 = r + ((l.length : Int) - r - 16)) (h : (16 : Int) < 0 ∨ (l.length : Int) < q1 + 16) : x = none := by (first | lia | omega)
theorem fin3c (e : x = rdFin l p r v c d s) (hc : c < 4) (h0 : (c : Int) ≠ 0) (h1 : (c : Int) ≠ 1) (h2 : (c : Int) ≠ 2) (g : ¬ ((l.length : Int) - r - 16 < 0 ∨ (l.length : Int) < r + ((l.length : Int) - r - 16))) (e1 : q1 = r + ((l.length : Int) - r - 16)) (e2 : q2 = q1 + 16)
    (et : tok = cutI l r ((l.length : Int) - r - 16)) (eg : tag = cutI l q1 16) : x = finP l p q2 0 v c d s tok tag := by
  obtain rfl : c = 3 := by (first | lia | omega)
  subst e1 et eg
  obtain rfl : q2 = l.length := by (first | lia | omega)
  rw [e]; unfold rdFin finP; rw [if_neg (by decide), if_pos rfl, if_neg (by (first | lia | omega)), if_neg (by (first | lia | omega)), Int.add_zero]
theorem finQ_no (e : x = finQ l p q v c d s tok) (h : (l.length : Int) ≤ q ∨ (l.length : Int) < q + (vS l q : Nat)) : x = none := by rw [e]; unfold finQ; rw [if_pos h]
theorem finQ_go (e : x = finQ l p q v c d s tok) (h : ¬ ((l.length : Int) ≤ q ∨ (l.length : Int) < q + (vS l q : Nat))) (e1 : q1 = q + (vS l q : Nat)) (en : n = vV l q) : x = finP l p q1 n v c d s tok [] := by
  subst e1 en; rw [e]; unfold finQ; rw [if_neg h]
theorem finQ_0 (e : x = rdFin l p r v c d s) (hc : (c : Int) = 0) (g : ¬ ((l.length : Int) ≤ r ∨ (l.length : Int) < r + (vS l r : Nat))) (e1 : q1 = r + (vS l r : Nat)) (en : n = vV l r) (g2 : ¬ (l.length : Int) < q1 + n)
    (e2 : q2 = q1 + n) (et : tok = cutI l q1 n) : x = finQ l p q2 v c d s tok := by
  obtain rfl : c = 0 := by (first | lia | omega)
  subst e1 en e2 et; rw [e]; unfold rdFin finQ; rw [if_pos rfl, if_neg g, if_neg g2]; rfl
theorem finQ_1 (e : x = rdFin l p r v c d s) (hc : (c : Int) ≠ 0) (h3 : (c : Int) ≠ 3) : x = finQ l p r v c d s [] := by
  have h0 : ¬ c = 0 := by (first | lia | omega)
  have h3 : ¬ c = 3 := by (first | lia | omega)
  rw [e]; unfold rdFin finQ; rw [if_neg h0, if_neg h3]; rfl
theorem fin3x (e : x = rdFin l p r v c d s) (hc : (c : Int) = 3) (h : (l.length : Int) - r < 16) : x = none := by
  obtain rfl : c = 3 := by (first | lia | omega)
  rw [e]; unfold rdFin; rw [if_neg (by decide), if_pos rfl, if_pos (by (first | lia | omega))]
theorem fin3y (e : x = rdFin l p r v c d s) (hc : (c : Int) = 3) (h0 : 0 ≤ r) (h : ¬ (l.length : Int) - r < 16) (et : tok = (l.drop r.toNat).take (((l.length : Int) - 16).toNat - r.toNat)) (eg : tag = l.drop ((l.length : Int) - 16).toNat) :
    x = some (⟨some v, 3, (l.length : Int) - p, d, s, tok, tag, []⟩, (l.length : Int)) := by
  obtain rfl : c = 3 := by (first | lia | omega)
  subst et eg
  rw [e]; unfold rdFin; rw [if_neg (by decide), if_pos rfl, if_neg (by (first | lia | omega))]
  simp only [Option.some.injEq, Prod.mk.injEq, Row.mk.injEq, true_and, and_true]
  constructor
  · show List.take _ _ = List.take _ _
    congr 1
    (first | lia | omega)
  · show List.take _ _ = List.drop _ l
    rw [show (r + ((l.length : Int) - r - 16)).toNat = ((l.length : Int) - 16).toNat from by (first | lia | omega)]
    exact List.take_of_length_le (by rw [List.length_drop]; (first | lia | omega))
theorem stA_5 (e : x = stA l p q f) (h : (l.length : Int) < q + 5) : x = none := by
  rw [e]; unfold stA stB; split
  · rfl
  · rw [if_pos (by (first | lia | omega))]
theorem stA_go5 (e : x = stA l p q f) (h : ¬ (l.length : Int) < q + 5) (ev : v = u32 l q) (e1 : q1 = q + 4) : x = stB l p q1 f v := stA_go e (by (first | lia | omega)) ev e1
theorem stB_noL (e : x = stB l p q f v) (h : (l.length : Int) ≤ q) : x = none := stB_no e (by (first | lia | omega))
theorem stB_goL (e : x = stB l p q f v) (h : ¬ (l.length : Int) ≤ q) (ev : n = u8 l q) (e1 : q1 = q + 1) : x = stC l p q1 f v n := stB_go e (by (first | lia | omega)) ev e1
theorem stE_noL (e : x = stE l p q f v d) (h : (l.length : Int) ≤ q) : x = none := stE_no e (by (first | lia | omega))
theorem stE_goL (e : x = stE l p q f v d) (h : ¬ (l.length : Int) ≤ q) (ev : n = u8 l q) (e1 : q1 = q + 1) : x = stG l p q1 f v d n := stE_go e (by (first | lia | omega)) ev e1
theorem stC_noL (e : x = stC l p q f v n) (h : (20 : Int) < n ∨ (l.length : Int) < q + n) : x = none := h.elim (stC_big e) fun h => stC_no e (.inr h)
theorem stG_noL (e : x = stG l p q f v d n) (h : (20 : Int) < n ∨ (l.length : Int) < q + n) : x = none := h.elim (stG_big e) fun h => stG_no e (.inr h)
theorem stC_goL (e : x = stC l p q f v n) (h0 : ¬ (20 : Int) < n) (h : ¬ (l.length : Int) < q + n) (ed : d = cutI l q n) (e1 : q1 = q + n) : x = stE l p q1 f v d := stC_go e h0 (by (first | lia | omega)) ed e1
theorem stG_goL (e : x = stG l p q f v d n) (h0 : ¬ (20 : Int) < n) (h : ¬ (l.length : Int) < q + n) (ed : s = cutI l q n) (e1 : q1 = q + n) : x = rdVer l p q1 v f d s := stG_go e h0 (by (first | lia | omega)) ed e1
theorem rdVer_bitL (e : x = rdVer l p r v f d s) (h : (v : Int) ≠ 0) (g : ((f / 64 : Nat) : Int) % 2 = 0) : x = none := rdVer_bit e h (by (first | lia | omega))
theorem rdVer_finL (e : x = rdVer l p r v f d s) (h : (v : Int) ≠ 0) (g : ((f / 64 : Nat) : Int) % 2 ≠ 0) (ec : c = code2 v (f / 16 % 4)) : x = rdFin l p r v c d s := rdVer_fin e h (by (first | lia | omega)) ec
end
end JaLaw
end
section
set_option Elab.async false
set_option maxRecDepth 100000
namespace JaLaw
section
variable {w : World} {mean : ExcName → Option Value} {mg mb : PySem.Str → Option Value} {dp un : Nat} {gd : Option (List Code)} {cn : PySem.Str} {cs : Scope} {a : Addr} {ccd : Value} {cl : List (PySem.Str × Addr)} {outer : List Env} {A₀ : Around} {base h₀ : Heap} {L : Addr} {m : PySem.Str → Option Value} {s : Shared} {Q E : Value → Shared → Prop} {R : Result → Shared → Prop}
variable {x dx ba : Addr} {k1 k2 tp : Tok} {p : Int} {l : List UInt8} {news : List (Addr × Obj)} {news' : Int → Tok → List (Addr × Obj)}
/-! the buffer's calls, what is read as letters of its own -/
theorem pull8_abs (B : Below A₀ base outer h₀) (F : Fr h₀ L s.heap m) (X : (K0 w.params).In h₀) (N : News h₀ L s.heap news) (T : Top jP jL mean mg mb h₀) (hk : cs.kind = .function) (hd : dp + 5 < recursionLimit) (hu : un + 24 < cLine) (hx : (x, instObj 193 dx) ∈ news) (hb : (ba, baO l) ∈ news) (U : ∀ q t', Upd dx (bufD w.params k1 k2 ba p tp) (bufD w.params k1 k2 ba q t') news (news' q t'))
    (hl : l.length ≤ 100000) (h0 : 0 ≤ p) (hp : p ≤ l.length) (hne : @Ne Nat dx x ∧ @Ne Nat dx ba ∧ @Ne Nat x ba)
    (hret : ∀ (v : Nat) (q : Int) (t t' : Tok) (h' : Heap) (tk' : Nat), v = u8 l p → q = p + 1 → ¬ (l.length : Int) < p + 1 → 0 ≤ q → q ≤ l.length → v < 256 → Fr h₀ L h' m → News h₀ L h' (news' q t') → R (.ok (.ret (.int v t))) { s with heap := h', toks := tk' })
    (hraise : ∀ (e : Addr) (g h' : Heap) (tk' : Nat), (l.length : Int) < p + 1 → Fr h₀ L g m → Rz base g (envX cn cs L a ccd cl :: outer) e (.ref 31) h' → R (.error (.ref e)) { s with heap := h', toks := tk' }) :
    codeAny (model jprog w) (ktrTop dp un gd cn cs L a ccd cl outer) (.call (.ref 120) ⟨[.ref x], []⟩) R s :=
  pull8_full B F X N T hk hd hu hx hb (U (p + 1)) hl ⟨h0, hp⟩ hne (fun t t' h' tk' h1 F' N' => hret _ _ t t' h' tk' rfl rfl (by (first | lia | omega)) (by (first | lia | omega)) h1 (u8_lt l p) F' N') hraise
theorem pull32_abs (B : Below A₀ base outer h₀) (F : Fr h₀ L s.heap m) (X : (K0 w.params).In h₀) (N : News h₀ L s.heap news) (T : Top jP jL mean mg mb h₀) (hk : cs.kind = .function) (hd : dp + 5 < recursionLimit) (hu : un + 24 < cLine) (hx : (x, instObj 193 dx) ∈ news) (hb : (ba, baO l) ∈ news) (U : ∀ q t', Upd dx (bufD w.params k1 k2 ba p tp) (bufD w.params k1 k2 ba q t') news (news' q t'))
    (hl : l.length ≤ 100000) (h0 : 0 ≤ p) (hp : p ≤ l.length) (hne : @Ne Nat dx x ∧ @Ne Nat dx ba ∧ @Ne Nat x ba)
    (hret : ∀ (v : Nat) (q : Int) (t t' : Tok) (h' : Heap) (tk' : Nat), v = u32 l p → q = p + 4 → ¬ (l.length : Int) < p + 4 → 0 ≤ q → q ≤ l.length → Fr h₀ L h' m → News h₀ L h' (news' q t') → R (.ok (.ret (.int v t))) { s with heap := h', toks := tk' })
    (hraise : ∀ (e : Addr) (g h' : Heap) (tk' : Nat), (l.length : Int) < p + 4 → Fr h₀ L g m → Rz base g (envX cn cs L a ccd cl :: outer) e (.ref 31) h' → R (.error (.ref e)) { s with heap := h', toks := tk' }) :
    codeAny (model jprog w) (ktrTop dp un gd cn cs L a ccd cl outer) (.call (.ref 134) ⟨[.ref x], []⟩) R s :=
  pull32_full B F X N T hk hd hu hx hb (U (p + 4)) hl ⟨h0, hp⟩ hne (fun t t' h' tk' h1 F' N' => hret _ _ t t' h' tk' rfl rfl (by (first | lia | omega)) (by (first | lia | omega)) h1 F' N') hraise
theorem pullv_abs (B : Below A₀ base outer h₀) (F : Fr h₀ L s.heap m) (X : (K0 w.params).In h₀) (N : News h₀ L s.heap news) (T : Top jP jL mean mg mb h₀) (hk : cs.kind = .function) (hd : dp + 5 < recursionLimit) (hu : un + 24 < cLine) (hx : (x, instObj 193 dx) ∈ news) (hb : (ba, baO l) ∈ news) (U : ∀ q t', Upd dx (bufD w.params k1 k2 ba p tp) (bufD w.params k1 k2 ba q t') news (news' q t'))
    (hl : l.length ≤ 100000) (h0 : 0 ≤ p) (hp : p ≤ l.length) (hne : @Ne Nat dx x ∧ @Ne Nat dx ba ∧ @Ne Nat x ba)
    (hret : ∀ (v : Nat) (q : Int) (t t' : Tok) (h' : Heap) (tk' : Nat), v = vV l p → q = p + (vS l p : Nat) → ¬ ((l.length : Int) ≤ p ∨ (l.length : Int) < p + (vS l p : Nat)) → 0 ≤ q → q ≤ l.length → Fr h₀ L h' m → News h₀ L h' (news' q t') → R (.ok (.ret (.int v t))) { s with heap := h', toks := tk' })
    (hraise : ∀ (e : Addr) (g h' : Heap) (tk' : Nat), (l.length : Int) ≤ p ∨ (l.length : Int) < p + (vS l p : Nat) → Fr h₀ L g m → Rz base g (envX cn cs L a ccd cl :: outer) e (.ref 31) h' → R (.error (.ref e)) { s with heap := h', toks := tk' }) :
    codeAny (model jprog w) (ktrTop dp un gd cn cs L a ccd cl outer) (.call (.ref 148) ⟨[.ref x], []⟩) R s :=
  pullv_full B F X N T hk hd hu hx hb (U (p + (vS l p : Nat))) hl ⟨h0, hp⟩ hne (fun t t' h' tk' h1 h2 F' N' => hret _ _ t t' h' tk' rfl rfl (by (first | lia | omega)) (by (first | lia | omega)) h2 F' N') hraise
theorem pull_abs {n : Int} {tn : Tok} (B : Below A₀ base outer h₀) (F : Fr h₀ L s.heap m) (X : (K0 w.params).In h₀) (N : News h₀ L s.heap news) (T : Top jP jL mean mg mb h₀) (hk : cs.kind = .function) (hd : dp + 3 < recursionLimit) (hu : un + 16 < cLine) (hx : (x, instObj 193 dx) ∈ news) (hb : (ba, baO l) ∈ news) (U : ∀ q t', Upd dx (bufD w.params k1 k2 ba p tp) (bufD w.params k1 k2 ba q t') news (news' q t'))
    (hl : l.length ≤ 100000) (h0 : 0 ≤ p) (hp : p ≤ l.length) (hne : @Ne Nat dx x ∧ @Ne Nat dx ba ∧ @Ne Nat x ba)
    (hret : ∀ (r : List UInt8) (q : Int) (t t' : Tok) (h' : Heap) (tk' : Nat), r = cutI l p n → q = p + n → ¬ (n < 0 ∨ (l.length : Int) < p + n) → 0 ≤ q → q ≤ l.length → Fr h₀ L h' m → News h₀ L h' (news' q t') → R (.ok (.ret (.bytes r.toArray t))) { s with heap := h', toks := tk' })
    (hraise : ∀ (e : Addr) (g h' : Heap) (tk' : Nat), n < 0 ∨ (l.length : Int) < p + n → Fr h₀ L g m → Rz base g (envX cn cs L a ccd cl :: outer) e (.ref 31) h' → R (.error (.ref e)) { s with heap := h', toks := tk' }) :
    codeAny (model jprog w) (ktrTop dp un gd cn cs L a ccd cl outer) (.call (.ref 113) ⟨[.ref x, .int n tn], []⟩) R s :=
  pull_full B F X N T hk hd hu hx hb (U (p + n)) hl ⟨h0, hp⟩ hne (fun t t' h' tk' h1 h2 F' N' => hret _ _ t t' h' tk' rfl rfl (by (first | lia | omega)) (by (first | lia | omega)) h2 F' N') hraise
end
/-! what the frame of pull_quic_header holds -/
structure PB (M : PySem.Str → Option Value) (x lx : Addr) (p : Int) (v : Nat) (d sc : List UInt8) : Prop where
  bu : M (Str.ofString "buf") = some (.ref x)
  st : ∃ t, M (Str.ofString "packet_start") = some (.int p t)
  ve : ∃ t, M (Str.ofString "version") = some (.int v t)
  dc : ∃ t, M (Str.ofString "destination_cid") = some (.bytes d.toArray t)
  sc : ∃ t, M (Str.ofString "source_cid") = some (.bytes sc.toArray t)
  li : M (Str.ofString "supported_versions") = some (.ref lx)
noncomputable def pbNames : List PySem.Str := [Str.ofString "buf", Str.ofString "packet_start", Str.ofString "version", Str.ofString "destination_cid", Str.ofString "source_cid", Str.ofString "supported_versions"]
theorem PB.sto {M : PySem.Str → Option Value} {x lx : Addr} {p : Int} {v : Nat} {d sc : List UInt8} {y : PySem.Str} {z : Value} (H : PB M x lx p v d sc) (hy : pbNames.all (fun n => n != y) = true) : PB (sto M y z) x lx p v d sc := by
  have e : ∀ n ∈ pbNames, JaLaw.sto M y z n = M n := fun n hn => if_neg (by have := List.all_eq_true.mp hy n hn; simpa using this)
  obtain ⟨h1, h2, h3, h4, h5, h6⟩ := H
  constructor
  · rw [e _ (by unfold pbNames; simp)]; exact h1
  · rw [e _ (by unfold pbNames; simp)]; exact h2
  · rw [e _ (by unfold pbNames; simp)]; exact h3
  · rw [e _ (by unfold pbNames; simp)]; exact h4
  · rw [e _ (by unfold pbNames; simp)]; exact h5
  · rw [e _ (by unfold pbNames; simp)]; exact h6
structure Tail (M : PySem.Str → Option Value) (lx : Addr) (p : Int) (row : Row) : Prop where
  st : ∃ t, M (Str.ofString "packet_start") = some (.int p t)
  ve : ∃ t, M (Str.ofString "version") = some (verV row.ver t)
  ki : ∃ t, M (Str.ofString "packet_type") = some (.int row.kind t)
  en : ∃ e t, M (Str.ofString "packet_end") = some (.int e t) ∧ row.size = e - p
  dc : ∃ t, M (Str.ofString "destination_cid") = some (.bytes row.dcid.toArray t)
  sc : ∃ t, M (Str.ofString "source_cid") = some (.bytes row.scid.toArray t)
  tk : ∃ t, M (Str.ofString "token") = some (.bytes row.token.toArray t)
  tg : ∃ t, M (Str.ofString "integrity_tag") = some (.bytes row.tag.toArray t)
  li : M (Str.ofString "supported_versions") = some (.ref lx)
theorem join_sto {M : Model} {A : Around} {E : Value → Shared → Prop} {Q : Flow → Shared → Prop} {s : Shared} {h₀ : Heap} {L : Addr} {m : PySem.Str → Option Value} {news : List (Addr × Obj)} {st : Stmt} {env : Env} (x : PySem.Str) (P : Value → Prop)
    (h1 : wpAny M A (exec st env) (fun f s' => Halt (f = .next ∧ ∃ v h' tk', P v ∧ s' = { s with heap := h', toks := tk' } ∧ Fr h₀ L h' (sto m x v) ∧ News h₀ L h' news)) E s)
    (h2 : ∀ v h' tk', P v → Fr h₀ L h' (sto m x v) → News h₀ L h' news → Q .next { s with heap := h', toks := tk' }) : wpAny M A (exec st env) Q E s :=
  wpAny_mono h1 (fun f s' ⟨⟨e, v, h', tk', p, e2, F', N'⟩⟩ => by subst e e2; exact h2 v h' tk' p F' N') fun _ _ x => x
section
variable {prog : Program} {w : World} {A₀ : Around} {E : Value → Shared → Prop} {Q : Flow → Shared → Prop} {s : Shared} {base h₀ : Heap} {outer : List Env} {L a lx : Addr} {name : PySem.Str} {scope : Scope} {cd : Value}
noncomputable abbrev stepJ (m : PySem.Str → Option Value) (lx : Addr) (J : Nat → Obj → List (Addr × Obj) → Prop) : Nat → (PySem.Str → Option Value) → List (Addr × Obj) → Prop := fun n m₁ news₁ => m₁ = m ∧ ∃ o r, news₁ = (lx, o) :: r ∧ J n o r
/-- a loop that binds nothing and turns the ledger -/
theorem While_rzl {test : Expr} {body : List Stmt} {pos : Pos} {m : PySem.Str → Option Value} {o : Obj} {rest : List (Addr × Obj)} (P : Value → Prop) (J : Nat → Obj → List (Addr × Obj) → Prop) {n₀ : Nat}
    (B : Below A₀ base outer h₀) (F : Fr h₀ L s.heap m) (N : News h₀ L s.heap ((lx, o) :: rest)) (hJ : J n₀ o rest)
    (turn : ∀ n o₁ rest₁ h₁ tk₁, Fr h₀ L h₁ m → News h₀ L h₁ ((lx, o₁) :: rest₁) → J n o₁ rest₁ →
      wpAny (model prog w) (A₀.deeper (envOf name scope L a cd)) (isTrue test (envOf name scope L a cd) (eval test (envOf name scope L a cd))) (fun b s₂ =>
        if b = true then wpAny (model prog w) (A₀.deeper (envOf name scope L a cd)) (execs body (envOf name scope L a cd)) (WhileStep h₀ L s (stepJ m lx J) n) (RzE base h₀ outer name scope L a cd P s) s₂ else Q .next s₂) (RzE base h₀ outer name scope L a cd P s) { s with heap := h₁, toks := tk₁ })
    (hE : ∀ ea cls g₂ h' tk' m', Fr h₀ L g₂ m' → RzH base g₂ (envOf name scope L a cd :: outer) ea cls L h' → P cls → E (.ref ea) { s with heap := h', toks := tk' }) :
    wpAny (model prog w) (A₀.deeper (envOf name scope L a cd)) (exec (.While test body [] pos) (envOf name scope L a cd)) Q E s := by
  refine While_rz P (stepJ m lx J) B F N ⟨rfl, _, _, rfl, hJ⟩ ?_ hE
  rintro n m₁ news₁ h₁ tk₁ F₁ N₁ ⟨rfl, o₁, r₁, rfl, j⟩
  exact turn n o₁ r₁ h₁ tk₁ F₁ N₁ j
end
theorem foldQ {α : Type} {M : Model} {A : Around} {c : Sem α} {Q : α → Shared → Prop} {E : Value → Shared → Prop} {s : Shared} (h : ∀ Q', (∀ x s, Q x s → Q' x s) → wpAny M A c Q' E s) : wpAny M A c Q E s := h Q fun _ _ x => x
noncomputable def stAt : List Stmt → Nat → Stmt
  | [], _ => .Pass ⟨0, 0, 0, 0⟩
  | s :: _, 0 => s
  | _ :: r, n + 1 => stAt r n
noncomputable def ifT : Stmt → List Stmt
  | .If _ t _ _ => t
  | _ => []
noncomputable def ifE : Stmt → List Stmt
  | .If _ _ e _ => e
  | _ => []
noncomputable abbrev pqI : Stmt := wit (x := stAt s25b 6) _ (by (conv => rhs; whnf))
noncomputable abbrev pqT : List Stmt := wit (x := ifT (stAt s25b 6)) _ (by (conv => rhs; whnf))
noncomputable abbrev pqF : List Stmt := wit (x := ifE (stAt s25b 6)) _ (by (conv => rhs; whnf))
noncomputable abbrev pqV : Stmt := wit (x := stAt pqT 7) _ (by (conv => rhs; whnf))
noncomputable abbrev pqN : List Stmt := wit (x := ifT pqV) _ (by (conv => rhs; whnf))
noncomputable abbrev pqE : List Stmt := wit (x := ifE pqV) _ (by (conv => rhs; whnf))
noncomputable abbrev pqC : Stmt := wit (x := stAt pqE 1) _ (by (conv => rhs; whnf))
noncomputable abbrev pqK : Stmt := wit (x := stAt pqE 2) _ (by (conv => rhs; whnf))
noncomputable abbrev pqZ : List Stmt := wit (x := List.drop 3 pqE) _ (by (conv => rhs; whnf))
end JaLaw
end
section
set_option Elab.async false
set_option maxRecDepth 100000
namespace JaLaw
theorem rowsJaPullA0 : True := by
  k_with_none
  k_with "lka" => ((try dsimp only [List.reverse, List.reverseAux]); (repeat (first | with_reducible exact lk_hit | with_reducible exact lk_sto_hit | with_reducible exact lk_ite_hit | (with_reducible refine lk_sto_miss (by kernel_rfl!) ?_) | (with_reducible refine lk_ite_miss2 (by kernel_rfl!) ?_) | (with_reducible refine lk_miss (by kernel_rfl!) ?_) | with_reducible refine lk_rev ?_ | with_reducible assumption)))
  k_with "usef" => (case k1 => k_asm); (case k2 => k_asm); (case k3 => k_asm); (case k4 => k_asm); (case k5 => k_asm); (case k6 => first | exact rfl | assumption); (case k7 => first | exact room1 hd rfl | exact room2 hd rfl | ktr_room); (case k8 => first | exact room1 hu rfl | exact room2 hu rfl | ktr_units)
  k_with "sz" => (first | with_reducible assumption | ((try simp only [List.length_append, List.length_take, List.length_drop, List.length_cons, List.length_nil, toBE_length, List.length_replicate]); (first | lia | omega)))
  exact True.intro
theorem rowsJaPullA1 : True := by
  k_with "callWith ref" => (k_here; (with_reducible show wpAny _ _ (callWith _ (Value.ref _) _ (backTo _ (starEach [] _)) (backToKw _ (keywordEach (_ :: _) _))) _ _ _); k_dflt (refine' callWith_KW0 ?k1 ?k2 ?k3 ?_; (case k1 => with_reducible assumption); (case k2 => k_is); (case k3 => exact rfl); k_whole))
  k_with "callWith ref" => (k_here; (with_reducible show wpAny _ _ (callWith _ (Value.ref _) _ (backTo _ (starEach (_ :: _) _)) []) _ _ _); k_dflt (refine' callWith_K ?k1 ?k2 ?_; (case k1 => with_reducible assumption); (case k2 => k_is); k_whole))
  k_with "callWith ref" => (k_here; (with_reducible show wpAny _ _ (callWith _ (Value.ref _) _ (backTo _ (starEach [] _)) []) _ _ _); k_dflt (refine' callWith_K0 ?k1 ?k2 ?_; (case k1 => exact (by first | with_reducible assumption | exact Frag.In.keeps (by with_reducible assumption) (Fr.keep (by with_reducible assumption)))); (case k2 => k_is); k_whole))
  k_with "And" => ((with_reducible show Frag.In _ _ ∧ _); refine ⟨(by first | with_reducible assumption | exact Frag.In.keeps (by with_reducible assumption) (Fr.keep (by with_reducible assumption))), ?_⟩; try dsimp only [List.nil_append, List.cons_append])
  k_with "exec Raise some none" => (k_here; (with_reducible show wpAny _ _ (exec (Stmt.Raise (some (Expr.Call (Expr.Name (Str.ofString "ValueError") _) _ [] _)) none _) _) _ _ _); with_unfolding_all refine Raise_madeB PySem.F.excCall_ValueError PySem.F.excRaise_ValueError rfl (tp_builtin (v := .type "ValueError") (by with_reducible assumption) (by with_reducible assumption) PyProof.Rows.Boot.«ValueError» ⟨rfl, ?_⟩))
  k_with "eval Name" => (k_here; (with_reducible show wpAny _ _ (eval (Expr.Name _ _) (envOf _ _ _ _ _)) _ _ _); k_dflt (first | (refine' ld ?k1 ?k2 ?_ ?k3 ?k4 ?k5; (case k4 => kernel_rfl!); (case k1 => with_reducible assumption); (case k2 => ((try dsimp only [List.reverse, List.reverseAux]); (repeat (first | with_reducible exact lk_hit | with_reducible exact lk_sto_hit | with_reducible exact lk_ite_hit | (with_reducible refine lk_sto_miss (by kernel_rfl!) ?_) | (with_reducible refine lk_ite_miss2 (by kernel_rfl!) ?_) | (with_reducible refine lk_miss (by kernel_rfl!) ?_) | with_reducible refine lk_rev ?_)))); (case k3 => kernel_rfl!); (case k5 => decide +kernel); k_whole) | (refine' name_K ?k0 ?k1 ?k2 ?k3 ?_ ?k4 ?k5 ?k6; (case k5 => kernel_rfl!); (case k0 => with_reducible assumption); (case k1 => with_reducible assumption); (case k2 => exact topRead_of (by with_reducible assumption)); (case k3 => k_is); (case k4 => kernel_rfl!); (case k6 => decide +kernel); k_whole) | (refine' name_B ?k0 ?k1 ?k2 ?k3 ?k4 ?k5 ?_ ?k6 ?k7 ?k8; (case k7 => kernel_rfl!); (case k0 => with_reducible assumption); (case k1 => with_reducible assumption); (case k2 => exact topRead_of (by with_reducible assumption)); (case k3 => k_is); (case k4 => boot_fast); (case k5 => decide); (case k6 => kernel_rfl!); (case k8 => decide +kernel); k_whole)))
  k_with "storeName" => (k_here; (try dsimp only); (with_reducible show wpAny _ _ (storeName (envOf _ _ _ _ _) _ _) _ _ _); k_dflt (refine' store_u ?k1 ?k2 ?_ ?k3 ?k4; (case k4 => kernel_rfl!); (case k3 => kernel_rfl!); (case k1 => with_reducible assumption); (case k2 => with_reducible assumption); k_whole); intro h' F' N'; (try k_sweep))
  k_with "exec Assign" => (k_here; k_fold)
  k_with "exec If" => (k_here; k_fold)
  k_with "exec Expr" => (k_here; k_fold)
  k_with "exec While" => (k_here; k_fold)
  k_with "eval Name" => (k_here; (with_reducible show wpAny _ _ (eval (Expr.Name _ _) (envOf _ _ _ _ _)) _ _ _); k_dflt (first | (refine' ld ?k1 ?k2 ?_ ?k3 ?k4 ?k5; (case k4 => kernel_rfl!); (case k1 => with_reducible assumption); (case k2 => (k_extra "lka")); (case k3 => kernel_rfl!); (case k5 => decide +kernel); k_whole) | (refine' name_K ?k0 ?k1 ?k2 ?k3 ?_ ?k4 ?k5 ?k6; (case k5 => kernel_rfl!); (case k0 => with_reducible assumption); (case k1 => with_reducible assumption); (case k2 => exact topRead_of (by with_reducible assumption)); (case k3 => k_is); (case k4 => kernel_rfl!); (case k6 => decide +kernel); k_whole) | (refine' name_B ?k0 ?k1 ?k2 ?k3 ?k4 ?k5 ?_ ?k6 ?k7 ?k8; (case k7 => kernel_rfl!); (case k0 => with_reducible assumption); (case k1 => with_reducible assumption); (case k2 => exact topRead_of (by with_reducible assumption)); (case k3 => k_is); (case k4 => boot_fast); (case k5 => decide); (case k6 => kernel_rfl!); (case k8 => decide +kernel); k_whole)))
  k_with "leaving ref" => (k_here; first | (refine' rz_made ?k1 (made_of ?k0) ?k2 ?k3 ?_; (case k0 => assumption); (case k1 => assumption); (case k2 => assumption); (case k3 => k_asm); k_whole; intro h' R'; (try dsimp only at R' ⊢)) | (refine' rz_made ?k1 ?k0 ?k2 ?k3 ?_; (case k0 => assumption); (case k1 => assumption); (case k2 => assumption); (case k3 => k_asm); k_whole; intro h' R'; (try dsimp only at R' ⊢)) | (refine' rz_on ?k1 ?k2 ?k3 ?_; (case k3 => assumption); (case k1 => assumption); (case k2 => assumption); k_whole; intro h' R'; (try dsimp only at R' ⊢)) | (refine' rz_onH ?k1 ?k2 ?k3 ?_; (case k3 => assumption); (case k1 => assumption); (case k2 => assumption); k_whole; intro h' R'; (try dsimp only at R' ⊢)))
  k_with "call ref" => (k_here; (with_reducible show wpAny _ _ (call (Value.ref 120) _ _) _ _ _); k_dflt ((refine wpAny_call ?_); (refine' pull8_abs ?k1 ?k2 ?k3 ?k4 ?k5 ?k6 ?k7 ?k8 ?kx ?kb ?ku ?kl ?k0 ?kp ?kn ?_ ?_; (k_extra "usef"); (case kx => k_mem); (case kb => k_mem); (case ku => intro _ _; k_upd); (case kl => assumption); (case k0 => assumption); (case kp => assumption); (case kn => assumption)); k_whole); (all_goals (first | (intro v' q' t' t2' h' tk' ev' eq' g' c0' c1' vl' F' N'; (try dsimp only); (try k_sweep)) | (intro e' g2' h' tk' c' F2' R'; (try dsimp only)))))
  k_with "call ref" => (k_here; (with_reducible show wpAny _ _ (call (Value.ref 134) _ _) _ _ _); k_dflt ((refine wpAny_call ?_); (refine' pull32_abs ?k1 ?k2 ?k3 ?k4 ?k5 ?k6 ?k7 ?k8 ?kx ?kb ?ku ?kl ?k0 ?kp ?kn ?_ ?_; (k_extra "usef"); (case kx => k_mem); (case kb => k_mem); (case ku => intro _ _; k_upd); (case kl => assumption); (case k0 => assumption); (case kp => assumption); (case kn => assumption)); k_whole); (all_goals (first | (intro v' q' t' t2' h' tk' ev' eq' g' c0' c1' F' N'; (try dsimp only); (try k_sweep)) | (intro e' g2' h' tk' c' F2' R'; (try dsimp only)))))
  k_with "call ref" => (k_here; (with_reducible show wpAny _ _ (call (Value.ref 148) _ _) _ _ _); k_dflt ((refine wpAny_call ?_); (refine' pullv_abs ?k1 ?k2 ?k3 ?k4 ?k5 ?k6 ?k7 ?k8 ?kx ?kb ?ku ?kl ?k0 ?kp ?kn ?_ ?_; (k_extra "usef"); (case kx => k_mem); (case kb => k_mem); (case ku => intro _ _; k_upd); (case kl => assumption); (case k0 => assumption); (case kp => assumption); (case kn => assumption)); k_whole); (all_goals (first | (intro v' q' t' t2' h' tk' ev' eq' g' c0' c1' F' N'; (try dsimp only); (try k_sweep)) | (intro e' g2' h' tk' c' F2' R'; (try dsimp only)))))
  k_with "call ref" => (k_here; (with_reducible show wpAny _ _ (call (Value.ref 113) _ _) _ _ _); k_dflt ((refine wpAny_call ?_); (refine' pull_abs ?k1 ?k2 ?k3 ?k4 ?k5 ?k6 ?k7 ?k8 ?kx ?kb ?ku ?kl ?k0 ?kp ?kn ?_ ?_; (k_extra "usef"); (case kx => k_mem); (case kb => k_mem); (case ku => intro _ _; k_upd); (case kl => assumption); (case k0 => assumption); (case kp => assumption); (case kn => assumption)); k_whole); (all_goals (first | (intro v' q' t' t2' h' tk' ev' eq' g' c0' c1' F' N'; (try dsimp only); (try k_sweep)) | (intro e' g2' h' tk' c' F2' R'; (try dsimp only)))))
  k_with "call ref" => (k_here; (with_reducible show wpAny _ _ (call (Value.ref 106) _ _) _ _ _); k_dflt ((refine wpAny_call ?_); (refine' tell_full ?k1 ?k2 ?k3 ?k4 ?k5 ?k6 ?k7 ?k8 ?kd ?kx ?_; (k_extra "usef"); (case kd => k_mem); (case kx => k_mem)); k_whole); (all_goals (first | (intro h' tk' F' N'; (try dsimp only); (try k_sweep)) )))
  k_with "call ref" => (k_here; (with_reducible show wpAny _ _ (call (Value.ref 92) _ _) _ _ _); k_dflt ((refine wpAny_call ?_); (refine' eof_full ?k1 ?k2 ?k3 ?k4 ?k5 ?k6 ?k7 ?k8 ?kd ?kx ?kb ?kl ?_; (k_extra "usef"); (case kd => k_mem); (case kx => k_mem); (case kb => k_mem); (case kl => assumption)); k_whole); (all_goals (first | (intro h' tk' F' N'; (try dsimp only); (try k_sweep)) )))
  k_with "getAttr ref" => (k_here; k_dflt ((refine' get_prop ?p1 ?p2 ?p3 ?p4 ?p5 ?p6 ?p7 ?p8 ?p9 ?_; (case p1 => k_asm); (case p2 => k_asm); (case p3 => k_inst); (case p4 => k_is); (case p5 => k_is); (case p6 => k_is); (case p7 => k_is); (case p8 => k_is); (case p9 => k_is); k_whole); (show codeAny _ _ (.call (.ref 69) _) _ _); (refine' cap_full ?k1 ?k2 ?k3 ?k4 ?k5 ?k6 ?k7 ?k8 ?kd ?kx ?kb ?kl ?_; (k_extra "usef"); (case kd => k_mem); (case kx => k_mem); (case kb => k_mem); (case kl => (k_extra "sz"))); k_whole); (intro t' h' tk' F' N'; (try dsimp only); (try k_sweep)); (refine handed_on rfl ?_))
  k_with "getAttr ref" => (k_here; k_dflt ((refine' get_prop ?p1 ?p2 ?p3 ?p4 ?p5 ?p6 ?p7 ?p8 ?p9 ?_; (case p1 => k_asm); (case p2 => k_asm); (case p3 => k_inst); (case p4 => k_is); (case p5 => k_is); (case p6 => k_is); (case p7 => k_is); (case p8 => k_is); (case p9 => k_is); k_whole); (show codeAny _ _ (.call (.ref 77) _) _ _); (refine' data_full ?k1 ?k2 ?k3 ?k4 ?k5 ?k6 ?k7 ?k8 ?kd ?kx ?kb ?kl ?kp ?_; (k_extra "usef"); (case kd => k_mem); (case kx => k_mem); (case kb => k_mem); (case kl => (k_extra "sz")); (case kp => (first | lia | omega))); k_whole); (intro t' h' tk' F' N'; (try dsimp only); (try k_sweep)); (refine handed_on rfl ?_))
  k_with "binaryOp BitAnd int int" => (k_here; k_dflt (first | refine and_128 (by decide) (by (first | exact rfl | assumption)) (by (first | exact u8_lt _ _ | assumption | (first | lia | omega))) ?_ | refine and_64 (by decide) (by (first | exact rfl | assumption)) (by (first | exact u8_lt _ _ | assumption | (first | lia | omega))) ?_ | refine and_48 (by decide) (by (first | exact rfl | assumption)) (by (first | exact u8_lt _ _ | assumption | (first | lia | omega))) ?_ | refine and_32 (by decide) (by (first | exact rfl | assumption)) (by (first | exact u8_lt _ _ | assumption | (first | lia | omega))) ?_); intro _ _)
  k_with "eval JoinedStr" => (k_here; k_dflt (refine joined3 (by decide +kernel) (by decide +kernel) ?_); walk1; (refine ⟨_, _, rfl, (by first | exact u8_lt _ _ | assumption | (first | lia | omega)), ?_⟩); intro _ _ _)
  k_with "call builtin:list.append" => (k_here; (with_reducible show wpAny _ _ (call (Value.builtin _) [Value.ref _, _]) _ _ _); k_dflt (refine' append_K ?k1 ?k2 ?k3 ?_ ?z; (case k1 => k_asm); (case k2 => k_asm); (case k3 => k_upd); (case z => ((simp only [List.size_toArray, sizeLine_eq]); (first | lia | omega))); k_whole); intro h' F' N'; (try k_sweep))
  exact True.intro

theorem rowsJaPullA2 : True := by
  k_with "binaryOp RShift int int" => (k_here; k_dflt (refine int_shr (k := 4) rfl rfl ?_; intro _ _))
  k_with "subscriptTail" => (k_here; (with_reducible show wpAny _ _ (subscriptTail _ _ (Value.ref _) (Value.int (Nat.cast (_ / _)) _)) _ _ _); refine halt ?_)
  exact True.intro
section
variable {w : World} {mean : ExcName → Option Value} {mg mb : PySem.Str → Option Value} {dp un : Nat} {gd : Option (List Code)} {cn : PySem.Str} {cs : Scope} {a : Addr} {ccd : Value} {cl : List (PySem.Str × Addr)} {outer : List Env} {A₀ : Around} {base h₀ : Heap} {L : Addr} {m : PySem.Str → Option Value} {s : Shared} {Q E : Value → Shared → Prop} {R : Result → Shared → Prop}
variable {g h : Heap} {L' lx x dx ba : Addr} {tk : Nat} {k1 k2 tq tn tc tt tg tv : Tok} {p q r n : Int} {l d sc tok tag : List UInt8} {v c f : Nat} {M : PySem.Str → Option Value} {QQ : Flow → Shared → Prop} {rdx : Option (Row × Int)} {EE : Value → Shared → Prop}
set_option maxHeartbeats 40000000 in
theorem pq_end (B' : Below (ktrTop dp un gd cn cs L a ccd cl outer) base (envX cn cs L a ccd cl :: outer) g) (X' : (K0 w.params).In g) (T' : Top jP jL mean mg mb g) (hk : cs.kind = .function) (hd : dp + 9 < recursionLimit) (hu : un + 40 < cLine) (FG' : Fr h₀ L g m)
    (hl : l.length ≤ 100000) (hne : @Ne Nat dx x ∧ @Ne Nat dx ba ∧ @Ne Nat x ba) (n1 : @Ne Nat dx x) (n2 : @Ne Nat dx ba) (n3 : @Ne Nat x ba) (n4 : @Ne Nat lx dx) (n5 : @Ne Nat lx x) (n6 : @Ne Nat lx ba)
    (hraise : ∀ (e : Addr) (g h' : Heap) (tk2 : Nat) (cls : Value), rdx = none → cls = .ref 31 ∨ cls = .type "ValueError" → Fr h₀ L g m → Rz base g (envX cn cs L a ccd cl :: outer) e cls h' → R (.error (.ref e)) { s with heap := h', toks := tk2 }) (he : ∀ e s', wpAny (model jprog w) ((ktrTop dp un gd cn cs L a ccd cl outer).deeper (envOf (Str.ofString "pull_quic_header") s25s L' 279 (.ref 278))) (leaving (envOf (Str.ofString "pull_quic_header") s25s L' 279 (.ref 278)) e) (fun _ s'' => R (.error e) s'') (fun e' s'' => R (.error e') s'') s' → EE e s') (hR : rdx = finP l p q n v c d sc tok tag)
    (F' : Fr g L' h M) (N' : News g L' h [(lx, listOf #[] 0), (dx, bufD w.params k1 k2 ba q tq), (x, instObj 193 dx), (ba, baO l)]) (H : PB M x lx p v d sc) (h1 : M (Str.ofString "packet_type") = some (.int c tc)) (h2 : M (Str.ofString "token") = some (.bytes tok.toArray tt))
    (h3 : M (Str.ofString "integrity_tag") = some (.bytes tag.toArray tg)) (h4 : M (Str.ofString "rest_length") = some (.int n tn))
    (hQ : ∀ row stop M' h' tk', rdx = some (row, stop) → row.vers = [] → Tail M' lx p row → Fr g L' h' M' → News g L' h' [(lx, listOf #[] 0), (dx, bufD w.params k1 k2 ba stop tq), (x, instObj 193 dx), (ba, baO l)] → QQ .next { s with heap := h', toks := tk' }) :
    wpAny (model jprog w) ((ktrTop dp un gd cn cs L a ccd cl outer).deeper (envOf (Str.ofString "pull_quic_header") s25s L' 279 (.ref 278))) (execs pqZ (envOf (Str.ofString "pull_quic_header") s25s L' 279 (.ref 278))) QQ EE { s with heap := h, toks := tk } := by
  dsimp only [pqZ, wit]
  obtain ⟨b1, ⟨t1, b2⟩, ⟨t2, b3⟩, ⟨t3, b4⟩, ⟨t4, b5⟩, b6⟩ := H

  k_steps
  all_goals (try (refine he _ _ ?_; (try dsimp only); k_steps))
  · exact hraise _ g _ _ _ (fin_no hR (by assumption)) (.inr rfl) FG' (by assumption)
  · refine hQ ⟨some v, c, q + n - p, d, sc, tok, tag, []⟩ q _ _ _ (fin_go hR (by assumption)) rfl ?_ (by assumption) (by assumption)
    exact ⟨⟨_, by (k_extra "lka")⟩, ⟨t2, by (dsimp only [verV]; (k_extra "lka"))⟩, ⟨_, by (k_extra "lka")⟩, ⟨_, _, lk_sto_hit, rfl⟩, ⟨_, by (k_extra "lka")⟩, ⟨_, by (k_extra "lka")⟩, ⟨_, by (k_extra "lka")⟩, ⟨_, by (k_extra "lka")⟩, by (k_extra "lka")⟩
set_option maxHeartbeats 40000000 in
theorem pq_kind (B' : Below (ktrTop dp un gd cn cs L a ccd cl outer) base (envX cn cs L a ccd cl :: outer) g) (X' : (K0 w.params).In g) (T' : Top jP jL mean mg mb g) (hk : cs.kind = .function) (hd : dp + 9 < recursionLimit) (hu : un + 40 < cLine) (FG' : Fr h₀ L g m)
    (hl : l.length ≤ 100000) (hne : @Ne Nat dx x ∧ @Ne Nat dx ba ∧ @Ne Nat x ba) (n1 : @Ne Nat dx x) (n2 : @Ne Nat dx ba) (n3 : @Ne Nat x ba) (n4 : @Ne Nat lx dx) (n5 : @Ne Nat lx x) (n6 : @Ne Nat lx ba)
    (hraise : ∀ (e : Addr) (g h' : Heap) (tk2 : Nat) (cls : Value), rdx = none → cls = .ref 31 ∨ cls = .type "ValueError" → Fr h₀ L g m → Rz base g (envX cn cs L a ccd cl :: outer) e cls h' → R (.error (.ref e)) { s with heap := h', toks := tk2 }) (he : ∀ e s', wpAny (model jprog w) ((ktrTop dp un gd cn cs L a ccd cl outer).deeper (envOf (Str.ofString "pull_quic_header") s25s L' 279 (.ref 278))) (leaving (envOf (Str.ofString "pull_quic_header") s25s L' 279 (.ref 278)) e) (fun _ s'' => R (.error e) s'') (fun e' s'' => R (.error e') s'') s' → EE e s') (hR : rdx = rdFin l p r v c d sc) (hc4 : c < 4) (hr0 : 0 ≤ r) (hr1 : r ≤ l.length)
    (F' : Fr g L' h M) (N' : News g L' h [(lx, listOf #[] 0), (dx, bufD w.params k1 k2 ba r tq), (x, instObj 193 dx), (ba, baO l)]) (H : PB M x lx p v d sc) (h1 : M (Str.ofString "packet_type") = some (.int c tc)) (h2 : M (Str.ofString "token") = some (.bytes #[] tt))
    (h3 : M (Str.ofString "integrity_tag") = some (.bytes #[] tg))
    (hQ : ∀ q n tok tag M' h' tk' tq' tt' tg' tn', rdx = finP l p q n v c d sc tok tag → PB M' x lx p v d sc → M' (Str.ofString "packet_type") = some (.int c tc) → M' (Str.ofString "token") = some (.bytes tok.toArray tt') →
      M' (Str.ofString "integrity_tag") = some (.bytes tag.toArray tg') → M' (Str.ofString "rest_length") = some (.int n tn') → Fr g L' h' M' → News g L' h' [(lx, listOf #[] 0), (dx, bufD w.params k1 k2 ba q tq'), (x, instObj 193 dx), (ba, baO l)] → QQ .next { s with heap := h', toks := tk' }) :
    wpAny (model jprog w) ((ktrTop dp un gd cn cs L a ccd cl outer).deeper (envOf (Str.ofString "pull_quic_header") s25s L' 279 (.ref 278))) (exec pqK (envOf (Str.ofString "pull_quic_header") s25s L' 279 (.ref 278))) QQ EE { s with heap := h, toks := tk } := by
  dsimp only [pqK, wit]
  have b1 := H.bu
  k_steps
  all_goals (try (refine he _ _ ?_; (try dsimp only); k_steps))
  all_goals first
    | exact hraise _ g _ _ _ (fin0a hR (by assumption) (by assumption)) (.inl rfl) FG' (by assumption)
    | exact hraise _ g _ _ _ (fin0b hR (by assumption) (by assumption) (by assumption) (by assumption) (by assumption)) (.inl rfl) FG' (by assumption)
    | exact hraise _ g _ _ _ (fin0c hR (by assumption) (by assumption) (by assumption) (by assumption) (by assumption) (by assumption) (by assumption)) (.inl rfl) FG' (by assumption)
    | exact hraise _ g _ _ _ (fin1a hR (.inl (by assumption)) (by assumption)) (.inl rfl) FG' (by assumption)
    | exact hraise _ g _ _ _ (fin1a hR (.inr (by assumption)) (by assumption)) (.inl rfl) FG' (by assumption)
    | exact hraise _ g _ _ _ (fin3a hR hc4 (by assumption) (by assumption) (by assumption) (by assumption)) (.inl rfl) FG' (by assumption)
    | exact hraise _ g _ _ _ (fin3b (by assumption) (by assumption)) (.inl rfl) FG' (by assumption)
    | skip
  · refine' hQ _ _ _ _ _ _ _ _ _ _ _ (fin0d hR (by assumption) (by assumption) (by assumption) (by assumption) (by assumption) (by assumption) (by assumption) (by assumption) (by assumption) (by assumption)) ?p11 ?p12 ?p13 ?p14 ?p15 (by assumption) (by assumption)
    (case p11 => (repeat refine PB.sto ?_ (by kernel_rfl!)); exact H)
    (case p12 => (k_extra "lka"))
    (case p13 => (k_extra "lka"))
    (case p14 => (k_extra "lka"))
    (case p15 => (k_extra "lka"))
  · refine' hQ _ _ _ _ _ _ _ _ _ _ _ (fin1b hR (.inl (by assumption)) (by assumption) (by assumption) (by assumption)) ?p21 ?p22 ?p23 ?p24 ?p25 (by assumption) (by assumption)
    (case p21 => (repeat refine PB.sto ?_ (by kernel_rfl!)); exact H)
    (case p22 => (k_extra "lka"))
    (case p23 => (k_extra "lka"))
    (case p24 => (k_extra "lka"))
    (case p25 => (k_extra "lka"))
  · refine' hQ _ _ _ _ _ _ _ _ _ _ _ (fin1b hR (.inr (by assumption)) (by assumption) (by assumption) (by assumption)) ?p31 ?p32 ?p33 ?p34 ?p35 (by assumption) (by assumption)
    (case p31 => (repeat refine PB.sto ?_ (by kernel_rfl!)); exact H)
    (case p32 => (k_extra "lka"))
    (case p33 => (k_extra "lka"))
    (case p34 => (k_extra "lka"))
    (case p35 => (k_extra "lka"))
  · refine' hQ _ _ _ _ _ _ _ _ _ _ _ (fin3c hR hc4 (by assumption) (by assumption) (by assumption) (by assumption) (by assumption) (by assumption) (by assumption) (by assumption)) ?p41 ?p42 ?p43 ?p44 ?p45 (by assumption) (by assumption)
    (case p41 => (repeat refine PB.sto ?_ (by kernel_rfl!)); exact H)
    (case p42 => (k_extra "lka"))
    (case p43 => (k_extra "lka"))
    (case p44 => (k_extra "lka"))
    (case p45 => (k_extra "lka"))
theorem rowsJaPullA3 : True := by
  k_with "exec If" => (k_here; (with_reducible show wpAny _ _ (exec (Stmt.If (Expr.Compare (Expr.Name _ _) _ [Expr.Attribute _ (Str.ofString "VERSION_2") _] _) _ _ _) _) _ _ _); refine halt ?_)
  exact True.intro
theorem bit64 {f : Nat} (h : ((f / 64 % 2 * 64 : Nat) : Int) ≠ 0) : ¬ f / 64 % 2 = 0 := by (first | lia | omega)
theorem bit64z {f : Nat} (h : ((f / 64 % 2 * 64 : Nat) : Int) = 0) : f / 64 % 2 = 0 := by (first | lia | omega)
theorem rowsJaPullA4 : True := by
  k_with "exec While" => (k_here; refine halt ?_)
  exact True.intro
theorem kinds4 {f : Nat} : f / 16 % 4 * 16 / 2 ^ 4 = f / 16 % 4 := by (first | lia | omega)
theorem four {k : Nat} (h : k < 4) : k = 0 ∨ k = 1 ∨ k = 2 ∨ k = 3 := by (first | lia | omega)
theorem code2_1 {v k c : Nat} (h : (v : Int) = 1798521807) (e : c = (k + 3) % 4) : c = code2 v k := by rw [e]; unfold code2; rw [if_pos (by (first | lia | omega))]
theorem code2_2 {v k : Nat} (h : ¬ (v : Int) = 1798521807) : k = code2 v k := by unfold code2; rw [if_neg (by (first | lia | omega))]
set_option maxHeartbeats 40000000 in
theorem pq_type (B' : Below (ktrTop dp un gd cn cs L a ccd cl outer) base (envX cn cs L a ccd cl :: outer) g) (X' : (K0 w.params).In g) (T' : Top jP jL mean mg mb g) (hk : cs.kind = .function) (hd : dp + 9 < recursionLimit) (hu : un + 40 < cLine) (hf : f < 256) (F' : Fr g L' h M) (N' : News g L' h [(lx, listOf #[] 0), (dx, bufD w.params k1 k2 ba r tq), (x, instObj 193 dx), (ba, baO l)]) (h1 : M (Str.ofString "version") = some (.int v tc)) (h2 : M (Str.ofString "first_byte") = some (.int f tt))
    (hQ : ∀ c h' tk' tc, c = code2 v (f / 16 % 4) → c < 4 → Fr g L' h' (sto M (Str.ofString "packet_type") (.int (c : Nat) tc)) → News g L' h' [(lx, listOf #[] 0), (dx, bufD w.params k1 k2 ba r tq), (x, instObj 193 dx), (ba, baO l)] → QQ .next { s with heap := h', toks := tk' }) :
    wpAny (model jprog w) ((ktrTop dp un gd cn cs L a ccd cl outer).deeper (envOf (Str.ofString "pull_quic_header") s25s L' 279 (.ref 278))) (exec pqC (envOf (Str.ofString "pull_quic_header") s25s L' 279 (.ref 278))) QQ EE { s with heap := h, toks := tk } := by
  dsimp only [pqC, wit]
  refine wpAny_If ?_
  k_steps
  all_goals (
    refine Halt.mk ?_
    rw [kinds4]
    obtain ⟨j, hj⟩ : ∃ j, j = f / 16 % 4 := ⟨_, rfl⟩
    have hj4 : j < 4 := by rw [hj]; exact Nat.mod_lt _ (by decide)
    rw [← hj] at hQ ⊢
    clear hj
    rcases four hj4 with rfl | rfl | rfl | rfl)
  all_goals k_steps
  all_goals first
    | exact hQ 0 _ _ _ (code2_1 (by assumption) (by decide)) (by decide) (by assumption) (by assumption)
    | exact hQ 0 _ _ _ (code2_2 (by assumption)) (by decide) (by assumption) (by assumption)
    | exact hQ 1 _ _ _ (code2_1 (by assumption) (by decide)) (by decide) (by assumption) (by assumption)
    | exact hQ 1 _ _ _ (code2_2 (by assumption)) (by decide) (by assumption) (by assumption)
    | exact hQ 2 _ _ _ (code2_1 (by assumption) (by decide)) (by decide) (by assumption) (by assumption)
    | exact hQ 2 _ _ _ (code2_2 (by assumption)) (by decide) (by assumption) (by assumption)
    | exact hQ 3 _ _ _ (code2_1 (by assumption) (by decide)) (by decide) (by assumption) (by assumption)
    | exact hQ 3 _ _ _ (code2_2 (by assumption)) (by decide) (by assumption) (by assumption)
set_option maxHeartbeats 40000000 in
theorem pq_ver1 (B' : Below (ktrTop dp un gd cn cs L a ccd cl outer) base (envX cn cs L a ccd cl :: outer) g) (X' : (K0 w.params).In g) (T' : Top jP jL mean mg mb g) (hk : cs.kind = .function) (hd : dp + 9 < recursionLimit) (hu : un + 40 < cLine) (FG' : Fr h₀ L g m)
    (hl : l.length ≤ 100000) (hne : @Ne Nat dx x ∧ @Ne Nat dx ba ∧ @Ne Nat x ba) (n1 : @Ne Nat dx x) (n2 : @Ne Nat dx ba) (n3 : @Ne Nat x ba) (n4 : @Ne Nat lx dx) (n5 : @Ne Nat lx x) (n6 : @Ne Nat lx ba)
    (hraise : ∀ (e : Addr) (g h' : Heap) (tk2 : Nat) (cls : Value), rdx = none → cls = .ref 31 ∨ cls = .type "ValueError" → Fr h₀ L g m → Rz base g (envX cn cs L a ccd cl :: outer) e cls h' → R (.error (.ref e)) { s with heap := h', toks := tk2 }) (he : ∀ e s', wpAny (model jprog w) ((ktrTop dp un gd cn cs L a ccd cl outer).deeper (envOf (Str.ofString "pull_quic_header") s25s L' 279 (.ref 278))) (leaving (envOf (Str.ofString "pull_quic_header") s25s L' 279 (.ref 278)) e) (fun _ s'' => R (.error e) s'') (fun e' s'' => R (.error e') s'') s' → EE e s') (hR : rdx = rdVer l p r v f d sc) (hv : ¬ (v : Int) = 0) (hf : f < 256) (hr0 : 0 ≤ r) (hr1 : r ≤ l.length)
    (F' : Fr g L' h M) (N' : News g L' h [(lx, listOf #[] 0), (dx, bufD w.params k1 k2 ba r tq), (x, instObj 193 dx), (ba, baO l)]) (H : PB M x lx p v d sc) (h1 : M (Str.ofString "first_byte") = some (.int f tn)) (h2 : M (Str.ofString "token") = some (.bytes #[] tt))
    (h3 : M (Str.ofString "integrity_tag") = some (.bytes #[] tg))
    (hQ : ∀ row stop M' h' tk' tq', rdx = some (row, stop) → row.vers = [] → Tail M' lx p row → Fr g L' h' M' → News g L' h' [(lx, listOf #[] 0), (dx, bufD w.params k1 k2 ba stop tq'), (x, instObj 193 dx), (ba, baO l)] → QQ .next { s with heap := h', toks := tk' }) :
    wpAny (model jprog w) ((ktrTop dp un gd cn cs L a ccd cl outer).deeper (envOf (Str.ofString "pull_quic_header") s25s L' 279 (.ref 278))) (execs pqE (envOf (Str.ofString "pull_quic_header") s25s L' 279 (.ref 278))) QQ EE { s with heap := h, toks := tk } := by
  dsimp only [pqE, wit]
  k_steps
  all_goals (try (refine he _ _ ?_; (try dsimp only); k_steps))
  · refine Halt.mk ?_
    obtain ⟨t2, b3⟩ := H.ve
    refine pq_type B' X' T' hk hd hu hf F' N' b3 h1 fun c h' tk' tc ec hc4 F2 N2 => ?_
    have hR2 := rdVer_fin hR hv (bit64 (by assumption)) ec
    refine wpAny_execs_cons ?_
    refine pq_kind B' X' T' hk hd hu FG' hl hne n1 n2 n3 n4 n5 n6 hraise he hR2 hc4 hr0 hr1 F2 N2 (H.sto (by kernel_rfl!)) lk_sto_hit ((lk_sto_miss (by kernel_rfl!) h2)) (lk_sto_miss (by kernel_rfl!) h3) fun q n tok tag M2 h2 tk2 tq2 tt2 tg2 tn2 hR3 H3 e1 e2 e3 e4 F3 N3 => ?_
    exact pq_end B' X' T' hk hd hu FG' hl hne n1 n2 n3 n4 n5 n6 hraise he hR3 F3 N3 H3 e1 e2 e3 e4 fun row stop M' h' tk' er ev ht F4 N4 => hQ row stop M' h' tk' tq2 er ev ht F4 N4
  · exact hraise _ g _ _ _ (rdVer_bit hR hv (bit64z (by assumption))) (.inr rfl) FG' (by assumption)
theorem posN {q q' r : Int} {l : List UInt8} {n i : Nat} (hn : (n : Int) = l.length - q) (hq : q = r + 4 * i) (e : q' = q + 4) (h : ¬ (l.length : Int) < q + 4) : (((l.length : Int) - q').toNat : Int) = l.length - q' ∧ q' = r + 4 * ((i + 1 : Nat) : Int) ∧ ((l.length : Int) - q').toNat < n := by (first | lia | omega)
theorem rows_snoc {q r : Int} {l : List UInt8} {i v : Nat} {vs : List Value} {t : Tok} (hi : IntsAre vs (rows l r i)) (hq : q = r + 4 * i) (e : v = u32 l q) : IntsAre (vs ++ [.int (v : Int) t]) (rows l r (i + 1)) := by
  subst e; rw [rows_succ, ← hq]; exact hi.append (.cons _ _ .nil)
theorem rows_few {q r : Int} {l : List UInt8} {i : Nat} {vs : List Value} (hi : IntsAre vs (rows l r i)) (hl : l.length ≤ 100000) (hr : 0 ≤ r) (hq : q = r + 4 * i) (h : q ≤ l.length) : vs.length ≤ 100000 := by
  have := hi.length; rw [rows_length] at this; (first | lia | omega)
theorem modN {q r : Int} {l : List UInt8} {i : Nat} (hq : q = r + 4 * i) (h : q ≤ l.length) (h2 : (l.length : Int) < q + 4) (hne : ¬ q = l.length) : ¬ ((l.length : Int) - r) % 4 = 0 := by (first | lia | omega)
set_option maxHeartbeats 40000000 in
theorem pq_neg (B' : Below (ktrTop dp un gd cn cs L a ccd cl outer) base (envX cn cs L a ccd cl :: outer) g) (X' : (K0 w.params).In g) (T' : Top jP jL mean mg mb g) (hk : cs.kind = .function) (hd : dp + 9 < recursionLimit) (hu : un + 40 < cLine) (FG' : Fr h₀ L g m)
    (hl : l.length ≤ 100000) (hne : @Ne Nat dx x ∧ @Ne Nat dx ba ∧ @Ne Nat x ba) (n1 : @Ne Nat dx x) (n2 : @Ne Nat dx ba) (n3 : @Ne Nat x ba) (n4 : @Ne Nat lx dx) (n5 : @Ne Nat lx x) (n6 : @Ne Nat lx ba)
    (hraise : ∀ (e : Addr) (g h' : Heap) (tk2 : Nat) (cls : Value), rdx = none → cls = .ref 31 ∨ cls = .type "ValueError" → Fr h₀ L g m → Rz base g (envX cn cs L a ccd cl :: outer) e cls h' → R (.error (.ref e)) { s with heap := h', toks := tk2 }) (he : ∀ e s', wpAny (model jprog w) ((ktrTop dp un gd cn cs L a ccd cl outer).deeper (envOf (Str.ofString "pull_quic_header") s25s L' 279 (.ref 278))) (leaving (envOf (Str.ofString "pull_quic_header") s25s L' 279 (.ref 278)) e) (fun _ s'' => R (.error e) s'') (fun e' s'' => R (.error e') s'') s' → EE e s') (hR : rdx = rdVer l p r v f d sc) (hv : (v : Int) = 0) (hr0 : 0 ≤ r) (hr1 : r ≤ l.length)
    (F' : Fr g L' h M) (N' : News g L' h [(lx, listOf #[] 0), (dx, bufD w.params k1 k2 ba r tq), (x, instObj 193 dx), (ba, baO l)]) (H : PB M x lx p v d sc) (h2 : M (Str.ofString "token") = some (.bytes #[] tt))
    (h3 : M (Str.ofString "integrity_tag") = some (.bytes #[] tg))
    (hQ : ∀ row stop M' h' tk' tq' vs cap, rdx = some (row, stop) → IntsAre vs row.vers → Tail M' lx p row → Fr g L' h' M' → News g L' h' [(lx, listOf vs.toArray cap), (dx, bufD w.params k1 k2 ba stop tq'), (x, instObj 193 dx), (ba, baO l)] → QQ .next { s with heap := h', toks := tk' }) :
    wpAny (model jprog w) ((ktrTop dp un gd cn cs L a ccd cl outer).deeper (envOf (Str.ofString "pull_quic_header") s25s L' 279 (.ref 278))) (execs pqN (envOf (Str.ofString "pull_quic_header") s25s L' 279 (.ref 278))) QQ EE { s with heap := h, toks := tk } := by
  dsimp only [pqN, wit]
  obtain ⟨b1, ⟨t1, b2⟩, ⟨t2, b3⟩, ⟨t3, b4⟩, ⟨t4, b5⟩, b6⟩ := H
  k_steps
  refine Halt.mk ?_
  (with_reducible rename Fr g _ _ _ => kF)
  (with_reducible rename News g _ _ _ => kN)
  refine While_rzl (fun c => c = Value.ref 31 ∧ ¬ ((l.length : Int) - r) % 4 = 0) (fun n o r' => ∃ (i : Nat) (q : Int) (vs : List Value) (cap : Nat) (t : Tok), q = r + 4 * i ∧ 0 ≤ q ∧ q ≤ l.length ∧ (n : Int) = l.length - q ∧ IntsAre vs (rows l r i) ∧ vs.length ≤ 100000 ∧ o = listOf vs.toArray cap ∧ r' = [(dx, bufD w.params k1 k2 ba q t), (x, instObj 193 dx), (ba, baO l)])
    (n₀ := ((l.length : Int) - r).toNat) B' kF kN ⟨0, _, [], 0, _, by (first | lia | omega), hr0, hr1, by (first | lia | omega), .nil, by decide, rfl, rfl⟩ ?turn ?hE
  case turn =>
    rintro n o₁ rest₁ h₁ tk₁ F₁ N₁ ⟨i, q, vs, cap, t, hq, hq0, hle, hn, hi, hvl, rfl, rfl⟩
    clear kF kN
    k_steps
    · refine hQ ⟨some v, 4, q - p, d, sc, [], [], rows l r i⟩ q _ _ _ _ vs cap (rdVer_zero hR hv hq (by assumption)) hi ?_ (by assumption) (by assumption)
      exact ⟨⟨_, by (k_extra "lka")⟩, ⟨t2, by (dsimp only [verV]; (k_extra "lka"))⟩, ⟨_, lk_sto_miss (by kernel_rfl!) lk_sto_hit⟩, ⟨_, _, lk_sto_hit, rfl⟩, ⟨_, by (k_extra "lka")⟩, ⟨_, by (k_extra "lka")⟩, ⟨_, by (k_extra "lka")⟩, ⟨_, by (k_extra "lka")⟩, by (k_extra "lka")⟩
    · (rename _ = q + 4 => e4)
      have hz := posN hn hq e4 (by assumption)
      have hi2 := rows_snoc (t := t') hi hq (by assumption)
      exact WhileStep.intro (n' := ((l.length : Int) - q').toNat) (by assumption) (by assumption) hz.2.2 ⟨rfl, _, _, rfl, i + 1, _, _, cap + 1, _, hz.2.1, (by assumption), (by assumption), hz.1, hi2, rows_few hi2 hl hr0 hz.2.1 (by assumption), congrArg (fun z => listOf z (cap + 1)) (List.push_toArray _ _), rfl⟩
    · exact ⟨_, _, _, _, _, _, rfl, rfl, (by assumption), (by assumption), rfl, modN hq hle (by assumption) (by assumption)⟩
  case hE =>
    intro ea cls g₂ h' tk' m' F' R' hc
    clear kF kN
    refine he _ _ ?_
    k_steps
    exact hraise _ g _ _ _ (rdVer_none hR hv hc.2) (.inl hc.1) FG' (by assumption)
theorem rowsJaPullA5 : True := by
  k_with "execs cons" => (k_here; (with_reducible show wpAny _ _ (execs (Stmt.Assign [Expr.Name (Str.ofString "packet_type") _] (Expr.Attribute _ (Str.ofString "VERSION_NEGOTIATION") _) _ :: _) _) _ _ _); refine halt ?_)
  k_with "execs cons" => (k_here; (with_reducible show wpAny _ _ (execs (Stmt.If (Expr.UnaryOp _ _ _) _ _ _ :: Stmt.If _ _ _ _ :: _) _) _ _ _); refine halt ?_)
  exact True.intro
set_option maxHeartbeats 40000000 in
theorem pq_ver (B' : Below (ktrTop dp un gd cn cs L a ccd cl outer) base (envX cn cs L a ccd cl :: outer) g) (X' : (K0 w.params).In g) (T' : Top jP jL mean mg mb g) (hk : cs.kind = .function) (hd : dp + 9 < recursionLimit) (hu : un + 40 < cLine) (FG' : Fr h₀ L g m)
    (hl : l.length ≤ 100000) (hne : @Ne Nat dx x ∧ @Ne Nat dx ba ∧ @Ne Nat x ba) (n1 : @Ne Nat dx x) (n2 : @Ne Nat dx ba) (n3 : @Ne Nat x ba) (n4 : @Ne Nat lx dx) (n5 : @Ne Nat lx x) (n6 : @Ne Nat lx ba)
    (hraise : ∀ (e : Addr) (g h' : Heap) (tk2 : Nat) (cls : Value), rdx = none → cls = .ref 31 ∨ cls = .type "ValueError" → Fr h₀ L g m → Rz base g (envX cn cs L a ccd cl :: outer) e cls h' → R (.error (.ref e)) { s with heap := h', toks := tk2 }) (he : ∀ e s', wpAny (model jprog w) ((ktrTop dp un gd cn cs L a ccd cl outer).deeper (envOf (Str.ofString "pull_quic_header") s25s L' 279 (.ref 278))) (leaving (envOf (Str.ofString "pull_quic_header") s25s L' 279 (.ref 278)) e) (fun _ s'' => R (.error e) s'') (fun e' s'' => R (.error e') s'') s' → EE e s') (hR : rdx = rdVer l p r v f d sc) (hf : f < 256) (hr0 : 0 ≤ r) (hr1 : r ≤ l.length)
    (F' : Fr g L' h M) (N' : News g L' h [(lx, listOf #[] 0), (dx, bufD w.params k1 k2 ba r tq), (x, instObj 193 dx), (ba, baO l)]) (H : PB M x lx p v d sc) (h1 : M (Str.ofString "first_byte") = some (.int f tn)) (h2 : M (Str.ofString "token") = some (.bytes #[] tt))
    (h3 : M (Str.ofString "integrity_tag") = some (.bytes #[] tg))
    (hQ : ∀ row stop M' h' tk' tq' vs cap, rdx = some (row, stop) → IntsAre vs row.vers → Tail M' lx p row → Fr g L' h' M' → News g L' h' [(lx, listOf vs.toArray cap), (dx, bufD w.params k1 k2 ba stop tq'), (x, instObj 193 dx), (ba, baO l)] → QQ .next { s with heap := h', toks := tk' }) :
    wpAny (model jprog w) ((ktrTop dp un gd cn cs L a ccd cl outer).deeper (envOf (Str.ofString "pull_quic_header") s25s L' 279 (.ref 278))) (exec pqV (envOf (Str.ofString "pull_quic_header") s25s L' 279 (.ref 278))) QQ EE { s with heap := h, toks := tk } := by
  dsimp only [pqV, wit]
  obtain ⟨t2, b3⟩ := H.ve
  refine wpAny_If ?_
  k_steps
  · refine Halt.mk ?_
    exact pq_neg B' X' T' hk hd hu FG' hl hne n1 n2 n3 n4 n5 n6 hraise he hR (by assumption) hr0 hr1 F' N' H h2 h3 hQ
  · refine Halt.mk ?_
    exact pq_ver1 B' X' T' hk hd hu FG' hl hne n1 n2 n3 n4 n5 n6 hraise he hR (by assumption) hf hr0 hr1 F' N' H h1 h2 h3 fun row stop M' h' tk' tq' er ev ht F4 N4 => hQ row stop M' h' tk' tq' [] 0 er (by rw [ev]; exact .nil) ht F4 N4
theorem rowsJaPullA6 : True := by
  k_with "exec If" => (k_here; (with_reducible show wpAny _ _ (exec (Stmt.If (Expr.Compare (Expr.Name _ _) _ [Expr.Attribute _ (Str.ofString "NEGOTIATION") _] _) _ _ _) _) _ _ _); refine halt ?_)
  exact True.intro
set_option maxHeartbeats 40000000 in
theorem pq_long (B' : Below (ktrTop dp un gd cn cs L a ccd cl outer) base (envX cn cs L a ccd cl :: outer) g) (X' : (K0 w.params).In g) (T' : Top jP jL mean mg mb g) (hk : cs.kind = .function) (hd : dp + 9 < recursionLimit) (hu : un + 40 < cLine) (FG' : Fr h₀ L g m)
    (hl : l.length ≤ 100000) (hne : @Ne Nat dx x ∧ @Ne Nat dx ba ∧ @Ne Nat x ba) (n1 : @Ne Nat dx x) (n2 : @Ne Nat dx ba) (n3 : @Ne Nat x ba) (n4 : @Ne Nat lx dx) (n5 : @Ne Nat lx x) (n6 : @Ne Nat lx ba)
    (hraise : ∀ (e : Addr) (g h' : Heap) (tk2 : Nat) (cls : Value), rdx = none → cls = .ref 31 ∨ cls = .type "ValueError" → Fr h₀ L g m → Rz base g (envX cn cs L a ccd cl :: outer) e cls h' → R (.error (.ref e)) { s with heap := h', toks := tk2 }) (he : ∀ e s', wpAny (model jprog w) ((ktrTop dp un gd cn cs L a ccd cl outer).deeper (envOf (Str.ofString "pull_quic_header") s25s L' 279 (.ref 278))) (leaving (envOf (Str.ofString "pull_quic_header") s25s L' 279 (.ref 278)) e) (fun _ s'' => R (.error e) s'') (fun e' s'' => R (.error e') s'') s' → EE e s') (hR : rdx = stA l p q f) (hf : f < 256) (hr0 : 0 ≤ q) (hr1 : q ≤ l.length)
    (F' : Fr g L' h M) (N' : News g L' h [(lx, listOf #[] 0), (dx, bufD w.params k1 k2 ba q tq), (x, instObj 193 dx), (ba, baO l)]) (b1 : M (Str.ofString "buf") = some (.ref x)) (b2 : M (Str.ofString "packet_start") = some (.int p tv)) (b6 : M (Str.ofString "supported_versions") = some (.ref lx))
    (h1 : M (Str.ofString "first_byte") = some (.int f tn)) (h2 : M (Str.ofString "token") = some (.bytes #[] tt))
    (h3 : M (Str.ofString "integrity_tag") = some (.bytes #[] tg))
    (hQ : ∀ row stop M' h' tk' tq' vs cap, rdx = some (row, stop) → IntsAre vs row.vers → Tail M' lx p row → Fr g L' h' M' → News g L' h' [(lx, listOf vs.toArray cap), (dx, bufD w.params k1 k2 ba stop tq'), (x, instObj 193 dx), (ba, baO l)] → QQ .next { s with heap := h', toks := tk' }) :
    wpAny (model jprog w) ((ktrTop dp un gd cn cs L a ccd cl outer).deeper (envOf (Str.ofString "pull_quic_header") s25s L' 279 (.ref 278))) (execs pqT (envOf (Str.ofString "pull_quic_header") s25s L' 279 (.ref 278))) QQ EE { s with heap := h, toks := tk } := by
  dsimp only [pqT, wit]
  k_steps
  all_goals (try (refine he _ _ ?_; (try dsimp only); k_steps))
  all_goals first
    | exact hraise _ g _ _ _ (stA_no hR (by assumption)) (.inl rfl) FG' (by assumption)
    | exact hraise _ g _ _ _ (stB_no (stA_go hR (by assumption) (by assumption) (by assumption)) (by assumption)) (.inl rfl) FG' (by assumption)
    | exact hraise _ g _ _ _ (stC_big (stB_go (stA_go hR (by assumption) (by assumption) (by assumption)) (by assumption) (by assumption) (by assumption)) (by assumption)) (.inr rfl) FG' (by assumption)
    | exact hraise _ g _ _ _ (stC_no (stB_go (stA_go hR (by assumption) (by assumption) (by assumption)) (by assumption) (by assumption) (by assumption)) (by assumption)) (.inl rfl) FG' (by assumption)
    | exact hraise _ g _ _ _ (stE_no (stC_go (stB_go (stA_go hR (by assumption) (by assumption) (by assumption)) (by assumption) (by assumption) (by assumption)) (by assumption) (by assumption) (by assumption) (by assumption)) (by assumption)) (.inl rfl) FG' (by assumption)
    | exact hraise _ g _ _ _ (stG_big (stE_go (stC_go (stB_go (stA_go hR (by assumption) (by assumption) (by assumption)) (by assumption) (by assumption) (by assumption)) (by assumption) (by assumption) (by assumption) (by assumption)) (by assumption) (by assumption) (by assumption)) (by assumption)) (.inr rfl) FG' (by assumption)
    | exact hraise _ g _ _ _ (stG_no (stE_go (stC_go (stB_go (stA_go hR (by assumption) (by assumption) (by assumption)) (by assumption) (by assumption) (by assumption)) (by assumption) (by assumption) (by assumption) (by assumption)) (by assumption) (by assumption) (by assumption)) (by assumption)) (.inl rfl) FG' (by assumption)
    | skip
  refine Halt.mk ?_
  refine pq_ver (tn := tn) (tt := tt) (tg := tg) B' X' T' hk hd hu FG' hl hne n1 n2 n3 n4 n5 n6 hraise he (stG_go (stE_go (stC_go (stB_go (stA_go hR (by assumption) (by assumption) (by assumption)) (by assumption) (by assumption) (by assumption)) (by assumption) (by assumption) (by assumption) (by assumption)) (by assumption) (by assumption) (by assumption)) (by assumption) (by assumption) (by assumption) (by assumption)) hf (by assumption) (by assumption) (by assumption) (by assumption) ?z1 ?z2 ?z3 ?z4 fun row stop M' h' tk' tq' vs cap e1 e2 e3 e4 e5 => wpAny_execs_nil (hQ row stop M' h' tk' tq' vs cap e1 e2 e3 e4 e5)
  case z1 => exact ⟨by (k_extra "lka"), ⟨_, by (k_extra "lka")⟩, ⟨_, by (k_extra "lka")⟩, ⟨_, by (k_extra "lka")⟩, ⟨_, by (k_extra "lka")⟩, by (k_extra "lka")⟩
  case z2 => (k_extra "lka")
  case z3 => (k_extra "lka")
  case z4 => (k_extra "lka")
set_option maxHeartbeats 40000000 in
theorem pq_short {k : Int} {tk0 : Tok} (B' : Below (ktrTop dp un gd cn cs L a ccd cl outer) base (envX cn cs L a ccd cl :: outer) g) (X' : (K0 w.params).In g) (T' : Top jP jL mean mg mb g) (hk : cs.kind = .function) (hd : dp + 9 < recursionLimit) (hu : un + 40 < cLine) (FG' : Fr h₀ L g m)
    (hl : l.length ≤ 100000) (hne : @Ne Nat dx x ∧ @Ne Nat dx ba ∧ @Ne Nat x ba) (n1 : @Ne Nat dx x) (n2 : @Ne Nat dx ba) (n3 : @Ne Nat x ba) (n4 : @Ne Nat lx dx) (n5 : @Ne Nat lx x) (n6 : @Ne Nat lx ba)
    (hraise : ∀ (e : Addr) (g h' : Heap) (tk2 : Nat) (cls : Value), rdx = none → cls = .ref 31 ∨ cls = .type "ValueError" → Fr h₀ L g m → Rz base g (envX cn cs L a ccd cl :: outer) e cls h' → R (.error (.ref e)) { s with heap := h', toks := tk2 }) (he : ∀ e s', wpAny (model jprog w) ((ktrTop dp un gd cn cs L a ccd cl outer).deeper (envOf (Str.ofString "pull_quic_header") s25s L' 279 (.ref 278))) (leaving (envOf (Str.ofString "pull_quic_header") s25s L' 279 (.ref 278)) e) (fun _ s'' => R (.error e) s'') (fun e' s'' => R (.error e') s'') s' → EE e s') (hR : rdx = stS l p q f k) (hf : f < 256) (hr0 : 0 ≤ q) (hr1 : q ≤ l.length)
    (F' : Fr g L' h M) (N' : News g L' h [(lx, listOf #[] 0), (dx, bufD w.params k1 k2 ba q tq), (x, instObj 193 dx), (ba, baO l)]) (b1 : M (Str.ofString "buf") = some (.ref x)) (b2 : M (Str.ofString "packet_start") = some (.int p tv)) (b6 : M (Str.ofString "supported_versions") = some (.ref lx))
    (h1 : M (Str.ofString "first_byte") = some (.int f tn)) (h2 : M (Str.ofString "token") = some (.bytes #[] tt))
    (h3 : M (Str.ofString "integrity_tag") = some (.bytes #[] tg)) (h4 : M (Str.ofString "host_cid_length") = some (.int k tk0))
    (hQ : ∀ row stop M' h' tk' tq' vs cap, rdx = some (row, stop) → IntsAre vs row.vers → Tail M' lx p row → Fr g L' h' M' → News g L' h' [(lx, listOf vs.toArray cap), (dx, bufD w.params k1 k2 ba stop tq'), (x, instObj 193 dx), (ba, baO l)] → QQ .next { s with heap := h', toks := tk' }) :
    wpAny (model jprog w) ((ktrTop dp un gd cn cs L a ccd cl outer).deeper (envOf (Str.ofString "pull_quic_header") s25s L' 279 (.ref 278))) (execs pqF (envOf (Str.ofString "pull_quic_header") s25s L' 279 (.ref 278))) QQ EE { s with heap := h, toks := tk } := by
  dsimp only [pqF, wit]
  k_steps
  all_goals (try (refine he _ _ ?_; (try dsimp only); k_steps))
  all_goals first
    | exact hraise _ g _ _ _ (stS_bit hR (bit64z (by assumption))) (.inr rfl) FG' (by assumption)
    | exact hraise _ g _ _ _ (stS_no hR (bit64 (by assumption)) (by assumption)) (.inl rfl) FG' (by assumption)
    | skip
  · refine hQ ⟨none, 5, (l.length : Int) - p, v', [], [], [], []⟩ q' _ _ _ _ [] 0 (stS_go hR (bit64 (by assumption)) (by assumption) (by assumption) (by assumption)) .nil ?_ (by assumption) (by assumption)
    exact ⟨⟨_, by (k_extra "lka")⟩, ⟨0, by (dsimp only [verV]; (k_extra "lka"))⟩, ⟨_, lk_sto_miss (by kernel_rfl!) (lk_sto_miss (by kernel_rfl!) (lk_sto_miss (by kernel_rfl!) lk_sto_hit))⟩, ⟨_, _, lk_sto_hit, rfl⟩, ⟨_, by (k_extra "lka")⟩, ⟨_, by (k_extra "lka")⟩, ⟨_, by (k_extra "lka")⟩, ⟨_, by (k_extra "lka")⟩, by (k_extra "lka")⟩
end
end JaLaw
end
section
set_option Elab.async false
set_option maxRecDepth 100000
namespace JaLaw
theorem rowsJaPull0 : True := by
  k_with_none
  k_with "lka" => ((try dsimp only [List.reverse, List.reverseAux]); (repeat (first | with_reducible exact lk_hit | with_reducible exact lk_sto_hit | with_reducible exact lk_ite_hit | (with_reducible refine lk_sto_miss (by kernel_rfl!) ?_) | (with_reducible refine lk_ite_miss2 (by kernel_rfl!) ?_) | (with_reducible refine lk_miss (by kernel_rfl!) ?_) | with_reducible refine lk_rev ?_ | with_reducible assumption)))
  k_with "usef" => (case k1 => k_asm); (case k2 => k_asm); (case k3 => k_asm); (case k4 => k_asm); (case k5 => k_asm); (case k6 => first | exact rfl | assumption); (case k7 => first | exact room1 hd rfl | exact room2 hd rfl | ktr_room); (case k8 => first | exact room1 hu rfl | exact room2 hu rfl | ktr_units)
  exact True.intro
theorem rowsJaPull1 : True := by
  k_with "callWith ref" => (k_here; (with_reducible show wpAny _ _ (callWith _ (Value.ref _) _ (backTo _ (starEach [] _)) (backToKw _ (keywordEach (_ :: _) _))) _ _ _); k_dflt (refine' callWith_KW0 ?k1 ?k2 ?k3 ?_; (case k1 => with_reducible assumption); (case k2 => k_is); (case k3 => exact rfl); k_whole))
  k_with "callWith ref" => (k_here; (with_reducible show wpAny _ _ (callWith _ (Value.ref _) _ (backTo _ (starEach (_ :: _) _)) []) _ _ _); k_dflt (refine' callWith_K ?k1 ?k2 ?_; (case k1 => with_reducible assumption); (case k2 => k_is); k_whole))
  k_with "callWith ref" => (k_here; (with_reducible show wpAny _ _ (callWith _ (Value.ref _) _ (backTo _ (starEach [] _)) []) _ _ _); k_dflt (refine' callWith_K0 ?k1 ?k2 ?_; (case k1 => exact (by first | with_reducible assumption | exact Frag.In.keeps (by with_reducible assumption) (Fr.keep (by with_reducible assumption)))); (case k2 => k_is); k_whole))
  k_with "newList" => (k_here; k_dflt (refine' newList_K ?k1 ?k2 ?_; (case k1 => with_reducible assumption); (case k2 => with_reducible assumption); k_whole); intro l' h' F' N' l1; (try k_lt l1); (repeat (have := And.left l1; replace l1 := And.right l1)); (try k_sweep))
  k_with "And" => ((with_reducible show Frag.In _ _ ∧ _); refine ⟨(by first | with_reducible assumption | exact Frag.In.keeps (by with_reducible assumption) (Fr.keep (by with_reducible assumption))), ?_⟩; try dsimp only [List.nil_append, List.cons_append])
  k_with "eval Name" => (k_here; (with_reducible show wpAny _ _ (eval (Expr.Name _ _) (envOf _ _ _ _ _)) _ _ _); k_dflt (first | (refine' ld ?k1 ?k2 ?_ ?k3 ?k4 ?k5; (case k4 => kernel_rfl!); (case k1 => with_reducible assumption); (case k2 => ((try dsimp only [List.reverse, List.reverseAux]); (repeat (first | with_reducible exact lk_hit | with_reducible exact lk_sto_hit | with_reducible exact lk_ite_hit | (with_reducible refine lk_sto_miss (by kernel_rfl!) ?_) | (with_reducible refine lk_ite_miss2 (by kernel_rfl!) ?_) | (with_reducible refine lk_miss (by kernel_rfl!) ?_) | with_reducible refine lk_rev ?_)))); (case k3 => kernel_rfl!); (case k5 => decide +kernel); k_whole) | (refine' name_K ?k0 ?k1 ?k2 ?k3 ?_ ?k4 ?k5 ?k6; (case k5 => kernel_rfl!); (case k0 => with_reducible assumption); (case k1 => with_reducible assumption); (case k2 => exact topRead_of (by with_reducible assumption)); (case k3 => k_is); (case k4 => kernel_rfl!); (case k6 => decide +kernel); k_whole) | (refine' name_B ?k0 ?k1 ?k2 ?k3 ?k4 ?k5 ?_ ?k6 ?k7 ?k8; (case k7 => kernel_rfl!); (case k0 => with_reducible assumption); (case k1 => with_reducible assumption); (case k2 => exact topRead_of (by with_reducible assumption)); (case k3 => k_is); (case k4 => boot_fast); (case k5 => decide); (case k6 => kernel_rfl!); (case k8 => decide +kernel); k_whole)))
  k_with "storeName" => (k_here; (try dsimp only); (with_reducible show wpAny _ _ (storeName (envOf _ _ _ _ _) _ _) _ _ _); k_dflt (refine' store_u ?k1 ?k2 ?_ ?k3 ?k4; (case k4 => kernel_rfl!); (case k3 => kernel_rfl!); (case k1 => with_reducible assumption); (case k2 => with_reducible assumption); k_whole); intro h' F' N'; (try k_sweep))
  k_with "exec Assign" => (k_here; k_fold)
  k_with "exec If" => (k_here; k_fold)
  k_with "leaving ref" => (k_here; first | (refine' rz_made ?k1 (made_of ?k0) ?k2 ?k3 ?_; (case k0 => assumption); (case k1 => assumption); (case k2 => assumption); (case k3 => k_asm); k_whole; intro h' R'; (try dsimp only at R' ⊢)) | (refine' rz_made ?k1 ?k0 ?k2 ?k3 ?_; (case k0 => assumption); (case k1 => assumption); (case k2 => assumption); (case k3 => k_asm); k_whole; intro h' R'; (try dsimp only at R' ⊢)) | (refine' rz_on ?k1 ?k2 ?k3 ?_; (case k3 => assumption); (case k1 => assumption); (case k2 => assumption); k_whole; intro h' R'; (try dsimp only at R' ⊢)) | (refine' rz_onH ?k1 ?k2 ?k3 ?_; (case k3 => assumption); (case k1 => assumption); (case k2 => assumption); k_whole; intro h' R'; (try dsimp only at R' ⊢)))
  k_with "call ref" => (k_here; (with_reducible show wpAny _ _ (call (Value.ref 120) _ _) _ _ _); k_dflt ((refine wpAny_call ?_); (refine' pull8_abs ?k1 ?k2 ?k3 ?k4 ?k5 ?k6 ?k7 ?k8 ?kx ?kb ?ku ?kl ?k0 ?kp ?kn ?_ ?_; (k_extra "usef"); (case kx => k_mem); (case kb => k_mem); (case ku => intro _ _; k_upd); (case kl => assumption); (case k0 => assumption); (case kp => assumption); (case kn => assumption)); k_whole); (all_goals (first | (intro v' q' t' t2' h' tk' ev' eq' g' c0' c1' vl' F' N'; (try dsimp only); (try k_sweep)) | (intro e' g2' h' tk' c' F2' R'; (try dsimp only)))))
  k_with "call ref" => (k_here; (with_reducible show wpAny _ _ (call (Value.ref 134) _ _) _ _ _); k_dflt ((refine wpAny_call ?_); (refine' pull32_abs ?k1 ?k2 ?k3 ?k4 ?k5 ?k6 ?k7 ?k8 ?kx ?kb ?ku ?kl ?k0 ?kp ?kn ?_ ?_; (k_extra "usef"); (case kx => k_mem); (case kb => k_mem); (case ku => intro _ _; k_upd); (case kl => assumption); (case k0 => assumption); (case kp => assumption); (case kn => assumption)); k_whole); (all_goals (first | (intro v' q' t' t2' h' tk' ev' eq' g' c0' c1' F' N'; (try dsimp only); (try k_sweep)) | (intro e' g2' h' tk' c' F2' R'; (try dsimp only)))))
  k_with "call ref" => (k_here; (with_reducible show wpAny _ _ (call (Value.ref 148) _ _) _ _ _); k_dflt ((refine wpAny_call ?_); (refine' pullv_abs ?k1 ?k2 ?k3 ?k4 ?k5 ?k6 ?k7 ?k8 ?kx ?kb ?ku ?kl ?k0 ?kp ?kn ?_ ?_; (k_extra "usef"); (case kx => k_mem); (case kb => k_mem); (case ku => intro _ _; k_upd); (case kl => assumption); (case k0 => assumption); (case kp => assumption); (case kn => assumption)); k_whole); (all_goals (first | (intro v' q' t' t2' h' tk' ev' eq' g' c0' c1' F' N'; (try dsimp only); (try k_sweep)) | (intro e' g2' h' tk' c' F2' R'; (try dsimp only)))))
  k_with "call ref" => (k_here; (with_reducible show wpAny _ _ (call (Value.ref 113) _ _) _ _ _); k_dflt ((refine wpAny_call ?_); (refine' pull_abs ?k1 ?k2 ?k3 ?k4 ?k5 ?k6 ?k7 ?k8 ?kx ?kb ?ku ?kl ?k0 ?kp ?kn ?_ ?_; (k_extra "usef"); (case kx => k_mem); (case kb => k_mem); (case ku => intro _ _; k_upd); (case kl => assumption); (case k0 => assumption); (case kp => assumption); (case kn => assumption)); k_whole); (all_goals (first | (intro v' q' t' t2' h' tk' ev' eq' g' c0' c1' F' N'; (try dsimp only); (try k_sweep)) | (intro e' g2' h' tk' c' F2' R'; (try dsimp only)))))
  k_with "call ref" => (k_here; (with_reducible show wpAny _ _ (call (Value.ref 106) _ _) _ _ _); k_dflt ((refine wpAny_call ?_); (refine' tell_full ?k1 ?k2 ?k3 ?k4 ?k5 ?k6 ?k7 ?k8 ?kd ?kx ?_; (k_extra "usef"); (case kd => k_mem); (case kx => k_mem)); k_whole); (all_goals (first | (intro h' tk' F' N'; (try dsimp only); (try k_sweep)) )))
  k_with "call ref" => (k_here; (with_reducible show wpAny _ _ (call (Value.ref 92) _ _) _ _ _); k_dflt ((refine wpAny_call ?_); (refine' eof_full ?k1 ?k2 ?k3 ?k4 ?k5 ?k6 ?k7 ?k8 ?kd ?kx ?kb ?kl ?_; (k_extra "usef"); (case kd => k_mem); (case kx => k_mem); (case kb => k_mem); (case kl => assumption)); k_whole); (all_goals (first | (intro h' tk' F' N'; (try dsimp only); (try k_sweep)) )))
  k_with "call ref" => (k_here; (with_reducible show wpAny _ _ (call (Value.ref 271) _ _) _ _ _); k_dflt ((refine wpAny_call ?_); (refine' long_full ?k1 ?k2 ?k3 ?k4 ?k5 ?k6 ?k7 ?k8 ?kf ?kg ?_; (k_extra "usef"); (case kf => first | exact rfl | assumption); (case kg => first | exact u8_lt _ _ | assumption | (first | lia | omega))); k_whole); (all_goals (first | (intro h' tk' F' N'; (try dsimp only); (try k_sweep)) )))
  k_with "call ref" => (k_here; (with_reducible show wpAny _ _ (call (Value.ref 264) _ _) _ _ _); k_dflt ((refine wpAny_call ?_); (refine' spin_full ?k1 ?k2 ?k3 ?k4 ?k5 ?k6 ?k7 ?k8 ?kf ?kg ?_; (k_extra "usef"); (case kf => first | exact rfl | assumption); (case kg => first | exact u8_lt _ _ | assumption | (first | lia | omega))); k_whole); (all_goals (first | (intro h' tk' F' N'; (try dsimp only); (try k_sweep)) )))
  k_with "call ref" => (k_here; (with_reducible show wpAny _ _ (call (Value.ref 246) _ _) _ _ _); k_dflt ((refine wpAny_call ?_); (refine' hdr_full ?k1 ?k2 ?k3 ?k4 ?k5 ?k6 ?k7 ?k8 ?_; (k_extra "usef"); skip); k_whole); (all_goals (first | (intro x' d' a1 a2 a3 a4 a5 a6 a7 a8 h' tk' F' N' l1 l2; (try k_lt l2); (try k_lt2 l1); (try dsimp only); (try k_sweep)) )))
  k_with "eval Name" => (k_here; (with_reducible show wpAny _ _ (eval (Expr.Name _ _) (envOf _ _ _ _ _)) _ _ _); k_dflt (first | (refine' ld ?k1 ?k2 ?_ ?k3 ?k4 ?k5; (case k4 => kernel_rfl!); (case k1 => with_reducible assumption); (case k2 => (k_extra "lka")); (case k3 => kernel_rfl!); (case k5 => decide +kernel); k_whole) | (refine' name_K ?k0 ?k1 ?k2 ?k3 ?_ ?k4 ?k5 ?k6; (case k5 => kernel_rfl!); (case k0 => with_reducible assumption); (case k1 => with_reducible assumption); (case k2 => exact topRead_of (by with_reducible assumption)); (case k3 => k_is); (case k4 => kernel_rfl!); (case k6 => decide +kernel); k_whole) | (refine' name_B ?k0 ?k1 ?k2 ?k3 ?k4 ?k5 ?_ ?k6 ?k7 ?k8; (case k7 => kernel_rfl!); (case k0 => with_reducible assumption); (case k1 => with_reducible assumption); (case k2 => exact topRead_of (by with_reducible assumption)); (case k3 => k_is); (case k4 => boot_fast); (case k5 => decide); (case k6 => kernel_rfl!); (case k8 => decide +kernel); k_whole)))
  exact True.intro

section
variable {w : World} {mean : ExcName → Option Value} {mg mb : PySem.Str → Option Value} {dp un : Nat} {gd : Option (List Code)} {cn : PySem.Str} {cs : Scope} {a : Addr} {ccd : Value} {cl : List (PySem.Str × Addr)} {outer : List Env} {A₀ : Around} {base h₀ : Heap} {L : Addr} {m : PySem.Str → Option Value} {s : Shared} {Q E : Value → Shared → Prop} {R : Result → Shared → Prop}
variable {f : Nat} {fi : Int} {tf : Tok} {news : List (Addr × Obj)}
theorem long_full (B : Below A₀ base outer h₀) (F : Fr h₀ L s.heap m) (X : (K0 w.params).In h₀) (N : News h₀ L s.heap news) (T : Top jP jL mean mg mb h₀) (hk : cs.kind = .function) (hd : dp + 3 < recursionLimit) (hu : un + 16 < cLine) (hfi : fi = f) (hf : f < 256)
    (hret : ∀ (h' : Heap) (tk' : Nat), Fr h₀ L h' m → News h₀ L h' news → R (.ok (.ret (.bool (decide (128 ≤ f))))) { s with heap := h', toks := tk' }) :
    codeAny (model jprog w) (ktrTop dp un gd cn cs L a ccd cl outer) (.call (.ref 271) ⟨[.int fi tf], []⟩) R s :=
  long_ct B F X (news_sub N fun _ h => (nomatch h)) T hk hd hu hfi hf fun h' tk' F' kp => hret h' tk' F' (news_keep N kp)
theorem spin_full (B : Below A₀ base outer h₀) (F : Fr h₀ L s.heap m) (X : (K0 w.params).In h₀) (N : News h₀ L s.heap news) (T : Top jP jL mean mg mb h₀) (hk : cs.kind = .function) (hd : dp + 3 < recursionLimit) (hu : un + 16 < cLine) (hfi : fi = f) (hf : f < 256)
    (hret : ∀ (h' : Heap) (tk' : Nat), Fr h₀ L h' m → News h₀ L h' news → R (.ok (.ret (.bool (f / 32 % 2 == 1)))) { s with heap := h', toks := tk' }) :
    codeAny (model jprog w) (ktrTop dp un gd cn cs L a ccd cl outer) (.call (.ref 264) ⟨[.int fi tf], []⟩) R s :=
  spin_ct B F X (news_sub N fun _ h => (nomatch h)) T hk hd hu hfi hf fun h' tk' F' kp => hret h' tk' F' (news_keep N kp)
end
theorem rowsJaPull2 : True := by
  k_with "execs cons" => (k_here; (with_reducible show wpAny _ _ (execs (Stmt.Assign [Expr.Name (Str.ofString "version") _] (Expr.Call _ _ _ _) _ :: _) _) _ _ _); refine halt ?_)
  k_with "execs cons" => (k_here; (with_reducible show wpAny _ _ (execs (Stmt.If (Expr.UnaryOp _ _ _) _ _ _ :: Stmt.Assign _ _ _ :: _) _) _ _ _); refine halt ?_)
  k_with "exec If" => (k_here; (with_reducible show wpAny _ _ (exec (Stmt.If (Expr.Call _ _ _ _) _ _ _) _) _ _ _); refine halt ?_)
  exact True.intro
section
variable {w : World} {mean : ExcName → Option Value} {mg mb : PySem.Str → Option Value} {dp un : Nat} {gd : Option (List Code)} {cn : PySem.Str} {cs : Scope} {a : Addr} {ccd : Value} {cl : List (PySem.Str × Addr)} {outer : List Env} {A₀ : Around} {base h₀ : Heap} {L : Addr} {m : PySem.Str → Option Value} {s : Shared} {Q E : Value → Shared → Prop} {R : Result → Shared → Prop}
variable {g h : Heap} {L' lx x dx ba : Addr} {tk : Nat} {k1 k2 tq tn tc tt tg tv tp tk0 : Tok} {p q r n k : Int} {l d sc tok tag : List UInt8} {v c f : Nat} {M : PySem.Str → Option Value} {QQ : Flow → Shared → Prop} {rdx : Option (Row × Int)} {EE : Value → Shared → Prop}
set_option maxHeartbeats 40000000 in
theorem pq_if (B' : Below (ktrTop dp un gd cn cs L a ccd cl outer) base (envX cn cs L a ccd cl :: outer) g) (X' : (K0 w.params).In g) (T' : Top jP jL mean mg mb g) (hk : cs.kind = .function) (hd : dp + 9 < recursionLimit) (hu : un + 40 < cLine) (FG' : Fr h₀ L g m)
    (hl : l.length ≤ 100000) (hne : @Ne Nat dx x ∧ @Ne Nat dx ba ∧ @Ne Nat x ba) (n1 : @Ne Nat dx x) (n2 : @Ne Nat dx ba) (n3 : @Ne Nat x ba) (n4 : @Ne Nat lx dx) (n5 : @Ne Nat lx x) (n6 : @Ne Nat lx ba)
    (hraise : ∀ (e : Addr) (g h' : Heap) (tk2 : Nat) (cls : Value), rdx = none → cls = .ref 31 ∨ cls = .type "ValueError" → Fr h₀ L g m → Rz base g (envX cn cs L a ccd cl :: outer) e cls h' → R (.error (.ref e)) { s with heap := h', toks := tk2 }) (he : ∀ e s', wpAny (model jprog w) ((ktrTop dp un gd cn cs L a ccd cl outer).deeper (envOf (Str.ofString "pull_quic_header") s25s L' 279 (.ref 278))) (leaving (envOf (Str.ofString "pull_quic_header") s25s L' 279 (.ref 278)) e) (fun _ s'' => R (.error e) s'') (fun e' s'' => R (.error e') s'') s' → EE e s') (hR : rdx = readP l p k) (ev : f = u8 l p) (eq : q = p + 1) (eg : ¬ (l.length : Int) < p + 1) (hf : f < 256) (hr0 : 0 ≤ q) (hr1 : q ≤ l.length)
    (F' : Fr g L' h M) (N' : News g L' h [(lx, listOf #[] 0), (dx, bufD w.params k1 k2 ba q tq), (x, instObj 193 dx), (ba, baO l)]) (b1 : M (Str.ofString "buf") = some (.ref x)) (b2 : M (Str.ofString "packet_start") = some (.int p tv)) (b6 : M (Str.ofString "supported_versions") = some (.ref lx))
    (h1 : M (Str.ofString "first_byte") = some (.int f tn)) (h2 : M (Str.ofString "token") = some (.bytes #[] tt))
    (h3 : M (Str.ofString "integrity_tag") = some (.bytes #[] tg)) (h4 : M (Str.ofString "host_cid_length") = some (.int k tk0))
    (hQ : ∀ row stop M' h' tk' tq' vs cap, rdx = some (row, stop) → IntsAre vs row.vers → Tail M' lx p row → Fr g L' h' M' → News g L' h' [(lx, listOf vs.toArray cap), (dx, bufD w.params k1 k2 ba stop tq'), (x, instObj 193 dx), (ba, baO l)] → QQ .next { s with heap := h', toks := tk' }) :
    wpAny (model jprog w) ((ktrTop dp un gd cn cs L a ccd cl outer).deeper (envOf (Str.ofString "pull_quic_header") s25s L' 279 (.ref 278))) (exec pqI (envOf (Str.ofString "pull_quic_header") s25s L' 279 (.ref 278))) QQ EE { s with heap := h, toks := tk } := by
  dsimp only [pqI, wit]
  refine wpAny_If ?_
  k_steps
  · refine Halt.mk ?_
    exact pq_long B' X' T' hk hd hu FG' hl hne n1 n2 n3 n4 n5 n6 hraise he (hR.trans (readP_long eg ev eq (by assumption))) hf hr0 hr1 (by assumption) (by assumption) b1 b2 b6 h1 h2 h3 hQ
  · refine Halt.mk ?_
    exact pq_short B' X' T' hk hd hu FG' hl hne n1 n2 n3 n4 n5 n6 hraise he (hR.trans (readP_short eg ev eq (by assumption))) hf hr0 hr1 (by assumption) (by assumption) b1 b2 b6 h1 h2 h3 h4 hQ
set_option maxHeartbeats 40000000 in
theorem pullq_ct (B : Below A₀ base outer h₀) (F : Fr h₀ L s.heap m) (X : (K0 w.params).In h₀) (N : News h₀ L s.heap [(dx, bufD w.params k1 k2 ba p tp), (x, instObj 193 dx), (ba, baO l)]) (T : Top jP jL mean mg mb h₀) (hk : cs.kind = .function) (hd : dp + 9 < recursionLimit) (hu : un + 40 < cLine) (hl : l.length ≤ 100000) (hp : 0 ≤ p ∧ p ≤ l.length) (hne : @Ne Nat dx x ∧ @Ne Nat dx ba ∧ @Ne Nat x ba)
    (hret : ∀ (row : Row) (stop : Int) (hx hdx lx : Addr) (a1 a2 a3 a4 a5 a6 a7 a8 tv tk' ts td tc tt tg tb : Tok) (vs : List Value) (cap : Nat) (h' : Heap) (tk2 : Nat), readP l p k = some (row, stop) → IntsAre vs row.vers → Fr h₀ L h' m →
      News h₀ L h' ((hx, instObj 246 hdx) :: (hdx, hdrD w.params a1 a2 a3 a4 a5 a6 a7 a8 (verV row.ver tv) (.int row.kind tk') (.int row.size ts) (.bytes row.dcid.toArray td) (.bytes row.scid.toArray tc) (.bytes row.token.toArray tt) (.bytes row.tag.toArray tg) (.ref lx)) ::
        (lx, listOf vs.toArray cap) :: [(dx, bufD w.params k1 k2 ba stop tb), (x, instObj 193 dx), (ba, baO l)]) → R (.ok (.ret (.ref hx))) { s with heap := h', toks := tk2 })
    (hraise : ∀ (e : Addr) (g h' : Heap) (tk2 : Nat) (cls : Value), readP l p k = none → cls = .ref 31 ∨ cls = .type "ValueError" → Fr h₀ L g m → Rz base g (envX cn cs L a ccd cl :: outer) e cls h' → R (.error (.ref e)) { s with heap := h', toks := tk2 }) :
    codeAny (model jprog w) (ktrTop dp un gd cn cs L a ccd cl outer) (.call (.ref 279) ⟨[.ref x, .int k tk0], []⟩) R s := by
  obtain ⟨n1, n2, n3⟩ := hne
  have hne : @Ne Nat dx x ∧ @Ne Nat dx ba ∧ @Ne Nat x ba := ⟨n1, n2, n3⟩
  obtain ⟨hp0, hp1⟩ := hp
  k_dflt (refine' enter_def (binds := [(Str.ofString "buf", .ref x), (Str.ofString "host_cid_length", .int k tk0)]) ?k1 ?k2 ?k3 ?k4 ?k5 ?kA ?kF ?kK ?k6 ?k7 ?k8 ?k9 ?kB ?_ ?c2 ?c3 ?c4 ?c5; (case kA => exact rfl); (case kF => exact rfl); (case kK => assumption); (case k1 => k_asm); (case k2 => k_asm); (case k3 => k_asm); (case k4 => k_asm); (case k5 => k_asm); (case k6 => k_is); (case k7 => k_is); (case k8 => first | exact room0 hd | ktr_room); (case k9 => first | exact BindsTo.of_eq (by kernel_rfl!) | exact BindsTo.of_eq rfl | exact binds_K (by k_in) rfl (by k_is) rfl rfl rfl); (case c5 => decide); (case kB => exact locs rfl); (case c2 => exact rfl); (case c3 => exact rfl); (case c4 => exact rfl); k_whole; intro g' L' h' FG' F' N' B' X' T' hkp hge; (try dsimp only); k_fold)
  k_steps
  all_goals first
    | exact hraise _ g' _ _ _ (readP_a (by assumption)) (.inl rfl) FG' (by assumption)
    | skip
  refine Halt.mk ?_
  refine' pq_if (tn := t') (rdx := readP l p k) B' X' T' hk hd hu FG' hl hne n1 n2 n3 ?o1 ?o2 ?o3 hraise (fun _ _ x => x) rfl (by assumption) (by assumption) (by assumption) (by assumption) (by assumption) (by assumption) F' N' ?z1 ?z2 ?z3 ?z4 ?z5 ?z6 ?z7 (fun row stop M' h' tk' tq' vs cap er hi ht F4 N4 => ?zz)
  case o1 => exact Nat.ne_of_gt (by assumption)
  case o2 => exact Nat.ne_of_gt (by assumption)
  case o3 => exact Nat.ne_of_gt (by assumption)
  case z1 => (k_extra "lka")
  case z2 => (k_extra "lka")
  case z3 => (k_extra "lka")
  case z4 => (k_extra "lka")
  case z5 => (k_extra "lka")
  case z6 => (k_extra "lka")
  case z7 => (k_extra "lka")
  case zz =>
    obtain ⟨⟨t1, c1⟩, ⟨t2, c2⟩, ⟨t3, c3⟩, ⟨e, t4, c4, es⟩, ⟨t5, c5⟩, ⟨t6, c6⟩, ⟨t7, c7⟩, ⟨t8, c8⟩, c9⟩ := ht
    clear F' N'
    k_steps
    refine' hret row stop _ _ _ _ _ _ _ _ _ _ _ _ _ _ _ _ _ _ _ vs cap _ _ er hi (by assumption) ?nn
    case nn =>
      rw [es]
      assumption
end
end JaLaw
end
section
set_option Elab.async false
set_option maxRecDepth 100000
namespace JaLaw
theorem rowsJaTag0 : True := by
  k_with_none
  k_with "usef" => (case k1 => k_asm); (case k2 => k_asm); (case k3 => k_asm); (case k4 => k_asm); (case k5 => k_asm); (case k6 => first | exact rfl | assumption); (case k7 => first | exact room1 hd rfl | exact room2 hd rfl | ktr_room); (case k8 => first | exact room1 hu rfl | exact room2 hu rfl | ktr_units)
  k_with "sz" => (first | with_reducible assumption | ((try simp only [List.length_append, List.length_take, List.length_drop, List.length_cons, List.length_nil, toBE_length, List.length_replicate]); (first | lia | omega)))
  exact True.intro
theorem rowsJaTag1 : True := by
  k_with "callWith ref" => (k_here; (with_reducible show wpAny _ _ (callWith _ (Value.ref _) _ (backTo _ (starEach [] _)) (backToKw _ (keywordEach (_ :: _) _))) _ _ _); k_dflt (refine' callWith_KW0 ?k1 ?k2 ?k3 ?_; (case k1 => with_reducible assumption); (case k2 => k_is); (case k3 => exact rfl); k_whole))
  k_with "callWith ref" => (k_here; (with_reducible show wpAny _ _ (callWith _ (Value.ref _) _ (backTo _ (starEach (_ :: _) _)) []) _ _ _); k_dflt (refine' callWith_K ?k1 ?k2 ?_; (case k1 => with_reducible assumption); (case k2 => k_is); k_whole))
  k_with "callWith ref" => (k_here; (with_reducible show wpAny _ _ (callWith _ (Value.ref _) _ (backTo _ (starEach [] _)) []) _ _ _); k_dflt (refine' callWith_K0 ?k1 ?k2 ?_; (case k1 => exact (by first | with_reducible assumption | exact Frag.In.keeps (by with_reducible assumption) (Fr.keep (by with_reducible assumption)))); (case k2 => k_is); k_whole))
  k_with "And" => ((with_reducible show Frag.In _ _ ∧ _); refine ⟨(by first | with_reducible assumption | exact Frag.In.keeps (by with_reducible assumption) (Fr.keep (by with_reducible assumption))), ?_⟩; try dsimp only [List.nil_append, List.cons_append])
  k_with "eval Name" => (k_here; (with_reducible show wpAny _ _ (eval (Expr.Name _ _) (envOf _ _ _ _ _)) _ _ _); k_dflt (first | (refine' ld ?k1 ?k2 ?_ ?k3 ?k4 ?k5; (case k4 => kernel_rfl!); (case k1 => with_reducible assumption); (case k2 => ((try dsimp only [List.reverse, List.reverseAux]); (repeat (first | with_reducible exact lk_hit | with_reducible exact lk_sto_hit | with_reducible exact lk_ite_hit | (with_reducible refine lk_sto_miss (by kernel_rfl!) ?_) | (with_reducible refine lk_ite_miss2 (by kernel_rfl!) ?_) | (with_reducible refine lk_miss (by kernel_rfl!) ?_) | with_reducible refine lk_rev ?_)))); (case k3 => kernel_rfl!); (case k5 => decide +kernel); k_whole) | (refine' name_K ?k0 ?k1 ?k2 ?k3 ?_ ?k4 ?k5 ?k6; (case k5 => kernel_rfl!); (case k0 => with_reducible assumption); (case k1 => with_reducible assumption); (case k2 => exact topRead_of (by with_reducible assumption)); (case k3 => k_is); (case k4 => kernel_rfl!); (case k6 => decide +kernel); k_whole) | (refine' name_B ?k0 ?k1 ?k2 ?k3 ?k4 ?k5 ?_ ?k6 ?k7 ?k8; (case k7 => kernel_rfl!); (case k0 => with_reducible assumption); (case k1 => with_reducible assumption); (case k2 => exact topRead_of (by with_reducible assumption)); (case k3 => k_is); (case k4 => boot_fast); (case k5 => decide); (case k6 => kernel_rfl!); (case k8 => decide +kernel); k_whole)))
  k_with "storeName" => (k_here; (try dsimp only); (with_reducible show wpAny _ _ (storeName (envOf _ _ _ _ _) _ _) _ _ _); k_dflt (refine' store_u ?k1 ?k2 ?_ ?k3 ?k4; (case k4 => kernel_rfl!); (case k3 => kernel_rfl!); (case k1 => with_reducible assumption); (case k2 => with_reducible assumption); k_whole); intro h' F' N'; (try k_sweep))
  k_with "exec Assign" => (k_here; k_fold)
  k_with "exec If" => (k_here; k_fold)
  k_with "exec Expr" => (k_here; k_fold)
  exact True.intro
theorem rowsJaTag2 : True := by
  k_with "call builtin:len" => (k_here; (with_reducible show wpAny _ _ (call (Value.builtin "len") [Value.bytes _ _]) _ _ _); k_dflt (refine bs_len (by (k_extra "sz")) ?_; intro _ _))
  k_with "call ref" => (k_here; (with_reducible show wpAny _ _ (call (Value.ref _) [Value.bytes _ _, Value.str _ _]) _ _ _); kfb_any; k_dflt (refine fb_call (by k_asm) (by k_mem) (by (k_extra "sz")) ?_); intro _ _)
  k_with "call ref" => (k_here; (with_reducible show wpAny _ _ (call (Value.ref 120) _ _) _ _ _); k_dflt ((refine wpAny_call ?_); (refine' pull8_full ?k1 ?k2 ?k3 ?k4 ?k5 ?k6 ?k7 ?k8 ?kx ?kb ?ku ?kl ?kp ?kn ?_ ?_; (k_extra "usef"); (case kx => k_mem); (case kb => k_mem); (case ku => intro _; k_upd); (case kl => (k_extra "sz")); (case kp => (k_extra "sz")); (case kn => first | with_reducible assumption | exact ⟨by k_ne, by k_ne, by k_ne⟩ | (first | lia | omega))); k_whole); (all_goals (first | (intro t' t2' h' tk' c1' F' N'; (try dsimp only); (try k_sweep)) | (intro e' g2' h' tk' c' F2' R'; (try dsimp only)))))
  k_with "call ref" => (k_here; (with_reducible show wpAny _ _ (call (Value.ref 134) _ _) _ _ _); k_dflt ((refine wpAny_call ?_); (refine' pull32_full ?k1 ?k2 ?k3 ?k4 ?k5 ?k6 ?k7 ?k8 ?kx ?kb ?ku ?kl ?kp ?kn ?_ ?_; (k_extra "usef"); (case kx => k_mem); (case kb => k_mem); (case ku => intro _; k_upd); (case kl => (k_extra "sz")); (case kp => (k_extra "sz")); (case kn => first | with_reducible assumption | exact ⟨by k_ne, by k_ne, by k_ne⟩ | (first | lia | omega))); k_whole); (all_goals (first | (intro t' t2' h' tk' c1' F' N'; (try dsimp only); (try k_sweep)) | (intro e' g2' h' tk' c' F2' R'; (try dsimp only)))))
  k_with "call ref" => (k_here; (with_reducible show wpAny _ _ (call (Value.ref 148) _ _) _ _ _); k_dflt ((refine wpAny_call ?_); (refine' pullv_full ?k1 ?k2 ?k3 ?k4 ?k5 ?k6 ?k7 ?k8 ?kx ?kb ?ku ?kl ?kp ?kn ?_ ?_; (k_extra "usef"); (case kx => k_mem); (case kb => k_mem); (case ku => intro _; k_upd); (case kl => (k_extra "sz")); (case kp => (k_extra "sz")); (case kn => first | with_reducible assumption | exact ⟨by k_ne, by k_ne, by k_ne⟩ | (first | lia | omega))); k_whole); (all_goals (first | (intro t' t2' h' tk' c0' c1' F' N'; (try dsimp only); (try k_sweep)) | (intro e' g2' h' tk' c' F2' R'; (try dsimp only)))))
  k_with "call ref" => (k_here; (with_reducible show wpAny _ _ (call (Value.ref 92) _ _) _ _ _); k_dflt ((refine wpAny_call ?_); (refine' eof_full ?k1 ?k2 ?k3 ?k4 ?k5 ?k6 ?k7 ?k8 ?kd ?kx ?kb ?kl ?_; (k_extra "usef"); (case kd => k_mem); (case kx => k_mem); (case kb => k_mem); (case kl => (k_extra "sz"))); k_whole); (all_goals (first | (intro h' tk' F' N'; (try dsimp only); (try k_sweep)) )))
  k_with "call ref" => (k_here; (with_reducible show wpAny _ _ (call (Value.ref 106) _ _) _ _ _); k_dflt ((refine wpAny_call ?_); (refine' tell_full ?k1 ?k2 ?k3 ?k4 ?k5 ?k6 ?k7 ?k8 ?kd ?kx ?_; (k_extra "usef"); (case kd => k_mem); (case kx => k_mem)); k_whole); (all_goals (first | (intro h' tk' F' N'; (try dsimp only); (try k_sweep)) )))
  k_with "getAttr ref" => (k_here; k_dflt ((refine' get_prop ?p1 ?p2 ?p3 ?p4 ?p5 ?p6 ?p7 ?p8 ?p9 ?_; (case p1 => k_asm); (case p2 => k_asm); (case p3 => k_inst); (case p4 => k_is); (case p5 => k_is); (case p6 => k_is); (case p7 => k_is); (case p8 => k_is); (case p9 => k_is); k_whole); (show codeAny _ _ (.call (.ref 69) _) _ _); (refine' cap_full ?k1 ?k2 ?k3 ?k4 ?k5 ?k6 ?k7 ?k8 ?kd ?kx ?kb ?kl ?_; (k_extra "usef"); (case kd => k_mem); (case kx => k_mem); (case kb => k_mem); (case kl => (k_extra "sz"))); k_whole); (intro t' h' tk' F' N'; (try dsimp only); (try k_sweep)); (refine handed_on rfl ?_))
  k_with "getAttr ref" => (k_here; k_dflt ((refine' get_prop ?p1 ?p2 ?p3 ?p4 ?p5 ?p6 ?p7 ?p8 ?p9 ?_; (case p1 => k_asm); (case p2 => k_asm); (case p3 => k_inst); (case p4 => k_is); (case p5 => k_is); (case p6 => k_is); (case p7 => k_is); (case p8 => k_is); (case p9 => k_is); k_whole); (show codeAny _ _ (.call (.ref 77) _) _ _); (refine' data_full ?k1 ?k2 ?k3 ?k4 ?k5 ?k6 ?k7 ?k8 ?kd ?kx ?kb ?kl ?kp ?_; (k_extra "usef"); (case kd => k_mem); (case kx => k_mem); (case kb => k_mem); (case kl => (k_extra "sz")); (case kp => (first | lia | omega))); k_whole); (intro t' h' tk' F' N'; (try dsimp only); (try k_sweep)); (refine handed_on rfl ?_))
  k_with "call ref" => (k_here; (with_reducible show wpAny _ _ (call (Value.ref 162) _ _) _ _ _); k_dflt ((refine wpAny_call ?_); (refine' push8_full ?k1 ?k2 ?k3 ?k4 ?k5 ?k6 ?k7 ?k8 ?kq ?kx ?kb ?ku ?kl ?kp ?kn ?_; (k_extra "usef"); (case kq => first | exact rfl | assumption); (case kx => k_mem); (case kb => k_mem); (case ku => intro _ _; k_upd); (case kl => (k_extra "sz")); (case kp => (k_extra "sz")); (case kn => first | with_reducible assumption | exact ⟨by k_ne, by k_ne, by k_ne⟩ | (first | lia | omega))); k_whole); (all_goals (first | (intro ba' t' h' tk' hn' F' N'; (try simp only [AllNe, and_true] at hn'); (repeat (rcases hn' with ⟨_, hn'⟩)); (try dsimp only); (try k_sweep)) )))
  k_with "call ref" => (k_here; (with_reducible show wpAny _ _ (call (Value.ref 176) _ _) _ _ _); k_dflt ((refine wpAny_call ?_); (refine' push32_full ?k1 ?k2 ?k3 ?k4 ?k5 ?k6 ?k7 ?k8 ?kq ?kx ?kb ?ku ?kl ?kp ?kn ?_; (k_extra "usef"); (case kq => first | exact rfl | assumption); (case kx => k_mem); (case kb => k_mem); (case ku => intro _ _; k_upd); (case kl => (k_extra "sz")); (case kp => (k_extra "sz")); (case kn => first | with_reducible assumption | exact ⟨by k_ne, by k_ne, by k_ne⟩ | (first | lia | omega))); k_whole); (all_goals (first | (intro ba' t' h' tk' hn' F' N'; (try simp only [AllNe, and_true] at hn'); (repeat (rcases hn' with ⟨_, hn'⟩)); (try dsimp only); (try k_sweep)) )))
  k_with "call ref" => (k_here; (with_reducible show wpAny _ _ (call (Value.ref 155) _ _) _ _ _); k_dflt ((refine wpAny_call ?_); (refine' push_w ?k1 ?k2 ?k3 ?k4 ?k5 ?k6 ?k7 ?k8 ?kq ?kx ?kb ?ku ?kl ?kp ?kn ?_; (k_extra "usef"); (case kq => first | exact rfl | assumption); (case kx => k_mem); (case kb => k_mem); (case ku => intro _ _; k_upd); (case kl => (k_extra "sz")); (case kp => (k_extra "sz")); (case kn => first | with_reducible assumption | exact ⟨by k_ne, by k_ne, by k_ne⟩ | (first | lia | omega))); k_whole); (all_goals (first | (intro ba' t' h' tk' hn' F' N'; (try simp only [AllNe, and_true] at hn'); (repeat (rcases hn' with ⟨_, hn'⟩)); (try dsimp only); (try k_sweep)) )))
  k_with "call ref" => (k_here; (with_reducible show wpAny _ _ (call (Value.ref 367) _ _) _ _ _); k_dflt ((refine wpAny_call ?_); (refine' seal_full ?k1 ?k2 ?k3 ?k4 ?k5 ?k6 ?k7 ?k8 ?ka ?kb ?kc ?kd ?_; (k_extra "usef"); (case ka => (first | exact Nat.le_of_ble_eq_true rfl | (k_extra "sz"))); (case kb => (first | exact Nat.le_of_ble_eq_true rfl | (k_extra "sz"))); (case kc => (first | exact Nat.le_of_ble_eq_true rfl | (k_extra "sz"))); (case kd => (k_extra "sz"))); k_whole); (all_goals (first | (intro t' h' tk' F' N'; (try dsimp only); (try k_sweep)) )))
  exact True.intro

theorem seal_len (a b c d : List UInt8) : (sealP a b c d).length = 16 := toBE_length _ _
theorem rowsJaTag3 : True := by
  k_with "call builtin:len" => (k_here; (with_reducible show wpAny _ _ (call (Value.builtin "len") [Value.bytes (List.toArray (sealP _ _ _ _)) _]) _ _ _); k_dflt (refine bs_len (by rw [seal_len]; decide) ?_; intro _ _; (try rw [seal_len])))
  exact True.intro
noncomputable def rKey (v : Nat) : List UInt8 := if v = 1798521807 then [143, 180, 176, 27, 86, 172, 72, 226, 96, 251, 203, 206, 173, 124, 204, 146] else [190, 12, 105, 11, 159, 102, 87, 90, 29, 118, 107, 84, 227, 104, 200, 78]
noncomputable def rNonce (v : Nat) : List UInt8 := if v = 1798521807 then [216, 105, 105, 188, 45, 124, 109, 153, 144, 239, 176, 74] else [70, 21, 153, 211, 93, 99, 43, 242, 35, 152, 37, 187]
/-- the seal of a retry, in plain words -/
noncomputable def rTag (v : Nat) (od pk : List UInt8) : List UInt8 := sealP (rKey v) (rNonce v) [] (toBE (od.length % 2 ^ 8) 1 ++ od ++ pk)
theorem rTag_length (v : Nat) (od pk : List UInt8) : (rTag v od pk).length = 16 := seal_len _ _ _ _
section
variable {w : World} {mean : ExcName → Option Value} {mg mb : PySem.Str → Option Value} {dp un : Nat} {gd : Option (List Code)} {cn : PySem.Str} {cs : Scope} {a : Addr} {ccd : Value} {cl : List (PySem.Str × Addr)} {outer : List Env} {A₀ : Around} {base h₀ : Heap} {L : Addr} {m : PySem.Str → Option Value} {s : Shared} {Q E : Value → Shared → Prop} {R : Result → Shared → Prop}
variable {pk od : List UInt8} {v : Nat} {t1 t2 t3 : Tok}
set_option maxHeartbeats 40000000 in
theorem tag_ct (B : Below A₀ base outer h₀) (F : Fr h₀ L s.heap m) (X : (K0 w.params).In h₀) (N : News h₀ L s.heap []) (T : Top jP jL mean mg mb h₀) (hk : cs.kind = .function) (hd : dp + 9 < recursionLimit) (hu : un + 40 < cLine) (hv : v = 1 ∨ v = 1798521807) (h1 : pk.length ≤ 150) (h2 : od.length ≤ 20)
    (hret : ∀ (t : Tok) (h' : Heap) (tk' : Nat), Fr h₀ L h' m → Keeps [] s.heap h' → R (.ok (.ret (.bytes (rTag v od pk).toArray t))) { s with heap := h', toks := tk' }) :
    codeN (model jprog w) (ktrTop dp un gd cn cs L a ccd cl outer) (.call (.ref 257) ⟨[.bytes pk.toArray t1, .bytes od.toArray t2], [(PySem.Str.ofString "version", .int (v : Int) t3), (PySem.Str.ofString "seal", .ref 367)]⟩) R s := by
  k_dflt (refine' enter_defN (binds := [(Str.ofString "packet_without_tag", .bytes pk.toArray t1), (Str.ofString "original_destination_cid", .bytes od.toArray t2), (Str.ofString "version", .int (v : Int) t3), (Str.ofString "seal", .ref 367)]) ?k1 ?k2 ?k3 ?k4 ?k5 ?kA ?kF ?kK ?k6 ?k7 ?k8 ?k9 ?kB ?_ ?c2 ?c3 ?c4 ?c5; (case kA => exact rfl); (case kF => exact rfl); (case kK => assumption); (case k1 => k_asm); (case k2 => k_asm); (case k3 => k_asm); (case k4 => k_asm); (case k5 => k_asm); (case k6 => k_is); (case k7 => k_is); (case k8 => first | exact room0 hd | ktr_room); (case k9 => first | exact BindsTo.of_eq rfl | exact binds_K (by k_in) rfl (by k_is) rfl rfl rfl); (case c5 => decide); (case kB => exact locs rfl); (case c2 => exact rfl); (case c3 => exact rfl); (case c4 => exact rfl); k_whole; intro g' L' h' FG' F' N' B' X' T' hkp hge; (try dsimp only); (try k_fold))
  refine n_fold fun qk ek hq he => ?_
  refine n_cons (n_assign_name rfl (n_call_name ?_))
  k_steps
  refine n_cKW0 (K := K0 w.params) (by k_is) rfl ?_
  k_steps
  (with_reducible rename Fr g' _ _ _ => kF)
  (with_reducible rename News g' _ _ _ => kN)
  refine wpN_call (bufc_ct B' kF X' kN T' rfl (by first | exact room1 hd rfl | exact room2 hd rfl | exact room0 hd | ktr_room) (by first | exact room1 hu rfl | exact room2 hu rfl | exact room0 hu | ktr_units) (n := 1 + od.length + pk.length) (by (first | lia | omega)) (by (first | lia | omega)) fun x dx ba k1 k2 tp2 h' tk' F' N' l1 l2 n1 n2 n3 => ?_)
  clear kF kN
  have n4 : @Ne Nat dx x := Nat.ne_of_lt l1
  replace N' : News g' L' h' ((x, instObj 193 dx) :: (dx, bufD w.params k1 k2 ba ((([] : List UInt8).length : Nat) : Int) tp2) :: (ba, baO (([] : List UInt8) ++ List.replicate (1 + od.length + pk.length) 0)) :: []) := N'
  dsimp only
  k_steps
  refine wpN_any ?_
  subst hq he
  k_steps
  · (rename Keeps _ _ _ => kK)
    have e1 : v = 1798521807 := by (first | lia | omega)
    have hz : rTag v od pk = sealP [143, 180, 176, 27, 86, 172, 72, 226, 96, 251, 203, 206, 173, 124, 204, 146] [216, 105, 105, 188, 45, 124, 109, 153, 144, 239, 176, 74] [] (toBE (od.length % 2 ^ 8) 1 ++ od ++ pk) := by
      unfold rTag rKey rNonce
      rw [if_pos e1, if_pos e1]
    rw [Int.toNat_natCast, List.take_left, ← hz]
    exact hret _ _ _ (by assumption) kK
  · (rename Keeps _ _ _ => kK)
    have e1 : ¬ v = 1798521807 := by (first | lia | omega)
    have hz : rTag v od pk = sealP [190, 12, 105, 11, 159, 102, 87, 90, 29, 118, 107, 84, 227, 104, 200, 78] [70, 21, 153, 211, 93, 99, 43, 242, 35, 152, 37, 187] [] (toBE (od.length % 2 ^ 8) 1 ++ od ++ pk) := by
      unfold rTag rKey rNonce
      rw [if_neg e1, if_neg e1]
    rw [Int.toNat_natCast, List.take_left, ← hz]
    exact hret _ _ _ (by assumption) kK
  · (rename @Ne Int _ _ => hbad)
    refine absurd ?_ hbad
    simp only [List.nil_append, List.length_append, List.length_drop, List.length_replicate, toBE_length]
    (first | lia | omega)
variable {news : List (Addr × Obj)}
theorem tag_full (B : Below A₀ base outer h₀) (F : Fr h₀ L s.heap m) (X : (K0 w.params).In h₀) (N : News h₀ L s.heap news) (T : Top jP jL mean mg mb h₀) (hk : cs.kind = .function) (hd : dp + 9 < recursionLimit) (hu : un + 40 < cLine) (hv : v = 1 ∨ v = 1798521807) (h1 : pk.length ≤ 150) (h2 : od.length ≤ 20)
    (hret : ∀ (t : Tok) (h' : Heap) (tk' : Nat), Fr h₀ L h' m → News h₀ L h' news → R (.ok (.ret (.bytes (rTag v od pk).toArray t))) { s with heap := h', toks := tk' }) :
    codeN (model jprog w) (ktrTop dp un gd cn cs L a ccd cl outer) (.call (.ref 257) ⟨[.bytes pk.toArray t1, .bytes od.toArray t2], [(PySem.Str.ofString "version", .int (v : Int) t3), (PySem.Str.ofString "seal", .ref 367)]⟩) R s :=
  tag_ct B F X (news_sub N fun _ h => (nomatch h)) T hk hd hu hv h1 h2 fun t h' tk' F' kp => hret t h' tk' F' (news_keep N kp)
end
end JaLaw
end
section
open PySem.Calls Builtin
set_option Elab.async false
set_option maxRecDepth 100000
namespace JaLaw
/-! b''.join of a list of bytes -/
inductive BytesAre : List Value → List (List UInt8) → Prop
  | nil : BytesAre [] []
  | cons (l : List UInt8) (t : Tok) {vs : List Value} {ls : List (List UInt8)} (h : BytesAre vs ls) : BytesAre (.bytes l.toArray t :: vs) (l :: ls)
theorem BytesAre.length {vs : List Value} {ls : List (List UInt8)} (h : BytesAre vs ls) : vs.length = ls.length := by
  induction h with
  | nil => rfl
  | cons l t h ih => rw [List.length_cons, List.length_cons, ih]
theorem BytesAre.get {vs : List Value} {ls : List (List UInt8)} (h : BytesAre vs ls) : ∀ (i : Nat) (hi : i < ls.length), ∃ t, vs[i]? = some (.bytes ls[i].toArray t) := by
  induction h with
  | nil => intro i hi; exact absurd hi (Nat.not_lt_zero _)
  | cons l t h ih =>
    intro i hi
    cases i with
    | zero => exact ⟨t, rfl⟩
    | succ i => exact ih i (by rw [List.length_cons] at hi; (first | lia | omega))
theorem BytesAre.snoc {vs : List Value} {ls : List (List UInt8)} (h : BytesAre vs ls) (l : List UInt8) (t : Tok) : BytesAre (vs ++ [.bytes l.toArray t]) (ls ++ [l]) := by
  induction h with
  | nil => exact .cons l t .nil
  | cons l' t' h ih => exact .cons l' t' ih
theorem joined_go : ∀ (ps : List (List UInt8)) (k : Nat) (out : Array UInt8), (((ps.map List.toArray).zipIdx k).foldl (fun out (x : Array UInt8 × Nat) => (if x.2 > 0 then out ++ #[] else out) ++ x.1) out) = out ++ ps.flatten.toArray
  | [], k, out => by simp
  | p :: ps, k, out => by
    rw [List.map_cons, List.zipIdx_cons, List.foldl_cons, joined_go ps]
    simp
theorem joined_nil (ps : List (List UInt8)) : Bytes.joined #[] (ps.map List.toArray) = ps.flatten.toArray := by
  have := joined_go ps 0 #[]
  unfold Bytes.joined
  rw [show (#[] : Array UInt8) ++ ps.flatten.toArray = ps.flatten.toArray by simp] at this
  exact this
theorem slot_join : Slot "bytes" "join" "bytes.join" :=
  .of (owner := "bytes") (n := "join") (by rw [typeLookup_type, builtinLookup_eq_fast]; kernel_rfl) (by decide +kernel) (by decide +kernel) (by decide +kernel)
    (by first | exact .inl (by decide +kernel) | exact .inr (by decide +kernel)) (by rw [isSubtype_type]; kernel_rfl)
theorem type_join : typeOf (.builtin "bytes.join") = pure (.type "method_descriptor") := by show builtinType _ = _; rw [builtinType_eq_fast]; kernel_rfl
theorem entry_join : entryFor table "bytes.join" = some Builtin.«bytes.join» := entryFor_of_tree (by kernel_rfl)
theorem args_join (a b : Value) : argsOk "bytes.join" ⟨[a, b], []⟩ := by unfold argsOk; kernel_rfl
theorem take_join {id : String} {b : Array UInt8} {t : Tok} : Bytes.takeBufferQuiet? id (.bytes b t) 0 = pure (some (b, none)) := by
  have e : ((0 : Int) == Bytes.fullReadOnly) = false := by decide
  unfold Bytes.takeBufferQuiet? Bytes.takeBuffer?
  rw [KBy.special_eq KBy.look_buffer, KBy.own_buffer, e, KBy.buffer_eq]
  rfl
section
variable {M : Model} {A : Around} {E : Value → Shared → Prop} {s : Shared} {a : Addr} {vs : List Value} {ls : List (List UInt8)} {n : Nat} {t : Tok}
theorem seq_join {Q : Option (Array Value) → Shared → Prop} (h : s.heap.get? a = some (listOf vs.toArray n)) (hQ : Q (some vs.toArray) s) : wpAny M A (seqItems? (.ref a)) Q E s := by
  unfold seqItems?
  exact wpAny_bind (wpAny_load h (wpAny_pure hQ))
theorem letGo_join {keep : List Value} {Q : Unit → Shared → Prop} : ∀ (vs : List Value), Q () s → wpAny M A (Bytes.joinLetGo (vs.map fun v => (v, none)) keep) Q E s
  | [], h => wpAny_pure h
  | v :: vs, h => by
    rw [List.map_cons]
    unfold Bytes.joinLetGo
    refine wpAny_bind ?_
    show wpAny _ _ (letGo [v] _) _ _ _
    unfold letGo
    refine wpAny_bind (wpAny_holding (wpAny_point ?_))
    exact wpAny_pure (letGo_join vs h)
theorem BytesAre.noHeap {vs : List Value} {ls : List (List UInt8)} (h : BytesAre vs ls) : ∀ v ∈ vs, v.onHeap = false := by
  induction h with
  | nil => exact fun v hv => nomatch hv
  | cons l t h ih =>
    intro v hv
    rcases List.mem_cons.mp hv with rfl | hv
    · rfl
    · exact ih v hv
theorem join_sizes : ∀ (ps : List (List UInt8)) (k : Nat), (ps.map List.toArray).foldl (fun (x : Nat) (y : Array UInt8) => x + y.size) k = k + ps.flatten.length
  | [], k => by simp
  | p :: ps, k => by
    rw [List.map_cons, List.foldl_cons, join_sizes ps, List.flatten_cons, List.length_append, List.size_toArray]
    (first | lia | omega)
theorem jm_one {α : Type} (x : Value) (f : Value → α) (g : Array Value → α) : Builtin.Bytes.joinM.match_1 (fun _ => α) #[x] f g = f x := rfl
theorem jm_not {α : Type} (arr : Array Value) (h : arr.size ≠ 1) (f : Value → α) (g : Array Value → α) : Builtin.Bytes.joinM.match_1 (fun _ => α) arr f g = g arr := by
  unfold Builtin.Bytes.joinM.match_1
  rw [dif_neg h]
theorem meets_join (ha : s.heap.get? a = some (listOf vs.toArray n)) (hb : BytesAre vs ls) (hz : ls.flatten.length ≤ 1000000) {P : Fin → Shared → Prop} (h : ∀ t' k, P (.done (.ret (.bytes ls.flatten.toArray t'))) { s with toks := k }) :
    wpAny M A (Builtin.«bytes.join» ⟨[.bytes #[] t, .ref a], []⟩) P E s := by
  have hT : s.TypeIs (.ref a) "list" := ⟨_, ha, rfl⟩
  have hlen := hb.length
  obtain ⟨arr, harr⟩ : ∃ arr, arr = vs.toArray := ⟨_, rfl⟩
  have has : s.heap.get? a = some (listOf arr n) := by rw [harr]; exact ha
  have seqA : ∀ {Q : Option (Array Value) → Shared → Prop}, Q (some arr) s → wpAny M A (seqItems? (.ref a)) Q E s := fun hQ => by rw [harr] at hQ; exact seq_join ha hQ
  unfold Builtin.«bytes.join» Bytes.joinM
  refine wpAny_bind (wpAny_of_eq (a := (Value.bytes #[] t, Value.ref a)) (by first | rfl | kernel_rfl) ?_)
  dsimp only
  refine KFB.if_so (by decide) ?_
  refine wpAny_bind ?_
  unfold Bytes.joinItems
  refine wpAny_bind (wpAny_typeOf hT ?_)
  refine KFB.if_so (by decide) ?_
  refine wpAny_pure ?_
  refine wpAny_bind (seqA ?_)
  dsimp only
  refine KFB.if_so (by decide) ?_
  by_cases h1 : arr.size = 1
  · obtain ⟨v, hv⟩ : ∃ v, vs = [v] := by
      rw [harr, List.size_toArray] at h1
      exact List.length_eq_one_iff.mp h1
    subst hv
    cases hb with
    | cons l t0 hb' =>
      cases hb'
      rw [harr, jm_one]
      refine wpAny_bind (wpAny_typeOf (typeIs_bytes s _ t0) ?_)
      refine KFB.if_so (by decide) ?_
      refine wpAny_bind (wpAny_rule ?_)
      refine wpAny_pure ?_
      have e : [l].flatten = l := by simp
      rw [e] at h
      exact h t0 s.toks
  · rw [jm_not arr h1]
    refine wpAny_bind ?_
    rw [Std.Legacy.Range.forIn_eq_forIn_range']
    have hsz : arr.size = ls.length := by rw [harr, List.size_toArray]; exact hlen
    have hrg : List.range' (([:arr.size] : Std.Legacy.Range).start) (([:arr.size] : Std.Legacy.Range).size) (([:arr.size] : Std.Legacy.Range).step) = List.range' 0 ls.length 1 := by
      rw [hsz]; simp [Std.Legacy.Range.size]
    rw [hrg]
    refine wpAny_forIn_list _ (fun rest b s' => s' = s ∧ ∃ k, k ≤ ls.length ∧ rest = List.range' k (ls.length - k) 1 ∧ b = (((ls.take k).map List.toArray).toArray, (vs.take k).map fun v => (v, none))) _ ?_ ?_ _ _ ⟨rfl, 0, Nat.zero_le _, by rw [Nat.sub_zero], rfl⟩
    · rintro i rest b s' ⟨rfl, k, hk, hr, rfl⟩
      have hkl : k < ls.length := by
        rcases Nat.lt_or_ge k ls.length with q | q
        · exact q
        · rw [show ls.length - k = 0 by (first | lia | omega)] at hr; cases hr
      have hkk : ls.length - k = (ls.length - (k + 1)) + 1 := by (first | lia | omega)
      rw [hkk, List.range'_succ] at hr
      obtain ⟨rfl, rfl⟩ := List.cons.inj hr
      obtain ⟨t1, hg⟩ := hb.get i hkl
      refine wpAny_bind (seqA ?_)
      dsimp only
      have hga : arr.getD i Value.none = .bytes ls[i].toArray t1 := by
        rw [harr]
        simp only [Array.getD_eq_getD_getElem?, List.getElem?_toArray, hg, Option.getD_some]
      rw [hga]
      refine KFB.if_not ?_ ?_
      · rw [Bool.or_eq_false_iff]
        refine ⟨by decide, ?_⟩
        rw [List.any_eq_false]
        intro x hx
        obtain ⟨v, hv, rfl⟩ := List.mem_map.mp hx
        rw [hb.noHeap v (List.mem_of_mem_take hv)]
        exact Bool.false_ne_true
      refine wpAny_bind (wpAny_holding (wpAny_of_eq take_join ?_))
      dsimp only
      refine wpAny_bind (seqA ?_)
      dsimp only
      refine KFB.if_not (by simp) ?_
      refine wpAny_pure ⟨rfl, i + 1, hkl, rfl, ?_⟩
      have e1 : ls.take (i + 1) = ls.take i ++ [ls[i]] := by rw [List.take_succ, List.getElem?_eq_getElem hkl, Option.toList_some]
      have e2 : vs.take (i + 1) = vs.take i ++ [.bytes ls[i].toArray t1] := by rw [List.take_succ, hg, Option.toList_some]
      rw [e1, e2, List.map_append, List.map_append]
      simp
    · rintro b s' ⟨rfl, k, hk, hr, rfl⟩
      have hk0 : ls.length - k = 0 := by
        have := congrArg List.length hr
        simpa using this.symm
      have hkk : k = ls.length := by (first | lia | omega)
      subst hkk
      have e2 : vs.take ls.length = vs := by rw [← hlen]; exact List.take_length
      rw [List.take_length, e2]
      refine wpAny_bind (wpAny_of_eq (a := (#[] : Array UInt8)) (by first | rfl | kernel_rfl) ?_)
      have hts : Bytes.tooLong (((ls.map List.toArray).toArray).foldl (fun x1 x2 => x1 + x2.size) ((#[] : Array UInt8).size * (((ls.map List.toArray).toArray).size - 1))) = false := by
        refine KBy.tooLong_not ?_
        rw [List.foldl_toArray, join_sizes, List.size_toArray, List.length_nil, Nat.zero_mul]
        (first | lia | omega)
      refine KFB.if_not hts ?_
      have hjn : Bytes.joined #[] ((ls.map List.toArray).toArray).toList = ls.flatten.toArray := joined_nil ls
      refine wpAny_bind (m := Bytes.Kind.bytes.new (Bytes.joined #[] ((ls.map List.toArray).toArray).toList)) ?_
      rw [hjn]
      show wpAny _ _ (mkBytes ls.flatten.toArray) _ _ _
      refine wpAny_mkBytes ?_ (by rw [List.size_toArray, sizeLine_eq]; (first | lia | omega))
      refine wpAny_bind (wpAny_holding (wpAny_point ?_))
      refine wpAny_bind (letGo_join vs ?_)
      exact wpAny_pure (h _ _)
end
section
variable {prog : Program} {w : World} {A : Around} {E : Value → Shared → Prop} {s : Shared} {h₀ : Heap} {L a : Addr} {news : List (Addr × Obj)} {Q : Value → Shared → Prop} {vs : List Value} {ls : List (List UInt8)} {n : Nat} {t : Tok}
theorem join_call (N : News h₀ L s.heap news) (hm : (a, listOf vs.toArray n) ∈ news) (hb : BytesAre vs ls) (hz : ls.flatten.length ≤ 1000000) (h : ∀ t' k, Q (.bytes ls.flatten.toArray t') { s with toks := k }) :
    wpAny (model prog w) A (call (.builtin "bytes.join") [.bytes #[] t, .ref a]) Q E s := by
  refine wpAny_call (codeAny_call_builtin slot_join.plain entry_join (slot_join.check _ _ _ _ _ _ _ _ (typeIs_bytes s _ t) (args_join _ _) ?_))
  exact meets_join (N.get hm) hb hz fun t' k => h t' k
theorem join_method {M : Model} {b : Array UInt8} {pl : Sem Bool} {Q : Value × List Value → Shared → Prop} (h : Q (.builtin "bytes.join", [.bytes b t]) s) : wpAny M A (getMethod (.bytes b t) "join" pl) Q E s :=
  KBd.method_of (.bytes b t) (typeIs_bytes _ _ _) slot_join type_join KBd.noRef h
end
end JaLaw
end
section
set_option Elab.async false
set_option maxRecDepth 100000
namespace JaLaw
section
variable {prog : Program} {w : World} {A₀ A : Around} {s : Shared} {base h₀ : Heap} {env : Env} {outer : List Env} {L : Addr} {m : PySem.Str → Option Value} {news : List (Addr × Obj)} {K : Frag}
  {R : Result → Shared → Prop} {name qual : PySem.Str} {params : Arguments} {body : List Stmt} {scope : Scope} {dV kV doc pm cdv ct oc : Value} {an od : Option Addr} {osl : Array (Option Value)} {f : Addr} {args : Args} {binds : List (PySem.Str × Value)}
  {p : Program} {loose : List PySem.Str} {mean : ExcName → Option Value} {mg mb : PySem.Str → Option Value}
/-- a called def with cells, where no decoder stands on the stack -/
theorem enter_defCN (B : Below A₀ base outer h₀) (F : Fr h₀ L s.heap m) (X₀ : K.In h₀) (N : News h₀ L s.heap news) (T : Top p loose mean mg mb h₀) (hA : A.frames = some (env :: outer)) (hf : env.frame = some L) (hke : env.scope.kind = .function)
    (ho : K.lookup f = some ⟨oc, od, .func (fnOf name qual params body scope dV kV doc pm an cdv ct), osl⟩) (hcd : codeIn K cdv qual = true) (hroom : A.depth < recursionLimit)
    (hbind : BindsTo s (fnOf name qual params body scope dV kV doc pm an cdv ct) args binds) (hkind : (binds.all fun y => scope.names.lookup y.1 == some .local || scope.names.lookup y.1 == some .cell) = true)
    (hnd : ((cellsFrom 0 scope.names []).map (·.1)).Nodup) {m₁ : PySem.Str → Option Value} (hm : ∀ L', bindL (envOfC qual scope L' f cdv).kindOf binds (fun _ => none) = m₁)
    (h : ∀ g L' h₁ tk cells, Fr h₀ L g m → Fr g L' h₁ m₁ → News g L' h₁ (cells ++ news) →
      CellsAre (bindC (envOfC qual scope L' f cdv).kindOf binds fun _ => none) (cellsFrom (L' + 1) scope.names []) cells → Below A base (env :: outer) g → K.In g → Top p loose mean mg mb g → Keeps (news.map (·.1)) s.heap g → (∀ p ∈ news, p.1 < L') →
      wpN (model prog w) (A.deeper (envOfC qual scope L' f cdv)) (execs body (envOfC qual scope L' f cdv))
        (fun fl s' => LeaveK h₀ L m g (fun r s'' => Keeps (news.map (·.1)) s.heap s''.heap → R r s'') (match fl with | .ret v => v | _ => .none) s')
        (fun e s' => wpAny (model prog w) (A.deeper (envOfC qual scope L' f cdv)) (leaving (envOfC qual scope L' f cdv) e) (fun _ s'' => R (.error e) s'') (fun e' s'' => R (.error e') s'') s')
        { s with heap := h₁, toks := tk })
    (hco : scope.isCoroutine = false) (hgen : scope.isGenerator = false) (hk : scope.kind = .function) : codeN (model prog w) A (.call (.ref f) args) R s := by
  have X := X₀.keeps F.keep
  obtain ⟨Fg, Bg, st⟩ := ground_of B F N hA hf hke
  have kg : Keeps (news.map (·.1)) s.heap (hideAll s.heap (news.map (·.1))) := fun b o e n => hideAll_get _ e n
  refine codeN_call_function hroom (X _ _ ho) rfl hco hgen rfl (codeRec_of X hcd) (hbind _ _ _ _ ?_)
  refine wpAny_newFunctionEnv_cells hk (kindsX hkind _) fun env' he s' x => ?_
  subst he
  refine ⟨(T.nolimit.keeps F.keep).keeps x.toInCall.keep, codeN_func ?_⟩
  obtain ⟨h₁, tk, rfl, _⟩ := x.done
  have hk₁ := x.toInCall.keep
  obtain ⟨cells, NC, Y⟩ := Cl.news (h₀ := s.heap) (Nat.le_refl _) fun n c hm => ⟨x.cell n c (lookup_of_mem_nodup (cellsFrom_names scope.names 0 (s.heap.objs.size + 1) [] [] rfl ▸ hnd) hm), x.above n c hm⟩
  refine wpN_mono (h _ s.heap.objs.size h₁ tk cells Fg ⟨hm _ ▸ x.toInCall.ns, fun b o e => hk₁ b o (of_hideAll _ e), Nat.le_of_eq (hideAll_size _ _)⟩ (fun p hp => ?_) Y Bg (X₀.keeps fun b o e => st b o e) (T.keeps fun b o e => st b o e) kg (fun p hp => Heap.lt_size (N p hp).1)) (fun fl s' hl => ?_) fun _ _ y => y
  · rcases List.mem_append.mp hp with hp | hp
    · refine ⟨(NC p hp).1, (NC p hp).2.1, ?_⟩
      cases q : (hideAll s.heap (news.map (·.1))).get? p.1 with
      | none => rfl
      | some o => have := of_hideAll _ q; rw [(NC p hp).2.2] at this; cases this
    · exact ⟨hk₁ _ _ (N p hp).1, Nat.ne_of_lt (Heap.lt_size (N p hp).1), hideAll_none _ (List.mem_map_of_mem hp)⟩
  · obtain ⟨L', m', news', F', N', k⟩ := hl
    obtain ⟨oL, es, ep, hL, hLd, hLk, hLf⟩ := Fg.ns
    refine k ⟨⟨oL, es, ep, F'.keep L oL hL, hLd, hLk, hLf⟩, fun b o e => F'.keep b o (st b o e), F.above⟩ (fun q hq => ⟨(N' q hq).1, fun z => ?_, ?_⟩) fun b o e n => F'.keep b o (kg b o e n)
    · have := (N' q hq).2.2; rw [z, hL] at this; cases this
    · cases z : h₀.get? q.1 with
      | none => rfl
      | some o => have := (N' q hq).2.2; rw [st _ _ z] at this; cases this
end
end JaLaw
end
section
set_option Elab.async false
set_option maxRecDepth 100000
namespace JaLaw
theorem rowsJaNegE0 : True := by
  k_with_none
  k_with "usef" => (case k1 => k_asm); (case k2 => k_asm); (case k3 => k_asm); (case k4 => k_asm); (case k5 => k_asm); (case k6 => first | exact rfl | assumption); (case k7 => first | exact room1 hd rfl | exact room2 hd rfl | ktr_room); (case k8 => first | exact room1 hu rfl | exact room2 hu rfl | ktr_units)
  k_with "sz" => (first | with_reducible assumption | ((try simp only [List.length_append, List.length_take, List.length_drop, List.length_cons, List.length_nil, toBE_length, List.length_replicate]); (first | lia | omega)))
  exact True.intro
theorem rowsJaNegE1 : True := by
  k_with "callWith ref" => (k_here; (with_reducible show wpAny _ _ (callWith _ (Value.ref _) _ (backTo _ (starEach [] _)) (backToKw _ (keywordEach (_ :: _) _))) _ _ _); k_dflt (refine' callWith_KW0 ?k1 ?k2 ?k3 ?_; (case k1 => with_reducible assumption); (case k2 => k_is); (case k3 => exact rfl); k_whole))
  k_with "callWith ref" => (k_here; (with_reducible show wpAny _ _ (callWith _ (Value.ref _) _ (backTo _ (starEach (_ :: _) _)) []) _ _ _); k_dflt (refine' callWith_K ?k1 ?k2 ?_; (case k1 => with_reducible assumption); (case k2 => k_is); k_whole))
  k_with "callWith ref" => (k_here; (with_reducible show wpAny _ _ (callWith _ (Value.ref _) _ (backTo _ (starEach [] _)) []) _ _ _); k_dflt (refine' callWith_K0 ?k1 ?k2 ?_; (case k1 => exact (by first | with_reducible assumption | exact Frag.In.keeps (by with_reducible assumption) (Fr.keep (by with_reducible assumption)))); (case k2 => k_is); k_whole))
  k_with "And" => ((with_reducible show Frag.In _ _ ∧ _); refine ⟨(by first | with_reducible assumption | exact Frag.In.keeps (by with_reducible assumption) (Fr.keep (by with_reducible assumption))), ?_⟩; try dsimp only [List.nil_append, List.cons_append])
  k_with "eval Name" => (k_here; (with_reducible show wpAny _ _ (eval (Expr.Name _ _) (envOf _ _ _ _ _)) _ _ _); k_dflt (first | (refine' ld ?k1 ?k2 ?_ ?k3 ?k4 ?k5; (case k4 => kernel_rfl!); (case k1 => with_reducible assumption); (case k2 => ((try dsimp only [List.reverse, List.reverseAux]); (repeat (first | with_reducible exact lk_hit | with_reducible exact lk_sto_hit | with_reducible exact lk_ite_hit | (with_reducible refine lk_sto_miss (by kernel_rfl!) ?_) | (with_reducible refine lk_ite_miss2 (by kernel_rfl!) ?_) | (with_reducible refine lk_miss (by kernel_rfl!) ?_) | with_reducible refine lk_rev ?_)))); (case k3 => kernel_rfl!); (case k5 => decide +kernel); k_whole) | (refine' name_K ?k0 ?k1 ?k2 ?k3 ?_ ?k4 ?k5 ?k6; (case k5 => kernel_rfl!); (case k0 => with_reducible assumption); (case k1 => with_reducible assumption); (case k2 => exact topRead_of (by with_reducible assumption)); (case k3 => k_is); (case k4 => kernel_rfl!); (case k6 => decide +kernel); k_whole) | (refine' name_B ?k0 ?k1 ?k2 ?k3 ?k4 ?k5 ?_ ?k6 ?k7 ?k8; (case k7 => kernel_rfl!); (case k0 => with_reducible assumption); (case k1 => with_reducible assumption); (case k2 => exact topRead_of (by with_reducible assumption)); (case k3 => k_is); (case k4 => boot_fast); (case k5 => decide); (case k6 => kernel_rfl!); (case k8 => decide +kernel); k_whole)))
  k_with "storeName" => (k_here; (try dsimp only); (with_reducible show wpAny _ _ (storeName (envOf _ _ _ _ _) _ _) _ _ _); k_dflt (refine' store_u ?k1 ?k2 ?_ ?k3 ?k4; (case k4 => kernel_rfl!); (case k3 => kernel_rfl!); (case k1 => with_reducible assumption); (case k2 => with_reducible assumption); k_whole); intro h' F' N'; (try k_sweep))
  k_with "exec Expr" => (k_here; k_fold)
  k_with "call builtin:len" => (k_here; (with_reducible show wpAny _ _ (call (Value.builtin "len") [Value.bytes _ _]) _ _ _); k_dflt (refine bs_len (by (k_extra "sz")) ?_; intro _ _))
  k_with "call ref" => (k_here; (with_reducible show wpAny _ _ (call (Value.ref _) [Value.bytes _ _, Value.str _ _]) _ _ _); kfb_any; k_dflt (refine fb_call (by k_asm) (by k_mem) (by (k_extra "sz")) ?_); intro _ _)
  k_with "getAttr ref" => (k_here; k_dflt ((refine' get_prop ?p1 ?p2 ?p3 ?p4 ?p5 ?p6 ?p7 ?p8 ?p9 ?_; (case p1 => k_asm); (case p2 => k_asm); (case p3 => k_inst); (case p4 => k_is); (case p5 => k_is); (case p6 => k_is); (case p7 => k_is); (case p8 => k_is); (case p9 => k_is); k_whole); (show codeAny _ _ (.call (.ref 77) _) _ _); (refine' datac_full ?k1 ?k2 ?k3 ?k4 ?k5 ?k6 ?k7 ?k8 ?kq ?kd ?kx ?kb ?kl ?kp ?_; (k_extra "usef"); (case kq => first | exact rfl | assumption); (case kd => k_mem); (case kx => k_mem); (case kb => k_mem); (case kl => (first | lia | omega)); (case kp => (k_extra "sz"))); k_whole); (intro t' h' tk' F' N'; (try dsimp only); (try k_sweep)); (refine handed_on rfl ?_))
  k_with "call ref" => (k_here; (with_reducible show wpAny _ _ (call (Value.ref 92) _ _) _ _ _); k_dflt ((refine wpAny_call ?_); (refine' eofc_full ?k1 ?k2 ?k3 ?k4 ?k5 ?k6 ?k7 ?k8 ?kq ?kd ?kx ?kb ?kl ?kp ?_; (k_extra "usef"); (case kq => first | exact rfl | assumption); (case kd => k_mem); (case kx => k_mem); (case kb => k_mem); (case kl => (first | lia | omega)); (case kp => (k_extra "sz"))); k_whole); (all_goals (first | (intro h' tk' F' N'; (try dsimp only); (try k_sweep)) )))
  exact True.intro
theorem rowsJaNegE2 : True := by
  k_with "call ref" => (k_here; (with_reducible show wpAny _ _ (call (Value.ref 162) _ _) _ _ _); k_dflt ((refine wpAny_call ?_); (refine' push8c_full ?k1 ?k2 ?k3 ?k4 ?k5 ?k6 ?k7 ?k8 ?kq ?kx ?kb ?ku ?kl ?kp ?kn ?_; (k_extra "usef"); (case kq => first | exact rfl | assumption); (case kx => k_mem); (case kb => k_mem); (case ku => intro _ _; k_upd); (case kl => (first | lia | omega)); (case kp => (k_extra "sz")); (case kn => exact ⟨by k_ne, by k_ne, by k_ne⟩)); k_whole); (all_goals (first | (intro ba' t' h' tk' hn' F' N'; (try simp only [AllNe, and_true] at hn'); (repeat (rcases hn' with ⟨_, hn'⟩)); (try dsimp only); (try k_sweep)) )))
  k_with "call ref" => (k_here; (with_reducible show wpAny _ _ (call (Value.ref 176) _ _) _ _ _); k_dflt ((refine wpAny_call ?_); (refine' push32c_full ?k1 ?k2 ?k3 ?k4 ?k5 ?k6 ?k7 ?k8 ?kq ?kx ?kb ?ku ?kl ?kp ?kn ?_; (k_extra "usef"); (case kq => first | exact rfl | assumption); (case kx => k_mem); (case kb => k_mem); (case ku => intro _ _; k_upd); (case kl => (first | lia | omega)); (case kp => (k_extra "sz")); (case kn => exact ⟨by k_ne, by k_ne, by k_ne⟩)); k_whole); (all_goals (first | (intro ba' t' h' tk' hn' F' N'; (try simp only [AllNe, and_true] at hn'); (repeat (rcases hn' with ⟨_, hn'⟩)); (try dsimp only); (try k_sweep)) )))
  k_with "call ref" => (k_here; (with_reducible show wpAny _ _ (call (Value.ref 155) _ _) _ _ _); k_dflt ((refine wpAny_call ?_); (refine' pushc_full ?k1 ?k2 ?k3 ?k4 ?k5 ?k6 ?k7 ?k8 ?kq ?kx ?kb ?ku ?kl ?kp ?kn ?_; (k_extra "usef"); (case kq => first | exact rfl | assumption); (case kx => k_mem); (case kb => k_mem); (case ku => intro _ _; k_upd); (case kl => (first | lia | omega)); (case kp => (k_extra "sz")); (case kn => exact ⟨by k_ne, by k_ne, by k_ne⟩)); k_whole); (all_goals (first | (intro ba' t' h' tk' hn' F' N'; (try simp only [AllNe, and_true] at hn'); (repeat (rcases hn' with ⟨_, hn'⟩)); (try dsimp only); (try k_sweep)) )))
  exact True.intro

theorem rowsJaNegE3 : True := by
  k_with "binaryOp BitOr int int" => (k_here; k_dflt (refine int_or (y := 128) rfl rfl ?_); intro _ _)
  k_with "pyIter ref" => (k_here; refine halt ?_)
  exact True.intro
noncomputable def versW (ks : List Nat) : List UInt8 := ks.flatMap fun k => toBE (k % 2 ^ 32) 4
noncomputable def negHead (b : Nat) (s1 d1 : List UInt8) : List UInt8 := toBE ((b ||| 128) % 2 ^ 8) 1 ++ toBE (0 % 2 ^ 32) 4 ++ toBE (d1.length % 2 ^ 8) 1 ++ d1 ++ toBE (s1.length % 2 ^ 8) 1 ++ s1
noncomputable def negText (b : Nat) (s1 d1 : List UInt8) (ks : List Nat) : List UInt8 := negHead b s1 d1 ++ versW ks
theorem versW_length (ks : List Nat) : (versW ks).length = 4 * ks.length := by
  unfold versW
  induction ks with
  | nil => rfl
  | cons k ks ih => rw [List.flatMap_cons, List.length_append, ih, toBE_length, List.length_cons]; (first | lia | omega)
theorem versW_snoc (ks : List Nat) (k : Nat) : versW (ks ++ [k]) = versW ks ++ toBE (k % 2 ^ 32) 4 := by
  unfold versW
  rw [List.flatMap_append, List.flatMap_cons, List.flatMap_nil, List.append_nil]
section
variable {w : World} {mean : ExcName → Option Value} {mg mb : PySem.Str → Option Value} {dp un : Nat} {gd : Option (List Code)} {cn : PySem.Str} {cs : Scope} {a : Addr} {ccd : Value} {cl : List (PySem.Str × Addr)} {outer : List Env} {A₀ : Around} {base h₀ : Heap} {L : Addr} {m : PySem.Str → Option Value} {s : Shared} {Q E : Value → Shared → Prop} {R : Result → Shared → Prop}
variable {s1 d1 : List UInt8} {b : Nat} {lx : Addr} {vs : List Value} {ks : List Nat} {t2 t3 t4 : Tok}
set_option maxHeartbeats 40000000 in
theorem nege_ct (B : Below A₀ base outer h₀) (F : Fr h₀ L s.heap m) (X : (K0 w.params).In h₀) (N : News h₀ L s.heap []) (T : Top jP jL mean mg mb h₀) (hk : cs.kind = .function) (hd : dp + 14 < recursionLimit) (hu : un + 60 < cLine) (hb : b < 256) (h1 : s1.length ≤ 20) (h2 : d1.length ≤ 20) (hlx : s.heap.IsList lx vs.toArray) (hi : IntsAre vs (ks.map fun k : Nat => (k : Int))) (h3 : ks.length ≤ 10)
    (hret : ∀ (t : Tok) (h' : Heap) (tk' : Nat), Fr h₀ L h' m → Keeps [] s.heap h' → R (.ok (.ret (.bytes (negText b s1 d1 ks).toArray t))) { s with heap := h', toks := tk' }) :
    codeN (model jprog w) (ktrTop dp un gd cn cs L a ccd cl outer) (.call (.ref 301) ⟨[.bytes s1.toArray t2, .bytes d1.toArray t3, .ref lx, .int (b : Int) t4], []⟩) R s := by
  have hvl : vs.length = ks.length := by have := hi.length; rw [List.length_map] at this; exact this
  k_dflt (refine' enter_defN (binds := [(Str.ofString "source_cid", .bytes s1.toArray t2), (Str.ofString "destination_cid", .bytes d1.toArray t3), (Str.ofString "supported_versions", .ref lx), (Str.ofString "drawn", .int (b : Int) t4)]) ?k1 ?k2 ?k3 ?k4 ?k5 ?kA ?kF ?kK ?k6 ?k7 ?k8 ?k9 ?kB ?_ ?c2 ?c3 ?c4 ?c5; (case kA => exact rfl); (case kF => exact rfl); (case kK => assumption); (case k1 => k_asm); (case k2 => k_asm); (case k3 => k_asm); (case k4 => k_asm); (case k5 => k_asm); (case k6 => k_is); (case k7 => k_is); (case k8 => first | exact room0 hd | ktr_room); (case k9 => first | exact BindsTo.of_eq (by kernel_rfl!) | exact BindsTo.of_eq rfl | exact binds_K (by k_in) rfl (by k_is) rfl rfl rfl); (case c5 => decide); (case kB => exact locs rfl); (case c2 => exact rfl); (case c3 => exact rfl); (case c4 => exact rfl); k_whole; intro g' L' h' FG' F' N' B' X' T' hkp hge; (try dsimp only); (try k_fold))
  have hlx' := isList_kept hkp hlx (by simp)
  refine n_fold fun qk ek hq he => ?_
  refine n_cons (n_assign_name rfl (n_call_name ?_))
  k_steps
  refine n_cKW0 (K := K0 w.params) (by k_is) rfl ?_
  k_steps
  (with_reducible rename Fr g' _ _ _ => kF)
  (with_reducible rename News g' _ _ _ => kN)
  refine wpN_call (bufc_ct B' kF X' kN T' rfl (by first | exact room1 hd rfl | exact room2 hd rfl | exact room0 hd | ktr_room) (by first | exact room1 hu rfl | exact room2 hu rfl | exact room0 hu | ktr_units) (n := 7 + d1.length + s1.length + 4 * ks.length) (by simp only [List.length_map]; (first | lia | omega)) (by (first | lia | omega)) fun x dx ba k1 k2 tp2 h' tk' F' N' l1 l2 n1 n2 n3 => ?_)
  clear kF kN
  have n4 : @Ne Nat dx x := Nat.ne_of_lt l1
  obtain ⟨C, hC⟩ : ∃ C, C = 7 + d1.length + s1.length + 4 * ks.length := ⟨_, rfl⟩
  rw [← hC] at N'
  replace N' : News g' L' h' ((x, instObj 193 dx) :: (dx, bufD w.params k1 k2 ba ((([] : List UInt8).length : Nat) : Int) tp2) :: (ba, baO (capL C [])) :: []) := N'
  dsimp only
  k_steps
  refine n_cons (wpN_any ?_)
  k_steps
  refine n_cons (wpN_any ?_)
  k_steps
  refine n_cons (wpN_any ?_)
  k_steps
  refine n_cons (wpN_any ?_)
  k_steps
  refine n_cons (wpN_any ?_)
  k_steps
  refine n_cons (wpN_any ?_)
  k_steps
  refine n_cons (wpN_any ?_)
  subst he
  k_steps
  refine Halt.mk ?_
  (with_reducible rename Fr g' _ _ _ => kF)
  (with_reducible rename News g' _ _ _ => kN)
  have hH : (negHead b s1 d1).length = 7 + d1.length + s1.length := by unfold negHead; simp only [List.length_append, toBE_length]; (first | lia | omega)
  have hJ0 : ∃ ba t, News g' L' _ [(ba, baO (capL C (negHead b s1 d1))), (x, instObj 193 dx), (dx, bufD w.params k1 k2 ba (((negHead b s1 d1).length : Nat) : Int) t)] ∧ @Ne Nat ba x ∧ @Ne Nat ba dx :=
    ⟨_, _, news_sub kN (List.forall_mem_cons.mpr ⟨.head _, List.forall_mem_cons.mpr ⟨by k_mem, List.forall_mem_cons.mpr ⟨.tail _ (.tail _ (.tail _ (.tail _ (.tail _ (.tail _ (.tail _ (.head _))))))), List.forall_mem_nil _⟩⟩⟩), by k_ne, by k_ne⟩
  obtain ⟨bb, tb, kN2, b1, b2⟩ := hJ0
  clear kN
  refine iter_listJ (fun i news₁ => ∃ ba t, news₁ = [(ba, baO (capL C (negHead b s1 d1 ++ versW (ks.take i)))), (x, instObj 193 dx), (dx, bufD w.params k1 k2 ba (((negHead b s1 d1 ++ versW (ks.take i)).length : Nat) : Int) t)] ∧ @Ne Nat ba x ∧ @Ne Nat ba dx) rfl hlx' (ns := ks.map fun k : Nat => (k : Int)) (by assumption) kF kN2 ⟨bb, tb, ?j0, b1, b2⟩ ?turn ?done
  case j0 => rw [List.take_zero]; show _ = [(bb, baO (capL C (negHead b s1 d1 ++ []))), _, (dx, bufD w.params k1 k2 bb (((negHead b s1 d1 ++ []).length : Nat) : Int) tb)]; rw [List.append_nil]
  case turn =>
    rintro i n t news₁ h tk I oI hn hoff ⟨ba1, tp1, rfl, e1, e2⟩ F' N'
    clear kF kN2
    rw [List.getElem?_map] at hn
    obtain ⟨k, hk1, rfl⟩ := Option.map_eq_some_iff.mp hn
    have hil : i < ks.length := (List.getElem?_eq_some_iff.mp hk1).1
    have o1 : @Ne Nat ba1 I := hoff _ (.head _)
    have o2 : @Ne Nat x I := hoff _ (.tail _ (.head _))
    have o3 : @Ne Nat dx I := hoff _ (.tail _ (.tail _ (.head _)))
    have hWl : (negHead b s1 d1 ++ versW (ks.take i)).length + 4 ≤ C := by rw [List.length_append, versW_length, List.length_take, hH]; (first | lia | omega)
    have hWs : negHead b s1 d1 ++ versW (ks.take (i + 1)) = (negHead b s1 d1 ++ versW (ks.take i)) ++ toBE (k % 2 ^ 32) 4 := by
      rw [List.take_succ, hk1, Option.toList_some, versW_snoc, List.append_assoc]
    rw [hWs]
    generalize negHead b s1 d1 ++ versW (ks.take i) = W at N' hWl hWs ⊢
    clear hWs
    k_steps
    (rename News _ _ _ _ => kN)
    refine ⟨⟨rfl, _, _, _, _, rfl, by assumption, fun y h => if_neg h, news_sub kN (List.forall_mem_cons.mpr ⟨by k_mem, List.forall_mem_cons.mpr ⟨.head _, List.forall_mem_cons.mpr ⟨by k_mem, List.forall_mem_cons.mpr ⟨by k_mem, List.forall_mem_nil _⟩⟩⟩⟩), List.forall_mem_cons.mpr ⟨by k_ne, List.forall_mem_cons.mpr ⟨o2, List.forall_mem_cons.mpr ⟨o3, List.forall_mem_nil _⟩⟩⟩, ⟨_, _, rfl, by k_ne, by k_ne⟩⟩⟩
  case done =>
    rintro ov news₁ h tk ⟨ba1, tp1, rfl, e1, e2⟩ F' N'
    clear kF kN2
    rw [List.length_map, List.take_length] at N'
    have hWl : (negHead b s1 d1 ++ versW ks).length ≤ C := by rw [List.length_append, versW_length, hH]; (first | lia | omega)
    obtain ⟨W, hW⟩ : ∃ W, W = negHead b s1 d1 ++ versW ks := ⟨_, rfl⟩
    rw [← hW] at N' hWl
    dsimp only
    refine n_cons (wpN_any ?_)
    subst hq
    k_steps
    (rename Keeps _ _ _ => kK)
    subst hW
    exact hret _ _ _ (by assumption) kK
variable {news : List (Addr × Obj)} {cap : Nat}
theorem nege_full (B : Below A₀ base outer h₀) (F : Fr h₀ L s.heap m) (X : (K0 w.params).In h₀) (N : News h₀ L s.heap news) (T : Top jP jL mean mg mb h₀) (hk : cs.kind = .function) (hd : dp + 14 < recursionLimit) (hu : un + 60 < cLine) (hb : b < 256) (h1 : s1.length ≤ 20) (h2 : d1.length ≤ 20) (hlx : (lx, listOf vs.toArray cap) ∈ news) (hi : IntsAre vs (ks.map fun k : Nat => (k : Int))) (h3 : ks.length ≤ 10)
    (hret : ∀ (t : Tok) (h' : Heap) (tk' : Nat), Fr h₀ L h' m → News h₀ L h' news → R (.ok (.ret (.bytes (negText b s1 d1 ks).toArray t))) { s with heap := h', toks := tk' }) :
    codeN (model jprog w) (ktrTop dp un gd cn cs L a ccd cl outer) (.call (.ref 301) ⟨[.bytes s1.toArray t2, .bytes d1.toArray t3, .ref lx, .int (b : Int) t4], []⟩) R s :=
  nege_ct B F X (news_sub N fun _ h => (nomatch h)) T hk hd hu hb h1 h2 ⟨_, N.get hlx, rfl, _, rfl⟩ hi h3 fun t h' tk' F' kp => hret t h' tk' F' (news_keep N kp)
end
end JaLaw
end
section
set_option Elab.async false
set_option maxRecDepth 100000
namespace JaLaw
theorem rowsJaRead0 : True := by
  k_with_none
  k_with "sz" => (first | with_reducible assumption | ((try simp only [List.length_append, List.length_take, List.length_drop, List.length_cons, List.length_nil, toBE_length, List.length_replicate]); (first | lia | omega)))
  exact True.intro
theorem rowsJaRead1 : True := by
  k_with "callWith ref" => (k_here; (with_reducible show wpAny _ _ (callWith _ (Value.ref _) _ (backTo _ (starEach [] _)) (backToKw _ (keywordEach (_ :: _) _))) _ _ _); k_dflt (refine' callWith_KW0 ?k1 ?k2 ?k3 ?_; (case k1 => with_reducible assumption); (case k2 => k_is); (case k3 => exact rfl); k_whole))
  k_with "callWith ref" => (k_here; (with_reducible show wpAny _ _ (callWith _ (Value.ref _) _ (backTo _ (starEach (_ :: _) _)) []) _ _ _); k_dflt (refine' callWith_K ?k1 ?k2 ?_; (case k1 => with_reducible assumption); (case k2 => k_is); k_whole))
  k_with "callWith ref" => (k_here; (with_reducible show wpAny _ _ (callWith _ (Value.ref _) _ (backTo _ (starEach [] _)) []) _ _ _); k_dflt (refine' callWith_K0 ?k1 ?k2 ?_; (case k1 => exact (by first | with_reducible assumption | exact Frag.In.keeps (by with_reducible assumption) (Fr.keep (by with_reducible assumption)))); (case k2 => k_is); k_whole))
  k_with "And" => ((with_reducible show Frag.In _ _ ∧ _); refine ⟨(by first | with_reducible assumption | exact Frag.In.keeps (by with_reducible assumption) (Fr.keep (by with_reducible assumption))), ?_⟩; try dsimp only [List.nil_append, List.cons_append])
  k_with "eval Name" => (k_here; (with_reducible show wpAny _ _ (eval (Expr.Name _ _) (envOf _ _ _ _ _)) _ _ _); k_dflt (first | (refine' ld ?k1 ?k2 ?_ ?k3 ?k4 ?k5; (case k4 => kernel_rfl!); (case k1 => with_reducible assumption); (case k2 => ((try dsimp only [List.reverse, List.reverseAux]); (repeat (first | with_reducible exact lk_hit | with_reducible exact lk_sto_hit | with_reducible exact lk_ite_hit | (with_reducible refine lk_sto_miss (by kernel_rfl!) ?_) | (with_reducible refine lk_ite_miss2 (by kernel_rfl!) ?_) | (with_reducible refine lk_miss (by kernel_rfl!) ?_) | with_reducible refine lk_rev ?_)))); (case k3 => kernel_rfl!); (case k5 => decide +kernel); k_whole) | (refine' name_K ?k0 ?k1 ?k2 ?k3 ?_ ?k4 ?k5 ?k6; (case k5 => kernel_rfl!); (case k0 => with_reducible assumption); (case k1 => with_reducible assumption); (case k2 => exact topRead_of (by with_reducible assumption)); (case k3 => k_is); (case k4 => kernel_rfl!); (case k6 => decide +kernel); k_whole) | (refine' name_B ?k0 ?k1 ?k2 ?k3 ?k4 ?k5 ?_ ?k6 ?k7 ?k8; (case k7 => kernel_rfl!); (case k0 => with_reducible assumption); (case k1 => with_reducible assumption); (case k2 => exact topRead_of (by with_reducible assumption)); (case k3 => k_is); (case k4 => boot_fast); (case k5 => decide); (case k6 => kernel_rfl!); (case k8 => decide +kernel); k_whole)))
  k_with "storeName" => (k_here; (try dsimp only); (with_reducible show wpAny _ _ (storeName (envOf _ _ _ _ _) _ _) _ _ _); k_dflt (refine' store_u ?k1 ?k2 ?_ ?k3 ?k4; (case k4 => kernel_rfl!); (case k3 => kernel_rfl!); (case k1 => with_reducible assumption); (case k2 => with_reducible assumption); k_whole); intro h' F' N'; (try k_sweep))
  k_with "exec Assign" => (k_here; k_fold)
  k_with "exec If" => (k_here; k_fold)
  k_with "call builtin:len" => (k_here; (with_reducible show wpAny _ _ (call (Value.builtin "len") [Value.bytes _ _]) _ _ _); k_dflt (refine bs_len (by (k_extra "sz")) ?_; intro _ _))
  k_with "subscriptTail" => (k_here; (with_reducible show wpAny _ _ (subscriptTail _ _ (Value.bytes _ _) (Value.int _ _)) _ _ _); k_dflt (refine bs_item (by (k_extra "sz")) (by (k_extra "sz")) (by (k_extra "sz")) ?_; intro _ _))
  k_with "subscriptTail" => (k_here; (with_reducible show wpAny _ _ (subscriptTail _ (Expr.Slice _ _ none _) (Value.bytes _ _) (Value.ref _)) _ _ _); (with_reducible rename Fr _ _ _ _ => F'); (with_reducible rename News _ _ _ _ => N'); k_dflt (refine' bs_slice (s := ⟨_, _, _, _, _⟩) F' N' (by constructor) (by constructor) (by (k_extra "sz")) ?k3 ?_; (case k3 => first | exact BA.picked_hi _ (by (first | lia | omega)) | exact BA.picked_lo _ (by (first | lia | omega)) | exact BA.picked_both _ (by (first | lia | omega)) (by (first | lia | omega))); k_whole; intro _ _ _ _ _))
  k_with "call ref" => (k_here; (with_reducible show wpAny _ _ (call (Value.ref _) [Value.bytes _ _, Value.str _ _]) _ _ _); kfb_any; k_dflt (refine fb_call (by k_asm) (by k_mem) (by (k_extra "sz")) ?_); intro _ _)
  exact True.intro

theorem rowsJaRead2 : True := by
  k_with "binaryOp FloorDiv int int" => (k_here; k_dflt (refine int_div (y := 64) rfl rfl (by decide) (by decide) ?_; intro _ _))
  k_with "binaryOp Pow int int" => (k_here; k_dflt (first | (refine int_pow (x := 2) rfl rfl (by (first | lia | omega)) (by decide) ?_; intro _ _) | (refine int_pow (x := 2) rfl (var_exp _) (by (first | lia | omega)) (by decide) ?_; intro _ _)))
  k_with "binaryOp Mult int int" => (k_here; k_dflt (refine mul_int ?_ (IntMulOk.of_left (by decide))))
  k_with "binaryOp Mod int int" => (k_here; k_dflt (refine int_mod rfl rfl (pow_pos2 _) ?_; intro _ _))
  exact True.intro
section
variable {w : World} {mean : ExcName → Option Value} {mg mb : PySem.Str → Option Value} {dp un : Nat} {gd : Option (List Code)} {cn : PySem.Str} {cs : Scope} {a : Addr} {ccd : Value} {cl : List (PySem.Str × Addr)} {outer : List Env} {A₀ : Around} {base h₀ : Heap} {L : Addr} {m : PySem.Str → Option Value} {s : Shared} {Q E : Value → Shared → Prop} {R : Result → Shared → Prop}
variable {l : List UInt8} {p : Int} {tl tp : Tok}
set_option maxHeartbeats 8000000 in
theorem rvar_ct (B : Below A₀ base outer h₀) (F : Fr h₀ L s.heap m) (X : (K0 w.params).In h₀) (N : News h₀ L s.heap []) (T : Top jP jL mean mg mb h₀) (hk : cs.kind = .function) (hd : dp + 3 < recursionLimit) (hu : un + 16 < cLine) (hl : l.length ≤ 100000) (hp : 0 ≤ p)
    (hnone : ∀ (h' : Heap) (tk' : Nat), (l.length : Int) ≤ p ∨ (l.length : Int) < p + (vS l p : Nat) → Fr h₀ L h' m → Keeps [] s.heap h' → R (.ok (.ret .none)) { s with heap := h', toks := tk' })
    (hsome : ∀ (D : Addr) (t t' : Tok) (h' : Heap) (tk' : Nat), p < l.length → p + (vS l p : Nat) ≤ l.length → Fr h₀ L h' m → Keeps [] s.heap h' → h'.get? D = some (tupO #[.int (vV l p : Nat) t, .int (p + (vS l p : Nat)) t']) → s.heap.get? D = none → R (.ok (.ret (.ref D))) { s with heap := h', toks := tk' }) :
    codeAny (model jprog w) (ktrTop dp un gd cn cs L a ccd cl outer) (.call (.ref 336) ⟨[.bytes l.toArray tl, .int p tp], []⟩) R s := by
  have hk8 : 2 ^ ((l.getD p.toNat 0).toNat / 64) ≤ 8 := (two6 (l.getD p.toNat 0)).2
  have hk3 : (l.getD p.toNat 0).toNat / 64 ≤ 3 := (two6 (l.getD p.toNat 0)).1
  have hk9 : ((2 ^ ((l.getD p.toNat 0).toNat / 64) : Nat) : Int) ≤ 8 := Int.ofNat_le.mpr hk8
  have hpw : (0 : Int) < ((2 ^ ((l.getD p.toNat 0).toNat / 64) : Nat) : Int) := Int.natCast_pos.mpr (pow_pos2 _)
  have hpv : (l.drop p.toNat).take ((p + ((2 ^ ((l.getD p.toNat 0).toNat / 64) : Nat) : Int)).toNat - p.toNat) = (l.drop p.toNat).take (vS l p) := by
    rw [take_drop_eq hp (by (first | lia | omega)), Int.toNat_natCast]
  k_dflt (refine' enter_def (binds := [(Str.ofString "octets", .bytes l.toArray tl), (Str.ofString "at", .int p tp)]) ?k1 ?k2 ?k3 ?k4 ?k5 ?kA ?kF ?kK ?k6 ?k7 ?k8 ?k9 ?kB ?_ ?c2 ?c3 ?c4 ?c5; (case kA => exact rfl); (case kF => exact rfl); (case kK => assumption); (case k1 => k_asm); (case k2 => k_asm); (case k3 => k_asm); (case k4 => k_asm); (case k5 => k_asm); (case k6 => k_is); (case k7 => k_is); (case k8 => first | exact room0 hd | ktr_room); (case k9 => first | exact BindsTo.of_eq (by kernel_rfl!) | exact BindsTo.of_eq rfl | exact binds_K (by k_in) rfl (by k_is) rfl rfl rfl); (case c5 => decide); (case kB => exact locs rfl); (case c2 => exact rfl); (case c3 => exact rfl); (case c4 => exact rfl); k_whole; intro g' L' h' FG' F' N' B' X' T' hkp hge; (try dsimp only); k_fold)
  k_steps
  all_goals first
    | ((rename Keeps _ _ _ => kK)
       exact hnone _ _ (.inl (by assumption)) (by assumption) (keeps_less kK N (by assumption) (by repeat' (first | exact List.forall_mem_nil _ | (refine List.forall_mem_cons.mpr ⟨?_, ?_⟩) | exact Or.inl (by k_mem) | exact Or.inr (by k_mem)))))
    | ((rename Keeps _ _ _ => kK)
       exact hnone _ _ (.inr (by assumption)) (by assumption) (keeps_less kK N (by assumption) (by repeat' (first | exact List.forall_mem_nil _ | (refine List.forall_mem_cons.mpr ⟨?_, ?_⟩) | exact Or.inl (by k_mem) | exact Or.inr (by k_mem)))))
    | ((rename Keeps _ _ _ => kK)
       (rename News g' _ _ _ => kI)
       (rename News h₀ _ _ _ => kN)
       rw [hpv] at kN kI
       exact hsome _ _ _ _ _ (by (first | lia | omega)) (Int.not_lt.mp (by assumption)) (by assumption) (keeps_less kK N (by assumption) (by repeat' (first | exact List.forall_mem_nil _ | (refine List.forall_mem_cons.mpr ⟨?_, ?_⟩) | exact Or.inl (by k_mem) | exact Or.inr (by k_mem)))) (kN.get (by k_mem)) (fresh_in hkp (kI _ (.head _)).2.2 (by simp only [AllLt])))
    | fail
variable {news : List (Addr × Obj)}
theorem rvar_full (B : Below A₀ base outer h₀) (F : Fr h₀ L s.heap m) (X : (K0 w.params).In h₀) (N : News h₀ L s.heap news) (T : Top jP jL mean mg mb h₀) (hk : cs.kind = .function) (hd : dp + 3 < recursionLimit) (hu : un + 16 < cLine) (hl : l.length ≤ 100000) (hp : 0 ≤ p)
    (hnone : ∀ (h' : Heap) (tk' : Nat), (l.length : Int) ≤ p ∨ (l.length : Int) < p + (vS l p : Nat) → Fr h₀ L h' m → News h₀ L h' news → R (.ok (.ret .none)) { s with heap := h', toks := tk' })
    (hsome : ∀ (D : Addr) (t t' : Tok) (h' : Heap) (tk' : Nat), p < l.length → p + (vS l p : Nat) ≤ l.length → AllNe D news → Fr h₀ L h' m → News h₀ L h' ((D, tupO #[.int (vV l p : Nat) t, .int (p + (vS l p : Nat)) t']) :: news) → R (.ok (.ret (.ref D))) { s with heap := h', toks := tk' }) :
    codeAny (model jprog w) (ktrTop dp un gd cn cs L a ccd cl outer) (.call (.ref 336) ⟨[.bytes l.toArray tl, .int p tp], []⟩) R s :=
  rvar_ct B F X (news_sub N fun _ h => (nomatch h)) T hk hd hu hl hp (fun h' tk' hc F' kp => hnone h' tk' hc F' (news_keep N kp))
    fun D t t' h' tk' h1 h2 F' kp e1 e2 => hsome D t t' h' tk' h1 h2 (news_ne N e2) F' (news_new' F (news_keep N kp) e1 e2)
end
end JaLaw
end
section
set_option Elab.async false
set_option maxRecDepth 100000
namespace JaLaw
theorem rowsJaLongA0 : True := by
  k_with_none
  k_with "sz" => (first | with_reducible assumption | ((try simp only [List.length_append, List.length_take, List.length_drop, List.length_cons, List.length_nil, toBE_length, List.length_replicate]); (first | lia | omega)))
  exact True.intro
theorem rowsJaLongA1 : True := by
  k_with "callWith ref" => (k_here; (with_reducible show wpAny _ _ (callWith _ (Value.ref _) _ (backTo _ (starEach [] _)) (backToKw _ (keywordEach (_ :: _) _))) _ _ _); k_dflt (refine' callWith_KW0 ?k1 ?k2 ?k3 ?_; (case k1 => with_reducible assumption); (case k2 => k_is); (case k3 => exact rfl); k_whole))
  k_with "callWith ref" => (k_here; (with_reducible show wpAny _ _ (callWith _ (Value.ref _) _ (backTo _ (starEach (_ :: _) _)) []) _ _ _); k_dflt (refine' callWith_K ?k1 ?k2 ?_; (case k1 => with_reducible assumption); (case k2 => k_is); k_whole))
  k_with "callWith ref" => (k_here; (with_reducible show wpAny _ _ (callWith _ (Value.ref _) _ (backTo _ (starEach [] _)) []) _ _ _); k_dflt (refine' callWith_K0 ?k1 ?k2 ?_; (case k1 => exact (by first | with_reducible assumption | exact Frag.In.keeps (by with_reducible assumption) (Fr.keep (by with_reducible assumption)))); (case k2 => k_is); k_whole))
  k_with "newList" => (k_here; k_dflt (refine' newList_K ?k1 ?k2 ?_; (case k1 => with_reducible assumption); (case k2 => with_reducible assumption); k_whole); intro l' h' F' N' l1; (try k_lt l1); (repeat (have := And.left l1; replace l1 := And.right l1)); (try k_sweep))
  k_with "And" => ((with_reducible show Frag.In _ _ ∧ _); refine ⟨(by first | with_reducible assumption | exact Frag.In.keeps (by with_reducible assumption) (Fr.keep (by with_reducible assumption))), ?_⟩; try dsimp only [List.nil_append, List.cons_append])
  k_with "eval Name" => (k_here; (with_reducible show wpAny _ _ (eval (Expr.Name _ _) (envOf _ _ _ _ _)) _ _ _); k_dflt (first | (refine' ld ?k1 ?k2 ?_ ?k3 ?k4 ?k5; (case k4 => kernel_rfl!); (case k1 => with_reducible assumption); (case k2 => ((try dsimp only [List.reverse, List.reverseAux]); (repeat (first | with_reducible exact lk_hit | with_reducible exact lk_sto_hit | with_reducible exact lk_ite_hit | (with_reducible refine lk_sto_miss (by kernel_rfl!) ?_) | (with_reducible refine lk_ite_miss2 (by kernel_rfl!) ?_) | (with_reducible refine lk_miss (by kernel_rfl!) ?_) | with_reducible refine lk_rev ?_)))); (case k3 => kernel_rfl!); (case k5 => decide +kernel); k_whole) | (refine' name_K ?k0 ?k1 ?k2 ?k3 ?_ ?k4 ?k5 ?k6; (case k5 => kernel_rfl!); (case k0 => with_reducible assumption); (case k1 => with_reducible assumption); (case k2 => exact topRead_of (by with_reducible assumption)); (case k3 => k_is); (case k4 => kernel_rfl!); (case k6 => decide +kernel); k_whole) | (refine' name_B ?k0 ?k1 ?k2 ?k3 ?k4 ?k5 ?_ ?k6 ?k7 ?k8; (case k7 => kernel_rfl!); (case k0 => with_reducible assumption); (case k1 => with_reducible assumption); (case k2 => exact topRead_of (by with_reducible assumption)); (case k3 => k_is); (case k4 => boot_fast); (case k5 => decide); (case k6 => kernel_rfl!); (case k8 => decide +kernel); k_whole)))
  k_with "storeName" => (k_here; (try dsimp only); (with_reducible show wpAny _ _ (storeName (envOf _ _ _ _ _) _ _) _ _ _); k_dflt (refine' store_u ?k1 ?k2 ?_ ?k3 ?k4; (case k4 => kernel_rfl!); (case k3 => kernel_rfl!); (case k1 => with_reducible assumption); (case k2 => with_reducible assumption); k_whole); intro h' F' N'; (try k_sweep))
  k_with "exec Assign" => (k_here; k_fold)
  k_with "exec If" => (k_here; k_fold)
  k_with "exec Expr" => (k_here; k_fold)
  k_with "call builtin:len" => (k_here; (with_reducible show wpAny _ _ (call (Value.builtin "len") [Value.bytes _ _]) _ _ _); k_dflt (refine bs_len (by (k_extra "sz")) ?_; intro _ _))
  k_with "subscriptTail" => (k_here; (with_reducible show wpAny _ _ (subscriptTail _ _ (Value.bytes _ _) (Value.int _ _)) _ _ _); k_dflt (refine bs_item8 (by (k_extra "sz")) (by (k_extra "sz")) (by (k_extra "sz")) ?_; intro _ _))
  k_with "subscriptTail" => (k_here; (with_reducible show wpAny _ _ (subscriptTail _ (Expr.Slice _ _ none _) (Value.bytes _ _) (Value.ref _)) _ _ _); (with_reducible rename Fr _ _ _ _ => F'); (with_reducible rename News _ _ _ _ => N'); k_dflt (refine' bs_slice (s := ⟨_, _, _, _, _⟩) F' N' (by constructor) (by constructor) (by (k_extra "sz")) ?k3 ?_; (case k3 => first | with_reducible exact BA.picked_hi _ (by (first | lia | omega)) | with_reducible exact BA.picked_lo _ (by (first | lia | omega)) | with_reducible exact picked_4 _ (by (first | lia | omega)) | with_reducible exact picked_len _ (by (first | lia | omega)) (by (first | lia | omega)) | with_reducible exact BA.picked_both _ (by (first | lia | omega)) (by (first | lia | omega)) | exact BA.picked_hi _ (by (first | lia | omega)) | exact BA.picked_lo _ (by (first | lia | omega)) | exact BA.picked_both _ (by (first | lia | omega)) (by (first | lia | omega))); k_whole; intro _ _ _ _ _))
  k_with "call ref" => (k_here; (with_reducible show wpAny _ _ (call (Value.ref _) [Value.bytes _ _, Value.str _ _]) _ _ _); kfb_any; k_dflt (refine fb_call (by k_asm) (by k_mem) (by (k_extra "sz")) ?_); intro _ _)
  k_with "subscriptTail Name Slice bytes ref" => (k_here; (with_reducible show wpAny _ _ (subscriptTail _ (Expr.Slice _ _ none _) (Value.bytes _ _) (Value.ref _)) _ _ _); (with_reducible rename Fr _ _ _ _ => F'); (with_reducible rename News _ _ _ _ => N'); k_dflt (refine' bs_slice (s := ⟨_, _, _, _, _⟩) F' N' (by constructor) (by constructor) (by (k_extra "sz")) ?k3 ?_; (case k3 => first | with_reducible exact BA.picked_hi _ (by (first | lia | omega)) | with_reducible exact BA.picked_lo _ (by (first | lia | omega)) | with_reducible exact picked_4 _ (by (first | lia | omega)) | with_reducible exact picked_len _ (by (first | lia | omega)) (by (first | lia | omega)) | with_reducible exact BA.picked_both _ (by (first | lia | omega)) (by (first | lia | omega)) | exact BA.picked_hi _ (by (first | lia | omega)) | exact BA.picked_lo _ (by (first | lia | omega)) | exact BA.picked_both _ (by (first | lia | omega)) (by (first | lia | omega))); k_whole; intro _ _ _ _ _))
  k_with "storeName" => (k_here; (try dsimp only); (with_reducible show wpAny _ _ (storeName (envOfC _ _ _ _ _) _ (Value.int (HAdd.hAdd _ _) _)) _ _ _); k_dflt (refine' storeZ ?k1 ?k2 ?_ ?k3 ?k4; (case k1 => with_reducible assumption); (case k2 => with_reducible assumption); (case k3 => exact rfl); (case k4 => exact rfl); k_whole); intro h' z' e' F' N'; (try (have p' := nneg e' (by with_reducible assumption) (by first | with_reducible assumption | exact Int.natCast_nonneg _ | decide))); (try k_sweep))
  k_with "storeName" => (k_here; (try dsimp only); (with_reducible show wpAny _ _ (storeName (envOfC _ _ _ _ _) _ (Value.int (Nat.cast (beV _)) _)) _ _ _); k_dflt (refine' storeK ?k1 ?k2 ?_ ?k3 ?k4; (case k1 => with_reducible assumption); (case k2 => with_reducible assumption); (case k3 => exact rfl); (case k4 => exact rfl); k_whole); intro h' z' e' F' N'; (try k_sweep))
  k_with "call builtin:len" => (k_here; (with_reducible show wpAny _ _ (call (Value.builtin "len") [Value.bytes _ _]) _ _ _); k_dflt (refine bs_len (fit12 (by with_reducible assumption)) ?_; intro _ _))
  k_with "subscriptTail" => (k_here; (with_reducible show wpAny _ _ (subscriptTail _ _ (Value.bytes _ _) (Value.int _ _)) _ _ _); k_dflt (refine bs_item8 (fit12 (by with_reducible assumption)) (by with_reducible assumption) (Int.not_le.mp (by with_reducible assumption)) ?_; intro _ _))
  k_with "subscriptTail Name Slice bytes ref" => (k_here; (with_reducible show wpAny _ _ (subscriptTail _ (Expr.Slice _ _ none _) (Value.bytes _ _) (Value.ref _)) _ _ _); (with_reducible rename Fr _ _ _ _ => F'); (with_reducible rename News _ _ _ _ => N'); k_dflt (refine' bs_slice (s := ⟨_, _, _, _, _⟩) F' N' (by constructor) (by constructor) (fit24 (by with_reducible assumption)) ?k3 ?_; (case k3 => first | with_reducible exact picked_4 _ (by with_reducible assumption) | with_reducible exact picked_len _ (by with_reducible assumption) (Int.natCast_nonneg _)); k_whole; intro _ _ _ _ _))
  k_with "eval Name" => (k_here; (with_reducible show wpAny _ _ (eval (Expr.Name _ _) (envOfC _ _ _ _ _)) _ _ _); k_dflt (refine' ldLoc ?k1 ?k2 ?_ ?k3 ?k4 ?k5; (case k4 => exact rfl); (case k1 => with_reducible assumption); (case k2 => first | exact rfl | assumption); (case k3 => exact rfl); (case k5 => decide +kernel); k_whole))
  k_with "subscriptTail" => (k_here; (with_reducible show wpAny _ _ (subscriptTail _ _ (Value.ref _) (Value.int _ _)) _ _ _); k_dflt (first | (refine' lst_item ?k1 ?k2 ?k3 ?k4 ?k5 ?_; (case k1 => with_reducible assumption); (case k2 => k_mem); (case k3 => decide); (case k4 => decide); (case k5 => first | with_reducible exact at_0 | with_reducible exact at_1 | with_reducible exact at_2 | exact rfl); k_whole) | (refine' tup_item ?k1 ?k2 ?k3 ?k4 ?k5 ?_; (case k1 => with_reducible assumption); (case k2 => k_mem); (case k3 => decide); (case k4 => decide); (case k5 => exact rfl); k_whole) | (refine' menu3 ?k1 ?k2 ?k3 ?k4 ?_; (case k1 => with_reducible assumption); (case k2 => k_mem); (case k3 => (first | lia | omega)); (case k4 => (first | lia | omega)); k_whole; intro _)))
  k_with "subscriptTail Name Constant ref int" => (k_here; (with_reducible show wpAny _ _ (subscriptTail _ _ (Value.ref _) (Value.int _ _)) _ _ _); k_dflt (first | (refine' lst_item ?k1 ?k2 ?k3 ?k4 ?k5 ?_; (case k1 => with_reducible assumption); (case k2 => k_mem); (case k3 => decide); (case k4 => decide); (case k5 => first | with_reducible exact at_0 | with_reducible exact at_1 | with_reducible exact at_2 | exact rfl); k_whole) | (refine' tup_item ?k1 ?k2 ?k3 ?k4 ?k5 ?_; (case k1 => with_reducible assumption); (case k2 => k_mem); (case k3 => decide); (case k4 => decide); (case k5 => exact rfl); k_whole) | (refine' menu3 ?k1 ?k2 ?k3 ?k4 ?_; (case k1 => with_reducible assumption); (case k2 => k_mem); (case k3 => (first | lia | omega)); (case k4 => (first | lia | omega)); k_whole; intro _)))
  k_with "call builtin:list.append" => (k_here; (with_reducible show wpAny _ _ (call (Value.builtin _) [Value.ref _, _]) _ _ _); k_dflt (refine' append_K ?k1 ?k2 ?k3 ?_ ?z; (case k1 => k_asm); (case k2 => k_asm); (case k3 => k_upd); (case z => ((simp only [List.size_toArray, sizeLine_eq]); (first | lia | omega))); k_whole); intro h' F' N'; (try k_sweep))
  exact True.intro

theorem sub_first {D : Addr} {o : Obj} {r : List (Addr × Obj)} {h₀ h : Heap} {L : Addr} (N : News h₀ L h ((D, o) :: r)) : News h₀ L h r := news_sub N fun _ h => .tail _ h
noncomputable def forB : Stmt → List Stmt
  | .For _ _ b _ _ => b
  | _ => []
noncomputable abbrev llT : List Stmt := wit (x := forB (stAt s35b 3)) _ (by (conv => rhs; whnf))
theorem rowsJaLongA2 : True := by
  k_with "binaryOp FloorDiv int int" => (k_here; k_dflt (first | refine int_div (y := 64) rfl (by decide) (by decide) (by decide) ?_ | refine int_div (y := 16) rfl (by decide) (by decide) (by decide) ?_); intro _ _)
  k_with "binaryOp Mod int int" => (k_here; k_dflt (refine int_emod (by decide) ?_); intro _ _)
  exact True.intro
section
variable {w : World} {mean : ExcName → Option Value} {mg mb : PySem.Str → Option Value} {dp un : Nat} {gd : Option (List Code)} {cn : PySem.Str} {cs : Scope} {a : Addr} {ccd : Value} {cl : List (PySem.Str × Addr)} {outer : List Env} {A₀ : Around} {base h₀ : Heap} {L : Addr} {m : PySem.Str → Option Value} {s : Shared} {Q E : Value → Shared → Prop} {R : Result → Shared → Prop}
variable {g h : Heap} {L' lx : Addr} {oc : Obj} {tk : Nat} {tl tq tv tf : Tok} {p q r n : Int} {l d sc tok tag : List UInt8} {v c f : Nat} {M : PySem.Str → Option Value} {QQ : Flow → Shared → Prop} {rdx : Option (Row × Int)} {EE : Value → Shared → Prop}
  {vs : Array Value} {cap : Nat} {rest : List (Addr × Obj)}
theorem rowsJaLongA3 : True := by
  k_with "call builtin:list.append" => (k_here; refine halt ?_)
  exact True.intro
set_option maxHeartbeats 40000000 in
theorem ll_turn (B' : Below (ktrTop dp un gd cn cs L a ccd cl outer) base (envX cn cs L a ccd cl :: outer) g) (X' : (K0 w.params).In g) (T' : Top jP jL mean mg mb g) (hk : cs.kind = .function) (hd : dp + 9 < recursionLimit) (hu : un + 40 < cLine) (hl : l.length ≤ 100000) (hq : 0 ≤ q)
    (F' : Fr g L' h M) (N' : News g L' h ((lx, listOf vs cap) :: (L' + 1, oc) :: rest)) (hc : oc.data = .cell (some (.bytes l.toArray tl))) (h1 : M (Str.ofString "at") = some (.int q tq)) (h2 : M (Str.ofString "ids") = some (.ref lx)) (hz : vs.size ≤ 100) (hn1 : @Ne Nat (L' + 1) lx) (hrest : ∀ p ∈ rest, p.1 ≠ lx)
    (hA : ∀ M' news' h' tk', (l.length : Int) ≤ q → Fr g L' h' M' → News g L' h' news' → QQ (.ret .none) { s with heap := h', toks := tk' })
    (hA2 : ∀ M' news' h' tk' (n : Nat) (q1 : Int), ¬ (l.length : Int) ≤ q → n = u8 l q → q1 = q + 1 → ((20 : Int) < n ∨ (l.length : Int) < q1 + n) → Fr g L' h' M' → News g L' h' news' → QQ (.ret .none) { s with heap := h', toks := tk' })
    (hB : ∀ (n : Nat) (q1 q2 : Int) (d : List UInt8) (t1 t2 t3 t4 : Tok) h' tk', ¬ (l.length : Int) ≤ q → n = u8 l q → q1 = q + 1 → ¬ (20 : Int) < n → ¬ (l.length : Int) < q1 + n → d = cutI l q1 n → q2 = q1 + n → 0 ≤ q2 →
      Fr g L' h' (fun y => if y = Str.ofString "at" then some (.int q2 t1) else if y = Str.ofString "size" then some (.int n t2) else if y = Str.ofString "at" then some (.int q1 t3) else M y) → News g L' h' ((lx, listOf (vs.push (.bytes d.toArray t4)) (cap + 1)) :: (L' + 1, oc) :: rest) → QQ .next { s with heap := h', toks := tk' }) :
    wpAny (model jprog w) ((ktrTop dp un gd cn cs L a ccd cl outer).deeper (envOfC (Str.ofString "_law_long") s35s L' 341 (.ref 340))) (execs llT (envOfC (Str.ofString "_law_long") s35s L' 341 (.ref 340))) QQ EE { s with heap := h, toks := tk } := by
  dsimp only [llT, wit]
  k_steps
  all_goals (try dsimp only)
  · exact hA _ _ _ _ (by assumption) (by assumption) (by assumption)
  · exact hA2 _ _ _ _ _ _ (by assumption) (by assumption) (by assumption) (.inl (by assumption)) (by assumption) (by assumption)
  · exact hA2 _ _ _ _ _ _ (by assumption) (by assumption) (by assumption) (.inr (by assumption)) (by assumption) (by assumption)
  · (with_reducible rename Fr g _ _ _ => kF)
    (with_reducible rename News g _ _ _ => kN)
    (rename _ < _ ∧ _ < _ ∧ AllLt _ _ => l1)
    refine Halt.mk ?_
    refine append_K kF kN (Upd.tail (Nat.ne_of_gt l1.1) (.head (fun z hz => ?_))) (fun h2 F2 N2 => ?_) (by rw [sizeLine_eq]; (first | lia | omega))
    · rcases List.mem_cons.mp hz with rfl | hz
      · exact hn1
      · exact hrest z hz
    clear kF kN
    k_steps
    exact hB _ _ _ _ _ _ _ _ _ _ (by assumption) (by assumption) (by assumption) (by assumption) (by assumption) rfl (by assumption) (by assumption) (by assumption) (sub_first (by assumption))
theorem rvar_abs {news : List (Addr × Obj)} {tp : Tok} (B : Below A₀ base outer h₀) (F : Fr h₀ L s.heap m) (X : (K0 w.params).In h₀) (N : News h₀ L s.heap news) (T : Top jP jL mean mg mb h₀) (hk : cs.kind = .function) (hd : dp + 3 < recursionLimit) (hu : un + 16 < cLine) (hl : l.length ≤ 100000) (hp : 0 ≤ p)
    (hnone : ∀ (h' : Heap) (tk' : Nat), (l.length : Int) ≤ p ∨ (l.length : Int) < p + (vS l p : Nat) → Fr h₀ L h' m → News h₀ L h' news → R (.ok (.ret .none)) { s with heap := h', toks := tk' })
    (hsome : ∀ (D : Addr) (n : Nat) (q : Int) (t t' : Tok) (h' : Heap) (tk' : Nat), n = vV l p → q = p + (vS l p : Nat) → ¬ ((l.length : Int) ≤ p ∨ (l.length : Int) < p + (vS l p : Nat)) → 0 ≤ q → AllNe D news → Fr h₀ L h' m → News h₀ L h' ((D, tupO #[.int (n : Int) t, .int q t']) :: news) → R (.ok (.ret (.ref D))) { s with heap := h', toks := tk' }) :
    codeAny (model jprog w) (ktrTop dp un gd cn cs L a ccd cl outer) (.call (.ref 336) ⟨[.bytes l.toArray tl, .int p tp], []⟩) R s :=
  rvar_full B F X N T hk hd hu hl hp hnone fun D t t' h' tk' h1 h2 hn F' N' => hsome D _ _ t t' h' tk' rfl rfl (by (first | lia | omega)) (by (first | lia | omega)) hn F' N'
noncomputable abbrev llF : List Stmt := wit (x := List.drop 11 s35b) _ (by (conv => rhs; whnf))
theorem rowsJaLongA4 : True := by
  k_with "call ref" => (k_here; (with_reducible show wpAny _ _ (call (Value.ref 336) _ _) _ _ _); k_dflt ((refine wpAny_call ?_); (refine' rvar_abs ?k1 ?k2 ?k3 ?k4 ?k5 ?k6 ?k7 ?k8 ?kl ?kp ?_ ?_; (case k1 => k_asm); (case k2 => k_asm); (case k3 => k_asm); (case k4 => k_asm); (case k5 => k_asm); (case k6 => first | exact rfl | assumption); (case k7 => first | exact room1 hd rfl | exact room2 hd rfl | ktr_room); (case k8 => first | exact room1 hu rfl | exact room2 hu rfl | ktr_units); (case kl => assumption); (case kp => assumption)); k_whole); (all_goals (first | (intro D' n' q' t' t2' h' tk' ev' eq' g' c0' hn' F' N'; (try simp only [AllNe, and_true] at hn'); (repeat (rcases hn' with ⟨_, hn'⟩)); (try dsimp only); (try k_sweep)) | (intro h' tk' hc' F' N'; (try dsimp only); (try k_sweep)))))
  exact True.intro

set_option maxHeartbeats 40000000 in
theorem ll_fin {td tc tz tt : Tok} {cap : Nat} (B' : Below (ktrTop dp un gd cn cs L a ccd cl outer) base (envX cn cs L a ccd cl :: outer) g) (X' : (K0 w.params).In g) (T' : Top jP jL mean mg mb g) (hk : cs.kind = .function) (hd : dp + 9 < recursionLimit) (hu : un + 40 < cLine) (hl : l.length ≤ 100000) (hR : rdx = finQ l p q v c d sc tok) (hc3 : c < 3) (hq : 0 ≤ q)
    (F' : Fr g L' h M) (N' : News g L' h [(lx, listOf #[.bytes d.toArray td, .bytes sc.toArray tc] cap), (L' + 1, oc)]) (hoc : oc.data = .cell (some (.bytes l.toArray tl))) (hlt : @LT.lt Nat _ (L' + 1) lx)
    (b1 : M (Str.ofString "at") = some (.int q tq)) (b2 : M (Str.ofString "ids") = some (.ref lx)) (b3 : M (Str.ofString "version") = some (.int v tv)) (b4 : M (Str.ofString "code") = some (.int (c : Int) tz)) (b5 : M (Str.ofString "token") = some (.bytes tok.toArray tt))
    (hN : ∀ M' news' h' tk', rdx = none → Fr g L' h' M' → News g L' h' news' → QQ (.ret .none) { s with heap := h', toks := tk' })
    (hS : ∀ (row : Row) (stop sz : Int) (D D1 LX : Addr) (te tv tk' ts td tc tt tg : Tok) (vs : List Value) (cap : Nat) M' news' (h' : Heap) (tk2 : Nat), rdx = some (row, stop) → row.ver = some v → sz = row.size + p → IntsAre vs row.vers → Fr g L' h' M' → News g L' h' news' → (D, tupO #[.ref D1, .int stop te]) ∈ news' → (D1, tupO #[.int v tv, .int row.kind tk', .int sz ts, .bytes row.dcid.toArray td, .bytes row.scid.toArray tc, .bytes row.token.toArray tt, .bytes row.tag.toArray tg, .ref LX]) ∈ news' → (LX, listOf vs.toArray cap) ∈ news' → QQ (.ret (.ref D)) { s with heap := h', toks := tk2 }) :
    wpAny (model jprog w) ((ktrTop dp un gd cn cs L a ccd cl outer).deeper (envOfC (Str.ofString "_law_long") s35s L' 341 (.ref 340))) (execs llF (envOfC (Str.ofString "_law_long") s35s L' 341 (.ref 340))) QQ EE { s with heap := h, toks := tk } := by
  dsimp only [llF, wit]
  k_steps
  all_goals (try dsimp only)
  · exact hN _ _ _ _ (finQ_no hR (by assumption)) (by assumption) (by assumption)
  · exact hN _ _ _ _ (fin_no (finQ_go hR (by assumption) (by assumption) (by assumption)) (by assumption)) (by assumption) (by assumption)
  · exact hS _ _ _ _ _ _ _ _ _ _ _ _ _ _ [] 0 _ _ _ _ (fin_go (finQ_go hR (by assumption) (by assumption) (by assumption)) (by assumption)) rfl (Int.sub_add_cancel _ _).symm .nil (by assumption) (by assumption) (.head _) (.tail _ (.head _)) (.tail _ (.tail _ (.head _)))
theorem rowsJaLongA5 : True := by
  k_with "execs cons" => (k_here; (with_reducible show wpAny _ _ (execs (Stmt.Assign [Expr.Name (Str.ofString "told") _] _ _ :: Stmt.If _ _ _ _ :: Stmt.Assign [Expr.Name (Str.ofString "kind") _] _ _ :: _) _) _ _ _); refine halt ?_)
  exact True.intro
theorem lt3 (h : c < 4) (h3 : (c : Int) ≠ 3) : c < 3 := by (first | lia | omega)
noncomputable abbrev llC : List Stmt := wit (x := List.drop 8 s35b) _ (by (conv => rhs; whnf))
set_option maxHeartbeats 40000000 in
theorem ll_code {td tc tz : Tok} {cap : Nat} (B' : Below (ktrTop dp un gd cn cs L a ccd cl outer) base (envX cn cs L a ccd cl :: outer) g) (X' : (K0 w.params).In g) (T' : Top jP jL mean mg mb g) (hk : cs.kind = .function) (hd : dp + 9 < recursionLimit) (hu : un + 40 < cLine) (hl : l.length ≤ 100000) (hR : rdx = rdFin l p q v c d sc) (hc4 : c < 4) (hq : 0 ≤ q)
    (F' : Fr g L' h M) (N' : News g L' h [(lx, listOf #[.bytes d.toArray td, .bytes sc.toArray tc] cap), (L' + 1, oc)]) (hoc : oc.data = .cell (some (.bytes l.toArray tl))) (hlt : @LT.lt Nat _ (L' + 1) lx)
    (b1 : M (Str.ofString "at") = some (.int q tq)) (b2 : M (Str.ofString "ids") = some (.ref lx)) (b3 : M (Str.ofString "version") = some (.int v tv)) (b4 : M (Str.ofString "code") = some (.int (c : Int) tz))
    (hN : ∀ M' news' h' tk', rdx = none → Fr g L' h' M' → News g L' h' news' → QQ (.ret .none) { s with heap := h', toks := tk' })
    (hS : ∀ (row : Row) (stop sz : Int) (D D1 LX : Addr) (te tv tk' ts td tc tt tg : Tok) (vs : List Value) (cap : Nat) M' news' (h' : Heap) (tk2 : Nat), rdx = some (row, stop) → row.ver = some v → sz = row.size + p → IntsAre vs row.vers → Fr g L' h' M' → News g L' h' news' → (D, tupO #[.ref D1, .int stop te]) ∈ news' → (D1, tupO #[.int v tv, .int row.kind tk', .int sz ts, .bytes row.dcid.toArray td, .bytes row.scid.toArray tc, .bytes row.token.toArray tt, .bytes row.tag.toArray tg, .ref LX]) ∈ news' → (LX, listOf vs.toArray cap) ∈ news' → QQ (.ret (.ref D)) { s with heap := h', toks := tk2 }) :
    wpAny (model jprog w) ((ktrTop dp un gd cn cs L a ccd cl outer).deeper (envOfC (Str.ofString "_law_long") s35s L' 341 (.ref 340))) (execs llC (envOfC (Str.ofString "_law_long") s35s L' 341 (.ref 340))) QQ EE { s with heap := h, toks := tk } := by
  dsimp only [llC, wit]
  k_steps
  all_goals (try dsimp only)
  · exact hN _ _ _ _ (fin3x hR (by assumption) (by assumption)) (by assumption) (by assumption)
  · exact hS _ _ _ _ _ _ _ _ _ _ _ _ _ _ [] 0 _ _ _ _ (fin3y hR (by assumption) hq (by assumption) rfl rfl) rfl (Int.sub_add_cancel _ _).symm .nil (by assumption) (by assumption) (.head _) (.tail _ (.head _)) (.tail _ (.tail _ (.head _)))
  · exact hN _ _ _ _ (fin0a hR (by assumption) (by assumption)) (by assumption) (by assumption)
  · exact hN _ _ _ _ (fin0b hR (by assumption) (by assumption) (by assumption) (by assumption) (.inr (by assumption))) (by assumption) (by assumption)
  · refine Halt.mk ?_
    (with_reducible rename Fr g _ _ _ => kF)
    exact ll_fin B' X' T' hk hd hu hl (finQ_0 hR (by assumption) (by assumption) (by assumption) (by assumption) (by assumption) (by assumption) rfl) (lt3 hc4 (by assumption)) (by assumption) kF (sub_first (sub_first (by assumption))) hoc hlt rfl b2 b3 b4 rfl hN hS
  · refine Halt.mk ?_
    (with_reducible rename Fr g _ _ _ => kF)
    exact ll_fin B' X' T' hk hd hu hl (finQ_1 hR (by assumption) (by assumption)) (lt3 hc4 (by assumption)) hq kF (by assumption) hoc hlt b1 b2 b3 b4 rfl hN hS
theorem rowsJaLongA6 : True := by
  k_with "execs cons" => (k_here; (with_reducible show wpAny _ _ (execs (Stmt.If (Expr.Compare (Expr.Name (Str.ofString "code") _) _ _ _) _ _ _ :: Stmt.Assign [Expr.Name (Str.ofString "token") _] _ _ :: _) _) _ _ _); refine halt ?_)
  exact True.intro
noncomputable abbrev llV : List Stmt := wit (x := List.drop 5 s35b) _ (by (conv => rhs; whnf))
theorem code_2 {z : Int} (ez : z = (((f / 16 : Nat) : Int) % 4 + 3) % 4) (h : (v : Int) = 1798521807) : z = ((code2 v (f / 16 % 4) : Nat) : Int) := by rw [ez]; unfold code2; rw [if_pos (by (first | lia | omega))]; (first | lia | omega)
theorem code_1 {z : Int} (ez : z = ((f / 16 : Nat) : Int) % 4) (h : (v : Int) ≠ 1798521807) : z = ((code2 v (f / 16 % 4) : Nat) : Int) := by rw [ez]; unfold code2; rw [if_neg (by (first | lia | omega))]; (first | lia | omega)
theorem code2_lt (v f : Nat) : code2 v (f / 16 % 4) < 4 := by unfold code2; split <;> (first | lia | omega)
set_option maxHeartbeats 40000000 in
theorem ll_ver {td tc tz : Tok} {cap : Nat} (B' : Below (ktrTop dp un gd cn cs L a ccd cl outer) base (envX cn cs L a ccd cl :: outer) g) (X' : (K0 w.params).In g) (T' : Top jP jL mean mg mb g) (hk : cs.kind = .function) (hd : dp + 9 < recursionLimit) (hu : un + 40 < cLine) (hl : l.length ≤ 100000) (hR : rdx = rdVer l p q v f d sc) (hv : (v : Int) ≠ 0) (hq : 0 ≤ q)
    (F' : Fr g L' h M) (N' : News g L' h [(lx, listOf #[.bytes d.toArray td, .bytes sc.toArray tc] cap), (L' + 1, oc)]) (hoc : oc.data = .cell (some (.bytes l.toArray tl))) (hlt : @LT.lt Nat _ (L' + 1) lx)
    (b1 : M (Str.ofString "at") = some (.int q tq)) (b2 : M (Str.ofString "ids") = some (.ref lx)) (b3 : M (Str.ofString "version") = some (.int v tv)) (b4 : M (Str.ofString "first") = some (.int (f : Int) tz))
    (hN : ∀ M' news' h' tk', rdx = none → Fr g L' h' M' → News g L' h' news' → QQ (.ret .none) { s with heap := h', toks := tk' })
    (hS : ∀ (row : Row) (stop sz : Int) (D D1 LX : Addr) (te tv tk' ts td tc tt tg : Tok) (vs : List Value) (cap : Nat) M' news' (h' : Heap) (tk2 : Nat), rdx = some (row, stop) → row.ver = some v → sz = row.size + p → IntsAre vs row.vers → Fr g L' h' M' → News g L' h' news' → (D, tupO #[.ref D1, .int stop te]) ∈ news' → (D1, tupO #[.int v tv, .int row.kind tk', .int sz ts, .bytes row.dcid.toArray td, .bytes row.scid.toArray tc, .bytes row.token.toArray tt, .bytes row.tag.toArray tg, .ref LX]) ∈ news' → (LX, listOf vs.toArray cap) ∈ news' → QQ (.ret (.ref D)) { s with heap := h', toks := tk2 }) :
    wpAny (model jprog w) ((ktrTop dp un gd cn cs L a ccd cl outer).deeper (envOfC (Str.ofString "_law_long") s35s L' 341 (.ref 340))) (execs llV (envOfC (Str.ofString "_law_long") s35s L' 341 (.ref 340))) QQ EE { s with heap := h, toks := tk } := by
  dsimp only [llV, wit]
  k_steps
  all_goals (try dsimp only)
  · exact hN _ _ _ _ (rdVer_bitL hR hv (by assumption)) (by assumption) (by assumption)
  · refine Halt.mk ?_
    (with_reducible rename Fr g _ _ _ => kF)
    have hz := code_2 (f := f) rfl (by assumption)
    exact ll_code B' X' T' hk hd hu hl (rdVer_finL hR hv (by assumption) rfl) (code2_lt v f) hq kF (by assumption) hoc hlt b1 b2 b3 (congrArg (fun z => some (Value.int z _)) hz) hN hS
  · refine Halt.mk ?_
    (with_reducible rename Fr g _ _ _ => kF)
    have hz := code_1 (f := f) rfl (by assumption)
    exact ll_code B' X' T' hk hd hu hl (rdVer_finL hR hv (by assumption) rfl) (code2_lt v f) hq kF (by assumption) hoc hlt b1 b2 b3 (congrArg (fun z => some (Value.int z _)) hz) hN hS
theorem rowsJaLongA7 : True := by
  k_with "exec Assign cons ListComp" => (k_here; refine halt ?_)
  exact True.intro
noncomputable abbrev llN : List Stmt := wit (x := ifT (stAt s35b 4)) _ (by (conv => rhs; whnf))
theorem quarter {q : Int} {l : List UInt8} (h : ((l.length : Int) - q) % 4 = 0) (h1 : q ≤ l.length) : ∃ n : Nat, (l.length : Int) - q = 4 * (n : Int) := ⟨(((l.length : Int) - q) / 4).toNat, by (first | lia | omega)⟩
theorem quarter_le {q : Int} {l : List UInt8} {n : Nat} (hn : (l.length : Int) - q = 4 * (n : Int)) (h0 : 0 ≤ q) (hl : l.length ≤ 100000) : n ≤ 16777216 := by (first | lia | omega)
theorem zero_row (e : rdx = rdVer l p q v f d sc) (hv : (v : Int) = 0) {k : Nat} (hn : (l.length : Int) - q = 4 * (k : Int)) : rdx = some (⟨some v, 4, (l.length : Int) - p, d, sc, [], [], rows l q k⟩, (l.length : Int)) := by
  have h := rdVer_zero (q := (l.length : Int)) (k := k) e hv (by (first | lia | omega)) rfl
  exact h
set_option maxHeartbeats 40000000 in
theorem ll_neg {td tc : Tok} {cap : Nat} (B' : Below (ktrTop dp un gd cn cs L a ccd cl outer) base (envX cn cs L a ccd cl :: outer) g) (X' : (K0 w.params).In g) (T' : Top jP jL mean mg mb g) (hk : cs.kind = .function) (hd : dp + 9 < recursionLimit) (hu : un + 40 < cLine) (hl : l.length ≤ 100000) (hR : rdx = rdVer l p q v f d sc) (hv : (v : Int) = 0) (hq : 0 ≤ q) (hql : q ≤ l.length)
    (F' : Fr g L' h M) (N' : News g L' h [(lx, listOf #[.bytes d.toArray td, .bytes sc.toArray tc] cap), (L' + 1, oc)]) (hoc : oc.data = .cell (some (.bytes l.toArray tl))) (hlt : @LT.lt Nat _ (L' + 1) lx)
    (b1 : M (Str.ofString "at") = some (.int q tq)) (b2 : M (Str.ofString "ids") = some (.ref lx)) (b3 : M (Str.ofString "version") = some (.int v tv))
    (hN : ∀ M' news' h' tk', rdx = none → Fr g L' h' M' → News g L' h' news' → QQ (.ret .none) { s with heap := h', toks := tk' })
    (hS : ∀ (row : Row) (stop sz : Int) (D D1 LX : Addr) (te tv tk' ts td tc tt tg : Tok) (vs : List Value) (cap : Nat) M' news' (h' : Heap) (tk2 : Nat), rdx = some (row, stop) → row.ver = some v → sz = row.size + p → IntsAre vs row.vers → Fr g L' h' M' → News g L' h' news' → (D, tupO #[.ref D1, .int stop te]) ∈ news' → (D1, tupO #[.int v tv, .int row.kind tk', .int sz ts, .bytes row.dcid.toArray td, .bytes row.scid.toArray tc, .bytes row.token.toArray tt, .bytes row.tag.toArray tg, .ref LX]) ∈ news' → (LX, listOf vs.toArray cap) ∈ news' → QQ (.ret (.ref D)) { s with heap := h', toks := tk2 }) :
    wpAny (model jprog w) ((ktrTop dp un gd cn cs L a ccd cl outer).deeper (envOfC (Str.ofString "_law_long") s35s L' 341 (.ref 340))) (execs llN (envOfC (Str.ofString "_law_long") s35s L' 341 (.ref 340))) QQ EE { s with heap := h, toks := tk } := by
  dsimp only [llN, wit]
  k_steps
  all_goals (try dsimp only)
  · exact hN _ _ _ _ (rdVer_none hR hv (by assumption)) (by assumption) (by assumption)
  · refine Halt.mk ?_
    (with_reducible rename Fr g _ _ _ => kF)
    obtain ⟨n, hn⟩ := quarter (l := l) (q := q) (by assumption) hql
    refine Assign_comp_step kF (by rfl) (by with_unfolding_all rfl) (by with_unfolding_all rfl) (by decide) (by rfl) (by decide) (by rfl) (by rfl) (by rfl) ?_
    k_steps
    refine StepSrc.intro (n := n) rfl (by with_reducible assumption) (by with_reducible assumption) (by assumption) (small4 hn hq (by (first | lia | omega))) (size4 hn) (by rw [sizeLine_eq]; exact quarter_le hn hq hl) ?_
    intro gq
    refine kcf_rest (ks := (List.range n).map fun j : Nat => q + 4 * (j : Int)) (fun k => ((u32 l k : Nat) : Int)) (by simp) (fun i v hi hv => ?_) (fun k' t' I' oI' C' oC' D' m' ys' h' tk' E' hk' hC' hx' F' N' off' ne' hM' => ?_) ?_
    · obtain ⟨-, t, e⟩ := hv
      refine ⟨q + 4 * (i : Int), t, by simp [hi], ?_⟩
      rw [e, Int.mul_comm]
    · obtain ⟨j, hj, rfl⟩ := List.mem_map.mp hk'
      have hj0 : 0 ≤ q + 4 * (j : Int) := by (first | lia | omega)
      k_steps
    · intro ys hys D h' tk' F' N' off'
      dsimp only
      k_steps
      all_goals (try dsimp only)
      have e : ((((List.range n).map fun j : Nat => q + 4 * (j : Int)).map fun k => ((u32 l k : Nat) : Int))) = rows l q n := by rw [List.map_map]; rfl
      rw [e] at hys
      exact hS _ _ _ _ _ D _ _ _ _ _ _ _ _ ys ys.length _ _ _ _ (zero_row hR hv hn) rfl (Int.sub_add_cancel _ _).symm hys (by assumption) (by assumption) (by k_mem) (by k_mem) (by k_mem)
theorem rowsJaLongA8 : True := by
  k_with "execs cons" => (k_here; (with_reducible show wpAny _ _ (execs (Stmt.If (Expr.Compare (Expr.BinOp (Expr.BinOp _ _ _ _) _ _ _) _ _ _) _ _ _ :: _) _) _ _ _); refine halt ?_)
  exact True.intro
noncomputable abbrev llA : List Stmt := wit (x := List.drop 4 s35b) _ (by (conv => rhs; whnf))
set_option maxHeartbeats 40000000 in
theorem ll_all {td tc tz : Tok} {cap : Nat} (B' : Below (ktrTop dp un gd cn cs L a ccd cl outer) base (envX cn cs L a ccd cl :: outer) g) (X' : (K0 w.params).In g) (T' : Top jP jL mean mg mb g) (hk : cs.kind = .function) (hd : dp + 9 < recursionLimit) (hu : un + 40 < cLine) (hl : l.length ≤ 100000) (hR : rdx = rdVer l p q v f d sc) (hq : 0 ≤ q) (hql : q ≤ l.length)
    (F' : Fr g L' h M) (N' : News g L' h [(lx, listOf #[.bytes d.toArray td, .bytes sc.toArray tc] cap), (L' + 1, oc)]) (hoc : oc.data = .cell (some (.bytes l.toArray tl))) (hlt : @LT.lt Nat _ (L' + 1) lx)
    (b1 : M (Str.ofString "at") = some (.int q tq)) (b2 : M (Str.ofString "ids") = some (.ref lx)) (b3 : M (Str.ofString "version") = some (.int v tv)) (b4 : M (Str.ofString "first") = some (.int (f : Int) tz))
    (hN : ∀ M' news' h' tk', rdx = none → Fr g L' h' M' → News g L' h' news' → QQ (.ret .none) { s with heap := h', toks := tk' })
    (hS : ∀ (row : Row) (stop sz : Int) (D D1 LX : Addr) (te tv tk' ts td tc tt tg : Tok) (vs : List Value) (cap : Nat) M' news' (h' : Heap) (tk2 : Nat), rdx = some (row, stop) → row.ver = some v → sz = row.size + p → IntsAre vs row.vers → Fr g L' h' M' → News g L' h' news' → (D, tupO #[.ref D1, .int stop te]) ∈ news' → (D1, tupO #[.int v tv, .int row.kind tk', .int sz ts, .bytes row.dcid.toArray td, .bytes row.scid.toArray tc, .bytes row.token.toArray tt, .bytes row.tag.toArray tg, .ref LX]) ∈ news' → (LX, listOf vs.toArray cap) ∈ news' → QQ (.ret (.ref D)) { s with heap := h', toks := tk2 }) :
    wpAny (model jprog w) ((ktrTop dp un gd cn cs L a ccd cl outer).deeper (envOfC (Str.ofString "_law_long") s35s L' 341 (.ref 340))) (execs llA (envOfC (Str.ofString "_law_long") s35s L' 341 (.ref 340))) QQ EE { s with heap := h, toks := tk } := by
  dsimp only [llA, wit]
  k_steps
  · refine Halt.mk ?_
    (with_reducible rename Fr g _ _ _ => kF)
    exact ll_neg B' X' T' hk hd hu hl hR (by assumption) hq hql kF (by assumption) hoc hlt b1 b2 b3 hN hS
  · refine Halt.mk ?_
    (with_reducible rename Fr g _ _ _ => kF)
    exact ll_ver B' X' T' hk hd hu hl hR (by assumption) hq kF (by assumption) hoc hlt b1 b2 b3 b4 hN hS
end
end JaLaw
end
section
set_option Elab.async false
set_option maxRecDepth 100000
namespace JaLaw
theorem rowsJaLong0 : True := by
  k_with_none
  k_with "sz" => (first | with_reducible assumption | ((try simp only [List.length_append, List.length_take, List.length_drop, List.length_cons, List.length_nil, toBE_length, List.length_replicate]); (first | lia | omega)))
  exact True.intro
theorem rowsJaLong1 : True := by
  k_with "callWith ref" => (k_here; (with_reducible show wpAny _ _ (callWith _ (Value.ref _) _ (backTo _ (starEach [] _)) (backToKw _ (keywordEach (_ :: _) _))) _ _ _); k_dflt (refine' callWith_KW0 ?k1 ?k2 ?k3 ?_; (case k1 => with_reducible assumption); (case k2 => k_is); (case k3 => exact rfl); k_whole))
  k_with "callWith ref" => (k_here; (with_reducible show wpAny _ _ (callWith _ (Value.ref _) _ (backTo _ (starEach (_ :: _) _)) []) _ _ _); k_dflt (refine' callWith_K ?k1 ?k2 ?_; (case k1 => with_reducible assumption); (case k2 => k_is); k_whole))
  k_with "callWith ref" => (k_here; (with_reducible show wpAny _ _ (callWith _ (Value.ref _) _ (backTo _ (starEach [] _)) []) _ _ _); k_dflt (refine' callWith_K0 ?k1 ?k2 ?_; (case k1 => exact (by first | with_reducible assumption | exact Frag.In.keeps (by with_reducible assumption) (Fr.keep (by with_reducible assumption)))); (case k2 => k_is); k_whole))
  k_with "newList" => (k_here; k_dflt (refine' newList_K ?k1 ?k2 ?_; (case k1 => with_reducible assumption); (case k2 => with_reducible assumption); k_whole); intro l' h' F' N' l1; (try k_lt l1); (repeat (have := And.left l1; replace l1 := And.right l1)); (try k_sweep))
  k_with "And" => ((with_reducible show Frag.In _ _ ∧ _); refine ⟨(by first | with_reducible assumption | exact Frag.In.keeps (by with_reducible assumption) (Fr.keep (by with_reducible assumption))), ?_⟩; try dsimp only [List.nil_append, List.cons_append])
  k_with "eval Name" => (k_here; (with_reducible show wpAny _ _ (eval (Expr.Name _ _) (envOf _ _ _ _ _)) _ _ _); k_dflt (first | (refine' ld ?k1 ?k2 ?_ ?k3 ?k4 ?k5; (case k4 => kernel_rfl!); (case k1 => with_reducible assumption); (case k2 => ((try dsimp only [List.reverse, List.reverseAux]); (repeat (first | with_reducible exact lk_hit | with_reducible exact lk_sto_hit | with_reducible exact lk_ite_hit | (with_reducible refine lk_sto_miss (by kernel_rfl!) ?_) | (with_reducible refine lk_ite_miss2 (by kernel_rfl!) ?_) | (with_reducible refine lk_miss (by kernel_rfl!) ?_) | with_reducible refine lk_rev ?_)))); (case k3 => kernel_rfl!); (case k5 => decide +kernel); k_whole) | (refine' name_K ?k0 ?k1 ?k2 ?k3 ?_ ?k4 ?k5 ?k6; (case k5 => kernel_rfl!); (case k0 => with_reducible assumption); (case k1 => with_reducible assumption); (case k2 => exact topRead_of (by with_reducible assumption)); (case k3 => k_is); (case k4 => kernel_rfl!); (case k6 => decide +kernel); k_whole) | (refine' name_B ?k0 ?k1 ?k2 ?k3 ?k4 ?k5 ?_ ?k6 ?k7 ?k8; (case k7 => kernel_rfl!); (case k0 => with_reducible assumption); (case k1 => with_reducible assumption); (case k2 => exact topRead_of (by with_reducible assumption)); (case k3 => k_is); (case k4 => boot_fast); (case k5 => decide); (case k6 => kernel_rfl!); (case k8 => decide +kernel); k_whole)))
  k_with "storeName" => (k_here; (try dsimp only); (with_reducible show wpAny _ _ (storeName (envOf _ _ _ _ _) _ _) _ _ _); k_dflt (refine' store_u ?k1 ?k2 ?_ ?k3 ?k4; (case k4 => kernel_rfl!); (case k3 => kernel_rfl!); (case k1 => with_reducible assumption); (case k2 => with_reducible assumption); k_whole); intro h' F' N'; (try k_sweep))
  k_with "exec Assign" => (k_here; k_fold)
  k_with "exec If" => (k_here; k_fold)
  k_with "call builtin:len" => (k_here; (with_reducible show wpAny _ _ (call (Value.builtin "len") [Value.bytes _ _]) _ _ _); k_dflt (refine bs_len (by (k_extra "sz")) ?_; intro _ _))
  k_with "call ref" => (k_here; (with_reducible show wpAny _ _ (call (Value.ref _) [Value.bytes _ _, Value.str _ _]) _ _ _); kfb_any; k_dflt (refine fb_call (by k_asm) (by k_mem) (by (k_extra "sz")) ?_); intro _ _)
  k_with "subscriptTail Name Slice bytes ref" => (k_here; (with_reducible show wpAny _ _ (subscriptTail _ (Expr.Slice _ _ none _) (Value.bytes _ _) (Value.ref _)) _ _ _); (with_reducible rename Fr _ _ _ _ => F'); (with_reducible rename News _ _ _ _ => N'); k_dflt (refine' bs_slice (s := ⟨_, _, _, _, _⟩) F' N' (by constructor) (by constructor) (by (k_extra "sz")) ?k3 ?_; (case k3 => first | with_reducible exact BA.picked_hi _ (by (first | lia | omega)) | with_reducible exact BA.picked_lo _ (by (first | lia | omega)) | with_reducible exact picked_4 _ (by (first | lia | omega)) | with_reducible exact picked_len _ (by (first | lia | omega)) (by (first | lia | omega)) | with_reducible exact BA.picked_both _ (by (first | lia | omega)) (by (first | lia | omega)) | exact BA.picked_hi _ (by (first | lia | omega)) | exact BA.picked_lo _ (by (first | lia | omega)) | exact BA.picked_both _ (by (first | lia | omega)) (by (first | lia | omega))); k_whole; intro _ _ _ _ _))
  k_with "storeName" => (k_here; (try dsimp only); (with_reducible show wpAny _ _ (storeName (envOfC _ _ _ _ _) _ (Value.int (HAdd.hAdd _ _) _)) _ _ _); k_dflt (refine' storeZ ?k1 ?k2 ?_ ?k3 ?k4; (case k1 => with_reducible assumption); (case k2 => with_reducible assumption); (case k3 => exact rfl); (case k4 => exact rfl); k_whole); intro h' z' e' F' N'; (try (have p' := nneg e' (by with_reducible assumption) (by first | with_reducible assumption | exact Int.natCast_nonneg _ | decide))); (try k_sweep))
  k_with "storeName" => (k_here; (try dsimp only); (with_reducible show wpAny _ _ (storeName (envOfC _ _ _ _ _) _ (Value.int (Nat.cast (beV _)) _)) _ _ _); k_dflt (refine' storeK ?k1 ?k2 ?_ ?k3 ?k4; (case k1 => with_reducible assumption); (case k2 => with_reducible assumption); (case k3 => exact rfl); (case k4 => exact rfl); k_whole); intro h' z' e' F' N'; (try k_sweep))
  k_with "call builtin:len" => (k_here; (with_reducible show wpAny _ _ (call (Value.builtin "len") [Value.bytes _ _]) _ _ _); k_dflt (refine bs_len (fit12 (by with_reducible assumption)) ?_; intro _ _))
  k_with "subscriptTail Name Slice bytes ref" => (k_here; (with_reducible show wpAny _ _ (subscriptTail _ (Expr.Slice _ _ none _) (Value.bytes _ _) (Value.ref _)) _ _ _); (with_reducible rename Fr _ _ _ _ => F'); (with_reducible rename News _ _ _ _ => N'); k_dflt (refine' bs_slice (s := ⟨_, _, _, _, _⟩) F' N' (by constructor) (by constructor) (fit24 (by with_reducible assumption)) ?k3 ?_; (case k3 => first | with_reducible exact picked_4 _ (by with_reducible assumption) | with_reducible exact picked_len _ (by with_reducible assumption) (Int.natCast_nonneg _)); k_whole; intro _ _ _ _ _))
  k_with "eval Name" => (k_here; (with_reducible show wpAny _ _ (eval (Expr.Name _ _) (envOfC _ _ _ _ _)) _ _ _); k_dflt (refine' ldLoc ?k1 ?k2 ?_ ?k3 ?k4 ?k5; (case k4 => exact rfl); (case k1 => with_reducible assumption); (case k2 => first | exact rfl | assumption); (case k3 => exact rfl); (case k5 => decide +kernel); k_whole))
  exact True.intro

theorem rowsJaLong2 : True := by
  k_with "execs cons" => (k_here; (with_reducible show wpAny _ _ (execs (Stmt.If (Expr.Compare (Expr.Name (Str.ofString "at") _) _ _ _) _ _ _ :: Stmt.Assign _ _ _ :: _) _) _ _ _); refine halt ?_)
  k_with "execs cons" => (k_here; (with_reducible show wpAny _ _ (execs (Stmt.If (Expr.Compare (Expr.Name (Str.ofString "version") _) _ [Expr.Constant (Const.int 0) _ _] _) _ _ _ :: _) _) _ _ _); refine halt ?_)
  k_with "exec For Name Call cons nil" => (k_here; k_fold)
  exact True.intro
theorem cut_le {q1 q2 : Int} {l : List UInt8} {n : Nat} (h : ¬ (l.length : Int) < q1 + n) (e : q2 = q1 + n) : q2 ≤ l.length := by rw [e]; exact Int.not_lt.mp h
section
variable {w : World} {mean : ExcName → Option Value} {mg mb : PySem.Str → Option Value} {dp un : Nat} {gd : Option (List Code)} {cn : PySem.Str} {cs : Scope} {a : Addr} {ccd : Value} {cl : List (PySem.Str × Addr)} {outer : List Env} {A₀ : Around} {base h₀ : Heap} {L : Addr} {m : PySem.Str → Option Value} {s : Shared} {Q E : Value → Shared → Prop} {R : Result → Shared → Prop}
variable {l : List UInt8} {p : Int} {f : Nat} {tl tp tf : Tok}
set_option maxHeartbeats 40000000 in
theorem llong_ct (B : Below A₀ base outer h₀) (F : Fr h₀ L s.heap m) (X : (K0 w.params).In h₀) (N : News h₀ L s.heap []) (T : Top jP jL mean mg mb h₀) (hk : cs.kind = .function) (hd : dp + 9 < recursionLimit) (hu : un + 40 < cLine) (hl : l.length ≤ 100000) (hp : 0 ≤ p) (hf : f < 256)
    (hnone : ∀ (h' : Heap) (tk' : Nat), rdLong l p f = none → Fr h₀ L h' m → Keeps [] s.heap h' → R (.ok (.ret .none)) { s with heap := h', toks := tk' })
    (hsome : ∀ (row : Row) (stop sz : Int) (v : Nat) (D D1 LX : Addr) (te tv tk' ts td tc tt tg : Tok) (vs : List Value) (cap : Nat) (h' : Heap) (tk2 : Nat), rdLong l p f = some (row, stop) → row.ver = some v → sz = row.size + p → IntsAre vs row.vers → Fr h₀ L h' m → Keeps [] s.heap h' →
      h'.get? D = some (tupO #[.ref D1, .int stop te]) → h'.get? D1 = some (tupO #[.int v tv, .int row.kind tk', .int sz ts, .bytes row.dcid.toArray td, .bytes row.scid.toArray tc, .bytes row.token.toArray tt, .bytes row.tag.toArray tg, .ref LX]) →
      h'.get? LX = some (listOf vs.toArray cap) → s.heap.get? D = none → s.heap.get? D1 = none → s.heap.get? LX = none → R (.ok (.ret (.ref D))) { s with heap := h', toks := tk2 }) :
    codeAny (model jprog w) (ktrTop dp un gd cn cs L a ccd cl outer) (.call (.ref 341) ⟨[.bytes l.toArray tl, .int (p + 1) tp, .int f tf], []⟩) R s := by
  have hp1 : 0 ≤ p + 1 := by (first | lia | omega)
  k_dflt (refine' enter_defC (binds := [(Str.ofString "octets", .bytes l.toArray tl), (Str.ofString "at", .int (p + 1) tp), (Str.ofString "first", .int f tf)]) (m₁ := fun y => (if y = Str.ofString "first" then some (.int f tf) else (if y = Str.ofString "at" then some (.int (p + 1) tp) else none))) ?k1 ?k2 ?k3 ?k4 ?k5 ?kA ?kF ?kK ?k6 ?k7 ?k8 ?k9 ?kB ?kD ?kM ?_ ?c2 ?c3 ?c4; (case kA => exact rfl); (case kF => exact rfl); (case kK => assumption); (case k1 => k_asm); (case k2 => k_asm); (case k3 => k_asm); (case k4 => k_asm); (case k5 => k_asm); (case k6 => k_is); (case k7 => k_is); (case k8 => first | exact room0 hd | ktr_room); (case k9 => first | exact BindsTo.of_eq (by kernel_rfl!) | exact BindsTo.of_eq rfl | exact binds_K (by k_in) rfl (by k_is) rfl rfl rfl); (case kB => exact rfl); (case kD => decide +kernel); (case kM => (intro _; kernel_rfl!)); (case c2 => exact rfl); (case c3 => exact rfl); (case c4 => exact rfl); k_whole; intro g' L' h' tk' cells' FG' F' N' Y' B' X' T' hkp l1; (try k_lt l1); k_cells Y'; (rename Obj.data _ = Data.cell _ => d1'); (replace d1' : _ = Data.cell (some (.bytes l.toArray tl)) := d1'); (try simp only [List.cons_append, List.nil_append] at N'); (try dsimp only); (try k_lift B'); (try ((with_reducible show wpAny _ _ _ _ _ _); k_fold)))
  k_steps
  · (rename Keeps _ _ _ => kK)
    exact hnone _ _ (stA_5 (rdLong_stA l p f) (by assumption)) (by assumption) (keeps_less kK N (by assumption) (by repeat' (first | exact List.forall_mem_nil _ | (refine List.forall_mem_cons.mpr ⟨?_, ?_⟩) | exact Or.inl (by k_mem) | exact Or.inr (by k_mem))))
  · refine Halt.mk ?_
    have hB0 := stA_go5 (rdLong_stA l p f) (by assumption) (by assumption) (by assumption)
    (with_reducible rename Fr g' _ _ _ => kF)
    (with_reducible rename News g' _ _ _ => kN)
    (rename _ < _ ∧ _ < _ ∧ _ < _ ∧ _ < _ => l1)
    refine ll_turn B' X' T' hk hd hu hl (by assumption) kF (rest := [_]) (news_sub (news' := [_, _, _]) kN (List.forall_mem_cons.mpr ⟨.tail _ (.head _), List.forall_mem_cons.mpr ⟨.tail _ (.tail _ (.tail _ (.tail _ (.head _)))), List.forall_mem_cons.mpr ⟨.head _, List.forall_mem_nil _⟩⟩⟩)) (by assumption) rfl rfl (by decide) (by k_ne) (List.forall_mem_cons.mpr ⟨Nat.ne_of_gt l1.1, List.forall_mem_nil _⟩) ?a1 ?a2 ?a3
    case a1 =>
      intro M' news' h' tk' hle F2 N2
      clear kF kN
      k_steps
      (rename Keeps _ _ _ => kK)
      exact hnone _ _ (stB_noL hB0 hle) (by assumption) (keeps_less kK N (by assumption) (by repeat' (first | exact List.forall_mem_nil _ | (refine List.forall_mem_cons.mpr ⟨?_, ?_⟩) | exact Or.inl (by k_mem) | exact Or.inr (by k_mem))))
    case a2 =>
      intro M' news' h' tk' n q1 g1 e1 e2 g2 F2 N2
      clear kF kN
      k_steps
      (rename Keeps _ _ _ => kK)
      exact hnone _ _ (stC_noL (stB_goL hB0 g1 e1 e2) g2) (by assumption) (keeps_less kK N (by assumption) (by repeat' (first | exact List.forall_mem_nil _ | (refine List.forall_mem_cons.mpr ⟨?_, ?_⟩) | exact Or.inl (by k_mem) | exact Or.inr (by k_mem))))
    case a3 =>
      intro n q1 q2 d t1 t2 t3 t4 h' tk' g1 e1 e2 g2 g3 e3 e4 c0 F2 N2
      have hE := stC_goL (stB_goL hB0 g1 e1 e2) g2 g3 e3 e4
      clear kF kN
      refine UnrEnd.intro F2 N2 [_, _] (List.forall_mem_cons.mpr ⟨.tail _ (.tail _ (.head _)), List.forall_mem_cons.mpr ⟨.head _, List.forall_mem_cons.mpr ⟨.tail _ (.head _), List.forall_mem_nil _⟩⟩⟩) (List.forall_mem_cons.mpr ⟨Nat.ne_of_lt l1.1, List.forall_mem_cons.mpr ⟨Nat.ne_of_lt l1.2.2.2, List.forall_mem_nil _⟩⟩) ?_
      clear F2 N2
      k_steps
      refine Halt.mk ?_
      (with_reducible rename Fr g' _ _ _ => kF)
      (with_reducible rename News g' _ _ _ => kN)
      refine ll_turn B' X' T' hk hd hu hl c0 kF (rest := [_]) (news_sub (news' := [_, _, _]) kN (List.forall_mem_cons.mpr ⟨.tail _ (.head _), List.forall_mem_cons.mpr ⟨.tail _ (.tail _ (.head _)), List.forall_mem_cons.mpr ⟨.head _, List.forall_mem_nil _⟩⟩⟩)) (by assumption) rfl rfl (by rw [Array.size_push]; decide) (by k_ne) (List.forall_mem_cons.mpr ⟨Nat.ne_of_gt l1.1, List.forall_mem_nil _⟩) ?b1 ?b2 ?b3
      case b1 =>
        intro M' news' h' tk' hle F2 N2
        clear kF kN
        k_steps
        (rename Keeps _ _ _ => kK)
        exact hnone _ _ (stE_noL hE hle) (by assumption) (keeps_less kK N (by assumption) (by repeat' (first | exact List.forall_mem_nil _ | (refine List.forall_mem_cons.mpr ⟨?_, ?_⟩) | exact Or.inl (by k_mem) | exact Or.inr (by k_mem))))
      case b2 =>
        intro M' news' h' tk' n q1 g1 e1 e2 g2 F2 N2
        clear kF kN
        k_steps
        (rename Keeps _ _ _ => kK)
        exact hnone _ _ (stG_noL (stE_goL hE g1 e1 e2) g2) (by assumption) (keeps_less kK N (by assumption) (by repeat' (first | exact List.forall_mem_nil _ | (refine List.forall_mem_cons.mpr ⟨?_, ?_⟩) | exact Or.inl (by k_mem) | exact Or.inr (by k_mem))))
      case b3 =>
        intro n q1 q2 d t1 t2 t3 t4 h' tk' g1 e1 e2 g2 g3 e3 e4 c0 F2 N2
        have hV := stG_goL (stE_goL hE g1 e1 e2) g2 g3 e3 e4
        clear kF kN
        refine UnrEnd.intro F2 N2 [_, _] (List.forall_mem_cons.mpr ⟨.tail _ (.tail _ (.head _)), List.forall_mem_cons.mpr ⟨.head _, List.forall_mem_cons.mpr ⟨.tail _ (.head _), List.forall_mem_nil _⟩⟩⟩) (List.forall_mem_cons.mpr ⟨Nat.ne_of_lt l1.1, List.forall_mem_cons.mpr ⟨Nat.ne_of_lt l1.2.2.2, List.forall_mem_nil _⟩⟩) ?_
        clear F2 N2
        k_steps
        refine Halt.mk ?_
        (with_reducible rename Fr g' _ _ _ => kF)
        refine ll_all B' X' T' hk hd hu hl hV c0 (cut_le g3 e4) kF (by assumption) d1' (by assumption) rfl rfl rfl rfl ?c1 ?c2
        case c1 =>
          intro M' news' h' tk' e F2 N2
          clear kF
          k_steps
          (rename Keeps _ _ _ => kK)
          exact hnone _ _ e (by assumption) (keeps_less kK N (by assumption) (by repeat' (first | exact List.forall_mem_nil _ | (refine List.forall_mem_cons.mpr ⟨?_, ?_⟩) | exact Or.inl (by k_mem) | exact Or.inr (by k_mem))))
        case c2 =>
          intro row stop sz D D1 LX te tv tk' ts td tc tt tg vs cap M' news' h' tk2 e1 e2 e3 e4 F2 N2 m1 m2 m3
          clear kF
          have k1 := N2.get m1
          k_steps
          (rename Keeps _ _ _ => kK)
          (rename News h₀ _ _ _ => kN)
          exact hsome row stop sz z' D D1 LX te _ tk' ts td tc tt tg vs cap _ _ e1 e2 e3 e4 (by assumption) (keeps_less kK N (by assumption) (by repeat' (first | exact List.forall_mem_nil _ | (refine List.forall_mem_cons.mpr ⟨?_, ?_⟩) | exact Or.inl (by k_mem) | exact Or.inr (by k_mem)))) (kN.get m1) (kN.get m2) (kN.get m3) (fresh_mem hkp N2 m1 (by simp only [AllLt])) (fresh_mem hkp N2 m2 (by simp only [AllLt])) (fresh_mem hkp N2 m3 (by simp only [AllLt]))
variable {news : List (Addr × Obj)}
theorem llong_full (B : Below A₀ base outer h₀) (F : Fr h₀ L s.heap m) (X : (K0 w.params).In h₀) (N : News h₀ L s.heap news) (T : Top jP jL mean mg mb h₀) (hk : cs.kind = .function) (hd : dp + 9 < recursionLimit) (hu : un + 40 < cLine) (hl : l.length ≤ 100000) (hp : 0 ≤ p) (hf : f < 256)
    (hnone : ∀ (h' : Heap) (tk' : Nat), rdLong l p f = none → Fr h₀ L h' m → News h₀ L h' news → R (.ok (.ret .none)) { s with heap := h', toks := tk' })
    (hsome : ∀ (row : Row) (stop sz : Int) (v : Nat) (D D1 LX : Addr) (te tv tk' ts td tc tt tg : Tok) (vs : List Value) (cap : Nat) (h' : Heap) (tk2 : Nat), rdLong l p f = some (row, stop) → row.ver = some v → sz = row.size + p → IntsAre vs row.vers → Fr h₀ L h' m →
      News h₀ L h' ((D, tupO #[.ref D1, .int stop te]) :: (D1, tupO #[.int v tv, .int row.kind tk', .int sz ts, .bytes row.dcid.toArray td, .bytes row.scid.toArray tc, .bytes row.token.toArray tt, .bytes row.tag.toArray tg, .ref LX]) :: (LX, listOf vs.toArray cap) :: news) → R (.ok (.ret (.ref D))) { s with heap := h', toks := tk2 }) :
    codeAny (model jprog w) (ktrTop dp un gd cn cs L a ccd cl outer) (.call (.ref 341) ⟨[.bytes l.toArray tl, .int (p + 1) tp, .int f tf], []⟩) R s :=
  llong_ct B F X (news_sub N fun _ h => (nomatch h)) T hk hd hu hl hp hf (fun h' tk' hc F' kp => hnone h' tk' hc F' (news_keep N kp))
    fun row stop sz v D D1 LX te tv tk' ts td tc tt tg vs cap h' tk2 e1 e2 e3 e4 F' kp g1 g2 g3 n1 n2 n3 => hsome row stop sz v D D1 LX te tv tk' ts td tc tt tg vs cap h' tk2 e1 e2 e3 e4 F' (news_new' F (news_new' F (news_new' F (news_keep N kp) g3 n3) g2 n2) g1 n1)
end
end JaLaw
end
section
set_option Elab.async false
set_option maxRecDepth 100000
namespace JaLaw
/-! a tuple cut: its first items -/
section
variable {prog : Program} {w : World} {A : Around} {E : Value → Shared → Prop} {s : Shared} {h₀ : Heap} {L : Addr} {m : PySem.Str → Option Value} {news : List (Addr × Obj)}
theorem adjust_to (b n : Nat) (hb : b ≤ n) : Builtin.Slice.sliceAdjust none (some (b : Int)) 1 (n : Int) = (0, (b : Int)) := by
  unfold Builtin.Slice.sliceAdjust
  have h1 : ¬ ((1 : Int) < 0) := by (first | lia | omega)
  have h2 : ¬ ((b : Int) < 0) := by (first | lia | omega)
  simp only [h1, h2, if_false]
  congr 1
  (first | lia | omega)
theorem places_to (b : Nat) : Builtin.Slice.slicePlaces 0 (b : Int) 1 = b := by
  unfold Builtin.Slice.slicePlaces
  have h1 : (1 : Int) > 0 := by (first | lia | omega)
  simp only [h1, if_true, Int.ediv_one]
  split <;> (first | lia | omega)
theorem applied_to {sl : Addr} {b n : Nat} {u : Tok} {Q : Int × Int × Nat → Shared → Prop} (hs : s.heap.IsSliceOf sl .none (.int b u) .none) (hb : b ≤ n) (h : Q (0, 1, b) s) :
    wpAny (model prog w) A (Builtin.Slice.sliceApplied (.ref sl) (pure (n : Int))) Q E s := by
  obtain ⟨os, hos, hcs, hds⟩ := id hs
  unfold Builtin.Slice.sliceApplied Builtin.Slice.sliceFields
  refine wpAny_bind (wpAny_bind (wpAny_field hos hds (x := .none) rfl (wpAny_bind (wpAny_field hos hds (x := .int b u) rfl (wpAny_bind (wpAny_field hos hds (x := .none) rfl (wpAny_pure ?_)))))))
  refine wpAny_bind (slicePart_none ?_)
  show wpAny _ _ (if ((1 : Int) == 0) = true then _ else _) _ _ s
  rw [if_neg (by decide)]
  refine wpAny_bind (slicePart_none (wpAny_bind (slicePart_int (wpAny_bind (wpAny_pure ?_)))))
  show wpAny _ _ (match Builtin.Slice.sliceAdjust none (some (b : Int)) 1 (n : Int) with | (lo, hi) => pure (lo, (1 : Int), Builtin.Slice.slicePlaces lo hi 1)) _ _ s
  rw [adjust_to b n hb]
  show wpAny _ _ (pure ((0 : Int), (1 : Int), Builtin.Slice.slicePlaces 0 (b : Int) 1)) _ _ s
  rw [places_to b]
  exact wpAny_pure h
theorem pick_to (xs : Array Value) (b : Nat) : ((List.range b).filterMap fun (k : Nat) => xs[((0 : Int) + (k : Int) * 1).toNat]?).toArray = (xs.toList.take b).toArray := by
  have e : (fun (k : Nat) => xs[((0 : Int) + (k : Int) * 1).toNat]?) = fun k => xs[0 + k]? := by
    funext k
    rw [show ((0 : Int) + (k : Int) * 1).toNat = 0 + k by (first | lia | omega)]
  rw [e]
  have := pick_run xs 0 b
  rw [List.filterMap_map] at this
  have e2 : ((fun x => xs[x]?) ∘ fun x => 0 + x) = fun k => xs[0 + k]? := rfl
  rw [e2] at this
  rw [this, List.drop_zero]
theorem item_to {t sl : Addr} {items : Array Value} {b : Nat} {u : Tok} {Q : Value → Shared → Prop} (ht : IsTup s.heap t items) (hs : s.heap.IsSliceOf sl .none (.int b u) .none) (hb : b < items.size)
    (h : Q (.ref s.heap.objs.size) { s with heap := s.heap.push { cls := .type "tuple", data := .seq (items.toList.take b).toArray } })
    (hsz : items.size ≤ sizeLine) : wpAny (model prog w) A (getItem (.ref t) (.ref sl)) Q E s := by
  have hok : sizeOk (.seq (items.toList.take b).toArray) := by
    show (items.toList.take b).toArray.size ≤ sizeLine
    rw [List.size_toArray, List.length_take, Array.length_toList]
    (first | lia | omega)
  obtain ⟨os, hos, hcs, hds⟩ := id hs
  have hTs : s.TypeIs (.ref sl) "slice" := ⟨os, hos, hcs⟩
  unfold getItem
  try with_reducible refine wpAny_holding ?_
  first | refine wpAny_bind (wpAny_pure ?_) | skip
  refine wpAny_bind (wpAny_sequenceKey ht.typeIs (by decide) ?_)
  refine wpAny_bind (wpAny_callSpecial?_slot (name := Str.ofString "__getitem__") ht.typeIs slot_tuple_getitem
    (wpAny_call_entry slot_tuple_getitem ht.typeIs entry_tuple_getitem ?_ (args_tuple_getitem _ _)))
  show wpAny _ _ (Builtin.Tuple.tupleItemsOf (.ref t) >>= _) _ _ s
  refine wpAny_bind (tupleItemsOf_ ht ?_)
  refine wpAny_bind (wpAny_typeOf hTs ?_)
  rw [if_pos (by decide)]
  refine wpAny_bind (applied_to hs (Nat.le_of_lt hb) ?_)
  have hno : ¬ (((0 : Int) == 0 && (1 : Int) == 1 && b == items.size) = true) := by
    have : (b == items.size) = false := by rw [beq_eq_false_iff_ne]; (first | lia | omega)
    rw [this]; simp
  show wpAny _ _ (if ((0 : Int) == 0 && (1 : Int) == 1 && b == items.size) = true then _ else _) _ _ s
  rw [if_neg hno, pick_to items b]
  first
    | exact wpAny_bind (m := Builtin.Tuple.tupleExact _) (wpAny_newObj_type (wpAny_pure ⟨_, rfl, wpAny_pure h⟩) hok)
    | exact wpAny_bind (m := Builtin.Tuple.tupleExact _) (wpAny_newObj_type (wpAny_bind (wpAny_pure (wpAny_pure ⟨_, rfl, wpAny_pure h⟩))) hok)
    | exact wpAny_bind (wpAny_bind (m := Builtin.Tuple.tupleExact _) (wpAny_newObj_type (wpAny_pure (wpAny_pure ⟨_, rfl, wpAny_pure h⟩)) hok))
    | exact wpAny_bind (wpAny_bind (m := Builtin.Tuple.tupleExact _) (wpAny_newObj_type (wpAny_pure ⟨_, rfl, wpAny_pure h⟩) hok))
theorem tup_to {value slice : Expr} {t : Addr} {vs : List Value} {b : Nat} {bi : Int} {u : Tok} {Q : Value → Shared → Prop} (F : Fr h₀ L s.heap m) (N : News h₀ L s.heap news) (hm : (t, tupO vs.toArray) ∈ news) (hbi : bi = (b : Int)) (hb : b < vs.length) (hsz : vs.length ≤ 1000)
    (h : ∀ D h', Fr h₀ L h' m → News h₀ L h' ((D, tupO (vs.take b).toArray) :: news) → Q (.ref D) { s with heap := h' })
    (hs : subscripted slice false (.ref t) (.ref s.heap.objs.size) = operate [.ref s.heap.objs.size, .ref t] (getItem (.ref t) (.ref s.heap.objs.size)) := by with_unfolding_all rfl)
    (hg : ∀ r, letTemporaryGo value (.ref t) r = pure () := by intro _; with_unfolding_all rfl) :
    wpAny (model prog w) A (subscriptTail value slice (.ref t) (.ref s.heap.objs.size)) Q E { s with heap := s.heap.push { cls := .type "slice", data := .fields #[.none, .int bi u, .none] } } := by
  subst hbi
  have ht : IsTup s.heap t vs.toArray := News.isTup N hm
  have ht' : IsTup (s.heap.push { cls := .type "slice", data := .fields #[.none, .int b u, .none] }) t vs.toArray := ht.keeps fun _ _ e => Heap.get?_push_of_some _ e
  refine subscriptTail_ops (s := { s with heap := s.heap.push { cls := .type "slice", data := .fields #[.none, .int b u, .none] } }) ht'.typeIs slot_tuple_getitem.lookup
    (item_to ht' (Heap.IsSliceOf.new ..) (by rw [List.size_toArray]; exact hb) ?_ (by rw [List.size_toArray, sizeLine_eq]; (first | lia | omega))) hs hg
  have N1 := News.push (F.push { cls := .type "slice", data := .fields #[.none, .int b u, .none] }) (N.grown fun _ _ e => Heap.get?_push_of_some _ e) { cls := .type "tuple", data := .seq (vs.take b).toArray }
  exact h _ _ ((F.push _).push _) N1
theorem tup_from {value slice : Expr} {t : Addr} {vs : List Value} {a : Nat} {ai : Int} {u : Tok} {Q : Value → Shared → Prop} (F : Fr h₀ L s.heap m) (N : News h₀ L s.heap news) (hm : (t, tupO vs.toArray) ∈ news) (hai : ai = (a : Int)) (h1 : 1 ≤ a) (ha : a ≤ vs.length) (hsz : vs.length ≤ 1000)
    (h : ∀ D h', Fr h₀ L h' m → News h₀ L h' ((D, tupO (vs.drop a).toArray) :: news) → Q (.ref D) { s with heap := h' })
    (hs : subscripted slice false (.ref t) (.ref s.heap.objs.size) = operate [.ref s.heap.objs.size, .ref t] (getItem (.ref t) (.ref s.heap.objs.size)) := by with_unfolding_all rfl)
    (hg : ∀ r, letTemporaryGo value (.ref t) r = pure () := by intro _; with_unfolding_all rfl) :
    wpAny (model prog w) A (subscriptTail value slice (.ref t) (.ref s.heap.objs.size)) Q E { s with heap := s.heap.push { cls := .type "slice", data := .fields #[.int ai u, .none, .none] } } := by
  subst hai
  exact slice_tuple_from F N (News.isTup N hm) h1 (by rw [List.size_toArray]; exact ha) (fun h' F' N' => h _ h' F' N') hs hg (by rw [List.size_toArray, sizeLine_eq]; (first | lia | omega))
end
end JaLaw
end
section
set_option Elab.async false
set_option maxRecDepth 100000
namespace JaLaw
theorem rowsJaDue0 : True := by
  k_with_none
  k_with "sz" => (first | with_reducible assumption | ((try simp only [List.length_append, List.length_take, List.length_drop, List.length_cons, List.length_nil, toBE_length, List.length_replicate]); (first | lia | omega)))
  exact True.intro
theorem rowsJaDue1 : True := by
  k_with "callWith ref" => (k_here; (with_reducible show wpAny _ _ (callWith _ (Value.ref _) _ (backTo _ (starEach [] _)) (backToKw _ (keywordEach (_ :: _) _))) _ _ _); k_dflt (refine' callWith_KW0 ?k1 ?k2 ?k3 ?_; (case k1 => with_reducible assumption); (case k2 => k_is); (case k3 => exact rfl); k_whole))
  k_with "callWith ref" => (k_here; (with_reducible show wpAny _ _ (callWith _ (Value.ref _) _ (backTo _ (starEach (_ :: _) _)) []) _ _ _); k_dflt (refine' callWith_K ?k1 ?k2 ?_; (case k1 => with_reducible assumption); (case k2 => k_is); k_whole))
  k_with "callWith ref" => (k_here; (with_reducible show wpAny _ _ (callWith _ (Value.ref _) _ (backTo _ (starEach [] _)) []) _ _ _); k_dflt (refine' callWith_K0 ?k1 ?k2 ?_; (case k1 => exact (by first | with_reducible assumption | exact Frag.In.keeps (by with_reducible assumption) (Fr.keep (by with_reducible assumption)))); (case k2 => k_is); k_whole))
  k_with "newList" => (k_here; k_dflt (refine' newList_K ?k1 ?k2 ?_; (case k1 => with_reducible assumption); (case k2 => with_reducible assumption); k_whole); intro l' h' F' N' l1; (try k_lt l1); (repeat (have := And.left l1; replace l1 := And.right l1)); (try k_sweep))
  k_with "And" => ((with_reducible show Frag.In _ _ ∧ _); refine ⟨(by first | with_reducible assumption | exact Frag.In.keeps (by with_reducible assumption) (Fr.keep (by with_reducible assumption))), ?_⟩; try dsimp only [List.nil_append, List.cons_append])
  k_with "eval Name" => (k_here; (with_reducible show wpAny _ _ (eval (Expr.Name _ _) (envOf _ _ _ _ _)) _ _ _); k_dflt (first | (refine' ld ?k1 ?k2 ?_ ?k3 ?k4 ?k5; (case k4 => kernel_rfl!); (case k1 => with_reducible assumption); (case k2 => ((try dsimp only [List.reverse, List.reverseAux]); (repeat (first | with_reducible exact lk_hit | with_reducible exact lk_sto_hit | with_reducible exact lk_ite_hit | (with_reducible refine lk_sto_miss (by kernel_rfl!) ?_) | (with_reducible refine lk_ite_miss2 (by kernel_rfl!) ?_) | (with_reducible refine lk_miss (by kernel_rfl!) ?_) | with_reducible refine lk_rev ?_)))); (case k3 => kernel_rfl!); (case k5 => decide +kernel); k_whole) | (refine' name_K ?k0 ?k1 ?k2 ?k3 ?_ ?k4 ?k5 ?k6; (case k5 => kernel_rfl!); (case k0 => with_reducible assumption); (case k1 => with_reducible assumption); (case k2 => exact topRead_of (by with_reducible assumption)); (case k3 => k_is); (case k4 => kernel_rfl!); (case k6 => decide +kernel); k_whole) | (refine' name_B ?k0 ?k1 ?k2 ?k3 ?k4 ?k5 ?_ ?k6 ?k7 ?k8; (case k7 => kernel_rfl!); (case k0 => with_reducible assumption); (case k1 => with_reducible assumption); (case k2 => exact topRead_of (by with_reducible assumption)); (case k3 => k_is); (case k4 => boot_fast); (case k5 => decide); (case k6 => kernel_rfl!); (case k8 => decide +kernel); k_whole)))
  k_with "storeName" => (k_here; (try dsimp only); (with_reducible show wpAny _ _ (storeName (envOf _ _ _ _ _) _ _) _ _ _); k_dflt (refine' store_u ?k1 ?k2 ?_ ?k3 ?k4; (case k4 => kernel_rfl!); (case k3 => kernel_rfl!); (case k1 => with_reducible assumption); (case k2 => with_reducible assumption); k_whole); intro h' F' N'; (try k_sweep))
  k_with "exec Assign" => (k_here; k_fold)
  k_with "exec If" => (k_here; k_fold)
  k_with "call builtin:len" => (k_here; (with_reducible show wpAny _ _ (call (Value.builtin "len") [Value.bytes _ _]) _ _ _); k_dflt (refine bs_len (by (k_extra "sz")) ?_; intro _ _))
  k_with "subscriptTail" => (k_here; (with_reducible show wpAny _ _ (subscriptTail _ _ (Value.bytes _ _) (Value.int _ _)) _ _ _); k_dflt (refine bs_item8 (by (k_extra "sz")) (by (k_extra "sz")) (by (k_extra "sz")) ?_; intro _ _))
  k_with "subscriptTail" => (k_here; (with_reducible show wpAny _ _ (subscriptTail _ (Expr.Slice _ _ none _) (Value.bytes _ _) (Value.ref _)) _ _ _); (with_reducible rename Fr _ _ _ _ => F'); (with_reducible rename News _ _ _ _ => N'); k_dflt (refine' bs_slice (s := ⟨_, _, _, _, _⟩) F' N' (by constructor) (by constructor) (by (k_extra "sz")) ?k3 ?_; (case k3 => first | with_reducible exact BA.picked_hi _ (by (first | lia | omega)) | with_reducible exact BA.picked_lo _ (by (first | lia | omega)) | with_reducible exact picked_4 _ (by (first | lia | omega)) | with_reducible exact picked_len _ (by (first | lia | omega)) (by (first | lia | omega)) | with_reducible exact BA.picked_both _ (by (first | lia | omega)) (by (first | lia | omega)) | exact BA.picked_hi _ (by (first | lia | omega)) | exact BA.picked_lo _ (by (first | lia | omega)) | exact BA.picked_both _ (by (first | lia | omega)) (by (first | lia | omega))); k_whole; intro _ _ _ _ _))
  k_with "call ref" => (k_here; (with_reducible show wpAny _ _ (call (Value.ref _) [Value.bytes _ _, Value.str _ _]) _ _ _); kfb_any; k_dflt (refine fb_call (by k_asm) (by k_mem) (by (k_extra "sz")) ?_); intro _ _)
  k_with "subscriptTail Name Slice bytes ref" => (k_here; (with_reducible show wpAny _ _ (subscriptTail _ (Expr.Slice _ _ none _) (Value.bytes _ _) (Value.ref _)) _ _ _); (with_reducible rename Fr _ _ _ _ => F'); (with_reducible rename News _ _ _ _ => N'); k_dflt (refine' bs_slice (s := ⟨_, _, _, _, _⟩) F' N' (by constructor) (by constructor) (by (k_extra "sz")) ?k3 ?_; (case k3 => first | with_reducible exact BA.picked_hi _ (by (first | lia | omega)) | with_reducible exact BA.picked_lo _ (by (first | lia | omega)) | with_reducible exact picked_4 _ (by (first | lia | omega)) | with_reducible exact picked_len _ (by (first | lia | omega)) (by (first | lia | omega)) | with_reducible exact BA.picked_both _ (by (first | lia | omega)) (by (first | lia | omega)) | exact BA.picked_hi _ (by (first | lia | omega)) | exact BA.picked_lo _ (by (first | lia | omega)) | exact BA.picked_both _ (by (first | lia | omega)) (by (first | lia | omega))); k_whole; intro _ _ _ _ _))
  k_with "call ref" => (k_here; (with_reducible show wpAny _ _ (call (Value.ref 341) _ _) _ _ _); k_dflt ((refine wpAny_call ?_); (refine' llong_full ?k1 ?k2 ?k3 ?k4 ?k5 ?k6 ?k7 ?k8 ?kl ?kp ?kf ?_ ?_; (case k1 => k_asm); (case k2 => k_asm); (case k3 => k_asm); (case k4 => k_asm); (case k5 => k_asm); (case k6 => first | exact rfl | assumption); (case k7 => first | exact room1 hd rfl | exact room2 hd rfl | ktr_room); (case k8 => first | exact room1 hu rfl | exact room2 hu rfl | ktr_units); (case kl => (first | lia | omega)); (case kp => (first | lia | omega)); (case kf => first | exact u8_lt _ _ | assumption | (first | lia | omega))); k_whole); (all_goals (first | (intro h' tk' hc' F' N'; (try dsimp only); (try k_sweep)) | (intro row' stop' sz' v' D' D1' LX' te' tv' tk' ts' td' tc' tt' tg' vs' cap' h' tk2' h1' h2' h3' h4' F' N'; (try dsimp only); (try k_sweep)))))
  k_with "subscriptTail" => (k_here; (with_reducible show wpAny _ _ (subscriptTail _ _ (Value.ref _) (Value.int _ _)) _ _ _); k_dflt (first | (refine' lst_item ?k1 ?k2 ?k3 ?k4 ?k5 ?_; (case k1 => with_reducible assumption); (case k2 => k_mem); (case k3 => decide); (case k4 => decide); (case k5 => first | with_reducible exact at_0 | with_reducible exact at_1 | with_reducible exact at_2 | exact rfl); k_whole) | (refine' tup_item ?k1 ?k2 ?k3 ?k4 ?k5 ?_; (case k1 => with_reducible assumption); (case k2 => k_mem); (case k3 => decide); (case k4 => decide); (case k5 => exact rfl); k_whole) | (refine' menu3 ?k1 ?k2 ?k3 ?k4 ?_; (case k1 => with_reducible assumption); (case k2 => k_mem); (case k3 => (first | lia | omega)); (case k4 => (first | lia | omega)); k_whole; intro _)))
  k_with "subscriptTail Name Constant ref int" => (k_here; (with_reducible show wpAny _ _ (subscriptTail _ _ (Value.ref _) (Value.int _ _)) _ _ _); k_dflt (first | (refine' lst_item ?k1 ?k2 ?k3 ?k4 ?k5 ?_; (case k1 => with_reducible assumption); (case k2 => k_mem); (case k3 => decide); (case k4 => decide); (case k5 => first | with_reducible exact at_0 | with_reducible exact at_1 | with_reducible exact at_2 | exact rfl); k_whole) | (refine' tup_item ?k1 ?k2 ?k3 ?k4 ?k5 ?_; (case k1 => with_reducible assumption); (case k2 => k_mem); (case k3 => decide); (case k4 => decide); (case k5 => exact rfl); k_whole) | (refine' menu3 ?k1 ?k2 ?k3 ?k4 ?_; (case k1 => with_reducible assumption); (case k2 => k_mem); (case k3 => (first | lia | omega)); (case k4 => (first | lia | omega)); k_whole; intro _)))
  exact True.intro

theorem rowsJaDue2 : True := by
  k_with "binaryOp FloorDiv int int" => (k_here; k_dflt (refine int_div (y := 64) rfl (by decide) (by decide) (by decide) ?_); intro _ _)
  k_with "subscriptTail Name Slice ref ref" => (k_here; (with_reducible show wpAny _ _ (subscriptTail _ (Expr.Slice none _ none _) (Value.ref _) (Value.ref _)) _ _ _); (with_reducible rename Fr _ _ _ _ => F'); (with_reducible rename News _ _ _ _ => N'); k_dflt (refine' tup_to (s := ⟨_, _, _, _, _⟩) (b := 2) F' N' ?k1 rfl ?k2 ?k3 ?_; (case k1 => k_mem); (case k2 => exact Nat.le_of_ble_eq_true rfl); (case k3 => exact Nat.le_of_ble_eq_true rfl); k_whole); intro D' h' F' N'; (try dsimp only [List.take, List.drop] at N'); (try k_sweep))
  k_with "subscriptTail Name Slice ref ref" => (k_here; (with_reducible show wpAny _ _ (subscriptTail _ (Expr.Slice _ none none _) (Value.ref _) (Value.ref _)) _ _ _); (with_reducible rename Fr _ _ _ _ => F'); (with_reducible rename News _ _ _ _ => N'); k_dflt (refine' tup_from (s := ⟨_, _, _, _, _⟩) (a := 3) F' N' ?k1 rfl (by decide) ?k2 ?k3 ?_; (case k1 => k_mem); (case k2 => exact Nat.le_of_ble_eq_true rfl); (case k3 => exact Nat.le_of_ble_eq_true rfl); k_whole); intro D' h' F' N'; (try dsimp only [List.take, List.drop] at N'); (try k_sweep))
  exact True.intro
section
variable {w : World} {mean : ExcName → Option Value} {mg mb : PySem.Str → Option Value} {dp un : Nat} {gd : Option (List Code)} {cn : PySem.Str} {cs : Scope} {a : Addr} {ccd : Value} {cl : List (PySem.Str × Addr)} {outer : List Env} {A₀ : Around} {base h₀ : Heap} {L : Addr} {m : PySem.Str → Option Value} {s : Shared} {Q E : Value → Shared → Prop} {R : Result → Shared → Prop}
variable {l : List UInt8} {p k : Int} {tl tp tk : Tok}
set_option maxHeartbeats 40000000 in
theorem due_ct (B : Below A₀ base outer h₀) (F : Fr h₀ L s.heap m) (X : (K0 w.params).In h₀) (N : News h₀ L s.heap []) (T : Top jP jL mean mg mb h₀) (hk : cs.kind = .function) (hd : dp + 14 < recursionLimit) (hu : un + 60 < cLine) (hl : l.length ≤ 100000) (hp : 0 ≤ p) (hk0 : 0 ≤ k)
    (hnone : ∀ (h' : Heap) (tk' : Nat), readP l p k = none → Fr h₀ L h' m → Keeps [] s.heap h' → R (.ok (.ret .none)) { s with heap := h', toks := tk' })
    (hsome : ∀ (row : Row) (stop sz : Int) (vv : Value) (D D1 LX : Addr) (te tv tk' ts td tc tt tg : Tok) (vs : List Value) (cap : Nat) (h' : Heap) (tk2 : Nat), readP l p k = some (row, stop) → vv = verV row.ver tv → sz = row.size → IntsAre vs row.vers → Fr h₀ L h' m → Keeps [] s.heap h' →
      h'.get? D = some (tupO #[.ref D1, .int stop te]) → h'.get? D1 = some (tupO #[vv, .int row.kind tk', .int sz ts, .bytes row.dcid.toArray td, .bytes row.scid.toArray tc, .bytes row.token.toArray tt, .bytes row.tag.toArray tg, .ref LX]) →
      h'.get? LX = some (listOf vs.toArray cap) → s.heap.get? D = none → s.heap.get? D1 = none → s.heap.get? LX = none → R (.ok (.ret (.ref D))) { s with heap := h', toks := tk2 }) :
    codeAny (model jprog w) (ktrTop dp un gd cn cs L a ccd cl outer) (.call (.ref 348) ⟨[.bytes l.toArray tl, .int p tp, .int k tk], []⟩) R s := by
  k_dflt (refine' enter_def (binds := [(Str.ofString "octets", .bytes l.toArray tl), (Str.ofString "at", .int p tp), (Str.ofString "size", .int k tk)]) ?k1 ?k2 ?k3 ?k4 ?k5 ?kA ?kF ?kK ?k6 ?k7 ?k8 ?k9 ?kB ?_ ?c2 ?c3 ?c4 ?c5; (case kA => exact rfl); (case kF => exact rfl); (case kK => assumption); (case k1 => k_asm); (case k2 => k_asm); (case k3 => k_asm); (case k4 => k_asm); (case k5 => k_asm); (case k6 => k_is); (case k7 => k_is); (case k8 => first | exact room0 hd | ktr_room); (case k9 => first | exact BindsTo.of_eq (by kernel_rfl!) | exact BindsTo.of_eq rfl | exact binds_K (by k_in) rfl (by k_is) rfl rfl rfl); (case c5 => decide); (case kB => exact locs rfl); (case c2 => exact rfl); (case c3 => exact rfl); (case c4 => exact rfl); k_whole; intro g' L' h' FG' F' N' B' X' T' hkp hge; (try dsimp only); k_fold)
  k_steps
  all_goals (try (
      (rename Keeps _ _ _ => kK)
      refine hnone _ _ ?_ (by assumption) (keeps_less kK N (by assumption) (by repeat' (first | exact List.forall_mem_nil _ | (refine List.forall_mem_cons.mpr ⟨?_, ?_⟩) | exact Or.inl (by k_mem) | exact Or.inr (by k_mem))))
      unfold readP
      (repeat (first | rw [if_pos (by (first | lia | omega))] | rw [if_neg (by (first | lia | omega))]))
      first | done | rfl | assumption))
  · (rename Keeps _ _ _ => kK)
    (rename News g' _ _ _ => kI)
    (rename News h₀ _ _ _ => kN)
    (rename rdLong _ _ _ = some _ => e1)
    (rename Row.ver _ = some _ => e2)
    (rename _ = Row.size _ + _ => e3)
    (rename IntsAre _ _ => e4)
    refine hsome _ _ _ _ _ _ _ _ ?tv _ _ _ _ _ _ _ _ _ _ ?he ?hv ?hz e4 (by assumption) (keeps_less kK N (by assumption) (by repeat' (first | exact List.forall_mem_nil _ | (refine List.forall_mem_cons.mpr ⟨?_, ?_⟩) | exact Or.inl (by k_mem) | exact Or.inr (by k_mem)))) (kN.get (by k_mem)) (kN.get (by k_mem)) (kN.get (by k_mem)) (fresh_mem hkp kI (by k_mem) (by simp only [AllLt])) (fresh_mem hkp kI (by k_mem) (by simp only [AllLt])) (fresh_mem hkp kI (by k_mem) (by simp only [AllLt]))
    case hv => (rw [e2]; exact rfl)
    case hz => (first | lia | omega)
    case he =>
      unfold readP
      (repeat (first | rw [if_pos (by (first | lia | omega))] | rw [if_neg (by (first | lia | omega))]))
      exact e1
  · (rename Keeps _ _ _ => kK)
    (rename News g' _ _ _ => kI)
    (rename News h₀ _ _ _ => kN)
    refine hsome ⟨none, 5, (l.length : Int) - p, cutI l (p + 1) k, [], [], [], []⟩ (p + 1 + k) _ .none _ _ _ _ 0 _ _ _ _ _ _ [] _ _ _ ?_ rfl rfl .nil (by assumption) (keeps_less kK N (by assumption) (by repeat' (first | exact List.forall_mem_nil _ | (refine List.forall_mem_cons.mpr ⟨?_, ?_⟩) | exact Or.inl (by k_mem) | exact Or.inr (by k_mem)))) (kN.get (by k_mem)) (kN.get (by k_mem)) (kN.get (by k_mem)) (fresh_mem hkp kI (by k_mem) (by simp only [AllLt])) (fresh_mem hkp kI (by k_mem) (by simp only [AllLt])) (fresh_mem hkp kI (by k_mem) (by simp only [AllLt]))
    unfold readP
    (repeat (first | rw [if_pos (by (first | lia | omega))] | rw [if_neg (by (first | lia | omega))]))
variable {news : List (Addr × Obj)}
/-- a row told: the pair, the fields, the versions -/
noncomputable abbrev toldL (row : Row) (stop sz : Int) (vv : Value) (D D1 LX : Addr) (te tk' ts td tc tt tg : Tok) (vs : List Value) (cap : Nat) : List (Addr × Obj) :=
  [(D, tupO #[.ref D1, .int stop te]), (D1, tupO #[vv, .int row.kind tk', .int sz ts, .bytes row.dcid.toArray td, .bytes row.scid.toArray tc, .bytes row.token.toArray tt, .bytes row.tag.toArray tg, .ref LX]), (LX, listOf vs.toArray cap)]
theorem due_full (B : Below A₀ base outer h₀) (F : Fr h₀ L s.heap m) (X : (K0 w.params).In h₀) (N : News h₀ L s.heap news) (T : Top jP jL mean mg mb h₀) (hk : cs.kind = .function) (hd : dp + 14 < recursionLimit) (hu : un + 60 < cLine) (hl : l.length ≤ 100000) (hp : 0 ≤ p) (hk0 : 0 ≤ k)
    (hnone : ∀ (h' : Heap) (tk' : Nat), readP l p k = none → Fr h₀ L h' m → News h₀ L h' news → R (.ok (.ret .none)) { s with heap := h', toks := tk' })
    (hsome : ∀ (row : Row) (stop sz : Int) (vv : Value) (D D1 LX : Addr) (te tv tk' ts td tc tt tg : Tok) (vs : List Value) (cap : Nat) (h' : Heap) (tk2 : Nat), readP l p k = some (row, stop) → vv = verV row.ver tv → sz = row.size → IntsAre vs row.vers → Fr h₀ L h' m →
      News h₀ L h' (toldL row stop sz vv D D1 LX te tk' ts td tc tt tg vs cap ++ news) → R (.ok (.ret (.ref D))) { s with heap := h', toks := tk2 }) :
    codeAny (model jprog w) (ktrTop dp un gd cn cs L a ccd cl outer) (.call (.ref 348) ⟨[.bytes l.toArray tl, .int p tp, .int k tk], []⟩) R s :=
  due_ct B F X (news_sub N fun _ h => (nomatch h)) T hk hd hu hl hp hk0 (fun h' tk' hc F' kp => hnone h' tk' hc F' (news_keep N kp))
    fun row stop sz vv D D1 LX te tv tk' ts td tc tt tg vs cap h' tk2 e1 e2 e3 e4 F' kp g1 g2 g3 n1 n2 n3 => hsome row stop sz vv D D1 LX te tv tk' ts td tc tt tg vs cap h' tk2 e1 e2 e3 e4 F' (news_new' F (news_new' F (news_new' F (news_keep N kp) g3 n3) g2 n2) g1 n1)
end
end JaLaw
end
section
open PySem.Calls PySem.Spec
set_option Elab.async false
set_option maxRecDepth 100000
namespace JaLaw
section
variable {M : Model} {A : Around} {E : Value → Shared → Prop}
variable {nm q : PySem.Str} {C N : Addr} {bs bm : List Value} {hdct : Bool} {sn : List PySem.Str} {sub : List Value} {ab : Bool} {col : Option Bool} {dd : Option Addr} {k0 k1 k2 k3 k5 : Option Value} {newId : String}
theorem sub_no : isSubtype (.type "ValueError") (.ref C) = pure false := by
  unfold isSubtype
  with_unfolding_all rfl
theorem excMatches_own_no {h : Heap} {g : Array GenState} {d : Drawn} {t : Nat} {os : OsState} {e : Addr} {oe : Obj} {Q : Bool → Shared → Prop}
    (hC : h.get? C = some (excClassObj nm q C N bs bm hdct sn sub ab col dd k0 k1 k2 k3 k5 newId)) (he : h.get? e = some oe) (hcls : oe.cls = .type "ValueError") (hbase : bm.contains (.type "BaseException") = true)
    (hq : Q false ⟨h, g, d, t, os⟩) : wpAny M A (excMatches (.ref e) (.ref C)) Q E ⟨h, g, d, t, os⟩ := by
  have hcB : (Value.ref C :: bm).contains (.type "BaseException") = true := by rw [List.contains_cons, hbase, Bool.or_true]
  have f := tc_notTuple
  have f2 := @sub_no C
  unfold excMatches
  repeat (first | (with_reducible refine wpAny_loadPart_at he ?_; rw [hcls]) | with_reducible refine wpAny_loadPart_at hC ?_ | (with_reducible refine wpAny_isSubtype_exc hC ?_; first | rw [hcB]) | wp_step)
  exact hq
end
section
variable {prog : Program} {w : World} {A₀ : Around} {E : Value → Shared → Prop} {s' : Shared} {base g G : Heap} {outer : List Env} {L a e C : Addr} {m : PySem.Str → Option Value} {name : PySem.Str} {scope : Scope} {cd : Value}
  {b₀ b₁ : Stmt} {suite suite₁ : List Stmt} {pos pos₁ np np₁ : Pos} {Q : Flow → Shared → Prop} {KF : Frag} {cls : Value}
  {p : Program} {loose : List PySem.Str} {mg mb : PySem.Str → Option Value} {x y : PySem.Str}
theorem catch_two (R : Rz base G (envOf name scope L a cd :: outer) e cls s'.heap) (F : Fr g L G m) (K : Below A₀ base outer g)
    (hX : ∀ g', KtsTurn (outer.filterMap (·.frame)) g g' → KF.In g' ∧ TopRead p loose mg mb g')
    (hcls : cls = .ref C ∨ cls = .type "ValueError")
    (ex : nsIn KF mainGlobals x = some (some (.ref C))) (q : ktsIn KF C "ValueError" = true)
    (ey : nsIn KF mainGlobals y = some none) (hv : bootBuiltins y = some (.type "ValueError")) (hn' : y ≠ "__name__")
    (k1 : ∀ h' g', KtsTurn (outer.filterMap (·.frame)) g g' → Fr g' L h' m →
      wpAny (model prog w) ((A₀.deeper (envOf name scope L a cd)).mark (some (.ref e))) (execs (b₀ :: suite) (envOf name scope L a cd)) Q E { s' with heap := h' })
    (k2 : ∀ h' g', KtsTurn (outer.filterMap (·.frame)) g g' → Fr g' L h' m →
      wpAny (model prog w) ((A₀.deeper (envOf name scope L a cd)).mark (some (.ref e))) (execs (b₁ :: suite₁) (envOf name scope L a cd)) Q E { s' with heap := h' })
    (hE : PassesOwnAt (model prog w) ((A₀.deeper (envOf name scope L a cd)).mark (some (.ref e))) (A₀.deeper (envOf name scope L a cd)) (envOf name scope L a cd) E)
    (hk : scope.kind = .function := by rfl) (hx : (envOf name scope L a cd).kindOf x = some .globalImplicit := by rfl) (hd : (x == ("__debug__" : PySem.Str)) = false := by decide)
    (hy : (envOf name scope L a cd).kindOf y = some .globalImplicit := by rfl) (hdy : (y == ("__debug__" : PySem.Str)) = false := by decide) :
    wpAny (model prog w) (A₀.deeper (envOf name scope L a cd)) (noteFrame (.ref e) (envOf name scope L a cd))
      (fun _ s₂ => wpAny (model prog w) (A₀.deeper (envOf name scope L a cd)) (setFlight (.ref e) none) (fun _ s₃ =>
        wpAny (model prog w) (A₀.deeper (envOf name scope L a cd)) (handleBy (.ref e) (envOf name scope L a cd) [.ExceptHandler (some (.Name x np)) none (b₀ :: suite) pos, .ExceptHandler (some (.Name y np₁)) none (b₁ :: suite₁) pos₁]) Q E s₃) E s₂) E s' := by
  obtain ⟨⟨B, a0, hB, hBG, hfl⟩, hsm⟩ := R
  refine wpAny_looks_onW (Around.frames_deeper K.stack) rfl hfl fun h₄ hheld₄ hsm₄ => ?_
  refine wpAny_landsW hheld₄ fun h₅ hheld hsm₅' => ?_
  have hsm₅ := hsm₄.trans hsm₅'
  obtain ⟨g₅, T₅, F₅, K₅⟩ := kts_ground K F hBG hheld.1 (hsm.trans hsm₅)
  obtain ⟨X₅, P₅⟩ := hX g₅ T₅
  obtain ⟨ob, hob, hobc⟩ := hheld.there
  obtain ⟨nm, q', N, bs, bm, hdct, sn, sub, ab, col, dd, k0, k1', k2', k3, k5, newId, hC, hbase, hbT⟩ := kts_cls X₅ q
  have hC₅ := F₅.keep _ _ hC
  rcases hcls with rfl | rfl
  · refine wpAny_handleBy_cons (codeAny_handlers_test (name_K F₅ X₅ P₅ ex ?_ hk hx hd)) (by intro q; cases q)
    refine wpAny_excMatches_sub_self hC₅ hob hobc hbase (codeAny_handlers_suite ?_)
    refine lands_againW hheld fun h₆ hfl₆ hsm₆ => ?_
    obtain ⟨g₆, T₆, F₆, K₆⟩ := kts_ground K F hBG hfl₆.1 ((hsm.trans hsm₅).trans hsm₆)
    exact wpAny_passesOwnAt hE (k1 h₆ g₆ T₆ F₆)
  · refine wpAny_handleBy_cons (codeAny_handlers_test (name_K F₅ X₅ P₅ ex ?_ hk hx hd)) (by intro q; cases q)
    refine excMatches_own_no hC₅ hob hobc hbase ?_
    show wpAny _ _ _ _ _ _
    refine wpAny_handleBy_builtin (X := "ValueError") (T := "ValueError") (b := true) PySem.F.isExc_ValueError PySem.F.notTuple_ValueError ?_ (name_B F₅ X₅ P₅ ey hv hn' ⟨rfl, ⟨ob, hob, hobc⟩, ?_⟩ hk hy hdy)
    · with_unfolding_all rfl
    refine lands_againW hheld fun h₆ hfl₆ hsm₆ => ?_
    obtain ⟨g₆, T₆, F₆, K₆⟩ := kts_ground K F hBG hfl₆.1 ((hsm.trans hsm₅).trans hsm₆)
    exact wpAny_passesOwnAt hE (k2 h₆ g₆ T₆ F₆)
end
section
variable {prog : Program} {w : World} {A₀ A : Around} {s : Shared} {base h₀ : Heap} {env : Env} {outer : List Env} {L : Addr} {m : PySem.Str → Option Value} {K : Frag}
  {R : Result → Shared → Prop} {name qual : PySem.Str} {params : Arguments} {body : List Stmt} {scope : Scope} {dV kV doc pm cdv ct oc : Value} {an od : Option Addr} {osl : Array (Option Value)} {f : Addr} {args : Args} {binds : List (PySem.Str × Value)}
  {p : Program} {loose : List PySem.Str} {mean : ExcName → Option Value} {mg mb : PySem.Str → Option Value}
/-- a frame entered, with nothing handed in: all that stands is the ground -/
theorem enter_raw (B : Below A₀ base outer h₀) (F : Fr h₀ L s.heap m) (X₀ : K.In h₀) (N : News h₀ L s.heap []) (T : Top p loose mean mg mb h₀) (hA : A.frames = some (env :: outer)) (hf : env.frame = some L) (hke : env.scope.kind = .function)
    (ho : K.lookup f = some ⟨oc, od, .func (fnOf name qual params body scope dV kV doc pm an cdv ct), osl⟩) (hcd : codeIn K cdv qual = true) (hroom : A.depth < recursionLimit)
    (hbind : BindsTo s (fnOf name qual params body scope dV kV doc pm an cdv ct) args binds) (hloc : ∀ y ∈ binds, scope.names.lookup y.1 = some .local)
    (h : ∀ g L' h₁, Fr h₀ L g m → Fr g L' h₁ (fun y => binds.reverse.lookup y) → News g L' h₁ [] → Below A base (env :: outer) g → K.In g → Top p loose mean mg mb g → g = s.heap → s.heap.objs.size ≤ L' →
      wpN (model prog w) (A.deeper (envOf qual scope L' f cdv)) (execs body (envOf qual scope L' f cdv))
        (fun fl s' => R (.ok (.ret (match fl with | .ret v => v | _ => .none))) s')
        (fun e s' => wpAny (model prog w) (A.deeper (envOf qual scope L' f cdv)) (leaving (envOf qual scope L' f cdv) e) (fun _ s'' => R (.error e) s'') (fun e' s'' => R (.error e') s'') s')
        { s with heap := h₁, toks := s.toks + binds.length })
    (hco : scope.isCoroutine = false) (hgen : scope.isGenerator = false) (hk : scope.kind = .function)
    (hcell : ∀ x ∈ scope.names, x.2 ≠ .cell) : codeN (model prog w) A (.call (.ref f) args) R s := by
  have X := X₀.keeps F.keep
  obtain ⟨Fg, Bg, st⟩ := ground_of B F N hA hf hke
  refine codeN_call_def (fd := fnOf name qual params body scope dV kV doc pm an cdv ct) (body := body) (binds := binds) hroom (X _ _ ho) rfl (T.nolimit.keeps F.keep) (codeRec_of X hcd) rfl hbind hcell hloc (fun h₁ hns hk₁ => ?_) hco hgen hk
  exact h s.heap s.heap.objs.size h₁ Fg ⟨hns, fun b o e => hk₁ b o e, Nat.le_refl _⟩ News.nil Bg X (T.keeps F.keep) rfl (Nat.le_refl _)
theorem KtsTurn.ltFr {fs : List Addr} {g g' h' : Heap} {L' : Addr} {m m' : PySem.Str → Option Value} (F : Fr h₀ L g m) (hfs : ∀ b ∈ fs, b = L) (T' : KtsTurn fs g g') (F' : Fr g' L' h' m') :
    Fr h₀ L h' m ∧ Keeps [L] g h' := by
  have nL₀ : h₀.get? L = none := kts_self F
  have up : ∀ b o, g.get? b = some o → b ≠ L → h'.get? b = some o := fun b o e n => F'.keep b o (T'.other b o e fun q => n (hfs b q))
  refine ⟨⟨?_, fun b o e => up b o (F.keep b o e) (fun q => by rw [q, nL₀] at e; cases e), F.above⟩, fun b o e n => up b o e (fun q => n (q ▸ .head _))⟩
  obtain ⟨oL, es, ep, hL, hLd, hLk, hLf⟩ := F.ns
  obtain ⟨sl, hs⟩ := T'.up hL
  exact ⟨_, es, ep, F'.keep _ _ hs, hLd, hLk, hLf⟩
theorem raw_back {g h' : Heap} {L' : Addr} {m' : PySem.Str → Option Value} (F : Fr h₀ L g m) (F' : Fr g L' h' m') : Fr h₀ L h' m := by
  obtain ⟨oL, es, ep, hL, hLd, hLk, hLf⟩ := F.ns
  exact ⟨⟨oL, es, ep, F'.keep L oL hL, hLd, hLk, hLf⟩, fun b o e => F'.keep b o (F.keep b o e), F.above⟩
end
end JaLaw
end
section
set_option Elab.async false
set_option maxRecDepth 100000
namespace JaLaw
theorem rowsJaTold0 : True := by
  k_with_none
  k_with "usef" => (case k1 => k_asm); (case k2 => k_asm); (case k3 => k_asm); (case k4 => k_asm); (case k5 => k_asm); (case k6 => first | exact rfl | assumption); (case k7 => first | exact room1 hd rfl | exact room2 hd rfl | ktr_room); (case k8 => first | exact room1 hu rfl | exact room2 hu rfl | ktr_units)
  k_with "sz" => (first | with_reducible assumption | ((try simp only [List.length_append, List.length_take, List.length_drop, List.length_cons, List.length_nil, toBE_length, List.length_replicate]); (first | lia | omega)))
  exact True.intro
theorem rowsJaTold1 : True := by
  k_with "callWith ref" => (k_here; (with_reducible show wpAny _ _ (callWith _ (Value.ref _) _ (backTo _ (starEach [] _)) (backToKw _ (keywordEach (_ :: _) _))) _ _ _); k_dflt (refine' callWith_KW0 ?k1 ?k2 ?k3 ?_; (case k1 => with_reducible assumption); (case k2 => k_is); (case k3 => exact rfl); k_whole))
  k_with "callWith ref" => (k_here; (with_reducible show wpAny _ _ (callWith _ (Value.ref _) _ (backTo _ (starEach (_ :: _) _)) []) _ _ _); k_dflt (refine' callWith_K ?k1 ?k2 ?_; (case k1 => with_reducible assumption); (case k2 => k_is); k_whole))
  k_with "callWith ref" => (k_here; (with_reducible show wpAny _ _ (callWith _ (Value.ref _) _ (backTo _ (starEach [] _)) []) _ _ _); k_dflt (refine' callWith_K0 ?k1 ?k2 ?_; (case k1 => exact (by first | with_reducible assumption | exact Frag.In.keeps (by with_reducible assumption) (Fr.keep (by with_reducible assumption)))); (case k2 => k_is); k_whole))
  k_with "And" => ((with_reducible show Frag.In _ _ ∧ _); refine ⟨(by first | with_reducible assumption | exact Frag.In.keeps (by with_reducible assumption) (Fr.keep (by with_reducible assumption))), ?_⟩; try dsimp only [List.nil_append, List.cons_append])
  k_with "eval Name" => (k_here; (with_reducible show wpAny _ _ (eval (Expr.Name _ _) (envOf _ _ _ _ _)) _ _ _); k_dflt (first | (refine' ld ?k1 ?k2 ?_ ?k3 ?k4 ?k5; (case k4 => kernel_rfl!); (case k1 => with_reducible assumption); (case k2 => ((try dsimp only [List.reverse, List.reverseAux]); (repeat (first | with_reducible exact lk_hit | with_reducible exact lk_sto_hit | with_reducible exact lk_ite_hit | (with_reducible refine lk_sto_miss (by kernel_rfl!) ?_) | (with_reducible refine lk_ite_miss2 (by kernel_rfl!) ?_) | (with_reducible refine lk_miss (by kernel_rfl!) ?_) | with_reducible refine lk_rev ?_)))); (case k3 => kernel_rfl!); (case k5 => decide +kernel); k_whole) | (refine' name_K ?k0 ?k1 ?k2 ?k3 ?_ ?k4 ?k5 ?k6; (case k5 => kernel_rfl!); (case k0 => with_reducible assumption); (case k1 => with_reducible assumption); (case k2 => exact topRead_of (by with_reducible assumption)); (case k3 => k_is); (case k4 => kernel_rfl!); (case k6 => decide +kernel); k_whole) | (refine' name_B ?k0 ?k1 ?k2 ?k3 ?k4 ?k5 ?_ ?k6 ?k7 ?k8; (case k7 => kernel_rfl!); (case k0 => with_reducible assumption); (case k1 => with_reducible assumption); (case k2 => exact topRead_of (by with_reducible assumption)); (case k3 => k_is); (case k4 => boot_fast); (case k5 => decide); (case k6 => kernel_rfl!); (case k8 => decide +kernel); k_whole)))
  k_with "storeName" => (k_here; (try dsimp only); (with_reducible show wpAny _ _ (storeName (envOf _ _ _ _ _) _ _) _ _ _); k_dflt (refine' store_u ?k1 ?k2 ?_ ?k3 ?k4; (case k4 => kernel_rfl!); (case k3 => kernel_rfl!); (case k1 => with_reducible assumption); (case k2 => with_reducible assumption); k_whole); intro h' F' N'; (try k_sweep))
  k_with "exec Assign" => (k_here; k_fold)
  k_with "exec Expr" => (k_here; k_fold)
  k_with "call ref" => (k_here; (with_reducible show wpAny _ _ (call (Value.ref 120) _ _) _ _ _); k_dflt ((refine wpAny_call ?_); (refine' pull8_full ?k1 ?k2 ?k3 ?k4 ?k5 ?k6 ?k7 ?k8 ?kx ?kb ?ku ?kl ?kp ?kn ?_ ?_; (k_extra "usef"); (case kx => k_mem); (case kb => k_mem); (case ku => intro _; k_upd); (case kl => (k_extra "sz")); (case kp => (k_extra "sz")); (case kn => first | with_reducible assumption | exact ⟨by k_ne, by k_ne, by k_ne⟩ | (first | lia | omega))); k_whole); (all_goals (first | (intro t' t2' h' tk' c1' F' N'; (try dsimp only); (try k_sweep)) | (intro e' g2' h' tk' c' F2' R'; (try dsimp only)))))
  k_with "call ref" => (k_here; (with_reducible show wpAny _ _ (call (Value.ref 134) _ _) _ _ _); k_dflt ((refine wpAny_call ?_); (refine' pull32_full ?k1 ?k2 ?k3 ?k4 ?k5 ?k6 ?k7 ?k8 ?kx ?kb ?ku ?kl ?kp ?kn ?_ ?_; (k_extra "usef"); (case kx => k_mem); (case kb => k_mem); (case ku => intro _; k_upd); (case kl => (k_extra "sz")); (case kp => (k_extra "sz")); (case kn => first | with_reducible assumption | exact ⟨by k_ne, by k_ne, by k_ne⟩ | (first | lia | omega))); k_whole); (all_goals (first | (intro t' t2' h' tk' c1' F' N'; (try dsimp only); (try k_sweep)) | (intro e' g2' h' tk' c' F2' R'; (try dsimp only)))))
  k_with "call ref" => (k_here; (with_reducible show wpAny _ _ (call (Value.ref 148) _ _) _ _ _); k_dflt ((refine wpAny_call ?_); (refine' pullv_full ?k1 ?k2 ?k3 ?k4 ?k5 ?k6 ?k7 ?k8 ?kx ?kb ?ku ?kl ?kp ?kn ?_ ?_; (k_extra "usef"); (case kx => k_mem); (case kb => k_mem); (case ku => intro _; k_upd); (case kl => (k_extra "sz")); (case kp => (k_extra "sz")); (case kn => first | with_reducible assumption | exact ⟨by k_ne, by k_ne, by k_ne⟩ | (first | lia | omega))); k_whole); (all_goals (first | (intro t' t2' h' tk' c0' c1' F' N'; (try dsimp only); (try k_sweep)) | (intro e' g2' h' tk' c' F2' R'; (try dsimp only)))))
  k_with "call ref" => (k_here; (with_reducible show wpAny _ _ (call (Value.ref 92) _ _) _ _ _); k_dflt ((refine wpAny_call ?_); (refine' eof_full ?k1 ?k2 ?k3 ?k4 ?k5 ?k6 ?k7 ?k8 ?kd ?kx ?kb ?kl ?_; (k_extra "usef"); (case kd => k_mem); (case kx => k_mem); (case kb => k_mem); (case kl => (k_extra "sz"))); k_whole); (all_goals (first | (intro h' tk' F' N'; (try dsimp only); (try k_sweep)) )))
  k_with "call ref" => (k_here; (with_reducible show wpAny _ _ (call (Value.ref 106) _ _) _ _ _); k_dflt ((refine wpAny_call ?_); (refine' tell_full ?k1 ?k2 ?k3 ?k4 ?k5 ?k6 ?k7 ?k8 ?kd ?kx ?_; (k_extra "usef"); (case kd => k_mem); (case kx => k_mem)); k_whole); (all_goals (first | (intro h' tk' F' N'; (try dsimp only); (try k_sweep)) )))
  exact True.intro

theorem rowsJaTold2 : True := by
  k_with "call ref" => (k_here; (with_reducible show wpAny _ _ (call (Value.ref 99) _ _) _ _ _); k_dflt ((refine wpAny_call ?_); (refine' seek_full (news' := fun _ => _) ?k1 ?k2 ?k3 ?k4 ?k5 ?k6 ?k7 ?k8 ?kx ?kb ?ku ?kl ?kq ?kn ?_; (k_extra "usef"); (case kx => k_mem); (case kb => k_mem); (case ku => k_upd); (case kl => (first | lia | omega)); (case kq => (first | lia | omega)); (case kn => first | with_reducible assumption | exact ⟨by k_ne, by k_ne, by k_ne⟩ | (first | lia | omega))); k_whole); (all_goals (first | (intro h' tk' F' N'; (try dsimp only); (try k_sweep)) )))
  k_with "call ref" => (k_here; (with_reducible show wpAny _ _ (call (Value.ref 279) _ _) _ _ _); k_dflt ((refine wpAny_call ?_); (refine' pullq_ct ?k1 ?k2 ?k3 (sub3 ?k4 ?kb ?ka ?kc) ?k5 ?k6 ?k7 ?k8 ?kl ?kp ?kn ?_ ?_; (k_extra "usef"); (case ka => k_mem); (case kb => k_mem); (case kc => k_mem); (case kl => (first | lia | omega)); (case kp => (first | lia | omega)); (case kn => first | with_reducible assumption | exact ⟨by k_ne, by k_ne, by k_ne⟩ | (first | lia | omega))); k_whole); (all_goals (first | (intro row' stop' hx' hdx' lx' a1' a2' a3' a4' a5' a6' a7' a8' tv' tk' ts' td' tc' tt' tg' tb' vs' cap' h' tk2' hr' hi' F' N'; (try dsimp only); (try k_sweep)) | (intro e' g2' h' tk' c' hr' hc' F2' R'; (try dsimp only)))))
  k_with "noteFrame ref" => (k_here; refine halt ?_)
  exact True.intro
theorem news_none {h₀ h : Heap} {L x : Addr} {o : Obj} {news : List (Addr × Obj)} (N : News h₀ L h news) (hx : (x, o) ∈ news) : h₀.get? x = none := (N _ hx).2.2
theorem handed_ver (r : Option Nat) (t : Tok) : handedIn (verV r t) = true := by cases r <;> rfl
theorem kts31 (P : Params) : ktsIn (K0 P) 31 "ValueError" = true := by kernel_rfl!
theorem rowsJaTold3 : True := by
  k_with "getAttr ref" => (k_here; (with_reducible show wpAny _ _ (getAttr (Value.ref _) (Str.ofString "version") _) _ _ _); k_dflt (refine' get_own ?k1 ?k2 ?k3 ?k4 ?k5 ?k6 ?k7 ?k8 ?k9 ?_; (case k1 => k_asm); (case k2 => k_asm); (case k3 => k_inst); (case k4 => k_is); (case k5 => k_is); (case k6 => k_is); (case k7 => k_is); (case k8 => k_get); (case k9 => exact handed_ver _ _); k_whole))
  exact True.intro
section
variable {w : World} {mean : ExcName → Option Value} {mg mb : PySem.Str → Option Value} {dp un : Nat} {gd : Option (List Code)} {cn : PySem.Str} {cs : Scope} {a : Addr} {ccd : Value} {cl : List (PySem.Str × Addr)} {outer : List Env} {A₀ : Around} {base h₀ : Heap} {L : Addr} {m : PySem.Str → Option Value} {s : Shared} {Q E : Value → Shared → Prop} {R : Result → Shared → Prop}
variable {l : List UInt8} {p k : Int} {tl tp tk : Tok}
set_option maxHeartbeats 40000000 in
theorem told_ct (B : Below A₀ base outer h₀) (F : Fr h₀ L s.heap m) (X : (K0 w.params).In h₀) (N : News h₀ L s.heap []) (T : Top jP jL mean mg mb h₀) (hk : cs.kind = .function) (hd : dp + 14 < recursionLimit) (hu : un + 60 < cLine) (hl : l.length ≤ 100000) (hp : 0 ≤ p ∧ p ≤ l.length)
    (hor : outer = [] ∨ readP l p k ≠ none)
    (hnone : ∀ (h' : Heap) (tk' : Nat), readP l p k = none → Fr h₀ L h' m → Keeps [L] s.heap h' → R (.ok (.ret .none)) { s with heap := h', toks := tk' })
    (hsome : ∀ (row : Row) (stop sz : Int) (vv : Value) (D D1 LX : Addr) (te tv tk' ts td tc tt tg : Tok) (vs : List Value) (cap : Nat) (h' : Heap) (tk2 : Nat), readP l p k = some (row, stop) → vv = verV row.ver tv → sz = row.size → IntsAre vs row.vers → Fr h₀ L h' m → Keeps [] s.heap h' →
      h'.get? D = some (tupO #[.ref D1, .int stop te]) → h'.get? D1 = some (tupO #[vv, .int row.kind tk', .int sz ts, .bytes row.dcid.toArray td, .bytes row.scid.toArray tc, .bytes row.token.toArray tt, .bytes row.tag.toArray tg, .ref LX]) →
      h'.get? LX = some (listOf vs.toArray cap) → s.heap.get? D = none → s.heap.get? D1 = none → s.heap.get? LX = none → R (.ok (.ret (.ref D))) { s with heap := h', toks := tk2 }) :
    codeN (model jprog w) (ktrTop dp un gd cn cs L a ccd cl outer) (.call (.ref 355) ⟨[.bytes l.toArray tl, .int p tp, .int k tk], []⟩) R s := by
  k_dflt (refine' enter_raw (binds := [(Str.ofString "octets", .bytes l.toArray tl), (Str.ofString "at", .int p tp), (Str.ofString "size", .int k tk)]) ?k1 ?k2 ?k3 ?k4 ?k5 ?kA ?kF ?kK ?k6 ?k7 ?k8 ?k9 ?kB ?_ ?c2 ?c3 ?c4 ?c5; (case kA => exact rfl); (case kF => exact rfl); (case kK => assumption); (case k1 => k_asm); (case k2 => k_asm); (case k3 => k_asm); (case k4 => k_asm); (case k5 => k_asm); (case k6 => k_is); (case k7 => k_is); (case k8 => first | exact room0 hd | ktr_room); (case k9 => first | exact BindsTo.of_eq (by kernel_rfl!) | exact BindsTo.of_eq rfl | exact binds_K (by k_in) rfl (by k_is) rfl rfl rfl); (case c5 => decide); (case kB => exact locs rfl); (case c2 => exact rfl); (case c3 => exact rfl); (case c4 => exact rfl); k_whole; intro g' L' h' FG' F' N' B' X' T' hg' hge; (try dsimp only); (try k_fold))
  refine n_fold fun qk ek hq he => ?_
  refine n_cons (n_assign_name rfl (n_call_name ?_))
  k_steps
  refine n_cKW0 (K := K0 w.params) (by k_is) rfl ?_
  k_steps
  (with_reducible rename Fr g' _ _ _ => kF)
  (with_reducible rename News g' _ _ _ => kN)
  refine wpN_call (bufd_ct B' kF X' kN T' rfl (by first | exact room1 hd rfl | exact room2 hd rfl | exact room0 hd | ktr_room) (by first | exact room1 hu rfl | exact room2 hu rfl | exact room0 hu | ktr_units) hl fun x dx ba k1 k2 tp2 h' tk' F' N' l1 l2 n1 n2 n3 => ?_)
  clear kF kN
  have n4 : @Ne Nat dx x := Nat.ne_of_lt l1
  dsimp only
  k_steps
  refine wpN_any ?_
  subst hq he
  k_steps
  · (rename Fr g' _ _ _ => kF)
    (rename News g' _ _ _ => kN)
    subst hg'
    refine hsome _ _ _ _ _ _ _ _ _ _ _ _ _ _ _ _ _ _ _ (by assumption) rfl rfl (by assumption) (raw_back FG' kF) (fun b o e _ => kF.keep b o e) (kN.get (by k_mem)) (kN.get (by k_mem)) (kN.get (by k_mem)) (news_none kN (by k_mem)) (news_none kN (by k_mem)) (news_none kN (by k_mem))
  · refine Halt.mk ?_
    have ho : outer = [] := by
      rcases hor with e | e
      · exact e
      · exact absurd (by assumption) e
    subst ho
    have kX : ∀ g₁, KtsTurn ([envX cn cs L a ccd cl].filterMap (·.frame)) g' g₁ → h₀.StaysIn g₁ := fun g₁ kT b o e => kT.other b o (FG'.keep b o e) fun q => by
      have e2 : b = L := by simpa using q
      rw [e2, kts_self FG'] at e; cases e
    refine catch_two (KF := K0 w.params) (C := 31) (by assumption) (by assumption) B' (fun g₁ kT => ⟨X.keeps (kX g₁ kT), topRead_of (T.keeps (kX g₁ kT))⟩) (by assumption) (by k_is) (kts31 _) (by k_is) PyProof.Rows.Boot.«ValueError» (by decide) ?c5 ?c6 ?c7
    case c7 => first | passes_own | with_unfolding_all passes_own
    all_goals (
      intro h2 g₁ kT F₁
      k_steps
      obtain ⟨z1, z2⟩ := KtsTurn.ltFr FG' (fun b q => by simpa using q) kT F₁
      subst hg'
      exact hnone h2 _ (by assumption) z1 z2)
variable {news : List (Addr × Obj)}
theorem told_full (B : Below A₀ base outer h₀) (F : Fr h₀ L s.heap m) (X : (K0 w.params).In h₀) (N : News h₀ L s.heap news) (T : Top jP jL mean mg mb h₀) (hk : cs.kind = .function) (hd : dp + 14 < recursionLimit) (hu : un + 60 < cLine) (hl : l.length ≤ 100000) (hp : 0 ≤ p ∧ p ≤ l.length)
    (hor : outer = [] ∨ readP l p k ≠ none)
    (hnone : ∀ (h' : Heap) (tk' : Nat), readP l p k = none → Fr h₀ L h' m → News h₀ L h' news → R (.ok (.ret .none)) { s with heap := h', toks := tk' })
    (hsome : ∀ (row : Row) (stop sz : Int) (vv : Value) (D D1 LX : Addr) (te tv tk' ts td tc tt tg : Tok) (vs : List Value) (cap : Nat) (h' : Heap) (tk2 : Nat), readP l p k = some (row, stop) → vv = verV row.ver tv → sz = row.size → IntsAre vs row.vers → Fr h₀ L h' m →
      News h₀ L h' (toldL row stop sz vv D D1 LX te tk' ts td tc tt tg vs cap ++ news) → R (.ok (.ret (.ref D))) { s with heap := h', toks := tk2 }) :
    codeN (model jprog w) (ktrTop dp un gd cn cs L a ccd cl outer) (.call (.ref 355) ⟨[.bytes l.toArray tl, .int p tp, .int k tk], []⟩) R s :=
  told_ct B F X (news_sub N fun _ h => (nomatch h)) T hk hd hu hl hp hor (fun h' tk' hc F' kp => hnone h' tk' hc F' fun q hq => ⟨kp _ _ (N q hq).1 (fun z => (N q hq).2.1 (by simpa using z)), (N q hq).2⟩)
    fun row stop sz vv D D1 LX te tv tk' ts td tc tt tg vs cap h' tk2 e1 e2 e3 e4 F' kp g1 g2 g3 n1 n2 n3 => hsome row stop sz vv D D1 LX te tv tk' ts td tc tt tg vs cap h' tk2 e1 e2 e3 e4 F' (news_new' F (news_new' F (news_new' F (news_keep N kp) g3 n3) g2 n2) g1 n1)
end
end JaLaw
end
section
open PySem.SeqAt
set_option Elab.async false
set_option maxRecDepth 100000
namespace JaLaw
/-! two rows told are compared -/
section
variable {A : Around} {s : Shared}
theorem eqAt_int (n : Int) (t u : Tok) : EqAt A s (.int n t) (.int n u) true := by
  have := (MeetsSeq.EqGives.int n n t u).at A s
  rwa [beq_self_eq_true] at this
theorem eqAt_of_rc {x y : Addr} (h : RcAt A s (.ref y) (.ref x) true) : EqAt A s (.ref y) (.ref x) true := by
  by_cases e : y = x
  · subst e; exact EqAt.same _
  · exact EqAt.of_refs e h
theorem eqAt_bytes (l : List UInt8) (t u : Tok) : EqAt A s (.bytes l.toArray t) (.bytes l.toArray u) true := fun prog w E Q hq => by
  have h : RcAt A s (.bytes l.toArray t) (.bytes l.toArray u) true := fun prog w E Q hq => bs_eq (by rw [beq_self_eq_true]; exact hq)
  unfold eqBool
  refine wpAny_holding ?_
  refine wpAny_ite_split (fun _ => wpAny_bind (wpAny_rule (wpAny_pure hq))) (fun _ => ?_)
  exact wpAny_bind (h prog w E _ (wpAny_truthy_bool hq))
theorem eqAt_ver (v : Option Nat) (t u : Tok) : EqAt A s (verV v t) (verV v u) true := by
  cases v with
  | none => exact EqAt.same _
  | some n => exact eqAt_int n t u
theorem eqAt_lists {a b : Addr} {xs ys : List Value} {c1 c2 : Nat} {ns : List Int} (ha : s.heap.get? a = some (listOf xs.toArray c1)) (hb : s.heap.get? b = some (listOf ys.toArray c2)) (hi : IntsAre xs ns) (hj : IntsAre ys ns) (hu : A.units + 64 < cLine) :
    EqAt A s (.ref a) (.ref b) true :=
  eqAt_of_rc fun prog w E Q hq => ke_eq_ints ⟨_, ha, rfl, _, rfl⟩ ⟨_, hb, rfl, _, rfl⟩ hi hj hu (by rw [decide_eq_true rfl]; exact hq)
theorem eqAt_tup8 {D D' : Addr} {a0 a1 a2 a3 a4 a5 a6 a7 b0 b1 b2 b3 b4 b5 b6 b7 : Value} (hD : s.heap.get? D = some (tupO #[a0, a1, a2, a3, a4, a5, a6, a7])) (hD' : s.heap.get? D' = some (tupO #[b0, b1, b2, b3, b4, b5, b6, b7])) (hu : A.units < cLine)
    (h0 : EqAt A.in1 s a0 b0 true) (h1 : EqAt A.in1 s a1 b1 true) (h2 : EqAt A.in1 s a2 b2 true) (h3 : EqAt A.in1 s a3 b3 true) (h4 : EqAt A.in1 s a4 b4 true) (h5 : EqAt A.in1 s a5 b5 true) (h6 : EqAt A.in1 s a6 b6 true) (h7 : EqAt A.in1 s a7 b7 true) : EqAt A s (.ref D) (.ref D') true :=
  eqAt_of_rc (RcAt.tuples (e := fun _ => true) ⟨_, hD, rfl, 0, rfl⟩ ⟨_, hD', rfl, 0, rfl⟩ hu fun j p q => by
    match j, p, q with
    | 0, _, _ => exact h0
    | 1, _, _ => exact h1
    | 2, _, _ => exact h2
    | 3, _, _ => exact h3
    | 4, _, _ => exact h4
    | 5, _, _ => exact h5
    | 6, _, _ => exact h6
    | 7, _, _ => exact h7
    | n + 8, p, _ => exact absurd p (by simp))
theorem tup2_items {a0 a1 b0 b1 : Value} (h0 : EqAt A.in1 s a0 b0 true) (h1 : EqAt A.in1 s a1 b1 true) : ∀ j (p : j < (#[a0, a1] : Array Value).size) (q : j < (#[b0, b1] : Array Value).size), EqAt A.in1 s (#[a0, a1] : Array Value)[j] (#[b0, b1] : Array Value)[j] true := fun j p q => by
  match j, p, q with
  | 0, _, _ => exact h0
  | 1, _, _ => exact h1
  | n + 2, p, _ => exact absurd p (by simp)
/-- what two rows told that are alike are to each other -/
noncomputable def Alike (A : Around) (s : Shared) (D D' : Addr) : Prop :=
  ∃ a0 a1 b0 b1, s.heap.get? D = some (tupO #[a0, a1]) ∧ s.heap.get? D' = some (tupO #[b0, b1]) ∧ EqAt A.in1 s a0 b0 true ∧ EqAt A.in1 s a1 b1 true
theorem alike_of {D D1 LX D' D1' LX' : Addr} {stop kind sz : Int} {v : Option Nat} {te tv tk ts td tc tt tg te' tv' tk' ts' td' tc' tt' tg' : Tok} {d c t g : List UInt8} {vs vs' : List Value} {cap cap' : Nat} {ns : List Int} {vv vv' : Value}
    (h1 : s.heap.get? D = some (tupO #[.ref D1, .int stop te])) (h2 : s.heap.get? D1 = some (tupO #[vv, .int kind tk, .int sz ts, .bytes d.toArray td, .bytes c.toArray tc, .bytes t.toArray tt, .bytes g.toArray tg, .ref LX])) (h3 : s.heap.get? LX = some (listOf vs.toArray cap)) (hi : IntsAre vs ns) (hv : vv = verV v tv)
    (h1' : s.heap.get? D' = some (tupO #[.ref D1', .int stop te'])) (h2' : s.heap.get? D1' = some (tupO #[vv', .int kind tk', .int sz ts', .bytes d.toArray td', .bytes c.toArray tc', .bytes t.toArray tt', .bytes g.toArray tg', .ref LX'])) (h3' : s.heap.get? LX' = some (listOf vs'.toArray cap')) (hi' : IntsAre vs' ns) (hv' : vv' = verV v tv')
    (hu : A.units + 80 < cLine) : Alike A s D D' := by
  subst hv hv'
  have u1 : A.in1.units + 79 < cLine := by rw [Around.in1_units]; (first | lia | omega)
  have u2 : A.in1.in1.units + 64 < cLine := by rw [Around.in1_units, Around.in1_units]; (first | lia | omega)
  exact ⟨_, _, _, _, h1, h1', eqAt_tup8 h2 h2' (by (first | lia | omega)) (eqAt_ver _ _ _) (eqAt_int _ _ _) (eqAt_int _ _ _) (eqAt_bytes _ _ _) (eqAt_bytes _ _ _) (eqAt_bytes _ _ _) (eqAt_bytes _ _ _) (eqAt_lists h3 h3' hi hi' u2), eqAt_int _ _ _⟩
variable {prog : Program} {w : World} {E Q : Value → Shared → Prop}
theorem alike_eq {D D' : Addr} (h : Alike A s D D') (hu : A.units < cLine) (hq : Q (.bool true) s) : wpAny (model prog w) A (compareOp .Eq (.ref D) (.ref D')) Q E s := by
  obtain ⟨a0, a1, b0, b1, h1, h2, e0, e1⟩ := h
  exact RcAt.tuples (e := fun _ => true) ⟨_, h1, rfl, 0, rfl⟩ ⟨_, h2, rfl, 0, rfl⟩ hu (tup2_items e0 e1) prog w E Q hq
theorem alike_ne {D D' : Addr} (h : Alike A s D D') (hu : A.units < cLine) (hq : Q (.bool false) s) : wpAny (model prog w) A (compareOp .NotEq (.ref D) (.ref D')) Q E s := by
  obtain ⟨a0, a1, b0, b1, h1, h2, e0, e1⟩ := h
  exact RcNeAt.tuples (e := fun _ => true) ⟨_, h1, rfl, 0, rfl⟩ ⟨_, h2, rfl, 0, rfl⟩ hu (tup2_items e0 e1) prog w E Q hq
end
end JaLaw
end
section
set_option Elab.async false
set_option maxRecDepth 100000
namespace JaLaw
/-! a list display of open length, its turns calling: by what holds ahead of each turn -/
section
variable {prog : Program} {w : World} {A : Around} {s : Shared} {h₀ : Heap} {L : Addr} {m : PySem.Str → Option Value} {env : Env}
theorem comp_gen {elt : Expr} {x : PySem.Str} {scope : Scope} {cl : List (PySem.Str × Addr)} {S : List (Addr × Obj) → Prop} {P : Nat → Value → Prop} {Fin : List Value → List (Addr × Obj) → Prop} {n : Nat}
    (J : Nat → List Value → List (Addr × Obj) → Prop)
    (step : ∀ i ys news, i < n → J i ys news → ∀ v I oI C oC D m₂ h tk (E' : Value → Shared → Prop), P i v → LCg.NsObj oC m₂ → m₂ x = some v → Fr h₀ L h m → News h₀ L h ((I, oI) :: (C, oC) :: (D, LCg.lst ys) :: news) → LCg.Off3 I C D news → ((@Ne Nat I C) ∧ (@Ne Nat I D) ∧ (@Ne Nat C D)) →
      wpAny (model prog w) A (eval elt (compEnvC scope cl C env)) (LCg.CompEnd h₀ L m { s with heap := h, toks := tk } I oI C oC D (LCg.lst ys) S (fun y news' => J (i + 1) (ys ++ [y]) news')) E' { s with heap := h, toks := tk })
    (fin : ∀ ys news, J n ys news → Fin ys news) : ∀ k i ys news, i + k = n → J i ys news → LCg.CompRest prog w A h₀ L m env elt x scope cl s S P Fin k i ys news := by
  intro k
  induction k with
  | zero =>
    intro i ys news e j
    have e : i = n := e
    subst e
    exact LCg.CompRest.zero (fin ys news j)
  | succ k ih =>
    intro i ys news e j
    refine LCg.CompRest.succ fun v I oI C oC D m₂ h tk E' hv hC hx F N off ne => ?_
    refine wpAny_mono (step i ys news (by (first | lia | omega)) j v I oI C oC D m₂ h tk E' hv hC hx F N off ne) (fun y s' z => ?_) fun _ _ z => z
    obtain ⟨h', tk', news', e1, F', N', off', hS, r⟩ := z
    exact ⟨h', tk', news', e1, F', N', off', hS, ih (i + 1) (ys ++ [y]) news' (by (first | lia | omega)) r⟩
end
end JaLaw
end
section
set_option Elab.async false
set_option maxRecDepth 100000
namespace JaLaw
theorem rowsJaFirst0 : True := by
  k_with_none
  exact True.intro
theorem first_or : ∀ b : Nat, b < 16 → Builtin.bitOr (Builtin.bitOr (Builtin.bitOr 128 64) (0 * 2 ^ Int.toNat 4)) (b : Int) = ((192 + b : Nat) : Int) ∧ Builtin.bitOr (Builtin.bitOr (Builtin.bitOr 128 64) (3 * 2 ^ Int.toNat 4)) (b : Int) = ((240 + b : Nat) : Int) := by decide +kernel
theorem rowsJaFirst1 : True := by
  k_with "eval Name" => (k_here; (with_reducible show wpAny _ _ (eval (Expr.Name _ _) (envOf _ _ _ _ _)) _ _ _); k_dflt (first | (refine' ld ?k1 ?k2 ?_ ?k3 ?k4 ?k5; (case k4 => kernel_rfl!); (case k1 => with_reducible assumption); (case k2 => ((try dsimp only [List.reverse, List.reverseAux]); (repeat (first | with_reducible exact lk_hit | with_reducible exact lk_sto_hit | with_reducible exact lk_ite_hit | (with_reducible refine lk_sto_miss (by kernel_rfl!) ?_) | (with_reducible refine lk_ite_miss2 (by kernel_rfl!) ?_) | (with_reducible refine lk_miss (by kernel_rfl!) ?_) | with_reducible refine lk_rev ?_)))); (case k3 => kernel_rfl!); (case k5 => decide +kernel); k_whole) | (refine' name_K ?k0 ?k1 ?k2 ?k3 ?_ ?k4 ?k5 ?k6; (case k5 => kernel_rfl!); (case k0 => with_reducible assumption); (case k1 => with_reducible assumption); (case k2 => exact topRead_of (by with_reducible assumption)); (case k3 => k_is); (case k4 => kernel_rfl!); (case k6 => decide +kernel); k_whole) | (refine' name_B ?k0 ?k1 ?k2 ?k3 ?k4 ?k5 ?_ ?k6 ?k7 ?k8; (case k7 => kernel_rfl!); (case k0 => with_reducible assumption); (case k1 => with_reducible assumption); (case k2 => exact topRead_of (by with_reducible assumption)); (case k3 => k_is); (case k4 => boot_fast); (case k5 => decide); (case k6 => kernel_rfl!); (case k8 => decide +kernel); k_whole)))
  k_with "storeName" => (k_here; (try dsimp only); (with_reducible show wpAny _ _ (storeName (envOf _ _ _ _ _) _ _) _ _ _); k_dflt (refine' store_u ?k1 ?k2 ?_ ?k3 ?k4; (case k4 => kernel_rfl!); (case k3 => kernel_rfl!); (case k1 => with_reducible assumption); (case k2 => with_reducible assumption); k_whole); intro h' F' N'; (try k_sweep))
  k_with "exec Assign" => (k_here; k_fold)
  k_with "exec If" => (k_here; k_fold)
  exact True.intro
section
variable {w : World} {mean : ExcName → Option Value} {mg mb : PySem.Str → Option Value} {dp un : Nat} {gd : Option (List Code)} {cn : PySem.Str} {cs : Scope} {a : Addr} {ccd : Value} {cl : List (PySem.Str × Addr)} {outer : List Env} {A₀ : Around} {base h₀ : Heap} {L : Addr} {m : PySem.Str → Option Value} {s : Shared} {Q E : Value → Shared → Prop} {R : Result → Shared → Prop}
variable {v b : Nat} {t1 t2 t3 : Tok}
set_option maxHeartbeats 8000000 in
theorem first_ct (B : Below A₀ base outer h₀) (F : Fr h₀ L s.heap m) (X : (K0 w.params).In h₀) (N : News h₀ L s.heap []) (T : Top jP jL mean mg mb h₀) (hk : cs.kind = .function) (hd : dp + 3 < recursionLimit) (hu : un + 16 < cLine) (hv : v = 1 ∨ v = 1798521807) (hb : b < 16)
    (hret : ∀ (t : Tok) (h' : Heap) (tk' : Nat), Fr h₀ L h' m → Keeps [] s.heap h' → R (.ok (.ret (.int ((if v = 1798521807 then 192 else 240) + b : Nat) t))) { s with heap := h', toks := tk' }) :
    codeAny (model jprog w) (ktrTop dp un gd cn cs L a ccd cl outer) (.call (.ref 286) ⟨[.int (v : Int) t1, .int 3 t2, .int (b : Int) t3], []⟩) R s := by
  k_dflt (refine' enter_def (binds := [(Str.ofString "version", .int (v : Int) t1), (Str.ofString "packet_type", .int 3 t2), (Str.ofString "bits", .int (b : Int) t3)]) ?k1 ?k2 ?k3 ?k4 ?k5 ?kA ?kF ?kK ?k6 ?k7 ?k8 ?k9 ?kB ?_ ?c2 ?c3 ?c4 ?c5; (case kA => exact rfl); (case kF => exact rfl); (case kK => assumption); (case k1 => k_asm); (case k2 => k_asm); (case k3 => k_asm); (case k4 => k_asm); (case k5 => k_asm); (case k6 => k_is); (case k7 => k_is); (case k8 => first | exact room0 hd | ktr_room); (case k9 => first | exact BindsTo.of_eq (by kernel_rfl!) | exact BindsTo.of_eq rfl | exact binds_K (by k_in) rfl (by k_is) rfl rfl rfl); (case c5 => decide); (case kB => exact locs rfl); (case c2 => exact rfl); (case c3 => exact rfl); (case c4 => exact rfl); k_whole; intro g' L' h' FG' F' N' B' X' T' hkp hge; (try dsimp only); k_fold)
  k_steps
  · (rename Keeps _ _ _ => kK)
    (rename News h₀ _ _ _ => kN)
    have e2 : v = 1798521807 := by (first | lia | omega)
    have e3 := (first_or b hb).1
    rw [e3]
    have e4 : 192 + b = (if v = 1798521807 then 192 else 240) + b := by rw [if_pos e2]
    rw [e4]
    exact hret _ _ _ (by assumption) (keeps_less kK N kN (fun _ h => nomatch h))
  · (rename Keeps _ _ _ => kK)
    (rename News h₀ _ _ _ => kN)
    have e2 : ¬ v = 1798521807 := by (first | lia | omega)
    have e3 := (first_or b hb).2
    rw [e3]
    have e4 : 240 + b = (if v = 1798521807 then 192 else 240) + b := by rw [if_neg e2]
    rw [e4]
    exact hret _ _ _ (by assumption) (keeps_less kK N kN (fun _ h => nomatch h))
end
end JaLaw
end
section
set_option Elab.async false
set_option maxRecDepth 100000
namespace JaLaw
theorem rowsJaRetE0 : True := by
  k_with_none
  k_with "usef" => (case k1 => k_asm); (case k2 => k_asm); (case k3 => k_asm); (case k4 => k_asm); (case k5 => k_asm); (case k6 => first | exact rfl | assumption); (case k7 => first | exact room1 hd rfl | exact room2 hd rfl | ktr_room); (case k8 => first | exact room1 hu rfl | exact room2 hu rfl | ktr_units)
  k_with "sz" => (first | with_reducible assumption | ((try simp only [List.length_append, List.length_take, List.length_drop, List.length_cons, List.length_nil, toBE_length, List.length_replicate]); (first | lia | omega)))
  exact True.intro
section
variable {w : World} {mean : ExcName → Option Value} {mg mb : PySem.Str → Option Value} {dp un : Nat} {gd : Option (List Code)} {cn : PySem.Str} {cs : Scope} {a : Addr} {ccd : Value} {cl : List (PySem.Str × Addr)} {outer : List Env} {A₀ : Around} {base h₀ : Heap} {L : Addr} {m : PySem.Str → Option Value} {s : Shared} {Q E : Value → Shared → Prop} {R : Result → Shared → Prop}
variable {v b : Nat} {t1 t2 t3 : Tok} {news : List (Addr × Obj)}
theorem first_full (B : Below A₀ base outer h₀) (F : Fr h₀ L s.heap m) (X : (K0 w.params).In h₀) (N : News h₀ L s.heap news) (T : Top jP jL mean mg mb h₀) (hk : cs.kind = .function) (hd : dp + 3 < recursionLimit) (hu : un + 16 < cLine) (hv : v = 1 ∨ v = 1798521807) (hb : b < 16)
    (hret : ∀ (t : Tok) (h' : Heap) (tk' : Nat), Fr h₀ L h' m → News h₀ L h' news → R (.ok (.ret (.int ((if v = 1798521807 then 192 else 240) + b : Nat) t))) { s with heap := h', toks := tk' }) :
    codeAny (model jprog w) (ktrTop dp un gd cn cs L a ccd cl outer) (.call (.ref 286) ⟨[.int (v : Int) t1, .int 3 t2, .int (b : Int) t3], []⟩) R s :=
  first_ct B F X (news_sub N fun _ h => (nomatch h)) T hk hd hu hv hb fun t h' tk' F' kp => hret t h' tk' F' (news_keep N kp)
end
theorem rowsJaRetE1 : True := by
  k_with "callWith ref" => (k_here; (with_reducible show wpAny _ _ (callWith _ (Value.ref _) _ (backTo _ (starEach [] _)) (backToKw _ (keywordEach (_ :: _) _))) _ _ _); k_dflt (refine' callWith_KW0 ?k1 ?k2 ?k3 ?_; (case k1 => with_reducible assumption); (case k2 => k_is); (case k3 => exact rfl); k_whole))
  k_with "callWith ref" => (k_here; (with_reducible show wpAny _ _ (callWith _ (Value.ref _) _ (backTo _ (starEach (_ :: _) _)) []) _ _ _); k_dflt (refine' callWith_K ?k1 ?k2 ?_; (case k1 => with_reducible assumption); (case k2 => k_is); k_whole))
  k_with "callWith ref" => (k_here; (with_reducible show wpAny _ _ (callWith _ (Value.ref _) _ (backTo _ (starEach [] _)) []) _ _ _); k_dflt (refine' callWith_K0 ?k1 ?k2 ?_; (case k1 => exact (by first | with_reducible assumption | exact Frag.In.keeps (by with_reducible assumption) (Fr.keep (by with_reducible assumption)))); (case k2 => k_is); k_whole))
  k_with "And" => ((with_reducible show Frag.In _ _ ∧ _); refine ⟨(by first | with_reducible assumption | exact Frag.In.keeps (by with_reducible assumption) (Fr.keep (by with_reducible assumption))), ?_⟩; try dsimp only [List.nil_append, List.cons_append])
  k_with "eval Name" => (k_here; (with_reducible show wpAny _ _ (eval (Expr.Name _ _) (envOf _ _ _ _ _)) _ _ _); k_dflt (first | (refine' ld ?k1 ?k2 ?_ ?k3 ?k4 ?k5; (case k4 => kernel_rfl!); (case k1 => with_reducible assumption); (case k2 => ((try dsimp only [List.reverse, List.reverseAux]); (repeat (first | with_reducible exact lk_hit | with_reducible exact lk_sto_hit | with_reducible exact lk_ite_hit | (with_reducible refine lk_sto_miss (by kernel_rfl!) ?_) | (with_reducible refine lk_ite_miss2 (by kernel_rfl!) ?_) | (with_reducible refine lk_miss (by kernel_rfl!) ?_) | with_reducible refine lk_rev ?_)))); (case k3 => kernel_rfl!); (case k5 => decide +kernel); k_whole) | (refine' name_K ?k0 ?k1 ?k2 ?k3 ?_ ?k4 ?k5 ?k6; (case k5 => kernel_rfl!); (case k0 => with_reducible assumption); (case k1 => with_reducible assumption); (case k2 => exact topRead_of (by with_reducible assumption)); (case k3 => k_is); (case k4 => kernel_rfl!); (case k6 => decide +kernel); k_whole) | (refine' name_B ?k0 ?k1 ?k2 ?k3 ?k4 ?k5 ?_ ?k6 ?k7 ?k8; (case k7 => kernel_rfl!); (case k0 => with_reducible assumption); (case k1 => with_reducible assumption); (case k2 => exact topRead_of (by with_reducible assumption)); (case k3 => k_is); (case k4 => boot_fast); (case k5 => decide); (case k6 => kernel_rfl!); (case k8 => decide +kernel); k_whole)))
  k_with "storeName" => (k_here; (try dsimp only); (with_reducible show wpAny _ _ (storeName (envOf _ _ _ _ _) _ _) _ _ _); k_dflt (refine' store_u ?k1 ?k2 ?_ ?k3 ?k4; (case k4 => kernel_rfl!); (case k3 => kernel_rfl!); (case k1 => with_reducible assumption); (case k2 => with_reducible assumption); k_whole); intro h' F' N'; (try k_sweep))
  k_with "exec Expr" => (k_here; k_fold)
  k_with "call builtin:len" => (k_here; (with_reducible show wpAny _ _ (call (Value.builtin "len") [Value.bytes _ _]) _ _ _); k_dflt (refine bs_len (by (k_extra "sz")) ?_; intro _ _))
  k_with "call ref" => (k_here; (with_reducible show wpAny _ _ (call (Value.ref _) [Value.bytes _ _, Value.str _ _]) _ _ _); kfb_any; k_dflt (refine fb_call (by k_asm) (by k_mem) (by (k_extra "sz")) ?_); intro _ _)
  k_with "getAttr ref" => (k_here; k_dflt ((refine' get_prop ?p1 ?p2 ?p3 ?p4 ?p5 ?p6 ?p7 ?p8 ?p9 ?_; (case p1 => k_asm); (case p2 => k_asm); (case p3 => k_inst); (case p4 => k_is); (case p5 => k_is); (case p6 => k_is); (case p7 => k_is); (case p8 => k_is); (case p9 => k_is); k_whole); (show codeAny _ _ (.call (.ref 77) _) _ _); (refine' datac_full ?k1 ?k2 ?k3 ?k4 ?k5 ?k6 ?k7 ?k8 ?kq ?kd ?kx ?kb ?kl ?kp ?_; (k_extra "usef"); (case kq => first | exact rfl | assumption); (case kd => k_mem); (case kx => k_mem); (case kb => k_mem); (case kl => (first | lia | omega)); (case kp => (k_extra "sz"))); k_whole); (intro t' h' tk' F' N'; (try dsimp only); (try k_sweep)); (refine handed_on rfl ?_))
  k_with "call ref" => (k_here; (with_reducible show wpAny _ _ (call (Value.ref 92) _ _) _ _ _); k_dflt ((refine wpAny_call ?_); (refine' eofc_full ?k1 ?k2 ?k3 ?k4 ?k5 ?k6 ?k7 ?k8 ?kq ?kd ?kx ?kb ?kl ?kp ?_; (k_extra "usef"); (case kq => first | exact rfl | assumption); (case kd => k_mem); (case kx => k_mem); (case kb => k_mem); (case kl => (first | lia | omega)); (case kp => (k_extra "sz"))); k_whole); (all_goals (first | (intro h' tk' F' N'; (try dsimp only); (try k_sweep)) )))
  exact True.intro
theorem rowsJaRetE2 : True := by
  k_with "call ref" => (k_here; (with_reducible show wpAny _ _ (call (Value.ref 162) _ _) _ _ _); k_dflt ((refine wpAny_call ?_); (refine' push8c_full ?k1 ?k2 ?k3 ?k4 ?k5 ?k6 ?k7 ?k8 ?kq ?kx ?kb ?ku ?kl ?kp ?kn ?_; (k_extra "usef"); (case kq => first | exact rfl | assumption); (case kx => k_mem); (case kb => k_mem); (case ku => intro _ _; k_upd); (case kl => (first | lia | omega)); (case kp => (k_extra "sz")); (case kn => exact ⟨by k_ne, by k_ne, by k_ne⟩)); k_whole); (all_goals (first | (intro ba' t' h' tk' hn' F' N'; (try simp only [AllNe, and_true] at hn'); (repeat (rcases hn' with ⟨_, hn'⟩)); (try dsimp only); (try k_sweep)) )))
  k_with "call ref" => (k_here; (with_reducible show wpAny _ _ (call (Value.ref 176) _ _) _ _ _); k_dflt ((refine wpAny_call ?_); (refine' push32c_full ?k1 ?k2 ?k3 ?k4 ?k5 ?k6 ?k7 ?k8 ?kq ?kx ?kb ?ku ?kl ?kp ?kn ?_; (k_extra "usef"); (case kq => first | exact rfl | assumption); (case kx => k_mem); (case kb => k_mem); (case ku => intro _ _; k_upd); (case kl => (first | lia | omega)); (case kp => (k_extra "sz")); (case kn => exact ⟨by k_ne, by k_ne, by k_ne⟩)); k_whole); (all_goals (first | (intro ba' t' h' tk' hn' F' N'; (try simp only [AllNe, and_true] at hn'); (repeat (rcases hn' with ⟨_, hn'⟩)); (try dsimp only); (try k_sweep)) )))
  k_with "call ref" => (k_here; (with_reducible show wpAny _ _ (call (Value.ref 155) _ _) _ _ _); k_dflt ((refine wpAny_call ?_); (refine' pushc_full ?k1 ?k2 ?k3 ?k4 ?k5 ?k6 ?k7 ?k8 ?kq ?kx ?kb ?ku ?kl ?kp ?kn ?_; (k_extra "usef"); (case kq => first | exact rfl | assumption); (case kx => k_mem); (case kb => k_mem); (case ku => intro _ _; k_upd); (case kl => (first | lia | omega)); (case kp => (k_extra "sz")); (case kn => exact ⟨by k_ne, by k_ne, by k_ne⟩)); k_whole); (all_goals (first | (intro ba' t' h' tk' hn' F' N'; (try simp only [AllNe, and_true] at hn'); (repeat (rcases hn' with ⟨_, hn'⟩)); (try dsimp only); (try k_sweep)) )))
  k_with "call ref" => (k_here; (with_reducible show wpAny _ _ (call (Value.ref 286) _ _) _ _ _); k_dflt ((refine wpAny_call ?_); (refine' first_full ?k1 ?k2 ?k3 ?k4 ?k5 ?k6 ?k7 ?k8 ?kv ?kb ?_; (k_extra "usef"); (case kv => first | assumption | (first | lia | omega)); (case kb => first | assumption | (first | lia | omega))); k_whole); (all_goals (first | (intro t' h' tk' F' N'; (try dsimp only); (try k_sweep)) )))
  exact True.intro

noncomputable def retHead (v : Nat) (s1 d1 tok : List UInt8) (b : Nat) : List UInt8 :=
  toBE (((if v = 1798521807 then 192 else 240) + b) % 2 ^ 8) 1 ++ toBE (v % 2 ^ 32) 4 ++ toBE (d1.length % 2 ^ 8) 1 ++ d1 ++ toBE (s1.length % 2 ^ 8) 1 ++ s1 ++ tok
noncomputable def retText (v : Nat) (s1 d1 od tok : List UInt8) (b : Nat) : List UInt8 := retHead v s1 d1 tok b ++ rTag v od (retHead v s1 d1 tok b)
section
variable {w : World} {mean : ExcName → Option Value} {mg mb : PySem.Str → Option Value} {dp un : Nat} {gd : Option (List Code)} {cn : PySem.Str} {cs : Scope} {a : Addr} {ccd : Value} {cl : List (PySem.Str × Addr)} {outer : List Env} {A₀ : Around} {base h₀ : Heap} {L : Addr} {m : PySem.Str → Option Value} {s : Shared} {Q E : Value → Shared → Prop} {R : Result → Shared → Prop}
variable {s1 d1 od tok : List UInt8} {v b : Nat} {t1 t2 t3 t4 t5 t6 : Tok}
set_option maxHeartbeats 40000000 in
theorem rete_ct (B : Below A₀ base outer h₀) (F : Fr h₀ L s.heap m) (X : (K0 w.params).In h₀) (N : News h₀ L s.heap []) (T : Top jP jL mean mg mb h₀) (hk : cs.kind = .function) (hd : dp + 14 < recursionLimit) (hu : un + 60 < cLine) (hv : v = 1 ∨ v = 1798521807) (hb : b < 16) (h1 : s1.length ≤ 20) (h2 : d1.length ≤ 20) (h3 : od.length ≤ 20) (h4 : tok.length ≤ 20)
    (hret : ∀ (t : Tok) (h' : Heap) (tk' : Nat), Fr h₀ L h' m → Keeps [] s.heap h' → R (.ok (.ret (.bytes (retText v s1 d1 od tok b).toArray t))) { s with heap := h', toks := tk' }) :
    codeN (model jprog w) (ktrTop dp un gd cn cs L a ccd cl outer) (.call (.ref 294) ⟨[.int (v : Int) t1, .bytes s1.toArray t2, .bytes d1.toArray t3, .bytes od.toArray t4, .bytes tok.toArray t5, .ref 367, .int (b : Int) t6], []⟩) R s := by
  k_dflt (refine' enter_defN (binds := [(Str.ofString "version", .int (v : Int) t1), (Str.ofString "source_cid", .bytes s1.toArray t2), (Str.ofString "destination_cid", .bytes d1.toArray t3), (Str.ofString "original_destination_cid", .bytes od.toArray t4), (Str.ofString "retry_token", .bytes tok.toArray t5), (Str.ofString "seal", .ref 367), (Str.ofString "unused", .int (b : Int) t6)]) ?k1 ?k2 ?k3 ?k4 ?k5 ?kA ?kF ?kK ?k6 ?k7 ?k8 ?k9 ?kB ?_ ?c2 ?c3 ?c4 ?c5; (case kA => exact rfl); (case kF => exact rfl); (case kK => assumption); (case k1 => k_asm); (case k2 => k_asm); (case k3 => k_asm); (case k4 => k_asm); (case k5 => k_asm); (case k6 => k_is); (case k7 => k_is); (case k8 => first | exact room0 hd | ktr_room); (case k9 => first | exact BindsTo.of_eq (by kernel_rfl!) | exact BindsTo.of_eq rfl | exact binds_K (by k_in) rfl (by k_is) rfl rfl rfl); (case c5 => decide); (case kB => exact locs rfl); (case c2 => exact rfl); (case c3 => exact rfl); (case c4 => exact rfl); k_whole; intro g' L' h' FG' F' N' B' X' T' hkp hge; (try dsimp only); (try k_fold))
  refine n_fold fun qk ek hq he => ?_
  refine n_cons (n_assign_name rfl (n_call_name ?_))
  k_steps
  refine n_cKW0 (K := K0 w.params) (by k_is) rfl ?_
  k_steps
  (with_reducible rename Fr g' _ _ _ => kF)
  (with_reducible rename News g' _ _ _ => kN)
  refine wpN_call (bufc_ct B' kF X' kN T' rfl (by first | exact room1 hd rfl | exact room2 hd rfl | exact room0 hd | ktr_room) (by first | exact room1 hu rfl | exact room2 hu rfl | exact room0 hu | ktr_units) (n := 7 + d1.length + s1.length + tok.length + 16) (by (first | lia | omega)) (by (first | lia | omega)) fun x dx ba k1 k2 tp2 h' tk' F' N' l1 l2 n1 n2 n3 => ?_)
  clear kF kN
  have n4 : @Ne Nat dx x := Nat.ne_of_lt l1
  replace N' : News g' L' h' ((x, instObj 193 dx) :: (dx, bufD w.params k1 k2 ba ((([] : List UInt8).length : Nat) : Int) tp2) :: (ba, baO (capL (7 + d1.length + s1.length + tok.length + 16) [])) :: []) := N'
  dsimp only
  k_steps
  refine n_cons (wpN_any ?_)
  k_steps
  refine n_cons (wpN_any ?_)
  k_steps
  refine n_cons (wpN_any ?_)
  k_steps
  refine n_cons (wpN_any ?_)
  k_steps
  refine n_cons (wpN_any ?_)
  k_steps
  refine n_cons (wpN_any ?_)
  k_steps
  refine n_cons (wpN_any ?_)
  k_steps
  refine n_cons (n_expr (n_method ?_))
  k_steps
  refine n_cWN (K := K0 w.params) (by k_is) ?_
  refine n_spl_cons (n_call_name ?_)
  k_steps
  refine n_cKW (K := K0 w.params) (by k_is) rfl ?_
  k_steps
  (with_reducible rename Fr g' _ _ _ => kF)
  (with_reducible rename News g' _ _ _ => kN)
  refine wpN_call (tag_full B' kF X' kN T' rfl (by first | exact room1 hd rfl | exact room2 hd rfl | exact room0 hd | ktr_room) (by first | exact room1 hu rfl | exact room2 hu rfl | exact room0 hu | ktr_units) (pk := retHead v s1 d1 tok b) hv (by unfold retHead; simp only [List.length_append, toBE_length]; (first | lia | omega)) h3 fun t' h' tk' F' N' => ?_)
  clear kF kN
  dsimp only
  obtain ⟨T0, hT0⟩ : ∃ T0, T0 = rTag v od (retHead v s1 d1 tok b) := ⟨_, rfl⟩
  rw [← hT0]
  have hT : T0.length = 16 := by rw [hT0]; exact rTag_length _ _ _
  refine n_spl_nil ⟨X'.keeps F'.keep, ?_⟩
  refine wpN_any ?_
  k_steps
  refine n_cons (wpN_any ?_)
  k_steps
  refine n_cons (wpN_any ?_)
  subst hq he
  k_steps
  (rename Keeps _ _ _ => kK)
  subst hT0
  exact hret _ _ _ (by assumption) kK
variable {news : List (Addr × Obj)}
theorem rete_full (B : Below A₀ base outer h₀) (F : Fr h₀ L s.heap m) (X : (K0 w.params).In h₀) (N : News h₀ L s.heap news) (T : Top jP jL mean mg mb h₀) (hk : cs.kind = .function) (hd : dp + 14 < recursionLimit) (hu : un + 60 < cLine) (hv : v = 1 ∨ v = 1798521807) (hb : b < 16) (h1 : s1.length ≤ 20) (h2 : d1.length ≤ 20) (h3 : od.length ≤ 20) (h4 : tok.length ≤ 20)
    (hret : ∀ (t : Tok) (h' : Heap) (tk' : Nat), Fr h₀ L h' m → News h₀ L h' news → R (.ok (.ret (.bytes (retText v s1 d1 od tok b).toArray t))) { s with heap := h', toks := tk' }) :
    codeN (model jprog w) (ktrTop dp un gd cn cs L a ccd cl outer) (.call (.ref 294) ⟨[.int (v : Int) t1, .bytes s1.toArray t2, .bytes d1.toArray t3, .bytes od.toArray t4, .bytes tok.toArray t5, .ref 367, .int (b : Int) t6], []⟩) R s :=
  rete_ct B F X (news_sub N fun _ h => (nomatch h)) T hk hd hu hv hb h1 h2 h3 h4 fun t h' tk' F' kp => hret t h' tk' F' (news_keep N kp)
end
end JaLaw
end
section
set_option Elab.async false
set_option maxRecDepth 100000
namespace JaLaw
/-! what is written, in plain words, and how it is read back -/
theorem ofNat_mod (n : Nat) : UInt8.ofNat (n % 256) = UInt8.ofNat n := by
  apply UInt8.toNat_inj.mp
  simp
theorem toBE_one (n : Nat) : toBE (n % 2 ^ 8) 1 = [UInt8.ofNat n] := by
  have e : toBE (n % 2 ^ 8) 1 = [UInt8.ofNat (n % 2 ^ 8)] := by
    simp [toBE]
  rw [e, ofNat_mod]
theorem beV_one8 (n : Nat) (h : n < 256) : beV [UInt8.ofNat n] = n := by
  have := beV_toBE 1 n (by simpa using h)
  rw [← toBE_one, show n % 2 ^ 8 = n from Nat.mod_eq_of_lt h]
  exact this
theorem or_128 : ∀ b < 256, (b ||| 128) % 2 ^ 8 = 128 + b % 128 := by decide +kernel
theorem mod32 {k : Nat} (h : k < 2 ^ 32) : k % 2 ^ 32 = k := Nat.mod_eq_of_lt h
theorem versW_eq {ks : List Nat} (h : ∀ k ∈ ks, k < 2 ^ 32) : versW ks = (ks.map fun k => toBE k 4).flatten := by
  unfold versW
  induction ks with
  | nil => rfl
  | cons k ks ih =>
    rw [List.flatMap_cons, List.map_cons, List.flatten_cons, ih fun q hq => h q (.tail _ hq), mod32 (h k (.head _))]
theorem toBE_zero4 : toBE (0 % 2 ^ 32) 4 = List.replicate 4 0 := by decide +kernel
/-- the head of a long form, then what is behind it -/
noncomputable def longT (f : Nat) (v : Nat) (d s rest : List UInt8) : List UInt8 := [UInt8.ofNat f] ++ (toBE v 4 ++ ([UInt8.ofNat d.length] ++ (d ++ ([UInt8.ofNat s.length] ++ (s ++ rest)))))
theorem negText_long {b : Nat} {s1 d1 : List UInt8} {ks : List Nat} (hb : b < 256) (h : ∀ k ∈ ks, k < 2 ^ 32) : negText b s1 d1 ks = longT (128 + b % 128) 0 d1 s1 ((ks.map fun k => toBE k 4).flatten) := by
  unfold negText negHead longT
  rw [versW_eq h, or_128 b hb, toBE_one, toBE_one]
  have e : toBE (128 + b % 128) 1 = [UInt8.ofNat (128 + b % 128)] := by
    rw [← toBE_one, Nat.mod_eq_of_lt (show 128 + b % 128 < 2 ^ 8 by (first | lia | omega))]
  rw [e, show (0 : Nat) % 2 ^ 32 = 0 from rfl]
  simp only [List.append_assoc]
theorem retText_long {v b : Nat} {s1 d1 od tok : List UInt8} (hv : v = 1 ∨ v = 1798521807) (hb : b < 16) : retText v s1 d1 od tok b = longT ((if v = 1798521807 then 192 else 240) + b) v d1 s1 (tok ++ rTag v od (retHead v s1 d1 tok b)) := by
  unfold retText longT
  generalize rTag v od (retHead v s1 d1 tok b) = T
  unfold retHead
  have e1 : v % 2 ^ 32 = v := by rcases hv with rfl | rfl <;> rfl
  rw [e1, toBE_one, toBE_one, toBE_one]
  simp only [List.append_assoc]
theorem drop_at {A B l : List UInt8} {p : Nat} (h : l = A ++ B) (hp : A.length = p) : l.drop p = B := by
  subst h
  exact List.drop_left' hp
theorem u8_of {A B l : List UInt8} {n : Nat} {p : Int} (h : l = A ++ ([UInt8.ofNat n] ++ B)) (hp : p = (A.length : Int)) (hn : n < 256) : u8 l p = n := by
  subst hp
  show beV ((l.drop (A.length : Int).toNat).take 1) = n
  rw [Int.toNat_natCast, drop_at h rfl]
  exact beV_one8 n hn
theorem u32_of {A B l : List UInt8} {n : Nat} {p : Int} (h : l = A ++ (toBE n 4 ++ B)) (hp : p = (A.length : Int)) (hn : n < 2 ^ 32) : u32 l p = n := by
  subst hp
  show beV ((l.drop (A.length : Int).toNat).take 4) = n
  rw [Int.toNat_natCast, drop_at h rfl, List.take_left' (toBE_length _ _)]
  exact beV_toBE 4 n (by simpa using hn)
theorem cut_of {A B C l : List UInt8} {p n : Int} (h : l = A ++ (B ++ C)) (hp : p = (A.length : Int)) (hn : n = (B.length : Int)) : cutI l p n = B := by
  subst hp hn
  show (l.drop (A.length : Int).toNat).take (B.length : Int).toNat = B
  rw [Int.toNat_natCast, Int.toNat_natCast, drop_at h rfl, List.take_left' rfl]
theorem longT_length (f v : Nat) (d s rest : List UInt8) : (longT f v d s rest).length = 7 + d.length + s.length + rest.length := by
  unfold longT
  simp only [List.length_append, List.length_cons, List.length_nil, toBE_length]
  (first | lia | omega)
theorem long_read {f v : Nat} {d s rest : List UInt8} (hf : f < 256) (hf2 : 128 ≤ f) (hv : v < 2 ^ 32) (hd : d.length ≤ 20) (hs : s.length ≤ 20) :
    readP (longT f v d s rest) 0 8 = rdVer (longT f v d s rest) 0 (7 + d.length + s.length : Nat) v f d s := by
  obtain ⟨l, hl⟩ : ∃ l, l = longT f v d s rest := ⟨_, rfl⟩
  have hlen := longT_length f v d s rest
  rw [← hl] at hlen ⊢
  unfold longT at hl
  have u0 : u8 l 0 = f := u8_of (A := []) (by rw [hl]; rfl) rfl hf
  have u1 : u32 l (0 + 1) = v := u32_of (A := [UInt8.ofNat f]) hl rfl hv
  have u5 : u8 l (0 + 1 + 4) = d.length := u8_of (A := [UInt8.ofNat f] ++ toBE v 4) (B := d ++ ([UInt8.ofNat s.length] ++ (s ++ rest))) (by rw [hl]; simp only [List.append_assoc]) (by simp only [List.length_append, List.length_cons, List.length_nil, toBE_length]; rfl) (by (first | lia | omega))
  have u6 : u8 l (0 + 1 + 4 + 1 + (d.length : Nat)) = s.length := u8_of (A := [UInt8.ofNat f] ++ toBE v 4 ++ [UInt8.ofNat d.length] ++ d) (B := s ++ rest) (by rw [hl]; simp only [List.append_assoc]) (by simp only [List.length_append, List.length_cons, List.length_nil, toBE_length]; (first | lia | omega)) (by (first | lia | omega))
  have c1 : cutI l (0 + 1 + 4 + 1) (d.length : Nat) = d := cut_of (A := [UInt8.ofNat f] ++ toBE v 4 ++ [UInt8.ofNat d.length]) (C := [UInt8.ofNat s.length] ++ (s ++ rest)) (by rw [hl]; simp only [List.append_assoc]) (by simp only [List.length_append, List.length_cons, List.length_nil, toBE_length]; (first | lia | omega)) rfl
  have c2 : cutI l (0 + 1 + 4 + 1 + (d.length : Nat) + 1) (s.length : Nat) = s := cut_of (A := [UInt8.ofNat f] ++ toBE v 4 ++ [UInt8.ofNat d.length] ++ d ++ [UInt8.ofNat s.length]) (C := rest) (by rw [hl]; simp only [List.append_assoc]) (by simp only [List.length_append, List.length_cons, List.length_nil, toBE_length]; (first | lia | omega)) rfl
  unfold readP
  rw [if_neg (by (first | lia | omega)), u0, if_pos hf2]
  unfold rdLong
  rw [u5, if_neg (by (first | lia | omega)), if_neg (by (first | lia | omega)), if_neg (by (first | lia | omega)), if_neg (by (first | lia | omega)), u6, if_neg (by (first | lia | omega)), if_neg (by (first | lia | omega)), if_neg (by (first | lia | omega)), u1, c1, c2]
  congr 1
  (first | lia | omega)
theorem rows_of {pre : List UInt8} {ks : List Nat} (h : ∀ k ∈ ks, k < 2 ^ 32) : rows (pre ++ (ks.map fun k => toBE k 4).flatten) (pre.length : Int) ks.length = ks.map fun k : Nat => (k : Int) := by
  unfold rows
  apply List.ext_getElem
  · simp
  · intro i h1 h2
    simp only [List.getElem_map, List.getElem_range]
    have hi : i < ks.length := by simpa using h2
    have e : pre ++ (ks.map fun k => toBE k 4).flatten = (pre ++ ((ks.take i).map fun k => toBE k 4).flatten) ++ (toBE ks[i] 4 ++ ((ks.drop (i + 1)).map fun k => toBE k 4).flatten) := by
      rw [List.append_assoc]
      congr 1
      have : ks = ks.take i ++ (ks[i] :: ks.drop (i + 1)) := by rw [← List.drop_eq_getElem_cons hi, List.take_append_drop]
      conv => lhs; rw [this]
      rw [List.map_append, List.flatten_append, List.map_cons, List.flatten_cons]
    have hlen : ((ks.take i).map fun k => toBE k 4).flatten.length = 4 * i := by
      have : ∀ l : List Nat, ((l.map fun k => toBE k 4).flatten).length = 4 * l.length := by
        intro l
        induction l with
        | nil => rfl
        | cons k l ih => rw [List.map_cons, List.flatten_cons, List.length_append, ih, toBE_length, List.length_cons]; (first | lia | omega)
      rw [this, List.length_take]; (first | lia | omega)
    rw [u32_of e (by rw [List.length_append, hlen]; (first | lia | omega)) (h _ (List.getElem_mem hi))]
theorem neg_read {b : Nat} {s1 d1 : List UInt8} {ks : List Nat} (hb : b < 256) (h1 : s1.length ≤ 20) (h2 : d1.length ≤ 20) (h : ∀ k ∈ ks, k < 2 ^ 32) :
    readP (negText b s1 d1 ks) 0 8 = some ((⟨some 0, 4, ((negText b s1 d1 ks).length : Nat), d1, s1, [], [], ks.map fun k : Nat => (k : Int)⟩ : Row), (((negText b s1 d1 ks).length : Nat) : Int)) := by
  rw [negText_long hb h]
  have hl4 : ∀ l : List Nat, ((l.map fun k => toBE k 4).flatten).length = 4 * l.length := by
    intro l
    induction l with
    | nil => rfl
    | cons k l ih => rw [List.map_cons, List.flatten_cons, List.length_append, ih, toBE_length, List.length_cons]; (first | lia | omega)
  rw [long_read (by (first | lia | omega)) (by (first | lia | omega)) (by decide) h2 h1]
  have hlen := longT_length (128 + b % 128) 0 d1 s1 ((ks.map fun k => toBE k 4).flatten)
  rw [hl4] at hlen
  unfold rdVer
  rw [if_pos rfl, if_pos (by (first | lia | omega)), show ((((longT (128 + b % 128) 0 d1 s1 ((ks.map fun k => toBE k 4).flatten)).length : Int) - ((7 + d1.length + s1.length : Nat) : Int)) / 4).toNat = ks.length by (first | lia | omega)]
  have e : longT (128 + b % 128) 0 d1 s1 ((ks.map fun k => toBE k 4).flatten) = ([UInt8.ofNat (128 + b % 128)] ++ (toBE 0 4 ++ ([UInt8.ofNat d1.length] ++ (d1 ++ ([UInt8.ofNat s1.length] ++ s1))))) ++ (ks.map fun k => toBE k 4).flatten := by
    unfold longT; simp only [List.append_assoc]
  have r := rows_of (pre := [UInt8.ofNat (128 + b % 128)] ++ (toBE 0 4 ++ ([UInt8.ofNat d1.length] ++ (d1 ++ ([UInt8.ofNat s1.length] ++ s1))))) h
  rw [← e, show (([UInt8.ofNat (128 + b % 128)] ++ (toBE 0 4 ++ ([UInt8.ofNat d1.length] ++ (d1 ++ ([UInt8.ofNat s1.length] ++ s1))))).length : Int) = ((7 + d1.length + s1.length : Nat) : Int) by simp only [List.length_append, List.length_cons, List.length_nil, toBE_length]; (first | lia | omega)] at r
  rw [r]
  simp
theorem neg_due {b : Nat} {s1 d1 : List UInt8} {ks : List Nat} (hb : b < 256) (h : ∀ k ∈ ks, k < 2 ^ 32) :
    negText b s1 d1 ks = UInt8.ofNat ((128 : Int) + ((b % 128 : Nat) : Int)).toNat :: (List.replicate 4 0 ++ [UInt8.ofNat ((d1.length : Nat) : Int).toNat] ++ d1 ++ [UInt8.ofNat ((s1.length : Nat) : Int).toNat] ++ s1) ++ (ks.map fun k => toBE k 4).flatten := by
  rw [negText_long hb h, Int.toNat_natCast, Int.toNat_natCast, show ((128 : Int) + ((b % 128 : Nat) : Int)).toNat = 128 + b % 128 by (first | lia | omega)]
  unfold longT
  rw [show toBE 0 4 = List.replicate 4 0 from by decide +kernel]
  simp only [List.append_assoc, List.cons_append, List.nil_append]
theorem ret_due {v b : Nat} {s1 d1 od tok : List UInt8} {f : Int} (hv : v = 1 ∨ v = 1798521807) (hb : b < 16) (hf : f.toNat = (if v = 1798521807 then 192 else 240) + b) {H : List UInt8}
    (hH : H = UInt8.ofNat f.toNat :: (toBE v 4 ++ [UInt8.ofNat ((d1.length : Nat) : Int).toNat] ++ d1 ++ [UInt8.ofNat ((s1.length : Nat) : Int).toNat] ++ s1 ++ tok)) :
    H = retHead v s1 d1 tok b ∧ sealP (rKey v) (rNonce v) [] (UInt8.ofNat ((od.length : Nat) : Int).toNat :: (od ++ H)) = rTag v od (retHead v s1 d1 tok b) := by
  have e1 : v % 2 ^ 32 = v := by rcases hv with rfl | rfl <;> rfl
  have hh : H = retHead v s1 d1 tok b := by
    rw [hH, hf]
    unfold retHead
    rw [e1, toBE_one, toBE_one, toBE_one, Int.toNat_natCast, Int.toNat_natCast]
    simp only [List.append_assoc, List.cons_append, List.nil_append]
  refine ⟨hh, ?_⟩
  rw [← hh]
  unfold rTag
  rw [toBE_one, Int.toNat_natCast]
  simp only [List.append_assoc, List.cons_append, List.nil_append]
theorem code_ret (v b : Nat) (hv : v = 1 ∨ v = 1798521807) (hb : b < 16) : ((if v = 1798521807 then 192 else 240) + b) < 256 ∧ 128 ≤ ((if v = 1798521807 then 192 else 240) + b) ∧ ((if v = 1798521807 then 192 else 240) + b) / 64 % 2 ≠ 0 ∧ code2 v (((if v = 1798521807 then 192 else 240) + b) / 16 % 4) = 3 := by
  unfold code2
  rcases hv with rfl | rfl
  · rw [if_neg (by decide), if_neg (by decide)]
    (first | lia | omega)
  · rw [if_pos rfl, if_pos rfl]
    (first | lia | omega)
theorem ret_read {v b : Nat} {s1 d1 od tok : List UInt8} (hv : v = 1 ∨ v = 1798521807) (hb : b < 16) (h1 : s1.length ≤ 20) (h2 : d1.length ≤ 20) :
    readP (retText v s1 d1 od tok b) 0 8 = some ((⟨some v, 3, ((retText v s1 d1 od tok b).length : Nat), d1, s1, tok, rTag v od (retHead v s1 d1 tok b), []⟩ : Row), (((retText v s1 d1 od tok b).length : Nat) : Int)) := by
  obtain ⟨q1, q2, q3, q4⟩ := code_ret v b hv hb
  have hT := rTag_length v od (retHead v s1 d1 tok b)
  rw [retText_long hv hb]
  generalize rTag v od (retHead v s1 d1 tok b) = T at hT ⊢
  have hlen := longT_length ((if v = 1798521807 then 192 else 240) + b) v d1 s1 (tok ++ T)
  rw [List.length_append] at hlen
  rw [long_read q1 q2 (by rcases hv with rfl | rfl <;> decide) h2 h1]
  unfold rdVer
  rw [if_neg (by rcases hv with rfl | rfl <;> decide), if_neg q3, q4]
  unfold rdFin
  rw [if_neg (by decide), if_pos rfl, if_neg (by (first | lia | omega))]
  have e : longT ((if v = 1798521807 then 192 else 240) + b) v d1 s1 (tok ++ T) = ([UInt8.ofNat ((if v = 1798521807 then 192 else 240) + b)] ++ (toBE v 4 ++ ([UInt8.ofNat d1.length] ++ (d1 ++ ([UInt8.ofNat s1.length] ++ s1))))) ++ (tok ++ T) := by
    unfold longT; simp only [List.append_assoc]
  have hpre : ([UInt8.ofNat ((if v = 1798521807 then 192 else 240) + b)] ++ (toBE v 4 ++ ([UInt8.ofNat d1.length] ++ (d1 ++ ([UInt8.ofNat s1.length] ++ s1))))).length = 7 + d1.length + s1.length := by
    simp only [List.length_append, List.length_cons, List.length_nil, toBE_length]; (first | lia | omega)
  have c1 : cutI (longT ((if v = 1798521807 then 192 else 240) + b) v d1 s1 (tok ++ T)) ((7 + d1.length + s1.length : Nat) : Int) (((longT ((if v = 1798521807 then 192 else 240) + b) v d1 s1 (tok ++ T)).length : Int) - ((7 + d1.length + s1.length : Nat) : Int) - 16) = tok :=
    cut_of e (by rw [hpre]) (by (first | lia | omega))
  have c2 : cutI (longT ((if v = 1798521807 then 192 else 240) + b) v d1 s1 (tok ++ T)) (((7 + d1.length + s1.length : Nat) : Int) + (((longT ((if v = 1798521807 then 192 else 240) + b) v d1 s1 (tok ++ T)).length : Int) - ((7 + d1.length + s1.length : Nat) : Int) - 16)) 16 = T :=
    cut_of (A := ([UInt8.ofNat ((if v = 1798521807 then 192 else 240) + b)] ++ (toBE v 4 ++ ([UInt8.ofNat d1.length] ++ (d1 ++ ([UInt8.ofNat s1.length] ++ s1))))) ++ tok) (C := []) (by rw [e]; simp only [List.append_assoc, List.append_nil]) (by rw [List.length_append, hpre]; (first | lia | omega)) (by (first | lia | omega))
  rw [c1, c2]
  simp
end JaLaw
end
section
set_option Elab.async false
set_option maxRecDepth 100000
namespace JaLaw
theorem rowsJaRetC0 : True := by
  k_with_none
  k_with "sz" => (first | with_reducible assumption | ((try simp only [List.length_append, List.length_take, List.length_drop, List.length_cons, List.length_nil, toBE_length, List.length_replicate]); (first | lia | omega)))
  exact True.intro
theorem range_nat0 (k : Nat) : Builtin.Range.rangeSize 0 (k : Int) 1 = ((k : Nat) : Int) := by
  rw [rangeSize_nat, Int.sub_zero, Int.toNat_natCast]
theorem vers_len (ks : List Nat) : ((ks.map fun k => toBE k 4).flatten).length = 4 * ks.length := by
  induction ks with
  | nil => rfl
  | cons k ks ih => rw [List.map_cons, List.flatten_cons, List.length_append, ih, toBE_length, List.length_cons]; (first | lia | omega)
theorem neg_readI {b : Nat} {s1 d1 : List UInt8} {ks : List Nat} (hb : (b : Int) < 256) (h1 : s1.length ≤ 20) (h2 : d1.length ≤ 20) (h : ∀ k ∈ ks, k < 2 ^ 32) :
    readP (negText b s1 d1 ks) 0 8 = some ((⟨some 0, 4, ((negText b s1 d1 ks).length : Nat), d1, s1, [], [], ks.map fun k : Nat => (k : Int)⟩ : Row), (((negText b s1 d1 ks).length : Nat) : Int)) := neg_read (by (first | lia | omega)) h1 h2 h
theorem neg_dueI {b : Nat} {s1 d1 : List UInt8} {ks : List Nat} (hb : (b : Int) < 256) (h : ∀ k ∈ ks, k < 2 ^ 32) :
    negText b s1 d1 ks = UInt8.ofNat ((128 : Int) + ((b % 128 : Nat) : Int)).toNat :: (List.replicate 4 0 ++ [UInt8.ofNat ((d1.length : Nat) : Int).toNat] ++ d1 ++ [UInt8.ofNat ((s1.length : Nat) : Int).toNat] ++ s1) ++ (ks.map fun k => toBE k 4).flatten := neg_due (by (first | lia | omega)) h
theorem alike_len {A : Around} {s : Shared} {D D1 LX D' D1' LX' : Addr} {kl kr sz : Int} {v : Option Nat} {te tv tk ts td tc tt tg te' tv' tk' ts' td' tc' tt' tg' : Tok} {l1 l2 d c t g : List UInt8} {vs vs' : List Value} {cap cap' : Nat} {ns : List Int} {vv vv' : Value} (e : l1 = l2) (ek : kl = kr) (es : sz = ((l1.length : Nat) : Int))
    (h1 : s.heap.get? D = some (tupO #[.ref D1, .int ((l1.length : Nat) : Int) te])) (h2 : s.heap.get? D1 = some (tupO #[vv, .int kl tk, .int sz ts, .bytes d.toArray td, .bytes c.toArray tc, .bytes t.toArray tt, .bytes g.toArray tg, .ref LX])) (h3 : s.heap.get? LX = some (listOf vs.toArray cap)) (hi : IntsAre vs ns) (hv : vv = verV v tv)
    (h1' : s.heap.get? D' = some (tupO #[.ref D1', .int ((l2.length : Nat) : Int) te'])) (h2' : s.heap.get? D1' = some (tupO #[vv', .int kr tk', .int ((l2.length : Nat) : Int) ts', .bytes d.toArray td', .bytes c.toArray tc', .bytes t.toArray tt', .bytes g.toArray tg', .ref LX'])) (h3' : s.heap.get? LX' = some (listOf vs'.toArray cap')) (hi' : IntsAre vs' ns) (hv' : vv' = verV v tv')
    (hu : A.units + 80 < cLine) : Alike A s D D' := by
  subst e ek es
  exact alike_of h1 h2 h3 hi hv h1' h2' h3' hi' hv' hu
theorem nat_snoc {ys : List Value} {kss : List Nat} (h : IntsAre ys (kss.map fun k : Nat => (k : Int))) (k : Nat) (t : Tok) : IntsAre (ys ++ [.int (k : Int) t]) ((kss ++ [k]).map fun k : Nat => (k : Int)) := by
  rw [List.map_append]
  show IntsAre _ (kss.map (fun k : Nat => (k : Int)) ++ [(k : Int)])
  generalize kss.map (fun k : Nat => (k : Int)) = l at h ⊢
  induction h with
  | nil => exact .cons _ _ .nil
  | cons n t h ih => exact .cons _ _ ih
theorem rowsJaRetC1 : True := by
  k_with "callWith ref" => (k_here; (with_reducible show wpAny _ _ (callWith _ (Value.ref _) _ (backTo _ (starEach [] _)) (backToKw _ (keywordEach (_ :: _) _))) _ _ _); k_dflt (refine' callWith_KW0 ?k1 ?k2 ?k3 ?_; (case k1 => with_reducible assumption); (case k2 => k_is); (case k3 => exact rfl); k_whole))
  k_with "callWith ref" => (k_here; (with_reducible show wpAny _ _ (callWith _ (Value.ref _) _ (backTo _ (starEach (_ :: _) _)) []) _ _ _); k_dflt (refine' callWith_K ?k1 ?k2 ?_; (case k1 => with_reducible assumption); (case k2 => k_is); k_whole))
  k_with "callWith ref" => (k_here; (with_reducible show wpAny _ _ (callWith _ (Value.ref _) _ (backTo _ (starEach [] _)) []) _ _ _); k_dflt (refine' callWith_K0 ?k1 ?k2 ?_; (case k1 => exact (by first | with_reducible assumption | exact Frag.In.keeps (by with_reducible assumption) (Fr.keep (by with_reducible assumption)))); (case k2 => k_is); k_whole))
  k_with "newList" => (k_here; k_dflt (refine' newList_K ?k1 ?k2 ?_; (case k1 => with_reducible assumption); (case k2 => with_reducible assumption); k_whole); intro l' h' F' N' l1; (try k_lt l1); (repeat (have := And.left l1; replace l1 := And.right l1)); (try k_sweep))
  k_with "And" => ((with_reducible show Frag.In _ _ ∧ _); refine ⟨(by first | with_reducible assumption | exact Frag.In.keeps (by with_reducible assumption) (Fr.keep (by with_reducible assumption))), ?_⟩; try dsimp only [List.nil_append, List.cons_append])
  k_with "eval Name" => (k_here; (with_reducible show wpAny _ _ (eval (Expr.Name _ _) (envOf _ _ _ _ _)) _ _ _); k_dflt (first | (refine' ld ?k1 ?k2 ?_ ?k3 ?k4 ?k5; (case k4 => kernel_rfl!); (case k1 => with_reducible assumption); (case k2 => ((try dsimp only [List.reverse, List.reverseAux]); (repeat (first | with_reducible exact lk_hit | with_reducible exact lk_sto_hit | with_reducible exact lk_ite_hit | (with_reducible refine lk_sto_miss (by kernel_rfl!) ?_) | (with_reducible refine lk_ite_miss2 (by kernel_rfl!) ?_) | (with_reducible refine lk_miss (by kernel_rfl!) ?_) | with_reducible refine lk_rev ?_)))); (case k3 => kernel_rfl!); (case k5 => decide +kernel); k_whole) | (refine' name_K ?k0 ?k1 ?k2 ?k3 ?_ ?k4 ?k5 ?k6; (case k5 => kernel_rfl!); (case k0 => with_reducible assumption); (case k1 => with_reducible assumption); (case k2 => exact topRead_of (by with_reducible assumption)); (case k3 => k_is); (case k4 => kernel_rfl!); (case k6 => decide +kernel); k_whole) | (refine' name_B ?k0 ?k1 ?k2 ?k3 ?k4 ?k5 ?_ ?k6 ?k7 ?k8; (case k7 => kernel_rfl!); (case k0 => with_reducible assumption); (case k1 => with_reducible assumption); (case k2 => exact topRead_of (by with_reducible assumption)); (case k3 => k_is); (case k4 => boot_fast); (case k5 => decide); (case k6 => kernel_rfl!); (case k8 => decide +kernel); k_whole)))
  k_with "storeName" => (k_here; (try dsimp only); (with_reducible show wpAny _ _ (storeName (envOf _ _ _ _ _) _ _) _ _ _); k_dflt (refine' store_u ?k1 ?k2 ?_ ?k3 ?k4; (case k4 => kernel_rfl!); (case k3 => kernel_rfl!); (case k1 => with_reducible assumption); (case k2 => with_reducible assumption); k_whole); intro h' F' N'; (try k_sweep))
  k_with "exec Assign" => (k_here; k_fold)
  k_with "call builtin:len" => (k_here; (with_reducible show wpAny _ _ (call (Value.builtin "len") [Value.bytes _ _]) _ _ _); k_dflt (refine bs_len (by (k_extra "sz")) ?_; intro _ _))
  k_with "binaryOp Add bytes bytes" => (k_here; (with_reducible show wpAny _ _ (binaryOp _ (Value.bytes _ _) (Value.bytes _ _)) _ _ _); k_dflt (refine bs_add (by (k_extra "sz")) ?_; intro _ _))
  k_with "compareOp Eq bytes bytes" => (k_here; k_dflt (refine bs_eq ?_))
  k_with "call type:bytes" => (k_here; (with_reducible show wpAny _ _ (call (Value.type "bytes") [Value.ref _]) _ _ _); k_dflt (refine' bs_one ?k1 ?k2 ?k3 ?k4 ?k5 ?k6 ?_; (case k1 => k_asm); (case k2 => k_asm); (case k3 => exact rfl); (case k4 => k_mem); (case k5 => (k_extra "sz")); (case k6 => (k_extra "sz")); k_whole); intro _ _ _ F' N')
  k_with "call ref" => (k_here; (with_reducible show wpAny _ _ (call (Value.ref _) [Value.bytes _ _, Value.str _ _]) _ _ _); kfb_any; k_dflt (refine fb_call (by k_asm) (by k_mem) (by (k_extra "sz")) ?_); intro _ _)
  k_with "call ref" => (k_here; (with_reducible show wpAny _ _ (call (Value.ref 308) _) _ _ _); k_dflt (refine' take2nP ?k1 ?k2 ?k3 ?k4 ?k5 ?k6 ?k7 ?k8 ?kU ?kC ?kI ?kN ?kP ?kQ ?kL ?kB ?kK ?kM ?_; (case k1 => k_asm); (case k2 => k_asm); (case k3 => k_asm); (case k4 => k_asm); (case k5 => k_asm); (case k6 => first | exact rfl | assumption); (case k7 => first | exact room1 hd rfl | exact room2 hd rfl | ktr_room); (case k8 => first | exact room1 hu rfl | exact room2 hu rfl | ktr_units); (case kU => intro _ _; k_upd); (case kC => k_mem); (case kI => with_reducible assumption); (case kN => with_reducible assumption); (case kP => with_reducible assumption); (case kQ => with_reducible assumption); (case kL => with_reducible assumption); (case kB => with_reducible assumption); (case kK => exact rfl); (case kM => first | assumption | decide | (first | lia | omega)); k_whole); intro r' a' t' t2' h' tk' h1' hp' F' N'; (try dsimp only); (try k_sweep))
  k_with "subscriptTail Name Constant ref int" => (k_here; (with_reducible show wpAny _ _ (subscriptTail _ _ (Value.ref _) (Value.int _ _)) _ _ _); k_dflt (first | (refine' lst_item ?k1 ?k2 ?k3 ?k4 ?k5 ?_; (case k1 => with_reducible assumption); (case k2 => k_mem); (case k3 => decide); (case k4 => decide); (case k5 => first | with_reducible exact at_0 | with_reducible exact at_1 | with_reducible exact at_2 | exact rfl); k_whole) | (refine' tup_item ?k1 ?k2 ?k3 ?k4 ?k5 ?_; (case k1 => with_reducible assumption); (case k2 => k_mem); (case k3 => decide); (case k4 => decide); (case k5 => exact rfl); k_whole) | (refine' menu3 ?k1 ?k2 ?k3 ?k4 ?_; (case k1 => with_reducible assumption); (case k2 => k_mem); (case k3 => (first | lia | omega)); (case k4 => (first | lia | omega)); k_whole; intro _)))
  exact True.intro

theorem rowsJaRetC2 : True := by
  k_with "binaryOp Mod int int" => (k_here; k_dflt (refine int_mod (y := 128) rfl rfl (by decide) ?_); intro _ _)
  k_with "call type:bytes" => (k_here; (with_reducible show wpAny _ _ (call (Value.type "bytes") [Value.int _ _]) _ _ _); k_dflt (refine bytes_count (n := 4) rfl (by decide) ?_); intro _ _)
  k_with "getMethod bytes" => (k_here; (with_reducible refine join_method ?_))
  k_with "call builtin:bytes.join" => (k_here; refine halt ?_)
  k_with "call builtin:int.to_bytes" => (k_here; (with_reducible show wpAny _ _ (call (Value.builtin "int.to_bytes") [Value.int _ _, Value.int _ _, Value.str _ _]) _ _ _); k_dflt (refine tb_call (k := 4) (by decide) (by assumption) ?_; intro _ _))
  exact True.intro
theorem bs_eq_same {prog : Program} {w : World} {A : Around} {E : Value → Shared → Prop} {s : Shared} {t u : Tok} {l r : List UInt8} {Q : Value → Shared → Prop} (e : l = r) (h : Q (.bool true) s) : wpAny (model prog w) A (compareOp .Eq (.bytes l.toArray t) (.bytes r.toArray u)) Q E s := by
  subst e
  exact bs_eq (by rw [beq_self_eq_true]; exact h)
theorem rowsJaRetC3 : True := by
  k_with "compareOp Eq bytes bytes" => (k_here; refine halt ?_)
  k_with "compareOp Eq ref ref" => (k_here; refine halt ?_)
  k_with "CompSrc" => (k_here; refine halt ?_)
  k_with "binaryOp Pow int int" => (k_here; k_dflt (refine int_pow (x := 2) (k := 32) rfl rfl (by decide) (by decide) ?_; intro _ _))
  exact True.intro
section
variable {w : World} {mean : ExcName → Option Value} {mg mb : PySem.Str → Option Value} {dp un : Nat} {gd : Option (List Code)} {cn : PySem.Str} {cs : Scope} {a : Addr} {ccd : Value} {cl : List (PySem.Str × Addr)} {outer : List Env} {A₀ : Around} {base h₀ : Heap} {L : Addr} {m : PySem.Str → Option Value} {s : Shared} {Q E : Value → Shared → Prop} {R : Result → Shared → Prop}
variable {g h : Heap} {L' : Addr} {tk : Nat} {st c D : Addr} {oc : Obj} {t1 ti0 ti1 ti2 : Tok} {at_ : Int} {n cap : Nat} {vs : List Value} {ns : List Int} {i0 i1 i2 : List UInt8} {w1 w2 w3 w4 w5 w6 w7 w8 : Value} {QQ : Flow → Shared → Prop} {EE : Value → Shared → Prop}
set_option maxHeartbeats 40000000 in
theorem retC (B' : Below (ktrTop dp un gd cn cs L a ccd cl outer) base (envX cn cs L a ccd cl :: outer) g) (X' : (K0 w.params).In g) (T' : Top jP jL mean mg mb g) (hk : cs.kind = .function) (hd : dp + 20 < recursionLimit) (hu : un + 100 < cLine)
    (F' : Fr g L' h (fun y => if y = Str.ofString "told" then some w1 else if y = Str.ofString "tag" then some w2 else if y = Str.ofString "nonce" then some w3 else if y = Str.ofString "key" then some w4 else if y = Str.ofString "head" then some w5 else if y = Str.ofString "unused" then some w6 else if y = Str.ofString "token" then some w7 else if y = Str.ofString "ids" then some (.ref D) else if y = Str.ofString "version" then some w8 else none))
    (N' : News g L' h [(D, LCg.lst [.bytes i0.toArray ti0, .bytes i1.toArray ti1, .bytes i2.toArray ti2]), (L' + 1, oc), (st, stO at_ t1 c n), (c, listOf vs.toArray cap)])
    (d1' : oc.data = Data.cell (some (.ref st))) (hi : IntsAre vs ns) (hne : @Ne Nat c st) (hn2 : @Ne Nat D st) (hn3 : @Ne Nat (L' + 1) st) (hn4 : @Ne Nat D c) (hn5 : @Ne Nat D (L' + 1)) (hn6 : @Ne Nat (L' + 1) c) (h1 : 0 < ns.length) (h2 : ns.length ≤ 63) (hat : 0 ≤ at_ ∧ at_ < 960000)
    (hl0 : i0.length ≤ 20) (hl1 : i1.length ≤ 20)
    (hQ : ∀ h' tk' m' news', Fr g L' h' m' → News g L' h' news' → QQ (.ret (.bool true)) { s with heap := h', toks := tk' }) :
    wpN (model jprog w) ((ktrTop dp un gd cn cs L a ccd cl outer).deeper (envOfC (Str.ofString "_law_retry") s40s L' 372 (.ref 371))) (execs (List.drop 9 s40b) (envOfC (Str.ofString "_law_retry") s40s L' 372 (.ref 371))) QQ EE { s with heap := h, toks := tk } := by
  dsimp only [s40b, wit, List.drop]
  have hP0 := Pl.zero at_
  have hb99 : 0 ≤ at_ ∧ at_ < 990000 := ⟨hat.1, Int.lt_trans hat.2 (by decide)⟩
  refine n_fold fun qk ek hq he => ?_
  refine n_cons (wpN_any ?_)
  k_steps
  refine Halt.mk ?_
  (with_reducible rename Fr g _ _ _ => kF)
  (with_reducible rename News g _ _ _ => kN)
  (with_reducible rename IsRange _ _ _ _ _ _ _ _ => kR)
  (rename _ < (4 : Int) => hr4)
  (with_reducible rename Pl _ _ _ => hp1)
  clear hb99
  refine LCg.CompSrc.range rfl kF kN kR (small_one (by decide) (by decide) (by (first | lia | omega)) (by (first | lia | omega))) (range_nat0 _) (by rw [sizeLine_eq]; (first | lia | omega)) ?_
  intro gq
  refine comp_gen (fun i ys news => Halt (∃ (kss : List Nat) (at' : Int) (t' : Tok), IntsAre ys (kss.map fun k : Nat => (k : Int)) ∧ (∀ q ∈ kss, q < 2 ^ 32) ∧ kss.length = i ∧ Pl at_ (1 + i) at' ∧ news = [(D, LCg.lst [.bytes i0.toArray ti0, .bytes i1.toArray ti1, .bytes i2.toArray ti2]), (L' + 1, oc), (st, stO at' t' c n), (c, listOf vs.toArray cap)])) ?step ?fin _ 0 [] _ (Nat.zero_add _) ⟨⟨[], _, _, .nil, by simp, rfl, hp1, rfl⟩⟩
  case step =>
    rintro i ys news hin ⟨⟨kss, at', t', hys, hql, hkl, hPi, rfl⟩⟩ v I oI C oC D2 m₂ h2 tk2 E' hv hC hx F' N' off ne
    clear kF kN
    simp only [LCg.Off3, and_true] at off
    obtain ⟨⟨o1, o2, o3⟩, ⟨o4, o5, o6⟩, ⟨o7, o8, o9⟩, o10, o11, o12⟩ := off
    have hPz := Pl.zero at'
    have hb99 : 0 ≤ at' ∧ at' < 990000 := by unfold Pl at hPi; (first | lia | omega)
    have hm32 : (0 : Int) < ((2 ^ 32 : Nat) : Int) := by decide
    k_steps
    (with_reducible rename Pl at' _ _ => hp)
    refine ⟨⟨kss ++ [_], _, _, nat_snoc hys _ _, fun q hq => ?_, by rw [List.length_append, hkl]; rfl, hPi.add (m := 1) hp.1 hp.2, rfl⟩⟩
    rcases List.mem_append.mp hq with hq | hq
    · exact hql q hq
    · rw [List.mem_singleton.mp hq]
      (first | lia | omega)
  case fin =>
    rintro ys news ⟨⟨kss, at', t', hys, hql, hkl, hPi, rfl⟩⟩
    clear kF kN
    have hPz := Pl.zero at'
    have hb99 : 0 ≤ at' ∧ at' < 990000 := by unfold Pl at hPi; (first | lia | omega)
    k_steps
    refine n_cons (wpN_any ?_)
    k_steps
    refine n_cons (n_assign_name rfl (n_call_name ?_))
    k_steps
    refine n_cW (K := K0 w.params) (by k_is) ?_
    k_steps
    (with_reducible rename Fr g _ _ _ => kF)
    (with_reducible rename News g _ _ _ => kN)
    (rename _ < (256 : Int) => hb)
    refine wpN_call (nege_full B' kF X' kN T' rfl (by first | exact room1 hd rfl | exact room2 hd rfl | exact room0 hd | ktr_room) (by first | exact room1 hu rfl | exact room2 hu rfl | exact room0 hu | ktr_units) (ks := kss) (by (first | lia | omega)) hl1 hl0 (by k_mem) hys (by (first | lia | omega)) fun t' h' tk' F' N' => ?_)
    clear kF kN
    dsimp only
    k_steps
    refine n_cons (wpN_any ?_)
    k_steps
    refine Halt.mk ?_
    (with_reducible rename Fr g _ _ _ => kF)
    (with_reducible rename News g _ _ _ => kN)
    have hyl : ys.toArray.size = kss.length := by rw [List.size_toArray, hys.length, List.length_map]
    refine LCg.CompSrc.ledger rfl kF kN (its := ys.toArray) (by k_mem) (by rw [hyl, sizeLine_eq]; (first | lia | omega)) ?_
    intro gq
    refine comp_gen (fun i zs nw => Halt (BytesAre zs ((kss.take i).map fun k => toBE k 4) ∧ nw = _)) ?step ?fin _ 0 [] _ (Nat.zero_add _) ⟨⟨.nil, rfl⟩⟩
    case step =>
      rintro i zs nw hin ⟨⟨hzs, rfl⟩⟩ v I oI C oC D2 m₂ h2 tk2 E' hv hC hx F' N' off ne
      clear kF kN
      rw [hyl] at hin
      obtain ⟨tv, hg⟩ := hys.get i ((kss[i] : Nat) : Int) (by rw [List.getElem?_map, List.getElem?_eq_getElem hin]; rfl)
      have hv2 : v = .int ((kss[i] : Nat) : Int) tv := by
        rw [List.getElem?_toArray, hg] at hv
        exact (Option.some.inj hv).symm
      subst hv2
      have hk32 : kss[i] < 256 ^ 4 := hql _ (List.getElem_mem hin)
      obtain ⟨kv, hkv⟩ : ∃ kv, kv = kss[i] := ⟨_, rfl⟩
      rw [← hkv] at hx hk32
      have hJ1 : (kss.take (i + 1)).map (fun k => toBE k 4) = (kss.take i).map (fun k => toBE k 4) ++ [toBE kv 4] := by
        rw [List.take_succ, List.getElem?_eq_getElem hin, Option.toList_some, List.map_append, hkv]; rfl
      simp only [LCg.Off3, and_true] at off
      (repeat (rcases off with ⟨⟨_, _, _⟩, off⟩))
      rcases off with ⟨_, _, _⟩
      k_steps
      exact ⟨⟨by rw [hJ1]; exact hzs.snoc _ _, rfl⟩⟩
    case fin =>
      rintro zs nw ⟨⟨hzs, rfl⟩⟩
      clear kF kN
      rw [hyl, List.take_length] at hzs
      k_steps
      refine Halt.mk ?_
      (with_reducible rename News g _ _ _ => kN)
      have hfl : ((kss.map fun k => toBE k 4).flatten).length = 4 * kss.length := vers_len kss
      refine join_call kN (by k_mem) hzs (by (first | lia | omega)) fun t' k' => ?_
      k_steps
      refine n_cons (n_return (n_and2 (wpN_any ?_)))
      k_steps
      refine Halt.mk ?_
      refine bs_eq_same (neg_due (by (first | lia | omega)) hql) ?_
      k_steps
      refine n_cmp rfl (n_call_name ?_)
      k_steps
      refine n_cW (K := K0 w.params) (by k_is) ?_
      k_steps
      (with_reducible rename Fr g _ _ _ => kF)
      (with_reducible rename News g _ _ _ => kN)
      have hrd := neg_readI hb hl1 hl0 hql
      refine wpN_call (told_full B' kF X' kN T' rfl (by first | exact room1 hd rfl | exact room2 hd rfl | exact room0 hd | ktr_room) (by first | exact room1 hu rfl | exact room2 hu rfl | exact room0 hu | ktr_units) (l := negText _ i1 i0 kss) ?len ⟨by decide, Int.natCast_nonneg _⟩ (.inr (by rw [hrd]; exact fun z => nomatch z)) (fun h' tk' e => by rw [hrd] at e; cases e) ?some)
      case len => rw [negText_long (by (first | lia | omega)) hql, longT_length, vers_len]; (first | lia | omega)
      case some =>
        intro row stop sz vv E0 E1 EX te tv tk' ts td tc tt tg ws wc h' tk2 e1 e2 e3 e4 F' N'
        rw [hrd] at e1
        obtain ⟨rfl, rfl⟩ := Prod.mk.inj (Option.some.inj e1)
        dsimp only [toldL, List.cons_append, List.nil_append] at N' e2 e3 e4
        clear kF kN
        dsimp only
        refine wpN_any ?_
        k_steps
        refine Halt.mk ?_
        (with_reducible rename Fr g _ _ _ => kF)
        (with_reducible rename News g _ _ _ => kN)
        refine alike_eq (alike_len (neg_dueI hb hql) (kl := 4) (kr := 4) rfl e3 (kN.get (by k_mem)) (kN.get (by k_mem)) (kN.get (by k_mem)) e4 e2 (kN.get (by k_mem)) (kN.get (by k_mem)) (kN.get (by k_mem)) hys (v := some 0) (tv' := _) rfl (by first | exact room1 hu rfl | exact room2 hu rfl | exact room0 hu | ktr_units)) (by first | exact room1 hu rfl | exact room2 hu rfl | exact room0 hu | ktr_units) ?_
        subst hq
        exact hQ _ _ _ _ kF kN
      all_goals fail
end
end JaLaw
end
section
set_option Elab.async false
set_option maxRecDepth 100000
namespace JaLaw
theorem rowsJaLawT0 : True := by
  k_with_none
  k_with "usef" => (case k1 => k_asm); (case k2 => k_asm); (case k3 => k_asm); (case k4 => k_asm); (case k5 => k_asm); (case k6 => first | exact rfl | assumption); (case k7 => first | exact room1 hd rfl | exact room2 hd rfl | ktr_room); (case k8 => first | exact room1 hu rfl | exact room2 hu rfl | ktr_units)
  k_with "sz" => (first | with_reducible assumption | ((try simp only [List.length_append, List.length_take, List.length_drop, List.length_cons, List.length_nil, toBE_length, List.length_replicate]); (first | lia | omega)))
  exact True.intro
noncomputable def forBody : List Stmt → List Stmt
  | _ :: .For _ _ b _ _ :: _ => b
  | _ => []
theorem rowsJaLawT1 : True := by
  k_with "callWith ref" => (k_here; (with_reducible show wpAny _ _ (callWith _ (Value.ref _) _ (backTo _ (starEach [] _)) (backToKw _ (keywordEach (_ :: _) _))) _ _ _); k_dflt (refine' callWith_KW0 ?k1 ?k2 ?k3 ?_; (case k1 => with_reducible assumption); (case k2 => k_is); (case k3 => exact rfl); k_whole))
  k_with "callWith ref" => (k_here; (with_reducible show wpAny _ _ (callWith _ (Value.ref _) _ (backTo _ (starEach (_ :: _) _)) []) _ _ _); k_dflt (refine' callWith_K ?k1 ?k2 ?_; (case k1 => with_reducible assumption); (case k2 => k_is); k_whole))
  k_with "callWith ref" => (k_here; (with_reducible show wpAny _ _ (callWith _ (Value.ref _) _ (backTo _ (starEach [] _)) []) _ _ _); k_dflt (refine' callWith_K0 ?k1 ?k2 ?_; (case k1 => exact (by first | with_reducible assumption | exact Frag.In.keeps (by with_reducible assumption) (Fr.keep (by with_reducible assumption)))); (case k2 => k_is); k_whole))
  k_with "And" => ((with_reducible show Frag.In _ _ ∧ _); refine ⟨(by first | with_reducible assumption | exact Frag.In.keeps (by with_reducible assumption) (Fr.keep (by with_reducible assumption))), ?_⟩; try dsimp only [List.nil_append, List.cons_append])
  k_with "eval Name" => (k_here; (with_reducible show wpAny _ _ (eval (Expr.Name _ _) (envOf _ _ _ _ _)) _ _ _); k_dflt (first | (refine' ld ?k1 ?k2 ?_ ?k3 ?k4 ?k5; (case k4 => kernel_rfl!); (case k1 => with_reducible assumption); (case k2 => ((try dsimp only [List.reverse, List.reverseAux]); (repeat (first | with_reducible exact lk_hit | with_reducible exact lk_sto_hit | with_reducible exact lk_ite_hit | (with_reducible refine lk_sto_miss (by kernel_rfl!) ?_) | (with_reducible refine lk_ite_miss2 (by kernel_rfl!) ?_) | (with_reducible refine lk_miss (by kernel_rfl!) ?_) | with_reducible refine lk_rev ?_)))); (case k3 => kernel_rfl!); (case k5 => decide +kernel); k_whole) | (refine' name_K ?k0 ?k1 ?k2 ?k3 ?_ ?k4 ?k5 ?k6; (case k5 => kernel_rfl!); (case k0 => with_reducible assumption); (case k1 => with_reducible assumption); (case k2 => exact topRead_of (by with_reducible assumption)); (case k3 => k_is); (case k4 => kernel_rfl!); (case k6 => decide +kernel); k_whole) | (refine' name_B ?k0 ?k1 ?k2 ?k3 ?k4 ?k5 ?_ ?k6 ?k7 ?k8; (case k7 => kernel_rfl!); (case k0 => with_reducible assumption); (case k1 => with_reducible assumption); (case k2 => exact topRead_of (by with_reducible assumption)); (case k3 => k_is); (case k4 => boot_fast); (case k5 => decide); (case k6 => kernel_rfl!); (case k8 => decide +kernel); k_whole)))
  k_with "eval Name" => (k_here; (with_reducible show wpAny _ _ (eval (Expr.Name _ _) (envOf _ _ _ _ _)) _ _ _); k_dflt (first | (refine' ld ?k1 ?k2 ?_ ?k3 ?k4 ?k5; (case k4 => kernel_rfl!); (case k1 => with_reducible assumption); (case k2 => ((try dsimp only [List.reverse, List.reverseAux]); (repeat (first | with_reducible exact lk_hit | with_reducible exact lk_sto_hit | with_reducible exact lk_ite_hit | (with_reducible refine lk_sto_miss (by kernel_rfl!) ?_) | (with_reducible refine lk_ite_miss2 (by kernel_rfl!) ?_) | (with_reducible refine lk_miss (by kernel_rfl!) ?_) | with_reducible refine lk_rev ?_ | with_reducible assumption)))); (case k3 => kernel_rfl!); (case k5 => decide +kernel); k_whole) | (refine' name_K ?k0 ?k1 ?k2 ?k3 ?_ ?k4 ?k5 ?k6; (case k5 => kernel_rfl!); (case k0 => with_reducible assumption); (case k1 => with_reducible assumption); (case k2 => exact topRead_of (by with_reducible assumption)); (case k3 => k_is); (case k4 => kernel_rfl!); (case k6 => decide +kernel); k_whole) | (refine' name_B ?k0 ?k1 ?k2 ?k3 ?k4 ?k5 ?_ ?k6 ?k7 ?k8; (case k7 => kernel_rfl!); (case k0 => with_reducible assumption); (case k1 => with_reducible assumption); (case k2 => exact topRead_of (by with_reducible assumption)); (case k3 => k_is); (case k4 => boot_fast); (case k5 => decide); (case k6 => kernel_rfl!); (case k8 => decide +kernel); k_whole)))
  k_with "call builtin:len" => (k_here; (with_reducible show wpAny _ _ (call (Value.builtin "len") [Value.bytes _ _]) _ _ _); k_dflt (refine bs_len (by (k_extra "sz")) ?_; intro _ _))
  k_with "compareOp NotEq bytes bytes" => (k_here; k_dflt (refine bs_ne ?_))
  k_with "subscriptTail" => (k_here; (with_reducible show wpAny _ _ (subscriptTail _ _ (Value.bytes _ _) (Value.int _ _)) _ _ _); k_dflt (refine bs_item8 (by (k_extra "sz")) (by (k_extra "sz")) (by (k_extra "sz")) ?_; intro _ _))
  k_with "subscriptTail" => (k_here; (with_reducible show wpAny _ _ (subscriptTail _ (Expr.Slice _ _ none _) (Value.bytes _ _) (Value.ref _)) _ _ _); (with_reducible rename Fr _ _ _ _ => F'); (with_reducible rename News _ _ _ _ => N'); k_dflt (refine' bs_slice (s := ⟨_, _, _, _, _⟩) F' N' (by constructor) (by constructor) (by (k_extra "sz")) ?k3 ?_; (case k3 => first | with_reducible exact BA.picked_hi _ (by (first | lia | omega)) | with_reducible exact BA.picked_lo _ (by (first | lia | omega)) | with_reducible exact picked_4 _ (by (first | lia | omega)) | with_reducible exact picked_len _ (by (first | lia | omega)) (by (first | lia | omega)) | with_reducible exact BA.picked_both _ (by (first | lia | omega)) (by (first | lia | omega)) | exact BA.picked_hi _ (by (first | lia | omega)) | exact BA.picked_lo _ (by (first | lia | omega)) | exact BA.picked_both _ (by (first | lia | omega)) (by (first | lia | omega))); k_whole; intro _ _ _ _ _))
  k_with "call ref" => (k_here; (with_reducible show wpAny _ _ (call (Value.ref _) [Value.bytes _ _, Value.str _ _]) _ _ _); kfb_any; k_dflt (refine fb_call (by k_asm) (by k_mem) (by (k_extra "sz")) ?_); intro _ _)
  k_with "call ref" => (k_here; (with_reducible show wpAny _ _ (call (Value.ref 271) _ _) _ _ _); k_dflt ((refine wpAny_call ?_); (refine' long_full ?k1 ?k2 ?k3 ?k4 ?k5 ?k6 ?k7 ?k8 ?kf ?kg ?_; (k_extra "usef"); (case kf => first | exact rfl | assumption); (case kg => first | exact u8_lt _ _ | assumption | (first | lia | omega))); k_whole); (all_goals (first | (intro h' tk' F' N'; (try dsimp only); (try k_sweep)) )))
  k_with "call ref" => (k_here; (with_reducible show wpAny _ _ (call (Value.ref 264) _ _) _ _ _); k_dflt ((refine wpAny_call ?_); (refine' spin_full ?k1 ?k2 ?k3 ?k4 ?k5 ?k6 ?k7 ?k8 ?kf ?kg ?_; (k_extra "usef"); (case kf => first | exact rfl | assumption); (case kg => first | exact u8_lt _ _ | assumption | (first | lia | omega))); k_whole); (all_goals (first | (intro h' tk' F' N'; (try dsimp only); (try k_sweep)) )))
  k_with "call ref" => (k_here; (with_reducible show wpAny _ _ (call (Value.ref 246) _ _) _ _ _); k_dflt ((refine wpAny_call ?_); (refine' hdr_full ?k1 ?k2 ?k3 ?k4 ?k5 ?k6 ?k7 ?k8 ?_; (k_extra "usef"); skip); k_whole); (all_goals (first | (intro x' d' a1 a2 a3 a4 a5 a6 a7 a8 h' tk' F' N' l1 l2; (try k_lt l2); (try k_lt2 l1); (try dsimp only); (try k_sweep)) )))
  exact True.intro

theorem rowsJaLawT2 : True := by
  k_with "call ref" => (k_here; (with_reducible show wpAny _ _ (call (Value.ref 348) _) _ _ _); refine halt ?_)
  k_with "compareOp NotEq ref ref" => (k_here; refine halt ?_)
  exact True.intro
theorem nb_same {prog : Program} {w : World} {A : Around} {E : Value → Shared → Prop} {s : Shared} {b1 b2 : Bool} {Q : Value → Shared → Prop} (e : b1 = b2) (h : Q (.bool false) s) : wpAny (model prog w) A (compareOp .NotEq (.bool b1) (.bool b2)) Q E s := ne_bool (by
  subst e
  rw [show (b1 != b1) = false by simp]
  exact h)
theorem rowsJaLawT3 : True := by
  k_with "binaryOp FloorDiv int int" => (k_here; k_dflt (refine int_div (y := 32) rfl (by decide) (by decide) (by decide) ?_); intro _ _)
  k_with "binaryOp Mod int int" => (k_here; k_dflt (refine int_mod (y := 2) rfl rfl (by decide) ?_); intro _ _)
  exact True.intro
theorem bs_ne_val {prog : Program} {w : World} {A : Around} {E : Value → Shared → Prop} {s : Shared} {t u : Tok} {l r : List UInt8} {b : Bool} {Q : Value → Shared → Prop} (e : (l != r) = b) (h : Q (.bool b) s) : wpAny (model prog w) A (compareOp .NotEq (.bytes l.toArray t) (.bytes r.toArray u)) Q E s := bs_ne (by rw [e]; exact h)
theorem rowsJaLawT4 : True := by
  k_with "compareOp NotEq bytes bytes" => (k_here; refine halt ?_)
  k_with "compareOp NotEq bool bool" => (k_here; refine halt ?_)
  exact True.intro
section
variable {w : World} {mean : ExcName → Option Value} {mg mb : PySem.Str → Option Value} {H h : Heap} {L0 fa I st c : Addr} {oI : Obj} {cdv : Value} {m₂ : PySem.Str → Option Value} {s : Shared} {tk : Nat} {Q : Flow → Shared → Prop} {E : Value → Shared → Prop} {l bl : List UInt8} {z at_ : Int} {to tb tz t1 : Tok} {n cap : Nat} {vs : List Value} {ns : List Int}
set_option maxHeartbeats 40000000 in
theorem lawT3 (X' : (K0 w.params).In H) (T' : Top jP jL mean mg mb H) (F' : Fr H L0 h m₂) (e1 : m₂ (Str.ofString "octets") = some (.bytes l.toArray to))
    (N' : News H L0 h [(I, oI), (st, stO at_ t1 c n), (c, listOf vs.toArray cap)]) (hl : l.length ≤ 100000)
    (hQ : ∀ h' tk', Fr H L0 h' m₂ → News H L0 h' [(I, oI), (st, stO at_ t1 c n), (c, listOf vs.toArray cap)] → Q .next { s with heap := h', toks := tk' }) :
    wpN (model jprog w) (callerA.deeper (envOf (Str.ofString "law") s41s L0 fa cdv)) (execs (List.drop 6 (forBody s41b)) (envOf (Str.ofString "law") s41s L0 fa cdv)) Q E { s with heap := h, toks := tk } := by
  dsimp only [s41b, wit, forBody, List.drop]
  have B' : Below callerA H [] H := below_caller H
  refine n_fold fun qk ek hq he => ?_
  refine n_cons (wpN_any ?_)
  k_steps
  refine Halt.mk ?_
  by_cases hl0 : l = []
  · refine bs_ne_val (b := false) (by rw [hl0]; rfl) ?_
    k_steps
    dsimp only
    refine n_nil ?_
    subst hq
    exact hQ _ _ (by assumption) (by assumption)
  · have hl1 : 0 < l.length := List.length_pos_iff.mpr hl0
    refine bs_ne_val (b := true) (by simp [hl0]) ?_
    k_steps
    refine Halt.mk ?_
    refine nb_same (by rw [decide_eq_decide]; (first | lia | omega)) ?_
    k_steps
    refine Halt.mk ?_
    refine nb_same ?_ ?_
    · rw [Bool.eq_iff_iff]
      simp only [beq_iff_eq]
      (first | lia | omega)
    k_steps
    dsimp only
    refine n_nil ?_
    subst hq
    exact hQ _ _ (by assumption) (by assumption)
set_option maxHeartbeats 40000000 in
theorem lawT2 (X' : (K0 w.params).In H) (T' : Top jP jL mean mg mb H) (F' : Fr H L0 h m₂) (e1 : m₂ (Str.ofString "octets") = some (.bytes l.toArray to)) (e2 : m₂ (Str.ofString "before") = some (.bytes bl.toArray tb)) (e3 : m₂ (Str.ofString "size") = some (.int z tz))
    (N' : News H L0 h [(I, oI), (st, stO at_ t1 c n), (c, listOf vs.toArray cap)]) (hz : 0 ≤ z) (hbl : bl.length ≤ l.length) (hl : l.length ≤ 100000)
    (hQ : ∀ h' tk', Fr H L0 h' m₂ → News H L0 h' [(I, oI), (st, stO at_ t1 c n), (c, listOf vs.toArray cap)] → Q .next { s with heap := h', toks := tk' }) :
    wpN (model jprog w) (callerA.deeper (envOf (Str.ofString "law") s41s L0 fa cdv)) (execs (List.drop 5 (forBody s41b)) (envOf (Str.ofString "law") s41s L0 fa cdv)) Q E { s with heap := h, toks := tk } := by
  dsimp only [s41b, wit, forBody, List.drop]
  have B' : Below callerA H [] H := below_caller H
  refine n_fold fun qk ek hq he => ?_
  refine n_cons (n_if (n_isTrue_cmp rfl (n_call_name ?_)))
  k_steps
  refine n_cW (K := K0 w.params) (by k_is) ?_
  k_steps
  (with_reducible rename Fr H _ _ _ => kF)
  (with_reducible rename News H _ _ _ => kN)
  refine wpN_call (told_full (l := l) (p := (bl.length : Int)) (k := z) B' kF X' kN T' rfl (by first | exact room1 hd rfl | exact room2 hd rfl | exact room0 hd | ktr_room) (by first | exact room1 hu rfl | exact room2 hu rfl | exact room0 hu | ktr_units) hl ⟨by (first | lia | omega), by (first | lia | omega)⟩ (.inl rfl) ?none ?some)
  case none =>
    intro h' tk' hnone F' N'
    clear kF kN
    dsimp only
    refine wpN_any ?_
    k_steps
    refine Halt.mk ?_
    (with_reducible rename Fr H _ _ _ => kF)
    (with_reducible rename News H _ _ _ => kN)
    refine wpAny_call (due_full (l := l) (p := (bl.length : Int)) (k := z) B' kF X' kN T' rfl (by first | exact room1 hd rfl | exact room2 hd rfl | exact room0 hd | ktr_room) (by first | exact room1 hu rfl | exact room2 hu rfl | exact room0 hu | ktr_units) hl (by (first | lia | omega)) hz ?dn ?ds)
    case ds =>
      intro row stop sz vv E0 E1 EX te tv tk' ts td tc tt tg ws wc h' tk2 q1
      rw [hnone] at q1
      cases q1
    case dn =>
      intro h' tk' _ F' N'
      clear kF kN
      dsimp only
      k_steps
      refine n_nil ?_
      dsimp only
      (with_reducible rename Fr H _ _ _ => kF)
      (with_reducible rename News H _ _ _ => kN)
      subst hq he
      exact lawT3 X' T' kF e1 kN hl hQ
  case some =>
    intro row stop sz vv E0 E1 EX te tv tk' ts td tc tt tg ws wc h' tk2 q1 q2 q3 q4 F' N'
    clear kF kN
    dsimp only
    refine wpN_any ?_
    k_steps
    refine Halt.mk ?_
    (with_reducible rename Fr H _ _ _ => kF)
    (with_reducible rename News H _ _ _ => kN)
    refine wpAny_call (due_full (l := l) (p := (bl.length : Int)) (k := z) B' kF X' kN T' rfl (by first | exact room1 hd rfl | exact room2 hd rfl | exact room0 hd | ktr_room) (by first | exact room1 hu rfl | exact room2 hu rfl | exact room0 hu | ktr_units) hl (by (first | lia | omega)) hz ?dn2 ?ds2)
    case dn2 =>
      intro h' tk' q5
      rw [q1] at q5
      cases q5
    case ds2 =>
      intro row' stop' sz' vv' D0 D1 DX te' tv' tk' ts' td' tc' tt' tg' ws' wc' h' tk2 p1 p2 p3 p4 F' N'
      rw [q1] at p1
      obtain ⟨rfl, rfl⟩ := Prod.mk.inj (Option.some.inj p1)
      subst q3 p3
      clear kF kN
      dsimp only
      k_steps
      refine Halt.mk ?_
      (with_reducible rename Fr H _ _ _ => kF)
      (with_reducible rename News H _ _ _ => kN)
      (try dsimp only [toldL, List.cons_append, List.nil_append] at kN)
      refine alike_ne (alike_of (kN.get (by k_mem)) (kN.get (by k_mem)) (kN.get (by k_mem)) q4 q2 (kN.get (by k_mem)) (kN.get (by k_mem)) (kN.get (by k_mem)) p4 p2 (by first | exact room1 hu rfl | exact room2 hu rfl | exact room0 hu | ktr_units)) (by first | exact room1 hu rfl | exact room2 hu rfl | exact room0 hu | ktr_units) ?_
      k_steps
      refine n_nil ?_
      dsimp only
      subst hq he
      exact lawT3 X' T' kF e1 (news_sub kN (List.forall_mem_cons.mpr ⟨by k_mem, List.forall_mem_cons.mpr ⟨by k_mem, List.forall_mem_cons.mpr ⟨by k_mem, List.forall_mem_nil _⟩⟩⟩)) hl hQ
end
end JaLaw
end
section
set_option Elab.async false
set_option maxRecDepth 100000
namespace JaLaw
theorem rowsJaLawU0 : True := by
  k_with_none
  k_with "lka" => ((try dsimp only [List.reverse, List.reverseAux]); (repeat (first | with_reducible exact lk_hit | with_reducible exact lk_sto_hit | with_reducible exact lk_ite_hit | (with_reducible refine lk_sto_miss (by kernel_rfl!) ?_) | (with_reducible refine lk_ite_miss2 (by kernel_rfl!) ?_) | (with_reducible refine lk_miss (by kernel_rfl!) ?_) | with_reducible refine lk_rev ?_ | with_reducible assumption)))
  k_with "usef" => (case k1 => k_asm); (case k2 => k_asm); (case k3 => k_asm); (case k4 => k_asm); (case k5 => k_asm); (case k6 => first | exact rfl | assumption); (case k7 => first | exact room1 hd rfl | exact room2 hd rfl | ktr_room); (case k8 => first | exact room1 hu rfl | exact room2 hu rfl | ktr_units)
  k_with "sz" => (first | with_reducible assumption | ((try simp only [List.length_append, List.length_take, List.length_drop, List.length_cons, List.length_nil, toBE_length, List.length_replicate]); (first | lia | omega)))
  exact True.intro
section
variable {prog : Program} {w : World} {A : Around} {E : Value → Shared → Prop} {s : Shared} {Q : Value → Shared → Prop} {u : Tok}
theorem menuN {h₀ : Heap} {L a : Addr} {news : List (Addr × Obj)} {n : Nat} {k x0 x1 x2 : Int} {t0 t1 t2 : Tok} {value slice : Expr} (N : News h₀ L s.heap ((a, listOf #[.int x0 t0, .int x1 t1, .int x2 t2] n) :: news)) (h0 : 0 ≤ k) (hk : k < 3) (b0 : 0 ≤ x0) (b1 : 0 ≤ x1) (b2 : 0 ≤ x2)
    (h : ∀ (v : Int) (t : Tok), 0 ≤ v → News h₀ L s.heap news → Q (.int v t) s)
    (hs : subscripted slice false (.ref a) (.int k u) = operate [.ref a, .int k u] (getItem (.ref a) (.int k u)) := by with_unfolding_all rfl) : wpAny (model prog w) A (subscriptTail value slice (.ref a) (.int k u)) Q E s := by
  obtain rfl | rfl | rfl : k = 0 ∨ k = 1 ∨ k = 2 := by (first | lia | omega)
  · exact lst_item N (.head _) (by decide) (by decide) rfl (h x0 t0 b0 (news_sub N fun _ h => .tail _ h)) hs
  · exact lst_item N (.head _) (by decide) (by decide) rfl (h x1 t1 b1 (news_sub N fun _ h => .tail _ h)) hs
  · exact lst_item N (.head _) (by decide) (by decide) rfl (h x2 t2 b2 (news_sub N fun _ h => .tail _ h)) hs
end
section
variable {w : World} {mean : ExcName → Option Value} {mg mb : PySem.Str → Option Value} {dp un : Nat} {gd : Option (List Code)} {cn : PySem.Str} {cs : Scope} {a : Addr} {ccd : Value} {cl : List (PySem.Str × Addr)} {outer : List Env} {A₀ : Around} {base h₀ : Heap} {L : Addr} {m : PySem.Str → Option Value} {s : Shared} {Q E : Value → Shared → Prop} {R : Result → Shared → Prop}
variable {st c : Addr} {t1 : Tok} {at_ : Int} {n cap : Nat} {vs : List Value} {ns : List Int} {news : List (Addr × Obj)} {news2 : Int → Tok → List (Addr × Obj)}
theorem writP {b : Int} {k : Nat} (B : Below A₀ base outer h₀) (F : Fr h₀ L s.heap m) (X : (K0 w.params).In h₀) (N : News h₀ L s.heap news) (T : Top jP jL mean mg mb h₀) (hk : cs.kind = .function) (hd : dp + 8 < recursionLimit) (hu : un + 40 < cLine) (U : ∀ a' t', Upd st (stO at_ t1 c n) (stO a' t' c n) news (news2 a' t')) (hc : (c, listOf vs.toArray cap) ∈ news) (hi : IntsAre vs ns) (hne : @Ne Nat c st) (h1 : 0 < ns.length) (h2 : ns.length ≤ 63)
    (hP : Pl b k at_) (hb : 0 ≤ b ∧ b < 900000) (hkb : Nat.ble k 5000 = true)
    (hret : ∀ (D : Addr) (r : List UInt8) (z a' : Int) (tr tz t' : Tok) (h' : Heap) (tk' : Nat), AllNe D news → Lb 300 r → Nb 21 z → Pl b (k + 100) a' → Fr h₀ L h' m → News h₀ L h' ((D, tupO #[.bytes r.toArray tr, .int z tz]) :: news2 a' t') → R (.ok (.ret (.ref D))) { s with heap := h', toks := tk' }) :
    codeAny (model jprog w) (ktrTop dp un gd cn cs L a ccd cl outer) (.call (.ref 360) ⟨[.ref st], []⟩) R s :=
  writ_ct B F X (sub2 N (upd_old (U at_ 0)) hc) T hk hd hu hi hne h1 h2 (hP.in2 hb (Nat.ble_eq_true_of_le (Nat.le_trans (Nat.le_of_ble_eq_true hkb) (by decide)))) fun D r z a' tr tz t' h' tk' e0 e1 e2 e3 e4 F' kp eo eD en => hret D r z a' tr tz t' h' tk' (news_ne N en) e0 ⟨e1, e2⟩ (hP.add (m := 100) e3 e4) F' (news_new' F (news_upd1 N (U a' t') kp eo) eD en)
end
theorem rowsJaLawU1 : True := by
  k_with "callWith ref" => (k_here; (with_reducible show wpAny _ _ (callWith _ (Value.ref _) _ (backTo _ (starEach [] _)) (backToKw _ (keywordEach (_ :: _) _))) _ _ _); k_dflt (refine' callWith_KW0 ?k1 ?k2 ?k3 ?_; (case k1 => with_reducible assumption); (case k2 => k_is); (case k3 => exact rfl); k_whole))
  k_with "callWith ref" => (k_here; (with_reducible show wpAny _ _ (callWith _ (Value.ref _) _ (backTo _ (starEach (_ :: _) _)) []) _ _ _); k_dflt (refine' callWith_K ?k1 ?k2 ?_; (case k1 => with_reducible assumption); (case k2 => k_is); k_whole))
  k_with "callWith ref" => (k_here; (with_reducible show wpAny _ _ (callWith _ (Value.ref _) _ (backTo _ (starEach [] _)) []) _ _ _); k_dflt (refine' callWith_K0 ?k1 ?k2 ?_; (case k1 => exact (by first | with_reducible assumption | exact Frag.In.keeps (by with_reducible assumption) (Fr.keep (by with_reducible assumption)))); (case k2 => k_is); k_whole))
  k_with "newList" => (k_here; k_dflt (refine' newList_K ?k1 ?k2 ?_; (case k1 => with_reducible assumption); (case k2 => with_reducible assumption); k_whole); intro l' h' F' N' l1; (try k_lt l1); (repeat (have := And.left l1; replace l1 := And.right l1)); (try k_sweep))
  k_with "And" => ((with_reducible show Frag.In _ _ ∧ _); refine ⟨(by first | with_reducible assumption | exact Frag.In.keeps (by with_reducible assumption) (Fr.keep (by with_reducible assumption))), ?_⟩; try dsimp only [List.nil_append, List.cons_append])
  k_with "eval Name" => (k_here; (with_reducible show wpAny _ _ (eval (Expr.Name _ _) (envOf _ _ _ _ _)) _ _ _); k_dflt (first | (refine' ld ?k1 ?k2 ?_ ?k3 ?k4 ?k5; (case k4 => kernel_rfl!); (case k1 => with_reducible assumption); (case k2 => ((try dsimp only [List.reverse, List.reverseAux]); (repeat (first | with_reducible exact lk_hit | with_reducible exact lk_sto_hit | with_reducible exact lk_ite_hit | (with_reducible refine lk_sto_miss (by kernel_rfl!) ?_) | (with_reducible refine lk_ite_miss2 (by kernel_rfl!) ?_) | (with_reducible refine lk_miss (by kernel_rfl!) ?_) | with_reducible refine lk_rev ?_)))); (case k3 => kernel_rfl!); (case k5 => decide +kernel); k_whole) | (refine' name_K ?k0 ?k1 ?k2 ?k3 ?_ ?k4 ?k5 ?k6; (case k5 => kernel_rfl!); (case k0 => with_reducible assumption); (case k1 => with_reducible assumption); (case k2 => exact topRead_of (by with_reducible assumption)); (case k3 => k_is); (case k4 => kernel_rfl!); (case k6 => decide +kernel); k_whole) | (refine' name_B ?k0 ?k1 ?k2 ?k3 ?k4 ?k5 ?_ ?k6 ?k7 ?k8; (case k7 => kernel_rfl!); (case k0 => with_reducible assumption); (case k1 => with_reducible assumption); (case k2 => exact topRead_of (by with_reducible assumption)); (case k3 => k_is); (case k4 => boot_fast); (case k5 => decide); (case k6 => kernel_rfl!); (case k8 => decide +kernel); k_whole)))
  k_with "storeName" => (k_here; (try dsimp only); (with_reducible show wpAny _ _ (storeName (envOf _ _ _ _ _) _ _) _ _ _); k_dflt (refine' store_u ?k1 ?k2 ?_ ?k3 ?k4; (case k4 => kernel_rfl!); (case k3 => kernel_rfl!); (case k1 => with_reducible assumption); (case k2 => with_reducible assumption); k_whole); intro h' F' N'; (try k_sweep))
  k_with "exec Assign" => (k_here; k_fold)
  k_with "eval Name" => (k_here; (with_reducible show wpAny _ _ (eval (Expr.Name _ _) (envOf _ _ _ _ _)) _ _ _); k_dflt (first | (refine' ld ?k1 ?k2 ?_ ?k3 ?k4 ?k5; (case k4 => kernel_rfl!); (case k1 => with_reducible assumption); (case k2 => (k_extra "lka")); (case k3 => kernel_rfl!); (case k5 => decide +kernel); k_whole) | (refine' name_K ?k0 ?k1 ?k2 ?k3 ?_ ?k4 ?k5 ?k6; (case k5 => kernel_rfl!); (case k0 => with_reducible assumption); (case k1 => with_reducible assumption); (case k2 => exact topRead_of (by with_reducible assumption)); (case k3 => k_is); (case k4 => kernel_rfl!); (case k6 => decide +kernel); k_whole) | (refine' name_B ?k0 ?k1 ?k2 ?k3 ?k4 ?k5 ?_ ?k6 ?k7 ?k8; (case k7 => kernel_rfl!); (case k0 => with_reducible assumption); (case k1 => with_reducible assumption); (case k2 => exact topRead_of (by with_reducible assumption)); (case k3 => k_is); (case k4 => boot_fast); (case k5 => decide); (case k6 => kernel_rfl!); (case k8 => decide +kernel); k_whole)))
  k_with "call builtin:len" => (k_here; (with_reducible show wpAny _ _ (call (Value.builtin "len") [Value.bytes _ _]) _ _ _); k_dflt (refine bs_len (by (k_extra "sz")) ?_; intro _ _))
  k_with "binaryOp Add bytes bytes" => (k_here; (with_reducible show wpAny _ _ (binaryOp _ (Value.bytes _ _) (Value.bytes _ _)) _ _ _); k_dflt (refine bs_add (by (k_extra "sz")) ?_; intro _ _))
  k_with "subscriptTail" => (k_here; (with_reducible show wpAny _ _ (subscriptTail _ _ (Value.bytes _ _) (Value.int _ _)) _ _ _); k_dflt (refine bs_item8 (by (k_extra "sz")) (by (k_extra "sz")) (by (k_extra "sz")) ?_; intro _ _))
  k_with "subscriptTail" => (k_here; (with_reducible show wpAny _ _ (subscriptTail _ (Expr.Slice _ _ none _) (Value.bytes _ _) (Value.ref _)) _ _ _); (with_reducible rename Fr _ _ _ _ => F'); (with_reducible rename News _ _ _ _ => N'); k_dflt (refine' bs_slice (s := ⟨_, _, _, _, _⟩) F' N' (by constructor) (by constructor) (by (k_extra "sz")) ?k3 ?_; (case k3 => first | with_reducible exact BA.picked_hi _ (by (first | lia | omega)) | with_reducible exact BA.picked_lo _ (by (first | lia | omega)) | with_reducible exact picked_4 _ (by (first | lia | omega)) | with_reducible exact picked_len _ (by (first | lia | omega)) (by (first | lia | omega)) | with_reducible exact BA.picked_both _ (by (first | lia | omega)) (by (first | lia | omega)) | exact BA.picked_hi _ (by (first | lia | omega)) | exact BA.picked_lo _ (by (first | lia | omega)) | exact BA.picked_both _ (by (first | lia | omega)) (by (first | lia | omega))); k_whole; intro _ _ _ _ _))
  k_with "call ref" => (k_here; (with_reducible show wpAny _ _ (call (Value.ref _) [Value.bytes _ _, Value.str _ _]) _ _ _); kfb_any; k_dflt (refine fb_call (by k_asm) (by k_mem) (by (k_extra "sz")) ?_); intro _ _)
  k_with "subscriptTail Name Slice bytes ref" => (k_here; (with_reducible show wpAny _ _ (subscriptTail _ (Expr.Slice _ _ none _) (Value.bytes _ _) (Value.ref _)) _ _ _); (with_reducible rename Fr _ _ _ _ => F'); (with_reducible rename News _ _ _ _ => N'); k_dflt (refine' bs_slice (s := ⟨_, _, _, _, _⟩) F' N' (by constructor) (by constructor) (by (k_extra "sz")) ?k3 ?_; (case k3 => first | with_reducible exact BA.picked_hi _ (by (first | lia | omega)) | with_reducible exact BA.picked_lo _ (by (first | lia | omega)) | with_reducible exact picked_4 _ (by (first | lia | omega)) | with_reducible exact picked_len _ (by (first | lia | omega)) (by (first | lia | omega)) | with_reducible exact BA.picked_both _ (by (first | lia | omega)) (by (first | lia | omega)) | exact BA.picked_hi _ (by (first | lia | omega)) | exact BA.picked_lo _ (by (first | lia | omega)) | exact BA.picked_both _ (by (first | lia | omega)) (by (first | lia | omega))); k_whole; intro _ _ _ _ _))
  exact True.intro
theorem rowsJaLawU2 : True := by
  k_with "call ref" => (k_here; (with_reducible show wpAny _ _ (call (Value.ref 308) _) _ _ _); k_dflt (refine' take2P ?k1 ?k2 ?k3 ?k4 ?k5 ?k6 ?k7 ?k8 ?kU ?kC ?kI ?kN ?kP ?kQ ?kL ?kB ?kK ?kM ?_; (k_extra "usef"); (case kU => intro _ _; k_upd); (case kC => k_mem); (case kI => with_reducible assumption); (case kN => with_reducible assumption); (case kP => with_reducible assumption); (case kQ => with_reducible assumption); (case kL => with_reducible assumption); (case kB => with_reducible assumption); (case kK => exact rfl); (case kM => first | assumption | decide | (first | lia | omega)); k_whole); intro r' a' t' t2' h' tk' h0' h1' hp' F' N'; (try dsimp only); (try k_sweep))
  k_with "call ref" => (k_here; (with_reducible show wpAny _ _ (call (Value.ref 322) _) _ _ _); k_dflt ((refine wpAny_call ?_); (refine' octP ?k1 ?k2 ?k3 ?k4 ?k5 ?k6 ?k7 ?k8 ?kU ?kC ?kI ?kN ?kP ?kQ ?kL ?kB ?kK ?kA ?kM ?_; (k_extra "usef"); (case kU => intro _ _; k_upd); (case kC => k_mem); (case kI => with_reducible assumption); (case kN => with_reducible assumption); (case kP => with_reducible assumption); (case kQ => with_reducible assumption); (case kL => with_reducible assumption); (case kB => with_reducible assumption); (case kK => exact rfl); (case kA => first | with_reducible assumption | exact Nb.of3 | exact Nb.of_ltn (m := 8) (most := 9) (by with_reducible assumption) rfl); (case kM => exact rfl)); k_whole); intro r' a' t' t2' h' tk' h0' hp' F' N'; (try dsimp only); (try k_sweep))
  k_with "call ref" => (k_here; (with_reducible show wpAny _ _ (call (Value.ref 329) _) _ _ _); k_dflt ((refine wpAny_call ?_); (refine' varP ?k1 ?k2 ?k3 ?k4 ?k5 ?k6 ?k7 ?k8 ?kv ?kw ?ka ?kb ?kc ?_; (k_extra "usef"); (case kv => first | with_reducible assumption | exact Nb.add (by with_reducible assumption) (by with_reducible assumption)); (case kw => exact rfl); (case ka => with_reducible assumption); (case kb => with_reducible assumption); (case kc => decide)); k_whole); intro r' t' h' tk' hr' F' N'; (try dsimp only); (try k_sweep))
  k_with "subscriptTail" => (k_here; (with_reducible show wpAny _ _ (subscriptTail _ _ (Value.ref _) (Value.int _ _)) _ _ _); (with_reducible rename News _ _ _ _ => oN'); k_dflt (first | (refine' menuH 21 oN' ?k1 ?k2 ?k3 ?k4 ?k5 ?_; (case k1 => with_reducible assumption); (case k2 => with_reducible assumption); (case k3 => exact rfl); (case k4 => decide); (case k5 => exact rfl); k_whole) | (refine' menuH 70 oN' ?k1 ?k2 ?k3 ?k4 ?k5 ?_; (case k1 => with_reducible assumption); (case k2 => with_reducible assumption); (case k3 => exact rfl); (case k4 => decide); (case k5 => exact rfl); k_whole) | (refine' menuH 4294967295 oN' ?k1 ?k2 ?k3 ?k4 ?k5 ?_; (case k1 => with_reducible assumption); (case k2 => with_reducible assumption); (case k3 => exact rfl); (case k4 => decide); (case k5 => exact rfl); k_whole)); clear oN'; intro _ _ _ N')
  k_with "call builtin:len" => (k_here; (with_reducible show wpAny _ _ (call (Value.builtin "len") [Value.bytes _ _]) _ _ _); k_dflt (refine bs_lenL (by with_reducible assumption) rfl ?_; intro _ _ _))
  k_with "binaryOp Add bytes bytes" => (k_here; (with_reducible show wpAny _ _ (binaryOp _ (Value.bytes _ _) (Value.bytes _ _)) _ _ _); k_dflt (refine bs_addL (by with_reducible assumption) (by with_reducible assumption) rfl ?_; intro _ _ _ _))
  k_with "call ref" => (k_here; (with_reducible show wpAny _ _ (call (Value.ref 360) _) _ _ _); k_dflt ((refine wpAny_call ?_); (refine' writP ?k1 ?k2 ?k3 ?k4 ?k5 ?k6 ?k7 ?k8 ?kU ?kC ?kI ?kN ?kP ?kQ ?kL ?kB ?kK ?_; (k_extra "usef"); (case kU => intro _ _; k_upd); (case kC => k_mem); (case kI => with_reducible assumption); (case kN => with_reducible assumption); (case kP => with_reducible assumption); (case kQ => with_reducible assumption); (case kL => with_reducible assumption); (case kB => with_reducible assumption); (case kK => exact rfl)); k_whole); intro D' r' z' a' tr' tz' t2' h' tk' hn' h0' h1' hp' F' N'; (try simp only [AllNe, and_true] at hn'); (repeat (rcases hn' with ⟨_, hn'⟩)); (try dsimp only); (try k_sweep))
  k_with "binaryOp Add bytes bytes" => (k_here; (with_reducible show wpAny _ _ (binaryOp _ (Value.bytes _ _) (Value.bytes _ _)) _ _ _); k_dflt (refine bs_addK (by with_reducible assumption) (by with_reducible assumption) rfl ?_; intro _ _ _))
  k_with "subscriptTail Name Slice bytes ref" => (k_here; (with_reducible show wpAny _ _ (subscriptTail _ (Expr.Slice _ _ none _) (Value.bytes _ _) (Value.ref _)) _ _ _); (with_reducible rename Fr _ _ _ _ => F'); (with_reducible rename News _ _ _ _ => N'); k_dflt (refine' bs_slice (s := ⟨_, _, _, _, _⟩) F' N' (by constructor) (by constructor) (Lb.le (by with_reducible assumption) rfl) ?k3 ?_; (case k3 => first | with_reducible exact BA.picked_hi _ (by (first | lia | omega)) | with_reducible exact BA.picked_lo _ (by (first | lia | omega)) | with_reducible exact picked_4 _ (by (first | lia | omega)) | with_reducible exact picked_len _ (by (first | lia | omega)) (by (first | lia | omega)) | with_reducible exact BA.picked_both _ (by (first | lia | omega)) (by (first | lia | omega)) | exact BA.picked_hi _ (by (first | lia | omega)) | exact BA.picked_lo _ (by (first | lia | omega)) | exact BA.picked_both _ (by (first | lia | omega)) (by (first | lia | omega))); k_whole; intro _ _ _ _ _))
  exact True.intro

theorem rowsJaLawU3 : True := by
  k_with "subscriptTail" => (k_here; (with_reducible show wpAny _ _ (subscriptTail _ _ (Value.ref _) (Value.int _ _)) _ _ _); (with_reducible rename News _ _ _ _ => oN'); k_dflt (first | (refine' menuH 5 oN' ?k1 ?k2 ?k3 ?k4 ?k5 ?_; (case k1 => with_reducible assumption); (case k2 => with_reducible assumption); (case k3 => exact rfl); (case k4 => decide); (case k5 => exact rfl); k_whole) | (refine' menuN oN' ?k3 ?k4 ?k5 ?k6 ?k7 ?_; (case k3 => with_reducible assumption); (case k4 => with_reducible assumption); (case k5 => exact Int.natCast_nonneg _); (case k6 => exact Int.natCast_nonneg _); (case k7 => with_reducible assumption); k_whole)); clear oN'; intro _ _ _ N')
  exact True.intro
section
variable {w : World} {mean : ExcName → Option Value} {mg mb : PySem.Str → Option Value} {H h : Heap} {L0 fa I st c sc : Addr} {oI : Obj} {cdv : Value} {m₁ : PySem.Str → Option Value} {s : Shared} {tk : Nat} {Q : Flow → Shared → Prop} {E : Value → Shared → Prop} {at_ ii : Int} {ti t1 : Tok} {n cap : Nat} {vs : List Value} {ns : List Int}
set_option maxHeartbeats 40000000 in
theorem lawT1 (X' : (K0 w.params).In H) (T' : Top jP jL mean mg mb H) (F' : Fr H L0 h (fun y => if y = Str.ofString "turn" then some (.int ii ti) else m₁ y)) (es : m₁ (Str.ofString "state") = some (.ref st)) (ec : m₁ (Str.ofString "script") = some (.ref sc))
    (N' : News H L0 h [(I, oI), (st, stO at_ t1 c n), (c, listOf vs.toArray cap)]) (hne : @Ne Nat c st) (nI : @Ne Nat I st) (hi : IntsAre vs ns) (h1 : 0 < ns.length) (h2 : ns.length ≤ 63) (hat : 0 ≤ at_ ∧ at_ < 50000)
    (hQ : ∀ h' tk' m' a' t', at_ ≤ a' → a' ≤ at_ + 200 → m' (Str.ofString "state") = some (.ref st) → m' (Str.ofString "script") = some (.ref sc) → Fr H L0 h' m' → News H L0 h' [(I, oI), (st, stO a' t' c n), (c, listOf vs.toArray cap)] → Q .next { s with heap := h', toks := tk' }) :
    wpN (model jprog w) (callerA.deeper (envOf (Str.ofString "law") s41s L0 fa cdv)) (execs (List.drop 0 (forBody s41b)) (envOf (Str.ofString "law") s41s L0 fa cdv)) Q E { s with heap := h, toks := tk } := by
  dsimp only [s41b, wit, forBody, List.drop]
  have B' : Below callerA H [] H := below_caller H
  have hP0 := Pl.zero at_
  have hb9 : 0 ≤ at_ ∧ at_ < 900000 := ⟨hat.1, by (first | lia | omega)⟩
  have hb99 : 0 ≤ at_ ∧ at_ < 990000 := ⟨hat.1, Int.lt_trans hat.2 (by decide)⟩
  refine n_fold fun qk ek hq he => ?_
  refine n_cons (wpN_any ?_)
  k_steps
  refine n_cons (wpN_any ?_)
  k_steps
  refine n_cons (wpN_any ?_)
  k_steps
  refine n_cons (wpN_any ?_)
  k_steps
  refine n_cons (wpN_any ?_)
  k_steps
  (with_reducible rename Fr H _ _ _ => kF)
  (with_reducible rename News H _ _ _ => kN)
  (rename Lb _ (_ ++ _) => hL)
  replace hL := Lb.le (m := 100000) hL rfl
  rw [List.length_append, List.length_append] at hL
  subst hq he
  refine lawT2 X' T' kF (by (k_extra "lka")) (by (k_extra "lka")) (by (k_extra "lka")) (news_sub kN (List.forall_mem_cons.mpr ⟨by k_mem, List.forall_mem_cons.mpr ⟨by k_mem, List.forall_mem_cons.mpr ⟨by k_mem, List.forall_mem_nil _⟩⟩⟩)) (And.left (show Nb 21 _ from by with_reducible assumption)) ?_ ?_ fun h' tk' F' N' => hQ h' tk' _ _ _ ?_ ?_ ?_ ?_ F' N'
  · simp only [List.length_take, List.length_append]; split <;> (first | lia | omega)
  · simp only [List.length_take, List.length_append]; split <;> (first | lia | omega)
  · exact (Pl.le (m := 200) (by with_reducible assumption) rfl).1
  · exact (Pl.le (m := 200) (by with_reducible assumption) rfl).2
  · (k_extra "lka")
  · (k_extra "lka")
end
end JaLaw
end
section
open PySem.Calls Builtin
set_option Elab.async false
set_option maxRecDepth 100000
namespace JaLaw
/-! bytes.fromhex of the two written keys and nonces -/
noncomputable abbrev hexO : Obj := { cls := .type "builtin_function_or_method", data := .fields #[.builtin "bytes.fromhex", .type "bytes"] }
noncomputable def hexKey (v : Nat) : PySem.Str := if v = 1 then PySem.Str.ofString "be0c690b9f66575a1d766b54e368c84e" else PySem.Str.ofString "8fb4b01b56ac48e260fbcbcead7ccc92"
noncomputable def hexNonce (v : Nat) : PySem.Str := if v = 1 then PySem.Str.ofString "461599d35d632bf2239825bb" else PySem.Str.ofString "d86969bc2d7c6d9990efb04a"
theorem type_hex : typeOf (.builtin "bytes.fromhex") = pure (.type "classmethod_descriptor") := by show builtinType _ = _; rw [builtinType_eq_fast]; kernel_rfl
theorem entry_hex : entryFor table "bytes.fromhex" = some Builtin.«bytes.fromhex» := entryFor_of_tree (by kernel_rfl)
theorem owner_hex : (kfb_private% "ownerAndName") "bytes.fromhex" = ("bytes", "fromhex") := by first | decide +kernel | kernel_rfl
theorem sub_bytes : isSubtype (.type "bytes") (.type "bytes") = pure true := by rw [isSubtype_type]; kernel_rfl
section
variable {M : Model} {A : Around} {E : Value → Shared → Prop} {s : Shared} {t : Tok} {P : Fin → Shared → Prop}
theorem hex_get (h : P (.done (.ret (.ref s.heap.objs.size))) { s with heap := s.heap.push hexO }) : wpAny M A (Builtin.«classmethod_descriptor.__get__» ⟨[.builtin "bytes.fromhex", .none, .type "bytes"], []⟩) P E s := by
  unfold Builtin.«classmethod_descriptor.__get__»
  refine wpAny_bind (wpAny_of_eq (a := (.builtin "bytes.fromhex", none, some (.type "bytes"))) (by first | rfl | kernel_rfl) ?_)
  simp only [owner_hex]
  refine wpAny_bind (wpAny_of_eq (a := .type "bytes") rfl ?_)
  refine wpAny_bind (wpAny_of_eq (a := true) isType_bytes ?_)
  refine KFB.if_not rfl ?_
  refine wpAny_bind (wpAny_of_eq (a := true) sub_bytes ?_)
  refine KFB.if_not rfl ?_
  exact wpAny_bind (wpAny_newObj_type (wpAny_pure h))
theorem hex_tree (x : PySem.Str) (l : List UInt8) (e : Builtin.«bytes.fromhex» ⟨[.type "bytes", .str x t], []⟩ = (mkBytes l.toArray >>= fun v => ret v)) (hl : l.length ≤ 1000) (h : ∀ t' k, P (.done (.ret (.bytes l.toArray t'))) { s with toks := k }) :
    wpAny M A (Builtin.«bytes.fromhex» ⟨[.type "bytes", .str x t], []⟩) P E s := by
  rw [e]
  exact wpAny_bind (wpAny_mkBytes (wpAny_pure (h _ _)) (by rw [List.size_toArray, sizeLine_eq]; (first | lia | omega)))
theorem hex_k1 : Builtin.«bytes.fromhex» ⟨[.type "bytes", .str (PySem.Str.ofString "be0c690b9f66575a1d766b54e368c84e") t], []⟩ = (mkBytes (rKey 1).toArray >>= fun v => ret v) := by kernel_rfl
theorem hex_k2 : Builtin.«bytes.fromhex» ⟨[.type "bytes", .str (PySem.Str.ofString "8fb4b01b56ac48e260fbcbcead7ccc92") t], []⟩ = (mkBytes (rKey 1798521807).toArray >>= fun v => ret v) := by kernel_rfl
theorem hex_n1 : Builtin.«bytes.fromhex» ⟨[.type "bytes", .str (PySem.Str.ofString "461599d35d632bf2239825bb") t], []⟩ = (mkBytes (rNonce 1).toArray >>= fun v => ret v) := by kernel_rfl
theorem hex_n2 : Builtin.«bytes.fromhex» ⟨[.type "bytes", .str (PySem.Str.ofString "d86969bc2d7c6d9990efb04a") t], []⟩ = (mkBytes (rNonce 1798521807).toArray >>= fun v => ret v) := by kernel_rfl
theorem hex_key {v : Nat} (hv : v = 1 ∨ v = 1798521807) (h : ∀ t' k, P (.done (.ret (.bytes (rKey v).toArray t'))) { s with toks := k }) : wpAny M A (Builtin.«bytes.fromhex» ⟨[.type "bytes", .str (hexKey v) t], []⟩) P E s := by
  rcases hv with rfl | rfl
  · exact hex_tree _ _ hex_k1 (by decide) h
  · exact hex_tree _ _ hex_k2 (by decide) h
theorem hex_nonce {v : Nat} (hv : v = 1 ∨ v = 1798521807) (h : ∀ t' k, P (.done (.ret (.bytes (rNonce v).toArray t'))) { s with toks := k }) : wpAny M A (Builtin.«bytes.fromhex» ⟨[.type "bytes", .str (hexNonce v) t], []⟩) P E s := by
  rcases hv with rfl | rfl
  · exact hex_tree _ _ hex_n1 (by decide) h
  · exact hex_tree _ _ hex_n2 (by decide) h
end
section
variable {prog : Program} {w : World} {M : Model} {A : Around} {E : Value → Shared → Prop} {s : Shared} {K : Frag} {h₀ : Heap} {L : Addr} {m : PySem.Str → Option Value} {news : List (Addr × Obj)} {t : Tok}
theorem hex_method {pl : Sem Bool} {Q : Value × List Value → Shared → Prop} (F : Fr h₀ L s.heap m) (N : News h₀ L s.heap news) (X₀ : K.In h₀)
    (e : findCls K (.type "bytes") (.type "type") (PySem.Str.ofString "fromhex") = some (.get (.builtin "classmethod_descriptor.__get__") (.builtin "bytes.fromhex") .none (.type "bytes")))
    (h : ∀ x h', Fr h₀ L h' m → News h₀ L h' ((x, hexO) :: news) → (∀ p ∈ news, p.1 < x) → Q (.ref x, []) { s with heap := h', toks := s.toks + 1 }) :
    wpAny (model prog w) A (getMethod (.type "bytes") (PySem.Str.ofString "fromhex") pl) Q E s := by
  have X := X₀.keeps F.keep
  have hstub : opaqueClassAbove (.type "bytes") = pure none := by unfold opaqueClassAbove; dsimp only; rw [show Manifest.isStub "bytes" = false by decide +kernel]; rfl
  have ht : typeOf (.type "bytes") = pure (.type "type") := by first | rfl | kernel_rfl
  have L0 : Looks (model prog w) s.heap (typeOf (.type "bytes")) (.type "type") := Looks.of_pure ht
  have hg : findIn K (.type "type") "__getattribute__" = some (some (.builtin "type.__getattribute__")) := type_tga
  unfold getMethod specialOf
  refine wpAny_bind (wpAny_bind (L0.here ((looks_findIn X hg).here ?_)))
  dsimp only
  rw [if_pos canon_tga]
  refine wpAny_bind (wpAny_mono (Q := fun v => Q (v, [])) (E := E) ?_ (fun _ _ z => wpAny_pure z) fun _ _ z => z)
  have LO : Looks (model prog w) s.heap (opaqueClassAbove (.type "bytes")) none := Looks.of_pure hstub
  refine cls_open X LO L0 hg (looks_hook X (r := none) (by rfl)) (by show subIn K _ _ = _; rfl) e ?_
  refine wpAny_bind (wpAny_holding (wpAny_call_entry KFB.slot_get type_hex KFB.entry_get (hex_get ⟨_, rfl, wpAny_pure (wpAny_pure (h _ _ (F.push _) (News.push F N _) fun p hp => Heap.lt_size (N p hp).1))⟩) (KFB.args_get _ _ _)))
theorem hex_callWith {pos : Pos} {u : Addr} {first : List Value} {env : Env} {e : Expr} {rest : List Expr} {Q : Value → Shared → Prop}
    (h : wpAny M A (spliced (backTo pos (starEach (e :: rest) env))) (fun vs s₁ => s₁.heap.get? u = some hexO ∧ wpAny M A (call (.ref u) (first ++ vs)) Q E s₁) E s)
    (he : starEach (e :: rest) env = (false, eval e env) :: starEach rest env := by rfl) (hplain : (backTo pos (starEach rest env)).any (·.1) = false := by rfl) :
    wpAny M A (callWith pos (.ref u) first (backTo pos (starEach (e :: rest) env)) []) Q E s := by
  rw [he] at h ⊢
  unfold callWith
  refine wpAny_bind (wpAny_holding (wpAny_mono (evalArgs_plain (Q := fun a s₁ => s₁.heap.get? u = some hexO ∧ wpAny M A (call (.ref u) (first ++ a.pos) a.kw) Q E s₁) h) (fun x s₁ h₁ => wpAny_bind (wpAny_standAt ?_)) fun _ _ x => x))
  obtain ⟨ho, hcall⟩ := h₁
  have hp : (((false, eval e env) :: backTo pos (starEach rest env)).any (·.1) || ([] : List (Option PySem.Str × Sem Value)).any (·.1.isNone)) = false := by
    show ((false || (backTo pos (starEach rest env)).any (·.1)) || false) = false; rw [hplain]; rfl
  refine wpAny_bind (m := keeperOf (.ref u)) ?_
  unfold keeperOf
  refine wpAny_bind (wpAny_load ho ?_)
  simp only [show (Value.type "builtin_function_or_method" != Value.type "method") = true by decide, show (Value.type "builtin_function_or_method" == Value.type "builtin_function_or_method" || Value.type "builtin_function_or_method" == Value.type "method-wrapper") = true by decide, if_true]
  refine wpAny_pure ?_
  have hp2 : (backTo pos ((false, eval e env) :: starEach rest env)).any (·.1) = false := by
    show (false || (backTo pos (starEach rest env)).any (·.1)) = false; rw [hplain]; rfl
  simp only [hp2, List.any_nil, Bool.or_false]
  exact wpAny_bind (wpAny_mono hcall (fun r s₂ hr => wpAny_bind (wpAny_holding (wpAny_point (wpAny_pure hr)))) fun _ _ x => x)
theorem hex_check {o : PySem.Str} : checkBoundCall "bytes.fromhex" ⟨[.type "bytes", .str o t], []⟩ = pure () := by first | kernel_rfl | rfl
theorem hex_call {x : Addr} {o : PySem.Str} {l : List UInt8} {Q : Value → Shared → Prop} (ho : s.heap.get? x = some hexO)
    (tree : ∀ {P : Fin → Shared → Prop} {E' : Value → Shared → Prop} {A' : Around}, (∀ t' k, P (.done (.ret (.bytes l.toArray t'))) { s with toks := k }) → wpAny (model prog w) A' (Builtin.«bytes.fromhex» ⟨[.type "bytes", .str o t], []⟩) P E' s)
    (h : ∀ t' k, Q (.bytes l.toArray t') { s with toks := k }) : wpAny (model prog w) A (call (.ref x) [.str o t]) Q E s := by
  refine wpAny_call (codeAny_of_tree ?_)
  show wpAny _ A.in1 (callAny (.ref x) ⟨[.str o t], []⟩) _ _ s
  simp only [callAny]
  refine wpAny_bind (wpAny_load ho ?_)
  simp only [show (Value.type "builtin_function_or_method" == Value.type "method" || Value.type "builtin_function_or_method" == Value.type "builtin_function_or_method" || Value.type "builtin_function_or_method" == Value.type "method-wrapper") = true by decide, if_true]
  refine KFB.if_so (by decide) ?_
  refine wpAny_bind (wpAny_of_eq (a := ()) hex_check ?_)
  refine wpAny_bind (wpAny_pure (wpAny_pure ?_))
  exact ⟨Code.quiet_builtin _ (by decide +kernel), codeAny_builtin entry_hex (tree h)⟩
theorem hexk_call {x : Addr} {v : Nat} {Q : Value → Shared → Prop} (N : News h₀ L s.heap news) (hm : (x, hexO) ∈ news) (hv : v = 1 ∨ v = 1798521807) (h : ∀ t' k, Q (.bytes (rKey v).toArray t') { s with toks := k }) : wpAny (model prog w) A (call (.ref x) [.str (hexKey v) t]) Q E s :=
  hex_call (N.get hm) (fun z => hex_key hv z) h
theorem hexn_call {x : Addr} {v : Nat} {Q : Value → Shared → Prop} (N : News h₀ L s.heap news) (hm : (x, hexO) ∈ news) (hv : v = 1 ∨ v = 1798521807) (h : ∀ t' k, Q (.bytes (rNonce v).toArray t') { s with toks := k }) : wpAny (model prog w) A (call (.ref x) [.str (hexNonce v) t]) Q E s :=
  hex_call (N.get hm) (fun z => hex_nonce hv z) h
end
end JaLaw
end
section
set_option Elab.async false
set_option maxRecDepth 100000
namespace JaLaw
theorem rowsJaRetB0 : True := by
  k_with_none
  k_with "sz" => (first | with_reducible assumption | ((try simp only [List.length_append, List.length_take, List.length_drop, List.length_cons, List.length_nil, toBE_length, List.length_replicate]); (first | lia | omega)))
  exact True.intro
noncomputable def firstR (v u : Nat) : Nat := if v = 1 then 240 + u else 192 + u
section
variable {M : Model} {A : Around} {E : Value → Shared → Prop} {s : Shared} {h₀ : Heap} {L : Addr} {m : PySem.Str → Option Value} {news : List (Addr × Obj)} {env : Env}
theorem join_val {e : Expr} {Q : Value → Shared → Prop} (P : Value → Prop) (F : Fr h₀ L s.heap m) (N : News h₀ L s.heap news)
    (h1 : wpAny M A (eval e env) (fun v s' => Halt (P v ∧ ∃ h' tk', s' = { s with heap := h', toks := tk' } ∧ Fr h₀ L h' m ∧ News h₀ L h' news)) E s)
    (h2 : ∀ v h' tk', P v → Fr h₀ L h' m → News h₀ L h' news → Q v { s with heap := h', toks := tk' }) : wpAny M A (eval e env) Q E s :=
  wpAny_mono h1 (fun v s' ⟨⟨p, h', tk', e2, F', N'⟩⟩ => by subst e2; exact h2 v h' tk' p F' N') fun _ _ x => x
theorem join_valN {e : Expr} {Q : Value → Shared → Prop} (P : Obj → Prop) (F : Fr h₀ L s.heap m) (N : News h₀ L s.heap news)
    (h1 : wpAny M A (eval e env) (fun v s' => Halt (∃ T o h' tk', v = .ref T ∧ P o ∧ s' = { s with heap := h', toks := tk' } ∧ Fr h₀ L h' m ∧ News h₀ L h' ((T, o) :: news))) E s)
    (h2 : ∀ T o h' tk', P o → Fr h₀ L h' m → News h₀ L h' ((T, o) :: news) → Q (.ref T) { s with heap := h', toks := tk' }) : wpAny M A (eval e env) Q E s :=
  wpAny_mono h1 (fun v s' ⟨⟨T, o, h', tk', e1, p, e2, F', N'⟩⟩ => by subst e1 e2; exact h2 T o h' tk' p F' N') fun _ _ x => x
end
section
variable {w : World} {mean : ExcName → Option Value} {mg mb : PySem.Str → Option Value} {dp un : Nat} {gd : Option (List Code)} {cn : PySem.Str} {cs : Scope} {a : Addr} {ccd : Value} {cl : List (PySem.Str × Addr)} {outer : List Env} {A₀ : Around} {base h₀ : Heap} {L : Addr} {m : PySem.Str → Option Value} {s : Shared} {Q E : Value → Shared → Prop} {R : Result → Shared → Prop}
variable {l1 l2 l3 l4 : List UInt8} {t1 t2 t3 t4 : Tok} {news : List (Addr × Obj)}
theorem seal_fullT (B : Below A₀ base outer h₀) (F : Fr h₀ L s.heap m) (X : (K0 w.params).In h₀) (N : News h₀ L s.heap news) (T : Top jP jL mean mg mb h₀) (hk : cs.kind = .function) (hd : dp + 3 < recursionLimit) (hu : un + 16 < cLine) (hl1 : l1.length ≤ 200) (hl2 : l2.length ≤ 200) (hl3 : l3.length ≤ 200) (hl4 : l4.length ≤ 200)
    (hret : ∀ (T0 : List UInt8), T0 = sealP l1 l2 l3 l4 → T0.length = 16 → ∀ (t : Tok) (h' : Heap) (tk' : Nat), Fr h₀ L h' m → News h₀ L h' news → R (.ok (.ret (.bytes T0.toArray t))) { s with heap := h', toks := tk' }) :
    codeAny (model jprog w) (ktrTop dp un gd cn cs L a ccd cl outer) (.call (.ref 367) ⟨[.bytes l1.toArray t1, .bytes l2.toArray t2, .bytes l3.toArray t3, .bytes l4.toArray t4], []⟩) R s :=
  seal_full B F X N T hk hd hu hl1 hl2 hl3 hl4 fun t h' tk' F' N' => hret _ rfl (seal_len _ _ _ _) t h' tk' F' N'
end
theorem rKey_len (v : Nat) : (rKey v).length = 16 := by unfold rKey; split <;> rfl
theorem rNonce_len (v : Nat) : (rNonce v).length = 12 := by unfold rNonce; split <;> rfl
theorem bs_ne_same {prog : Program} {w : World} {A : Around} {E : Value → Shared → Prop} {s : Shared} {t u : Tok} {l r : List UInt8} {Q : Value → Shared → Prop} (e : l = r) (h : Q (.bool false) s) : wpAny (model prog w) A (compareOp .NotEq (.bytes l.toArray t) (.bytes r.toArray u)) Q E s := by
  subst e
  exact bs_ne (by rw [show (l != l) = false by simp]; exact h)
noncomputable def headT (v u : Nat) (i0 i1 tok : List UInt8) : List UInt8 := UInt8.ofNat ((firstR v u : Nat) : Int).toNat :: (toBE v 4 ++ [UInt8.ofNat ((i0.length : Nat) : Int).toNat] ++ i0) ++ [UInt8.ofNat ((i1.length : Nat) : Int).toNat] ++ i1 ++ tok
noncomputable def tagT (v u : Nat) (i0 i1 i2 tok : List UInt8) : List UInt8 := sealP (rKey v) (rNonce v) [] (UInt8.ofNat ((i2.length : Nat) : Int).toNat :: (i2 ++ headT v u i0 i1 tok))
theorem firstR_eq {v u : Nat} (hv : v = 1 ∨ v = 1798521807) : ((firstR v u : Nat) : Int).toNat = (if v = 1798521807 then 192 else 240) + u := by
  rw [Int.toNat_natCast]
  unfold firstR
  rcases hv with rfl | rfl
  · rw [if_pos rfl, if_neg (by decide)]
  · rw [if_neg (by decide), if_pos rfl]
theorem tagT_eq {v u : Nat} {i0 i1 i2 tok : List UInt8} (hv : v = 1 ∨ v = 1798521807) (hu : u < 16) : headT v u i0 i1 tok = retHead v i1 i0 tok u ∧ tagT v u i0 i1 i2 tok = rTag v i2 (retHead v i1 i0 tok u) :=
  ret_due (s1 := i1) (d1 := i0) (od := i2) (tok := tok) hv hu (firstR_eq hv) rfl
theorem ret_dueB {v u : Nat} {i0 i1 i2 tok : List UInt8} (hv : v = 1 ∨ v = 1798521807) (hu : u < 16) : retText v i1 i0 i2 tok u = headT v u i0 i1 tok ++ tagT v u i0 i1 i2 tok := by
  obtain ⟨e1, e2⟩ := tagT_eq (i0 := i0) (i1 := i1) (i2 := i2) (tok := tok) hv hu
  rw [e1, e2]
  rfl
theorem hexo_callWith {M : Model} {A : Around} {E : Value → Shared → Prop} {s : Shared} {h₀ : Heap} {L : Addr} {news : List (Addr × Obj)} {pos : Pos} {u : Addr} {first : List Value} {env : Env} {e : Expr} {rest : List Expr} {Q : Value → Shared → Prop} (_N : News h₀ L s.heap news) (_hm : (u, hexO) ∈ news)
    (h : wpAny M A (spliced (backTo pos (starEach (e :: rest) env))) (fun vs s₁ => s₁.heap.get? u = some hexO ∧ wpAny M A (call (.ref u) (first ++ vs)) Q E s₁) E s)
    (he : starEach (e :: rest) env = (false, eval e env) :: starEach rest env := by rfl) (hplain : (backTo pos (starEach rest env)).any (·.1) = false := by rfl) :
    wpAny M A (callWith pos (.ref u) first (backTo pos (starEach (e :: rest) env)) []) Q E s := hex_callWith h he hplain
theorem rowsJaRetB1 : True := by
  k_with "callWith ref" => (k_here; (with_reducible show wpAny _ _ (callWith _ (Value.ref _) _ (backTo _ (starEach [] _)) (backToKw _ (keywordEach (_ :: _) _))) _ _ _); k_dflt (refine' callWith_KW0 ?k1 ?k2 ?k3 ?_; (case k1 => with_reducible assumption); (case k2 => k_is); (case k3 => exact rfl); k_whole))
  k_with "callWith ref" => (k_here; (with_reducible show wpAny _ _ (callWith _ (Value.ref _) _ (backTo _ (starEach (_ :: _) _)) []) _ _ _); k_dflt (refine' callWith_K ?k1 ?k2 ?_; (case k1 => with_reducible assumption); (case k2 => k_is); k_whole))
  k_with "callWith ref" => (k_here; (with_reducible show wpAny _ _ (callWith _ (Value.ref _) _ (backTo _ (starEach [] _)) []) _ _ _); k_dflt (refine' callWith_K0 ?k1 ?k2 ?_; (case k1 => exact (by first | with_reducible assumption | exact Frag.In.keeps (by with_reducible assumption) (Fr.keep (by with_reducible assumption)))); (case k2 => k_is); k_whole))
  k_with "newList" => (k_here; k_dflt (refine' newList_K ?k1 ?k2 ?_; (case k1 => with_reducible assumption); (case k2 => with_reducible assumption); k_whole); intro l' h' F' N' l1; (try k_lt l1); (repeat (have := And.left l1; replace l1 := And.right l1)); (try k_sweep))
  k_with "And" => ((with_reducible show Frag.In _ _ ∧ _); refine ⟨(by first | with_reducible assumption | exact Frag.In.keeps (by with_reducible assumption) (Fr.keep (by with_reducible assumption))), ?_⟩; try dsimp only [List.nil_append, List.cons_append])
  k_with "eval Name" => (k_here; (with_reducible show wpAny _ _ (eval (Expr.Name _ _) (envOf _ _ _ _ _)) _ _ _); k_dflt (first | (refine' ld ?k1 ?k2 ?_ ?k3 ?k4 ?k5; (case k4 => kernel_rfl!); (case k1 => with_reducible assumption); (case k2 => ((try dsimp only [List.reverse, List.reverseAux]); (repeat (first | with_reducible exact lk_hit | with_reducible exact lk_sto_hit | with_reducible exact lk_ite_hit | (with_reducible refine lk_sto_miss (by kernel_rfl!) ?_) | (with_reducible refine lk_ite_miss2 (by kernel_rfl!) ?_) | (with_reducible refine lk_miss (by kernel_rfl!) ?_) | with_reducible refine lk_rev ?_)))); (case k3 => kernel_rfl!); (case k5 => decide +kernel); k_whole) | (refine' name_K ?k0 ?k1 ?k2 ?k3 ?_ ?k4 ?k5 ?k6; (case k5 => kernel_rfl!); (case k0 => with_reducible assumption); (case k1 => with_reducible assumption); (case k2 => exact topRead_of (by with_reducible assumption)); (case k3 => k_is); (case k4 => kernel_rfl!); (case k6 => decide +kernel); k_whole) | (refine' name_B ?k0 ?k1 ?k2 ?k3 ?k4 ?k5 ?_ ?k6 ?k7 ?k8; (case k7 => kernel_rfl!); (case k0 => with_reducible assumption); (case k1 => with_reducible assumption); (case k2 => exact topRead_of (by with_reducible assumption)); (case k3 => k_is); (case k4 => boot_fast); (case k5 => decide); (case k6 => kernel_rfl!); (case k8 => decide +kernel); k_whole)))
  k_with "storeName" => (k_here; (try dsimp only); (with_reducible show wpAny _ _ (storeName (envOf _ _ _ _ _) _ _) _ _ _); k_dflt (refine' store_u ?k1 ?k2 ?_ ?k3 ?k4; (case k4 => kernel_rfl!); (case k3 => kernel_rfl!); (case k1 => with_reducible assumption); (case k2 => with_reducible assumption); k_whole); intro h' F' N'; (try k_sweep))
  k_with "exec Assign" => (k_here; k_fold)
  k_with "call builtin:len" => (k_here; (with_reducible show wpAny _ _ (call (Value.builtin "len") [Value.bytes _ _]) _ _ _); k_dflt (refine bs_len (by (k_extra "sz")) ?_; intro _ _))
  k_with "binaryOp Add bytes bytes" => (k_here; (with_reducible show wpAny _ _ (binaryOp _ (Value.bytes _ _) (Value.bytes _ _)) _ _ _); k_dflt (refine bs_add (by (k_extra "sz")) ?_; intro _ _))
  k_with "compareOp NotEq bytes bytes" => (k_here; k_dflt (refine bs_ne ?_))
  k_with "call type:bytes" => (k_here; (with_reducible show wpAny _ _ (call (Value.type "bytes") [Value.ref _]) _ _ _); k_dflt (refine' bs_one ?k1 ?k2 ?k3 ?k4 ?k5 ?k6 ?_; (case k1 => k_asm); (case k2 => k_asm); (case k3 => exact rfl); (case k4 => k_mem); (case k5 => (k_extra "sz")); (case k6 => (k_extra "sz")); k_whole); intro _ _ _ F' N')
  k_with "call ref" => (k_here; (with_reducible show wpAny _ _ (call (Value.ref _) [Value.bytes _ _, Value.str _ _]) _ _ _); kfb_any; k_dflt (refine fb_call (by k_asm) (by k_mem) (by (k_extra "sz")) ?_); intro _ _)
  k_with "subscriptTail Name Constant ref int" => (k_here; (with_reducible show wpAny _ _ (subscriptTail _ _ (Value.ref _) (Value.int _ _)) _ _ _); k_dflt (first | (refine' lst_item ?k1 ?k2 ?k3 ?k4 ?k5 ?_; (case k1 => with_reducible assumption); (case k2 => k_mem); (case k3 => decide); (case k4 => decide); (case k5 => first | with_reducible exact at_0 | with_reducible exact at_1 | with_reducible exact at_2 | exact rfl); k_whole) | (refine' tup_item ?k1 ?k2 ?k3 ?k4 ?k5 ?_; (case k1 => with_reducible assumption); (case k2 => k_mem); (case k3 => decide); (case k4 => decide); (case k5 => exact rfl); k_whole) | (refine' menu3 ?k1 ?k2 ?k3 ?k4 ?_; (case k1 => with_reducible assumption); (case k2 => k_mem); (case k3 => (first | lia | omega)); (case k4 => (first | lia | omega)); k_whole; intro _)))
  exact True.intro
theorem rowsJaRetB2 : True := by
  k_with "call ref" => (k_here; (with_reducible show wpAny _ _ (call (Value.ref 367) _ _) _ _ _); k_dflt ((refine wpAny_call ?_); (refine' seal_fullT ?k1 ?k2 ?k3 ?k4 ?k5 ?k6 ?k7 ?k8 ?ka ?kb ?kc ?kd ?_; (case k1 => k_asm); (case k2 => k_asm); (case k3 => k_asm); (case k4 => k_asm); (case k5 => k_asm); (case k6 => first | exact rfl | assumption); (case k7 => first | exact room1 hd rfl | exact room2 hd rfl | ktr_room); (case k8 => first | exact room1 hu rfl | exact room2 hu rfl | ktr_units); (case ka => (rw [rKey_len]; decide)); (case kb => (rw [rNonce_len]; decide)); (case kc => exact Nat.le_of_ble_eq_true rfl); (case kd => (k_extra "sz"))); k_whole); (all_goals (first | (intro T0 hT0 hTl t' h' tk' F' N'; (try dsimp only); (try k_sweep)) )))
  exact True.intro

theorem rowsJaRetB3 : True := by
  k_with "getMethod type:bytes" => (k_here; k_dflt (refine' hex_method ?kF ?kN ?kX ?kE ?_; (case kF => k_asm); (case kN => k_asm); (case kX => k_asm); (case kE => k_is); k_whole; intro x' h' F' N' l1; (try k_lt l1); (try k_sweep)))
  k_with "callWith ref" => (k_here; (with_reducible show wpAny _ _ (callWith _ (Value.ref _) _ (backTo _ (starEach (_ :: _) _)) []) _ _ _); (with_reducible rename News _ _ _ _ => kN); k_dflt (refine' hexo_callWith kN ?kM ?_; (case kM => with_reducible exact List.mem_cons_self); k_whole))
  k_with "And" => ((with_reducible show Heap.get? _ _ = some hexO ∧ _); (with_reducible rename News _ _ _ _ => kN); refine ⟨kN.get (by k_mem), ?_⟩; (try dsimp only [List.nil_append, List.cons_append]))
  k_with "call ref" => (k_here; (with_reducible show wpAny _ _ (call (Value.ref _) [Value.str _ _]) _ _ _); (with_reducible rename News _ _ _ _ => kN); k_dflt (first | (refine hexk_call kN (by k_mem) (by assumption) ?_) | (refine hexn_call kN (by k_mem) (by assumption) ?_)); intro _ _)
  k_with "eval IfExp" => (k_here; refine halt ?_)
  k_with "call builtin:int.to_bytes" => (k_here; (with_reducible show wpAny _ _ (call (Value.builtin "int.to_bytes") [Value.int _ _, Value.int _ _, Value.str _ _]) _ _ _); k_dflt (refine tb_call (k := 4) (by decide) (by (first | lia | omega)) ?_; intro _ _))
  k_with "compareOp NotEq ref ref" => (k_here; refine halt ?_)
  k_with "compareOp NotEq bytes bytes" => (k_here; refine halt ?_)
  exact True.intro
section
variable {w : World} {mean : ExcName → Option Value} {mg mb : PySem.Str → Option Value} {dp un : Nat} {gd : Option (List Code)} {cn : PySem.Str} {cs : Scope} {a : Addr} {ccd : Value} {cl : List (PySem.Str × Addr)} {outer : List Env} {A₀ : Around} {base h₀ : Heap} {L : Addr} {m : PySem.Str → Option Value} {s : Shared} {Q E : Value → Shared → Prop} {R : Result → Shared → Prop}
variable {g h : Heap} {L' : Addr} {tk : Nat} {st c D : Addr} {oc : Obj} {t1 ti0 ti1 ti2 tt tu tv : Tok} {at_ : Int} {n cap v u : Nat} {vs : List Value} {ns : List Int} {i0 i1 i2 tok : List UInt8} {QQ : Flow → Shared → Prop} {EE : Value → Shared → Prop}
set_option maxHeartbeats 40000000 in
theorem retB (B' : Below (ktrTop dp un gd cn cs L a ccd cl outer) base (envX cn cs L a ccd cl :: outer) g) (X' : (K0 w.params).In g) (T' : Top jP jL mean mg mb g) (hk : cs.kind = .function) (hd : dp + 20 < recursionLimit) (hu : un + 100 < cLine)
    (F' : Fr g L' h (fun y => if y = Str.ofString "unused" then some (.int (u : Int) tu) else if y = Str.ofString "token" then some (.bytes tok.toArray tt) else if y = Str.ofString "ids" then some (.ref D) else if y = Str.ofString "version" then some (.int (v : Int) tv) else none))
    (N' : News g L' h [(D, LCg.lst [.bytes i0.toArray ti0, .bytes i1.toArray ti1, .bytes i2.toArray ti2]), (L' + 1, oc), (st, stO at_ t1 c n), (c, listOf vs.toArray cap)])
    (d1' : oc.data = Data.cell (some (.ref st))) (hi : IntsAre vs ns) (hne : @Ne Nat c st) (hn2 : @Ne Nat D st) (hn3 : @Ne Nat (L' + 1) st) (hn4 : @Ne Nat D c) (hn5 : @Ne Nat D (L' + 1)) (hn6 : @Ne Nat (L' + 1) c) (h1 : 0 < ns.length) (h2 : ns.length ≤ 63) (hat : 0 ≤ at_ ∧ at_ < 960000)
    (hl0 : i0.length ≤ 20) (hl1 : i1.length ≤ 20) (hl2 : i2.length ≤ 20) (hlt : tok.length ≤ 20) (hv : v = 1 ∨ v = 1798521807) (hu16 : u < 16)
    (hQ : ∀ h' tk' m' news', Fr g L' h' m' → News g L' h' news' → QQ (.ret (.bool true)) { s with heap := h', toks := tk' }) :
    wpN (model jprog w) ((ktrTop dp un gd cn cs L a ccd cl outer).deeper (envOfC (Str.ofString "_law_retry") s40s L' 372 (.ref 371))) (execs (List.drop 4 s40b) (envOfC (Str.ofString "_law_retry") s40s L' 372 (.ref 371))) QQ EE { s with heap := h, toks := tk } := by
  dsimp only [s40b, wit, List.drop]
  refine n_fold fun qk ek hq he => ?_
  refine n_cons (wpN_any ?_)
  k_steps
  refine Halt.mk ?_
  (with_reducible rename Fr g _ _ _ => kF)
  (with_reducible rename News g _ _ _ => kN)
  refine join_val (fun x => ∃ t, x = .int (firstR v u : Nat) t) kF kN ?h1 ?h2
  case h1 =>
    refine IfExp_ ?_
    k_steps
    · exact ⟨⟨⟨_, congrArg (fun z : Int => Value.int z _) (show (240 : Int) + (u : Int) = ((firstR v u : Nat) : Int) from by unfold firstR; rw [if_pos (by (first | lia | omega))]; (first | lia | omega))⟩, _, _, rfl, by assumption, by assumption⟩⟩
    · exact ⟨⟨⟨_, congrArg (fun z : Int => Value.int z _) (show (192 : Int) + (u : Int) = ((firstR v u : Nat) : Int) from by unfold firstR; rw [if_neg (by (first | lia | omega))]; (first | lia | omega))⟩, _, _, rfl, by assumption, by assumption⟩⟩
  case h2 =>
    rintro x h' tk' ⟨t, rfl⟩ F' N'
    clear kF kN
    have hf16 : firstR v u < 256 := by unfold firstR; split <;> (first | lia | omega)
    k_steps
    refine n_cons (wpN_any ?_)
    k_steps
    refine Halt.mk ?_
    (with_reducible rename Fr g _ _ _ => kF)
    (with_reducible rename News g _ _ _ => kN)
    refine join_valN (fun o => ∃ t1 t2, o = tupO #[.str (hexKey v) t1, .str (hexNonce v) t2]) kF kN ?h3 ?h4
    case h3 =>
      refine IfExp_ ?_
      k_steps
      · have ek : hexKey v = Str.ofString "be0c690b9f66575a1d766b54e368c84e" := by unfold hexKey; rw [if_pos (by (first | lia | omega))]
        have en : hexNonce v = Str.ofString "461599d35d632bf2239825bb" := by unfold hexNonce; rw [if_pos (by (first | lia | omega))]
        (with_reducible rename News g _ _ _ => kN2)
        rw [← ek, ← en] at kN2
        exact ⟨⟨_, _, _, _, rfl, ⟨_, _, rfl⟩, rfl, by assumption, kN2⟩⟩
      · have ek : hexKey v = Str.ofString "8fb4b01b56ac48e260fbcbcead7ccc92" := by unfold hexKey; rw [if_neg (by (first | lia | omega))]
        have en : hexNonce v = Str.ofString "d86969bc2d7c6d9990efb04a" := by unfold hexNonce; rw [if_neg (by (first | lia | omega))]
        (with_reducible rename News g _ _ _ => kN2)
        rw [← ek, ← en] at kN2
        exact ⟨⟨_, _, _, _, rfl, ⟨_, _, rfl⟩, rfl, by assumption, kN2⟩⟩
    case h4 =>
      rintro To o h' tk' ⟨tk1, tk2, rfl⟩ F' N'
      clear kF kN
      k_steps
      refine n_cons (wpN_any ?_)
      k_steps
      any_goals ((with_reducible rename News g _ _ _ => kN); exact kN.get (by k_mem))
      (rename _ = sealP _ _ _ _ => hT0)
      have hT1 := hT0.trans (show _ = tagT v u i0 i1 i2 tok by unfold tagT headT; simp only [List.cons_append, List.append_assoc])
      clear hT0
      have hT2 := hT1.trans (tagT_eq (i0 := i0) (i1 := i1) (i2 := i2) (tok := tok) hv hu16).2
      have hRl : (retText v i1 i0 i2 tok u).length ≤ 200 := by rw [retText_long hv hu16, longT_length, List.length_append, rTag_length]; (first | lia | omega)
      refine n_cons (n_assign_name rfl (n_call_name ?_))
      k_steps
      refine n_cW (K := K0 w.params) (by k_is) ?_
      k_steps
      (with_reducible rename Fr g _ _ _ => kF)
      (with_reducible rename News g _ _ _ => kN)
      refine wpN_call (rete_full B' kF X' kN T' rfl (by first | exact room1 hd rfl | exact room2 hd rfl | exact room0 hd | ktr_room) (by first | exact room1 hu rfl | exact room2 hu rfl | exact room0 hu | ktr_units) hv hu16 hl1 hl0 hl2 hlt fun t' h' tk' F' N' => ?_)
      clear kF kN
      dsimp only
      k_steps
      refine n_cons (n_if (n_isTrue_or (wpN_any ?_)))
      k_steps
      refine Halt.mk ?_
      refine bs_ne_same (by rw [ret_dueB hv hu16, ← hT1]; unfold headT; simp only [List.cons_append, List.append_assoc]) ?_
      k_steps
      refine n_isTrue_cmp rfl (n_call_name ?_)
      k_steps
      refine n_cW (K := K0 w.params) (by k_is) ?_
      k_steps
      (with_reducible rename Fr g _ _ _ => kF)
      (with_reducible rename News g _ _ _ => kN)
      have hrd := ret_read (od := i2) (tok := tok) hv hu16 hl1 hl0
      refine wpN_call (told_full B' kF X' kN T' rfl (by first | exact room1 hd rfl | exact room2 hd rfl | exact room0 hd | ktr_room) (by first | exact room1 hu rfl | exact room2 hu rfl | exact room0 hu | ktr_units) (l := retText v i1 i0 i2 tok u) ?len ⟨by decide, Int.natCast_nonneg _⟩ (.inr (by rw [hrd]; exact fun z => nomatch z)) (fun h' tk' e => by rw [hrd] at e; cases e) ?some)
      case len => rw [retText_long hv hu16, longT_length, List.length_append, rTag_length]; (first | lia | omega)
      case some =>
        intro row stop sz vv E0 E1 EX te tv tk' ts td tc tt tg ws wc h' tk2 e1 e2 e3 e4 F' N'
        rw [hrd] at e1
        obtain ⟨rfl, rfl⟩ := Prod.mk.inj (Option.some.inj e1)
        dsimp only [toldL, List.cons_append, List.nil_append] at N' e2 e3 e4
        rw [← hT2] at N'
        clear kF kN
        dsimp only
        refine wpN_any ?_
        k_steps
        refine Halt.mk ?_
        (with_reducible rename Fr g _ _ _ => kF)
        (with_reducible rename News g _ _ _ => kN)
        refine alike_ne (alike_len (l1 := retText v i1 i0 i2 tok u) rfl (kl := 3) (kr := 3) rfl e3 (kN.get (by k_mem)) (kN.get (by k_mem)) (kN.get (by k_mem)) e4 e2 (kN.get (by k_mem)) (kN.get (by k_mem)) (vs' := []) (kN.get (by k_mem)) .nil (v := some v) (tv' := _) rfl (by first | exact room1 hu rfl | exact room2 hu rfl | exact room0 hu | ktr_units)) (by first | exact room1 hu rfl | exact room2 hu rfl | exact room0 hu | ktr_units) ?_
        k_steps
        refine n_nil ?_
        dsimp only
        (with_reducible rename Fr g _ _ _ => kF)
        (with_reducible rename News g _ _ _ => kN)
        subst hq he
        refine retC B' X' T' hk hd hu kF (news_sub kN (List.forall_mem_cons.mpr ⟨by k_mem, List.forall_mem_cons.mpr ⟨by k_mem, List.forall_mem_cons.mpr ⟨by k_mem, List.forall_mem_cons.mpr ⟨by k_mem, List.forall_mem_nil _⟩⟩⟩⟩)) d1' (ns := ns) (by assumption) hne hn2 hn3 hn4 hn5 hn6 h1 h2 hat hl0 hl1 hQ
end
end JaLaw
end
section
set_option Elab.async false
set_option maxRecDepth 100000
namespace JaLaw
theorem rowsJaRetry0 : True := by
  k_with_none
  k_with "usef" => (case k1 => k_asm); (case k2 => k_asm); (case k3 => k_asm); (case k4 => k_asm); (case k5 => k_asm); (case k6 => first | exact rfl | assumption); (case k7 => first | exact room1 hd rfl | exact room2 hd rfl | ktr_room); (case k8 => first | exact room1 hu rfl | exact room2 hu rfl | ktr_units)
  exact True.intro
section
variable {prog : Program} {w : World} {A : Around} {E : Value → Shared → Prop} {s : Shared} {Q : Value → Shared → Prop} {u : Tok}
theorem menuV {h₀ : Heap} {L a : Addr} {news : List (Addr × Obj)} {n : Nat} {k : Int} {t0 t1 : Tok} {value slice : Expr} (N : News h₀ L s.heap ((a, listOf #[.int 1 t0, .int 1798521807 t1] n) :: news)) (h0 : 0 ≤ k) (hk : k < 2)
    (h : ∀ (v : Nat) (t : Tok), (v = 1 ∨ v = 1798521807) → News h₀ L s.heap news → Q (.int (v : Int) t) s)
    (hs : subscripted slice false (.ref a) (.int k u) = operate [.ref a, .int k u] (getItem (.ref a) (.int k u)) := by with_unfolding_all rfl) : wpAny (model prog w) A (subscriptTail value slice (.ref a) (.int k u)) Q E s := by
  obtain rfl | rfl : k = 0 ∨ k = 1 := by (first | lia | omega)
  · exact lst_item N (.head _) (by decide) (by decide) rfl (h 1 t0 (.inl rfl) (news_sub N fun _ h => .tail _ h)) hs
  · exact lst_item N (.head _) (by decide) (by decide) rfl (h 1798521807 t1 (.inr rfl) (news_sub N fun _ h => .tail _ h)) hs
end
theorem rowsJaRetry1 : True := by
  k_with "callWith ref" => (k_here; (with_reducible show wpAny _ _ (callWith _ (Value.ref _) _ (backTo _ (starEach [] _)) (backToKw _ (keywordEach (_ :: _) _))) _ _ _); k_dflt (refine' callWith_KW0 ?k1 ?k2 ?k3 ?_; (case k1 => with_reducible assumption); (case k2 => k_is); (case k3 => exact rfl); k_whole))
  k_with "callWith ref" => (k_here; (with_reducible show wpAny _ _ (callWith _ (Value.ref _) _ (backTo _ (starEach (_ :: _) _)) []) _ _ _); k_dflt (refine' callWith_K ?k1 ?k2 ?_; (case k1 => with_reducible assumption); (case k2 => k_is); k_whole))
  k_with "callWith ref" => (k_here; (with_reducible show wpAny _ _ (callWith _ (Value.ref _) _ (backTo _ (starEach [] _)) []) _ _ _); k_dflt (refine' callWith_K0 ?k1 ?k2 ?_; (case k1 => exact (by first | with_reducible assumption | exact Frag.In.keeps (by with_reducible assumption) (Fr.keep (by with_reducible assumption)))); (case k2 => k_is); k_whole))
  k_with "newList" => (k_here; k_dflt (refine' newList_K ?k1 ?k2 ?_; (case k1 => with_reducible assumption); (case k2 => with_reducible assumption); k_whole); intro l' h' F' N' l1; (try k_lt l1); (repeat (have := And.left l1; replace l1 := And.right l1)); (try k_sweep))
  k_with "And" => ((with_reducible show Frag.In _ _ ∧ _); refine ⟨(by first | with_reducible assumption | exact Frag.In.keeps (by with_reducible assumption) (Fr.keep (by with_reducible assumption))), ?_⟩; try dsimp only [List.nil_append, List.cons_append])
  k_with "eval Name" => (k_here; (with_reducible show wpAny _ _ (eval (Expr.Name _ _) (envOf _ _ _ _ _)) _ _ _); k_dflt (first | (refine' ld ?k1 ?k2 ?_ ?k3 ?k4 ?k5; (case k4 => kernel_rfl!); (case k1 => with_reducible assumption); (case k2 => ((try dsimp only [List.reverse, List.reverseAux]); (repeat (first | with_reducible exact lk_hit | with_reducible exact lk_sto_hit | with_reducible exact lk_ite_hit | (with_reducible refine lk_sto_miss (by kernel_rfl!) ?_) | (with_reducible refine lk_ite_miss2 (by kernel_rfl!) ?_) | (with_reducible refine lk_miss (by kernel_rfl!) ?_) | with_reducible refine lk_rev ?_)))); (case k3 => kernel_rfl!); (case k5 => decide +kernel); k_whole) | (refine' name_K ?k0 ?k1 ?k2 ?k3 ?_ ?k4 ?k5 ?k6; (case k5 => kernel_rfl!); (case k0 => with_reducible assumption); (case k1 => with_reducible assumption); (case k2 => exact topRead_of (by with_reducible assumption)); (case k3 => k_is); (case k4 => kernel_rfl!); (case k6 => decide +kernel); k_whole) | (refine' name_B ?k0 ?k1 ?k2 ?k3 ?k4 ?k5 ?_ ?k6 ?k7 ?k8; (case k7 => kernel_rfl!); (case k0 => with_reducible assumption); (case k1 => with_reducible assumption); (case k2 => exact topRead_of (by with_reducible assumption)); (case k3 => k_is); (case k4 => boot_fast); (case k5 => decide); (case k6 => kernel_rfl!); (case k8 => decide +kernel); k_whole)))
  k_with "storeName" => (k_here; (try dsimp only); (with_reducible show wpAny _ _ (storeName (envOf _ _ _ _ _) _ _) _ _ _); k_dflt (refine' store_u ?k1 ?k2 ?_ ?k3 ?k4; (case k4 => kernel_rfl!); (case k3 => kernel_rfl!); (case k1 => with_reducible assumption); (case k2 => with_reducible assumption); k_whole); intro h' F' N'; (try k_sweep))
  k_with "exec Assign" => (k_here; k_fold)
  k_with "eval Name" => (k_here; (with_reducible show wpAny _ _ (eval (Expr.Name _ _) (envOfC _ _ _ _ _)) _ _ _); k_dflt (refine' ldLoc ?k1 ?k2 ?_ ?k3 ?k4 ?k5; (case k4 => exact rfl); (case k1 => with_reducible assumption); (case k2 => first | exact rfl | assumption); (case k3 => exact rfl); (case k5 => decide +kernel); k_whole))
  k_with "subscriptTail" => (k_here; (with_reducible show wpAny _ _ (subscriptTail _ _ (Value.ref _) (Value.int _ _)) _ _ _); k_dflt (first | (refine' lst_item ?k1 ?k2 ?k3 ?k4 ?k5 ?_; (case k1 => with_reducible assumption); (case k2 => k_mem); (case k3 => decide); (case k4 => decide); (case k5 => first | with_reducible exact at_0 | with_reducible exact at_1 | with_reducible exact at_2 | exact rfl); k_whole) | (refine' tup_item ?k1 ?k2 ?k3 ?k4 ?k5 ?_; (case k1 => with_reducible assumption); (case k2 => k_mem); (case k3 => decide); (case k4 => decide); (case k5 => exact rfl); k_whole) | (refine' menu3 ?k1 ?k2 ?k3 ?k4 ?_; (case k1 => with_reducible assumption); (case k2 => k_mem); (case k3 => (first | lia | omega)); (case k4 => (first | lia | omega)); k_whole; intro _)))
  k_with "CompSrc" => (k_here; k_dflt (refine LCg.CompSrc.range (by rfl) (by k_asm) (by k_asm) (by assumption) (by first | decide | rfl) (by first | rfl | decide) (by first | size_fits | exact Nat.le_of_ble_eq_true rfl) ?_; intro gq9; lcg_lit))
  exact True.intro
theorem rowsJaRetry2 : True := by
  k_with "CompRest" => (with_unfolding_all first | (refine LCg.CompRest.succ ?_; intro v' I' oI' C' oC' D' m' h' tk' E' hv' hC' hx' F' N' off' ne'; (first | lcg_open hv' | (obtain ⟨t9', hv9'⟩ := hv'; subst hv9')); (try simp only [LCg.Off3, and_true] at off'); (repeat (have := And.left (And.left off'); have := And.left (And.right (And.left off')); have := And.right (And.right (And.left off')); replace off' := And.right off')); (repeat (have := And.left off'; replace off' := And.right off')); (repeat (have := And.left ne'; replace ne' := And.right ne'))) | refine LCg.CompRest.zero ?_)
  k_with "FinA" => ((unfold LCg.FinA); intro D' h' tk' F' N' o1'; (try simp only [LCg.Off1, and_true] at o1'); (repeat (have := And.left o1'; replace o1' := And.right o1')); (try simp only [List.nil_append, List.cons_append] at N'); (try dsimp only))
  k_with "call ref" => (k_here; (with_reducible show wpAny _ _ (call (Value.ref 308) _) _ _ _); k_dflt (refine' take2P ?k1 ?k2 ?k3 ?k4 ?k5 ?k6 ?k7 ?k8 ?kU ?kC ?kI ?kN ?kP ?kQ ?kL ?kB ?kK ?kM ?_; (k_extra "usef"); (case kU => intro _ _; k_upd); (case kC => k_mem); (case kI => with_reducible assumption); (case kN => with_reducible assumption); (case kP => with_reducible assumption); (case kQ => with_reducible assumption); (case kL => with_reducible assumption); (case kB => with_reducible assumption); (case kK => exact rfl); (case kM => first | assumption | decide | (first | lia | omega)); k_whole); intro r' a' t' t2' h' tk' h0' h1' hp' F' N'; (try dsimp only); (try k_sweep))
  k_with "call ref" => (k_here; (with_reducible show wpAny _ _ (call (Value.ref 322) _) _ _ _); k_dflt ((refine wpAny_call ?_); (refine' octP ?k1 ?k2 ?k3 ?k4 ?k5 ?k6 ?k7 ?k8 ?kU ?kC ?kI ?kN ?kP ?kQ ?kL ?kB ?kK ?kA ?kM ?_; (k_extra "usef"); (case kU => intro _ _; k_upd); (case kC => k_mem); (case kI => with_reducible assumption); (case kN => with_reducible assumption); (case kP => with_reducible assumption); (case kQ => with_reducible assumption); (case kL => with_reducible assumption); (case kB => with_reducible assumption); (case kK => exact rfl); (case kA => first | with_reducible assumption | exact Nb.of3 | exact Nb.of_ltn (m := 8) (most := 9) (by with_reducible assumption) rfl); (case kM => exact rfl)); k_whole); intro r' a' t' t2' h' tk' h0' hp' F' N'; (try dsimp only); (try k_sweep))
  k_with "call ref" => (k_here; (with_reducible show wpAny _ _ (call (Value.ref 329) _) _ _ _); k_dflt ((refine wpAny_call ?_); (refine' varP ?k1 ?k2 ?k3 ?k4 ?k5 ?k6 ?k7 ?k8 ?kv ?kw ?ka ?kb ?kc ?_; (k_extra "usef"); (case kv => first | with_reducible assumption | exact Nb.add (by with_reducible assumption) (by with_reducible assumption)); (case kw => exact rfl); (case ka => with_reducible assumption); (case kb => with_reducible assumption); (case kc => decide)); k_whole); intro r' t' h' tk' hr' F' N'; (try dsimp only); (try k_sweep))
  k_with "subscriptTail" => (k_here; (with_reducible show wpAny _ _ (subscriptTail _ _ (Value.ref _) (Value.int _ _)) _ _ _); (with_reducible rename News _ _ _ _ => oN'); k_dflt (first | (refine' menuH 21 oN' ?k1 ?k2 ?k3 ?k4 ?k5 ?_; (case k1 => with_reducible assumption); (case k2 => with_reducible assumption); (case k3 => exact rfl); (case k4 => decide); (case k5 => exact rfl); k_whole) | (refine' menuH 70 oN' ?k1 ?k2 ?k3 ?k4 ?k5 ?_; (case k1 => with_reducible assumption); (case k2 => with_reducible assumption); (case k3 => exact rfl); (case k4 => decide); (case k5 => exact rfl); k_whole) | (refine' menuH 4294967295 oN' ?k1 ?k2 ?k3 ?k4 ?k5 ?_; (case k1 => with_reducible assumption); (case k2 => with_reducible assumption); (case k3 => exact rfl); (case k4 => decide); (case k5 => exact rfl); k_whole)); clear oN'; intro _ _ _ N')
  k_with "call ref" => (k_here; (with_reducible show wpAny _ _ (call (Value.ref 308) _) _ _ _); k_dflt (refine' take2nP ?k1 ?k2 ?k3 ?k4 ?k5 ?k6 ?k7 ?k8 ?kU ?kC ?kI ?kN ?kP ?kQ ?kL ?kB ?kK ?kM ?_; (k_extra "usef"); (case kU => intro _ _; k_upd); (case kC => k_mem); (case kI => with_reducible assumption); (case kN => with_reducible assumption); (case kP => with_reducible assumption); (case kQ => with_reducible assumption); (case kL => with_reducible assumption); (case kB => with_reducible assumption); (case kK => exact rfl); (case kM => first | assumption | decide | (first | lia | omega)); k_whole); intro r' a' t' t2' h' tk' h1' hp' F' N'; (try dsimp only); (try k_sweep))
  k_with "storeName" => (k_here; (try dsimp only); (with_reducible show wpAny _ _ (storeName (envOfC _ _ _ _ _) _ _) _ _ _); k_dflt (refine' storeU ?k1 ?k2 ?_ ?k3 ?k4; (case k1 => with_reducible assumption); (case k2 => with_reducible assumption); (case k3 => exact rfl); (case k4 => exact rfl); k_whole); intro h' F' N'; (try k_sweep))
  k_with "storeName" => (k_here; (try dsimp only); (with_reducible show wpAny _ _ (storeName (envOfC _ _ _ _ _) _ (Value.int (HAdd.hAdd _ _) _)) _ _ _); k_dflt (refine' storeZ ?k1 ?k2 ?_ ?k3 ?k4; (case k1 => with_reducible assumption); (case k2 => with_reducible assumption); (case k3 => exact rfl); (case k4 => exact rfl); k_whole); intro h' z' e' F' N'; (try (have p' := nb_sum e' (by with_reducible assumption) (by with_reducible assumption))); (try k_sweep))
  exact True.intro

theorem rowsJaRetry3 : True := by
  k_with "subscriptTail" => (k_here; (with_reducible show wpAny _ _ (subscriptTail _ _ (Value.ref _) (Value.int _ _)) _ _ _); (with_reducible rename News _ _ _ _ => oN'); k_dflt (first | (refine' menuV oN' ?k3 ?k4 ?_; (case k3 => exact Int.natCast_nonneg _); (case k4 => with_reducible assumption); k_whole; clear oN'; intro v' _ hv' N') | (refine' menuH 20 oN' ?k1 ?k2 ?k3 ?k4 ?k5 ?_; (case k1 => exact Int.natCast_nonneg _); (case k2 => with_reducible assumption); (case k3 => exact rfl); (case k4 => decide); (case k5 => exact rfl); k_whole; clear oN'; intro _ _ _ N')))
  exact True.intro
section
variable {w : World} {mean : ExcName → Option Value} {mg mb : PySem.Str → Option Value} {dp un : Nat} {gd : Option (List Code)} {cn : PySem.Str} {cs : Scope} {a : Addr} {ccd : Value} {cl : List (PySem.Str × Addr)} {outer : List Env} {A₀ : Around} {base h₀ : Heap} {L : Addr} {m : PySem.Str → Option Value} {s : Shared} {Q E : Value → Shared → Prop} {R : Result → Shared → Prop}
variable {st c : Addr} {t1 : Tok} {at_ : Int} {n cap : Nat} {vs : List Value} {ns : List Int}
set_option maxHeartbeats 40000000 in
theorem retry_ct (B : Below A₀ base outer h₀) (F : Fr h₀ L s.heap m) (X : (K0 w.params).In h₀) (N : News h₀ L s.heap [(st, stO at_ t1 c n), (c, listOf vs.toArray cap)]) (T : Top jP jL mean mg mb h₀) (hk : cs.kind = .function) (hd : dp + 20 < recursionLimit) (hu : un + 100 < cLine) (hi : IntsAre vs ns) (hne : @Ne Nat c st) (h1 : 0 < ns.length) (h2 : ns.length ≤ 63)
    (hat : 0 ≤ at_ ∧ at_ < 900000)
    (hret : ∀ (h' : Heap) (tk' : Nat), Fr h₀ L h' m → R (.ok (.ret (.bool true))) { s with heap := h', toks := tk' }) :
    codeN (model jprog w) (ktrTop dp un gd cn cs L a ccd cl outer) (.call (.ref 372) ⟨[.ref st], []⟩) R s := by
  have hP0 := Pl.zero at_
  have hb99 : 0 ≤ at_ ∧ at_ < 990000 := ⟨hat.1, Int.lt_trans hat.2 (by decide)⟩
  k_dflt (refine' enter_defCN (binds := [(Str.ofString "state", .ref st)]) (m₁ := fun y => none) ?k1 ?k2 ?k3 ?k4 ?k5 ?kA ?kF ?kK ?k6 ?k7 ?k8 ?k9 ?kB ?kD ?kM ?_ ?c2 ?c3 ?c4; (case kA => exact rfl); (case kF => exact rfl); (case kK => assumption); (case k1 => k_asm); (case k2 => k_asm); (case k3 => k_asm); (case k4 => k_asm); (case k5 => k_asm); (case k6 => k_is); (case k7 => k_is); (case k8 => first | exact room0 hd | ktr_room); (case k9 => first | exact BindsTo.of_eq (by kernel_rfl!) | exact BindsTo.of_eq rfl | exact binds_K (by k_in) rfl (by k_is) rfl rfl rfl); (case kB => exact rfl); (case kD => decide +kernel); (case kM => (intro _; kernel_rfl!)); (case c2 => exact rfl); (case c3 => exact rfl); (case c4 => exact rfl); k_whole; intro g' L' h' tk' cells' FG' F' N' Y' B' X' T' hkp l1; (try k_lt l1); k_cells Y'; (rename Obj.data _ = Data.cell _ => d1'); (replace d1' : _ = Data.cell (some (.ref st)) := d1'); (try simp only [List.cons_append, List.nil_append] at N'); (try dsimp only); (try k_lift B'); (try ((with_reducible show wpAny _ _ _ _ _ _); k_fold)))
  refine n_fold fun qk ek hq he => ?_
  refine n_cons (wpN_any ?_)
  k_steps
  refine n_cons (wpN_any ?_)
  k_steps
  refine n_cons (wpN_any ?_)
  k_steps
  refine n_cons (wpN_any ?_)
  k_steps
  (with_reducible rename Fr g' _ _ _ => kF)
  (with_reducible rename News g' _ _ _ => kN)
  refine retB B' X' T' hk (by (first | lia | omega)) (by (first | lia | omega)) kF (news_sub kN (List.forall_mem_cons.mpr ⟨by k_mem, List.forall_mem_cons.mpr ⟨by k_mem, List.forall_mem_cons.mpr ⟨by k_mem, List.forall_mem_cons.mpr ⟨by k_mem, List.forall_mem_nil _⟩⟩⟩⟩)) d1' (ns := ns) (by assumption) hne (by k_ne) (by k_ne) (by k_ne) (by k_ne) (by k_ne) h1 h2 (Pl.in2 (by with_reducible assumption) hat rfl) (Lb.le (by with_reducible assumption) rfl) (Lb.le (by with_reducible assumption) rfl) (Lb.le (by with_reducible assumption) rfl) (Lb.le (by with_reducible assumption) rfl) (by assumption) (by (first | lia | omega)) (fun h' tk' m' news' F' N' => ?_)
  clear kF kN
  subst hq
  k_steps
  exact hret _ _ (by assumption)
end
end JaLaw
end
section
set_option Elab.async false
set_option maxRecDepth 100000
namespace JaLaw
theorem rowsJaLawB0 : True := by
  k_with_none
  k_with "lka" => ((try dsimp only [List.reverse, List.reverseAux]); (repeat (first | with_reducible exact lk_hit | with_reducible exact lk_sto_hit | with_reducible exact lk_ite_hit | (with_reducible refine lk_sto_miss (by kernel_rfl!) ?_) | (with_reducible refine lk_ite_miss2 (by kernel_rfl!) ?_) | (with_reducible refine lk_miss (by kernel_rfl!) ?_) | with_reducible refine lk_rev ?_ | with_reducible assumption)))
  k_with "sz" => (first | with_reducible assumption | ((try simp only [List.length_append, List.length_take, List.length_drop, List.length_cons, List.length_nil, toBE_length, List.length_replicate]); (first | lia | omega)))
  exact True.intro
noncomputable def octB (k : Int) : List UInt8 := [UInt8.ofNat (k % 256).toNat]
theorem raw_len (ks : List Int) : ((ks.map octB).flatten).length = ks.length := by
  induction ks with
  | nil => rfl
  | cons k ks ih => rw [List.map_cons, List.flatten_cons, List.length_append, ih, List.length_cons]; show 1 + _ = _; (first | lia | omega)
section
variable {prog : Program} {w : World} {A : Around} {E : Value → Shared → Prop} {s : Shared} {h₀ : Heap} {L : Addr} {m : PySem.Str → Option Value} {news : List (Addr × Obj)} {Q : Value → Shared → Prop}
theorem set6 {l : Addr} {n : Nat} {t0 t1 t2 t3 t4 t5 : Tok} (F : Fr h₀ L s.heap m) (N : News h₀ L s.heap news) (hh : A.handled = none) (hm : (l, listOf #[.int 0 t0, .int 1 t1, .int 2 t2, .int 3 t3, .int 4 t4, .int 5 t5] n) ∈ news)
    (h : ∀ D h' (tk : Nat) (f : Int → Bool) o, Fr h₀ L h' m → News h₀ L h' ((D, o) :: news) → o.SetObjOf (intKind prog w) f 6 → Q (.ref D) { s with heap := h', toks := tk }) :
    wpAny (model prog w) A (call (.type "set") [.ref l]) Q E s := by
  have hl : s.heap.IsList l #[.int 0 t0, .int 1 t1, .int 2 t2, .int 3 t3, .int 4 t4, .int 5 t5] := ⟨_, N.get hm, rfl, _, rfl⟩
  have hi : IntsAre (#[Value.int 0 t0, .int 1 t1, .int 2 t2, .int 3 t3, .int 4 t4, .int 5 t5] : Array Value).toList [0, 1, 2, 3, 4, 5] := .cons _ _ (.cons _ _ (.cons _ _ (.cons _ _ (.cons _ _ (.cons _ _ .nil)))))
  refine PySem.call_set_list hh hl hi (show (6 : Nat) + 1 < scanBound by unfold scanBound; decide) fun h' tk hS hk => ?_
  obtain ⟨o, ho, hso⟩ := hS.objOf
  obtain ⟨oL, _, _, hL, _⟩ := F.ns
  have hLlt : L < s.heap.objs.size := Heap.lt_size hL
  have e6 : (firstMet (fun i => ([0, 1, 2, 3, 4, 5] : List Int).getD i 0) (#[Value.int 0 t0, .int 1 t1, .int 2 t2, .int 3 t3, .int 4 t4, .int 5 t5] : Array Value).size).length = 6 := by
    show (firstMet (fun i => ([0, 1, 2, 3, 4, 5] : List Int).getD i 0) 6).length = 6
    decide +kernel
  rw [e6] at hso
  refine h _ h' tk _ o ⟨F.ns.at' fun o' e => hk L o' hLlt e, fun b o' e => hk b o' (Heap.lt_size (F.keep b o' e)) (F.keep b o' e), F.above⟩ (fun p hp => ?_) hso
  rcases List.mem_cons.mp hp with rfl | hp
  · refine ⟨ho, Nat.ne_of_gt hLlt, ?_⟩
    cases hq : h₀.get? s.heap.objs.size with
    | none => rfl
    | some o' => exact absurd (Heap.lt_size (F.keep _ _ hq)) (Nat.lt_irrefl _)
  · exact ⟨hk _ _ (Heap.lt_size (N p hp).1) (N p hp).1, (N p hp).2.1, (N p hp).2.2⟩
end
theorem rowsJaLawB1 : True := by
  k_with "callWith ref" => (k_here; (with_reducible show wpAny _ _ (callWith _ (Value.ref _) _ (backTo _ (starEach [] _)) (backToKw _ (keywordEach (_ :: _) _))) _ _ _); k_dflt (refine' callWith_KW0 ?k1 ?k2 ?k3 ?_; (case k1 => with_reducible assumption); (case k2 => k_is); (case k3 => exact rfl); k_whole))
  k_with "callWith ref" => (k_here; (with_reducible show wpAny _ _ (callWith _ (Value.ref _) _ (backTo _ (starEach (_ :: _) _)) []) _ _ _); k_dflt (refine' callWith_K ?k1 ?k2 ?_; (case k1 => with_reducible assumption); (case k2 => k_is); k_whole))
  k_with "callWith ref" => (k_here; (with_reducible show wpAny _ _ (callWith _ (Value.ref _) _ (backTo _ (starEach [] _)) []) _ _ _); k_dflt (refine' callWith_K0 ?k1 ?k2 ?_; (case k1 => exact (by first | with_reducible assumption | exact Frag.In.keeps (by with_reducible assumption) (Fr.keep (by with_reducible assumption)))); (case k2 => k_is); k_whole))
  k_with "newList" => (k_here; k_dflt (refine' newList_K ?k1 ?k2 ?_; (case k1 => with_reducible assumption); (case k2 => with_reducible assumption); k_whole); intro l' h' F' N' l1; (try k_lt l1); (repeat (have := And.left l1; replace l1 := And.right l1)); (try k_sweep))
  k_with "And" => ((with_reducible show Frag.In _ _ ∧ _); refine ⟨(by first | with_reducible assumption | exact Frag.In.keeps (by with_reducible assumption) (Fr.keep (by with_reducible assumption))), ?_⟩; try dsimp only [List.nil_append, List.cons_append])
  k_with "eval Name" => (k_here; (with_reducible show wpAny _ _ (eval (Expr.Name _ _) (envOf _ _ _ _ _)) _ _ _); k_dflt (first | (refine' ld ?k1 ?k2 ?_ ?k3 ?k4 ?k5; (case k4 => kernel_rfl!); (case k1 => with_reducible assumption); (case k2 => ((try dsimp only [List.reverse, List.reverseAux]); (repeat (first | with_reducible exact lk_hit | with_reducible exact lk_sto_hit | with_reducible exact lk_ite_hit | (with_reducible refine lk_sto_miss (by kernel_rfl!) ?_) | (with_reducible refine lk_ite_miss2 (by kernel_rfl!) ?_) | (with_reducible refine lk_miss (by kernel_rfl!) ?_) | with_reducible refine lk_rev ?_)))); (case k3 => kernel_rfl!); (case k5 => decide +kernel); k_whole) | (refine' name_K ?k0 ?k1 ?k2 ?k3 ?_ ?k4 ?k5 ?k6; (case k5 => kernel_rfl!); (case k0 => with_reducible assumption); (case k1 => with_reducible assumption); (case k2 => exact topRead_of (by with_reducible assumption)); (case k3 => k_is); (case k4 => kernel_rfl!); (case k6 => decide +kernel); k_whole) | (refine' name_B ?k0 ?k1 ?k2 ?k3 ?k4 ?k5 ?_ ?k6 ?k7 ?k8; (case k7 => kernel_rfl!); (case k0 => with_reducible assumption); (case k1 => with_reducible assumption); (case k2 => exact topRead_of (by with_reducible assumption)); (case k3 => k_is); (case k4 => boot_fast); (case k5 => decide); (case k6 => kernel_rfl!); (case k8 => decide +kernel); k_whole)))
  k_with "storeName" => (k_here; (try dsimp only); (with_reducible show wpAny _ _ (storeName (envOf _ _ _ _ _) _ _) _ _ _); k_dflt (refine' store_u ?k1 ?k2 ?_ ?k3 ?k4; (case k4 => kernel_rfl!); (case k3 => kernel_rfl!); (case k1 => with_reducible assumption); (case k2 => with_reducible assumption); k_whole); intro h' F' N'; (try k_sweep))
  k_with "eval Name" => (k_here; (with_reducible show wpAny _ _ (eval (Expr.Name _ _) (envOf _ _ _ _ _)) _ _ _); k_dflt (first | (refine' ld ?k1 ?k2 ?_ ?k3 ?k4 ?k5; (case k4 => kernel_rfl!); (case k1 => with_reducible assumption); (case k2 => (k_extra "lka")); (case k3 => kernel_rfl!); (case k5 => decide +kernel); k_whole) | (refine' name_K ?k0 ?k1 ?k2 ?k3 ?_ ?k4 ?k5 ?k6; (case k5 => kernel_rfl!); (case k0 => with_reducible assumption); (case k1 => with_reducible assumption); (case k2 => exact topRead_of (by with_reducible assumption)); (case k3 => k_is); (case k4 => kernel_rfl!); (case k6 => decide +kernel); k_whole) | (refine' name_B ?k0 ?k1 ?k2 ?k3 ?k4 ?k5 ?_ ?k6 ?k7 ?k8; (case k7 => kernel_rfl!); (case k0 => with_reducible assumption); (case k1 => with_reducible assumption); (case k2 => exact topRead_of (by with_reducible assumption)); (case k3 => k_is); (case k4 => boot_fast); (case k5 => decide); (case k6 => kernel_rfl!); (case k8 => decide +kernel); k_whole)))
  k_with "call builtin:len" => (k_here; (with_reducible show wpAny _ _ (call (Value.builtin "len") [Value.bytes _ _]) _ _ _); k_dflt (refine bs_len (by (k_extra "sz")) ?_; intro _ _))
  k_with "call type:bytes" => (k_here; (with_reducible show wpAny _ _ (call (Value.type "bytes") [Value.ref _]) _ _ _); k_dflt (refine' bs_one ?k1 ?k2 ?k3 ?k4 ?k5 ?k6 ?_; (case k1 => k_asm); (case k2 => k_asm); (case k3 => exact rfl); (case k4 => k_mem); (case k5 => (k_extra "sz")); (case k6 => (k_extra "sz")); k_whole); intro _ _ _ F' N')
  k_with "call ref" => (k_here; (with_reducible show wpAny _ _ (call (Value.ref _) [Value.bytes _ _, Value.str _ _]) _ _ _); kfb_any; k_dflt (refine fb_call (by k_asm) (by k_mem) (by (k_extra "sz")) ?_); intro _ _)
  k_with "call ref" => (k_here; (with_reducible show wpAny _ _ (call (Value.ref 315) _ _) _ _ _); k_dflt ((refine wpAny_call ?_); (refine' state_full ?k1 ?k2 ?k3 ?k4 ?k5 ?k6 ?k7 ?k8 ?ks ?ki ?kl ?_; (case k1 => k_asm); (case k2 => k_asm); (case k3 => k_asm); (case k4 => k_asm); (case k5 => k_asm); (case k6 => first | exact rfl | assumption); (case k7 => first | exact room1 hd rfl | exact room2 hd rfl | ktr_room); (case k8 => first | exact room1 hu rfl | exact room2 hu rfl | ktr_units); (case ks => assumption); (case ki => assumption); (case kl => assumption)); k_whole); (all_goals (first | (intro st' c' t' n' cap' vs' ms' h' tk' hj1 hj2 hj3 hj4 F' N'; (try dsimp only); (try k_sweep)) )))
  exact True.intro

theorem rowsJaLawB2 : True := by
  k_with "call ref" => (k_here; (with_reducible show wpAny _ _ (call (Value.ref 348) _) _ _ _); refine halt ?_)
  k_with "compareOp Eq ref ref" => (k_here; refine halt ?_)
  k_with "call type:set cons nil" => (k_here; (with_reducible show wpAny _ _ (call (Value.type "set") [Value.ref _]) _ _ _); k_dflt (refine set6 (by k_asm) (by k_asm) rfl (by k_mem) ?_; intro D' h' tk' f' o' F' N' hs'))
  k_with "CompSrc" => (k_here; refine halt ?_)
  k_with "CompEnd" => (refine halt ?_)
  k_with "binaryOp Mod int int" => (k_here; k_dflt (refine int_emod (by decide) ?_); intro _ _)
  k_with "getMethod bytes" => (k_here; (with_reducible refine join_method ?_))
  k_with "call builtin:bytes.join" => (k_here; refine halt ?_)
  exact True.intro
section
variable {w : World} {mean : ExcName → Option Value} {mg mb : PySem.Str → Option Value} {H h : Heap} {L0 fa sc : Addr} {cdv : Value} {s : Shared} {tk : Nat} {Q : Flow → Shared → Prop} {E : Value → Shared → Prop} {xs : List Value} {ks : List Int}
variable {st c : Addr} {t1 : Tok} {at_ : Int} {n cap : Nat} {vs : List Value} {ns : List Int} {m₁ : PySem.Str → Option Value}
set_option maxHeartbeats 40000000 in
theorem lawB3 (X' : (K0 w.params).In H) (T' : Top jP jL mean mg mb H) (F' : Fr H L0 h m₁) (es : m₁ (Str.ofString "state") = some (.ref st)) (ec : m₁ (Str.ofString "script") = some (.ref sc))
    (N' : News H L0 h [(st, stO at_ t1 c n), (c, listOf vs.toArray cap)]) (hne : @Ne Nat c st) (hi : IntsAre vs ns) (h1 : 0 < ns.length) (h2 : ns.length ≤ 63) (hat : 0 ≤ at_ ∧ at_ < 900000)
    (hs : H.IsList sc xs.toArray) (hx : IntsAre xs ks) (h3 : ks.length ≤ 63)
    (hQ : ∀ h' tk' m', Fr H L0 h' m' → Q (.ret (.bool true)) { s with heap := h', toks := tk' }) :
    wpN (model jprog w) (callerA.deeper (envOf (Str.ofString "law") s41s L0 fa cdv)) (execs (List.drop 2 s41b) (envOf (Str.ofString "law") s41s L0 fa cdv)) Q E { s with heap := h, toks := tk } := by
  dsimp only [s41b, wit, List.drop]
  have B' : Below callerA H [] H := below_caller H
  refine n_fold fun qk ek hq he => ?_
  refine n_cons (wpN_any ?_)
  k_steps
  refine n_cons (wpN_any ?_)
  k_steps
  dsimp only
  refine n_cons (wpN_any ?_)
  k_steps
  refine Halt.mk ?_
  (with_reducible rename Fr H _ _ _ => kF)
  (with_reducible rename News H _ _ _ => kN)
  (rename IntsAre _ (List.take 40 ks) => hI)
  have h40 : (List.take 40 ks).length ≤ 40 := by rw [List.length_take]; (first | lia | omega)
  refine LCg.CompSrc.ledger rfl kF kN (List.Mem.head _) (by rw [List.size_toArray, hI.length, sizeLine_eq]; (first | lia | omega)) ?_
  intro gq
  refine comp_gen (fun i zs nw => Halt (BytesAre zs (((ks.take 40).take i).map octB) ∧ nw = _)) ?step ?fin _ 0 [] _ (Nat.zero_add _) ⟨⟨.nil, rfl⟩⟩
  case step =>
    rintro i zs nw hin ⟨⟨hzs, rfl⟩⟩ v I oI C oC D2 m₂ h2 tk2 E' hv hC hx F' N' off ne
    have hoff := off
    clear kF kN
    rw [List.size_toArray, hI.length] at hin
    obtain ⟨tv, hg⟩ := hI.get i (ks.take 40)[i] (List.getElem?_eq_getElem hin)
    have hv2 : v = .int (ks.take 40)[i] tv := by
      rw [List.getElem?_toArray, hg] at hv
      exact (Option.some.inj hv).symm
    subst hv2
    obtain ⟨kv, hkv⟩ : ∃ kv, kv = (ks.take 40)[i] := ⟨_, rfl⟩
    rw [← hkv] at hx
    have hJ1 : ((ks.take 40).take (i + 1)).map octB = ((ks.take 40).take i).map octB ++ [octB kv] := by
      rw [List.take_succ, List.getElem?_eq_getElem hin, Option.toList_some, List.map_append, hkv]; rfl
    simp only [LCg.Off3, and_true] at off
    (repeat (rcases off with ⟨⟨_, _, _⟩, off⟩))
    rcases off with ⟨_, _, _⟩
    k_steps
    refine Halt.mk ?_
    (with_reducible rename News H _ _ _ => kN)
    refine LCg.CompEnd.intro (by assumption) kN _ ?sub hoff ?src ⟨⟨?b, rfl⟩⟩
    case sub => lcg_sub
    case src => exact Or.inr ⟨_, .head _, rfl, _, rfl⟩
    case b => rw [hJ1]; exact hzs.snoc _ _
  case fin =>
    rintro zs nw ⟨⟨hzs, rfl⟩⟩
    clear kF kN
    rw [List.size_toArray, hI.length, List.take_length] at hzs
    k_steps
    refine Halt.mk ?_
    (with_reducible rename News H _ _ _ => kN)
    have hrl := raw_len (ks.take 40)
    refine join_call kN (by k_mem) hzs (by (first | lia | omega)) fun t' k' => ?_
    generalize ((ks.take 40).map octB).flatten = rl at hrl ⊢
    k_steps
    refine n_cons (n_return (n_and2 (n_cmp rfl (n_call_name ?_))))
    k_steps
    refine n_cW (K := K0 w.params) (by k_is) ?_
    k_steps
    (with_reducible rename Fr H _ _ _ => kF)
    (with_reducible rename News H _ _ _ => kN)
    refine wpN_call (told_full (l := rl) (p := 0) (k := 4) B' kF X' kN T' rfl (by first | exact room1 hd rfl | exact room2 hd rfl | exact room0 hd | ktr_room) (by first | exact room1 hu rfl | exact room2 hu rfl | exact room0 hu | ktr_units) (by (first | lia | omega)) ⟨by (first | lia | omega), by (first | lia | omega)⟩ (.inl rfl) ?none ?some)
    case none =>
      intro h' tk' hnone F' N'
      clear kF kN
      dsimp only
      refine wpN_any ?_
      k_steps
      refine Halt.mk ?_
      (with_reducible rename Fr H _ _ _ => kF)
      (with_reducible rename News H _ _ _ => kN)
      refine wpAny_call (due_full (l := rl) (p := 0) (k := 4) B' kF X' kN T' rfl (by first | exact room1 hd rfl | exact room2 hd rfl | exact room0 hd | ktr_room) (by first | exact room1 hu rfl | exact room2 hu rfl | exact room0 hu | ktr_units) (by (first | lia | omega)) (by (first | lia | omega)) (by (first | lia | omega)) ?dn ?ds)
      case ds =>
        intro row stop sz vv E0 E1 EX te tv tk' ts td tc tt tg ws wc h' tk2 q1
        rw [hnone] at q1
        cases q1
      case dn =>
        intro h' tk' _ F' N'
        clear kF kN
        dsimp only
        k_steps
        refine n_call_name ?_
        k_steps
        refine n_cW (K := K0 w.params) (by k_is) ?_
        k_steps
        (with_reducible rename Fr H _ _ _ => kF)
        (with_reducible rename News H _ _ _ => kN)
        refine wpN_call (retry_ct B' kF X' (sub2 kN (by k_mem) (by k_mem)) T' rfl (by first | exact room1 hd rfl | exact room2 hd rfl | exact room0 hd | ktr_room) (by first | exact room1 hu rfl | exact room2 hu rfl | exact room0 hu | ktr_units) (ns := ns) (by assumption) hne h1 h2 hat fun h' tk' F' => ?_)
        subst hq
        exact hQ _ _ _ F'
    case some =>
      intro row stop sz vv E0 E1 EX te tv tk' ts td tc tt tg ws wc h' tk2 q1 q2 q3 q4 F' N'
      clear kF kN
      dsimp only
      refine wpN_any ?_
      k_steps
      refine Halt.mk ?_
      (with_reducible rename Fr H _ _ _ => kF)
      (with_reducible rename News H _ _ _ => kN)
      refine wpAny_call (due_full (l := rl) (p := 0) (k := 4) B' kF X' kN T' rfl (by first | exact room1 hd rfl | exact room2 hd rfl | exact room0 hd | ktr_room) (by first | exact room1 hu rfl | exact room2 hu rfl | exact room0 hu | ktr_units) (by (first | lia | omega)) (by (first | lia | omega)) (by (first | lia | omega)) ?dn2 ?ds2)
      case dn2 =>
        intro h' tk' q5
        rw [q1] at q5
        cases q5
      case ds2 =>
        intro row' stop' sz' vv' D0 D1 DX te' tv' tk' ts' td' tc' tt' tg' ws' wc' h' tk2 p1 p2 p3 p4 F' N'
        rw [q1] at p1
        obtain ⟨rfl, rfl⟩ := Prod.mk.inj (Option.some.inj p1)
        subst q3 p3
        clear kF kN
        dsimp only
        k_steps
        refine Halt.mk ?_
        (with_reducible rename Fr H _ _ _ => kF)
        (with_reducible rename News H _ _ _ => kN)
        (try dsimp only [toldL, List.cons_append, List.nil_append] at kN)
        refine alike_eq (alike_of (kN.get (by k_mem)) (kN.get (by k_mem)) (kN.get (by k_mem)) q4 q2 (kN.get (by k_mem)) (kN.get (by k_mem)) (kN.get (by k_mem)) p4 p2 (by first | exact room1 hu rfl | exact room2 hu rfl | exact room0 hu | ktr_units)) (by first | exact room1 hu rfl | exact room2 hu rfl | exact room0 hu | ktr_units) ?_
        k_steps
        refine n_call_name ?_
        k_steps
        refine n_cW (K := K0 w.params) (by k_is) ?_
        k_steps
        (with_reducible rename Fr H _ _ _ => kF)
        (with_reducible rename News H _ _ _ => kN)
        refine wpN_call (retry_ct B' kF X' (sub2 kN (by k_mem) (by k_mem)) T' rfl (by first | exact room1 hd rfl | exact room2 hd rfl | exact room0 hd | ktr_room) (by first | exact room1 hu rfl | exact room2 hu rfl | exact room0 hu | ktr_units) (ns := ns) (by assumption) hne h1 h2 hat fun h' tk' F' => ?_)
        subst hq
        exact hQ _ _ _ F'
set_option maxHeartbeats 40000000 in
theorem lawB2 (X' : (K0 w.params).In H) (T' : Top jP jL mean mg mb H) (F' : Fr H L0 h (fun y => if y = Str.ofString "state" then some (.ref st) else if y = Str.ofString "script" then some (.ref sc) else none))
    (N' : News H L0 h [(st, stO 0 t1 c n), (c, listOf vs.toArray cap)]) (hne : @Ne Nat c st) (hi : IntsAre vs ns) (h1 : 0 < ns.length) (h2 : ns.length ≤ 63)
    (hs : H.IsList sc xs.toArray) (hx : IntsAre xs ks) (h3 : ks.length ≤ 63)
    (hQ : ∀ h' tk' m', Fr H L0 h' m' → Q (.ret (.bool true)) { s with heap := h', toks := tk' }) :
    wpN (model jprog w) (callerA.deeper (envOf (Str.ofString "law") s41s L0 fa cdv)) (execs (List.drop 1 s41b) (envOf (Str.ofString "law") s41s L0 fa cdv)) Q E { s with heap := h, toks := tk } := by
  dsimp only [s41b, wit, List.drop]
  have B' : Below callerA H [] H := below_caller H
  refine n_fold fun qk ek hq he => ?_
  refine n_cons (n_For_range (h₀ := H) (by rfl) (by rfl) ?_)
  k_steps
  (with_reducible rename Fr H _ _ _ => kF)
  (with_reducible rename News H _ _ _ => kN)
  refine ⟨⟨_, 5, _, _, _, _, _, fun i m news => m (Str.ofString "state") = some (.ref st) ∧ m (Str.ofString "script") = some (.ref sc) ∧ ∃ a' t', 0 ≤ a' ∧ a' ≤ 200 * (i : Int) ∧ news = [(st, stO a' t' c n), (c, listOf vs.toArray cap)], rfl, rfl, by assumption, by decide, kF, kN, ⟨by (k_extra "lka"), by (k_extra "lka"), 0, _, by decide, by decide, rfl⟩, ?turn, ?done⟩⟩
  case turn =>
    rintro i t m₁ news₁ h tk I oI E' hin ⟨j1, j2, a', t', ha0, ha1, rfl⟩ hoff F' N'
    have o1 : @Ne Nat st I := hoff _ (.head _)
    have o2 : @Ne Nat c I := hoff _ (.tail _ (.head _))
    refine lawT1 X' T' F' j1 j2 N' hne (Ne.symm o1) (ns := ns) (by assumption) h1 h2 ⟨ha0, by (first | lia | omega)⟩ fun h' tk' m' a2 t2 b1 b2 b3 b4 F2 N2 => ⟨⟨rfl, h', tk', m', _, rfl, F2, N2, List.forall_mem_cons.mpr ⟨o1, List.forall_mem_cons.mpr ⟨o2, List.forall_mem_nil _⟩⟩, ⟨b3, b4, a2, t2, by (first | lia | omega), by (first | lia | omega), rfl⟩⟩⟩
  case done =>
    rintro m₁ news₁ h tk ⟨j1, j2, a', t', ha0, ha1, rfl⟩ F' N'
    clear kF kN
    dsimp only
    subst hq he
    exact lawB3 X' T' F' j1 j2 N' hne (ns := ns) (by assumption) h1 h2 ⟨ha0, by (first | lia | omega)⟩ hs (ks := ks) (by assumption) h3 hQ
set_option maxHeartbeats 40000000 in
theorem law_body (X' : (K0 w.params).In H) (T' : Top jP jL mean mg mb H) (F' : Fr H L0 h (fun y => if y = Str.ofString "script" then some (.ref sc) else none))
    (hs : H.IsList sc xs.toArray) (hi : IntsAre xs ks) (h2 : ks.length ≤ 63)
    (hQ : ∀ h' tk' m', Fr H L0 h' m' → Q (.ret (.bool true)) { s with heap := h', toks := tk' }) :
    wpN (model jprog w) (callerA.deeper (envOf (Str.ofString "law") s41s L0 fa cdv)) (execs s41b (envOf (Str.ofString "law") s41s L0 fa cdv)) Q E { s with heap := h, toks := tk } := by
  dsimp only [s41b, wit]
  have B' : Below callerA H [] H := below_caller H
  have N' : News H L0 h [] := News.nil
  have hsh : h.IsList sc xs.toArray := hs.at fun o e => F'.keep sc o e
  refine n_fold fun qk ek hq he => ?_
  refine n_cons (wpN_any ?_)
  k_steps
  (with_reducible rename Fr H _ _ _ => kF)
  (with_reducible rename News H _ _ _ => kN)
  subst hq he
  exact lawB2 X' T' kF kN (by assumption) (by assumption) (by assumption) (by assumption) hs (ks := ks) (by assumption) (by assumption) hQ
end
end JaLaw
end
section
set_option Elab.async false
set_option maxRecDepth 100000
namespace JaLaw
theorem look1 (k : PySem.Str) (v : Value) : (fun y => List.lookup y [(k, v)].reverse) = fun y => if y = k then some v else none := by
  funext y
  show List.lookup y [(k, v)] = _
  by_cases h : y = k
  · subst h
    rw [if_pos rfl]
    exact lk_hit
  · rw [if_neg h]
    exact lk_miss (by simpa using h) rfl
set_option maxHeartbeats 8000000 in
theorem holds : PySem.Challenge.rw_ja0002_01.Holds := by
  w_on
  refine holds_law said0 fun said => ?_
  refine JaLaw.holds_guarded (q := q0) (loose := loose0) (Xt := Xt0) (XP := XL q0 []) (Yf := Hook.obs hook0) (Ya := Hook.val hook0) (YP := Hook.says hook0) (N := 6082) left0 (Hook.of hook0) (Hook.keeps hook0) (fun s e => xl_of s (Bool.and_eq_true_iff.mp e).1) XL.keeps (by rfl) (by rfl) (by rfl) (fun s e => recFacts_of (Bool.and_eq_true_iff.mp e).2) (by rfl) (by first | assumption | decide +kernel) (by decide +kernel) ⟨rfl, rfl, rfl, rfl, rfl, by decide +kernel⟩ ?hw ?hc
  case hw => w_witness2
  k_fill
  intro w s₀ s₁ mg mb G Y fa o pm cd doc dV kV ho hd hcd hD hmg hg args vals as hpre hlay hrd hwl hlo
  have KX := kIn_of Y
  have X := (Ground.X G).1
  have V := (Ground.X G).2
  refine Ground.open G ?_
  intro T B D TE TW
  have TA := at_of_top T
  wrow_args hpre hlay hrd hwl hlo
  (rename IntsAre _ _ => hI)
  (rename Heap.IsList _ _ _ => hL)
  (rename ¬ _ < _ => h63)
  have hk63 : _ ≤ 63 := Int.ofNat_le.mp (Int.not_lt.mp h63)
  show wpAny _ _ (guardRun _) _ _ _
  refine wpAny_guard (a := Value.bool true) (GoodW.toG ⟨.inl ⟨_, _, [], rfl, raisesW_false (by wrow_none_raised), .bool true, by wrow_post, unshared_nil⟩, fun _ _ e => e, rfl, hg⟩) ?_
  have he := Dflts.none hD rfl
  subst he
  refine wpN_call (codeN_call_def (binds := [(Str.ofString "script", Value.ref _)]) (by decide) ho hd (Top.nolimit T) hcd rfl (BindsTo.of_eq rfl) (show ∀ x ∈ s41s.names, x.2 ≠ PySem.NameKind.cell from by decide) (locs rfl) fun h₁ hns hkp => ?_)
  have F : Fr s₁.heap s₁.heap.objs.size h₁ _ := ⟨hns, hkp, Nat.le_refl _⟩
  rw [look1] at F
  exact law_body KX T F hL hI hk63 fun h' tk' m' F' => GoodW.toG (goodW_bool F' hg (raisesW_false (by wrow_none_raised)) (by wrow_post))
end JaLaw
end
theorem PySem.Challenge.cw_ja0002_01_holds : PySem.Challenge.rw_ja0002_01.Holds :=
  JaLaw.holds
