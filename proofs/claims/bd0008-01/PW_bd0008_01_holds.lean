import PyProof.Rows.All
import Wide.All
import OpenK.AllK
import Wide.FinOn
import KE.KxStill
import KE.KxWritten
import Lean
import PySem.Challenge.RW_bd0008_01
set_option Elab.async false
set_option compiler.extract_closed false

section
open PySem PySem.W PySem.Calls PyProof.Rows
namespace Mine
/-- the n-th statement -/
def stAt : Nat → List Stmt → Stmt
  | _, [] => .Pass ⟨0, 0, 0, 0⟩
  | 0, s :: _ => s
  | n + 1, _ :: r => stAt n r
/-- the statements of a class -/
def inCls : Stmt → List Stmt
  | .ClassDef _ _ _ b _ _ _ _ _ _ _ => b
  | _ => []
set_option maxRecDepth 100000 in
/-- the objects that the text's top leaves (the defs' own parts are taken out of the given text) -/
noncomputable def hd.heap_39 (P : Params) : Frag := by
  refine (?f46 : ∀ n a b dl r tp sc ts bi ps, stAt 0 (inCls (stAt 4 PySem.Challenge.pw_bd0008_01.main.body)) = Stmt.FunctionDef n a b dl r tp sc ts bi ps → Frag) _ _ _ _ _ _ _ _ _ _ rfl
  intro _ a46 b46 _ _ _ s46 _ _ _ _
  refine (?f60 : ∀ n a b dl r tp sc ts bi ps, stAt 2 (inCls (stAt 4 PySem.Challenge.pw_bd0008_01.main.body)) = Stmt.FunctionDef n a b dl r tp sc ts bi ps → Frag) _ _ _ _ _ _ _ _ _ _ rfl
  intro _ a60 b60 _ _ _ s60 _ _ _ _
  refine (?f82 : ∀ n a b dl r tp sc ts bi ps, stAt 0 (inCls (stAt 5 PySem.Challenge.pw_bd0008_01.main.body)) = Stmt.FunctionDef n a b dl r tp sc ts bi ps → Frag) _ _ _ _ _ _ _ _ _ _ rfl
  intro _ a82 b82 _ _ _ s82 _ _ _ _
  refine (?f99 : ∀ n a b dl r tp sc ts bi ps, stAt 7 PySem.Challenge.pw_bd0008_01.main.body = Stmt.FunctionDef n a b dl r tp sc ts bi ps → Frag) _ _ _ _ _ _ _ _ _ _ rfl
  intro _ a99 b99 _ _ _ s99 _ _ _ _
  refine (?f106 : ∀ n a b dl r tp sc ts bi ps, stAt 10 PySem.Challenge.pw_bd0008_01.main.body = Stmt.FunctionDef n a b dl r tp sc ts bi ps → Frag) _ _ _ _ _ _ _ _ _ _ rfl
  intro _ a106 b106 _ _ _ s106 _ _ _ _
  refine (?f113 : ∀ n a b dl r tp sc ts bi ps, stAt 12 PySem.Challenge.pw_bd0008_01.main.body = Stmt.FunctionDef n a b dl r tp sc ts bi ps → Frag) _ _ _ _ _ _ _ _ _ _ rfl
  intro _ a113 b113 _ _ _ s113 _ _ _ _
  refine (?f120 : ∀ n a b dl r tp sc ts bi ps, stAt 14 PySem.Challenge.pw_bd0008_01.main.body = Stmt.FunctionDef n a b dl r tp sc ts bi ps → Frag) _ _ _ _ _ _ _ _ _ _ rfl
  intro _ a120 b120 _ _ _ s120 _ _ _ _
  refine (?f127 : ∀ n a b dl r tp sc ts bi ps, stAt 15 PySem.Challenge.pw_bd0008_01.main.body = Stmt.FunctionDef n a b dl r tp sc ts bi ps → Frag) _ _ _ _ _ _ _ _ _ _ rfl
  intro _ a127 b127 _ _ _ s127 _ _ _ _
  refine (?f148 : ∀ n a b dl r tp sc ts bi ps, stAt 21 PySem.Challenge.pw_bd0008_01.main.body = Stmt.FunctionDef n a b dl r tp sc ts bi ps → Frag) _ _ _ _ _ _ _ _ _ _ rfl
  intro _ a148 b148 _ _ _ s148 _ _ _ _
  refine (?f153 : ∀ n a b dl r tp sc ts bi ps, stAt 22 PySem.Challenge.pw_bd0008_01.main.body = Stmt.FunctionDef n a b dl r tp sc ts bi ps → Frag) _ _ _ _ _ _ _ _ _ _ rfl
  intro _ a153 b153 _ _ _ s153 _ _ _ _
  refine (?f160 : ∀ n a b dl r tp sc ts bi ps, stAt 23 PySem.Challenge.pw_bd0008_01.main.body = Stmt.FunctionDef n a b dl r tp sc ts bi ps → Frag) _ _ _ _ _ _ _ _ _ _ rfl
  intro _ a160 b160 _ _ _ s160 _ _ _ _
  refine (?f165 : ∀ n a b dl r tp sc ts bi ps, stAt 24 PySem.Challenge.pw_bd0008_01.main.body = Stmt.FunctionDef n a b dl r tp sc ts bi ps → Frag) _ _ _ _ _ _ _ _ _ _ rfl
  intro _ a165 b165 _ _ _ s165 _ _ _ _
  refine (?f170 : ∀ n a b dl r tp sc ts bi ps, stAt 25 PySem.Challenge.pw_bd0008_01.main.body = Stmt.FunctionDef n a b dl r tp sc ts bi ps → Frag) _ _ _ _ _ _ _ _ _ _ rfl
  intro _ a170 b170 _ _ _ s170 _ _ _ _
  refine (?f175 : ∀ n a b dl r tp sc ts bi ps, stAt 26 PySem.Challenge.pw_bd0008_01.main.body = Stmt.FunctionDef n a b dl r tp sc ts bi ps → Frag) _ _ _ _ _ _ _ _ _ _ rfl
  intro _ a175 b175 _ _ _ s175 _ _ _ _
  refine (?f183 : ∀ n a b dl r tp sc ts bi ps, stAt 27 PySem.Challenge.pw_bd0008_01.main.body = Stmt.FunctionDef n a b dl r tp sc ts bi ps → Frag) _ _ _ _ _ _ _ _ _ _ rfl
  intro _ a183 b183 _ _ _ s183 _ _ _ _
  refine (?f190 : ∀ n a b dl r tp sc ts bi ps, stAt 28 PySem.Challenge.pw_bd0008_01.main.body = Stmt.FunctionDef n a b dl r tp sc ts bi ps → Frag) _ _ _ _ _ _ _ _ _ _ rfl
  intro _ a190 b190 _ _ _ s190 _ _ _ _
  refine (?f197 : ∀ n a b dl r tp sc ts bi ps, stAt 30 PySem.Challenge.pw_bd0008_01.main.body = Stmt.FunctionDef n a b dl r tp sc ts bi ps → Frag) _ _ _ _ _ _ _ _ _ _ rfl
  intro _ a197 b197 _ _ _ s197 _ _ _ _
  refine (?f868 : ∀ n a b dl r tp sc ts bi ps, stAt 0 (inCls (stAt 47 PySem.Challenge.pw_bd0008_01.main.body)) = Stmt.FunctionDef n a b dl r tp sc ts bi ps → Frag) _ _ _ _ _ _ _ _ _ _ rfl
  intro _ a868 b868 _ _ _ s868 _ _ _ _
  refine (?f876 : ∀ n a b dl r tp sc ts bi ps, stAt 1 (inCls (stAt 47 PySem.Challenge.pw_bd0008_01.main.body)) = Stmt.FunctionDef n a b dl r tp sc ts bi ps → Frag) _ _ _ _ _ _ _ _ _ _ rfl
  intro _ a876 b876 _ _ _ s876 _ _ _ _
  refine (?f890 : ∀ n a b dl r tp sc ts bi ps, stAt 3 (inCls (stAt 47 PySem.Challenge.pw_bd0008_01.main.body)) = Stmt.FunctionDef n a b dl r tp sc ts bi ps → Frag) _ _ _ _ _ _ _ _ _ _ rfl
  intro _ a890 b890 _ _ _ s890 _ _ _ _
  refine (?f914 : ∀ n a b dl r tp sc ts bi ps, stAt 6 (inCls (stAt 47 PySem.Challenge.pw_bd0008_01.main.body)) = Stmt.FunctionDef n a b dl r tp sc ts bi ps → Frag) _ _ _ _ _ _ _ _ _ _ rfl
  intro _ a914 b914 _ _ _ s914 _ _ _ _
  refine (?f950 : ∀ n a b dl r tp sc ts bi ps, stAt 48 PySem.Challenge.pw_bd0008_01.main.body = Stmt.FunctionDef n a b dl r tp sc ts bi ps → Frag) _ _ _ _ _ _ _ _ _ _ rfl
  intro _ a950 b950 _ _ _ s950 _ _ _ _
  refine (?f957 : ∀ n a b dl r tp sc ts bi ps, stAt 50 PySem.Challenge.pw_bd0008_01.main.body = Stmt.FunctionDef n a b dl r tp sc ts bi ps → Frag) _ _ _ _ _ _ _ _ _ _ rfl
  intro _ a957 b957 _ _ _ s957 _ _ _ _
  refine (?f969 : ∀ n a b dl r tp sc ts bi ps, stAt 52 PySem.Challenge.pw_bd0008_01.main.body = Stmt.FunctionDef n a b dl r tp sc ts bi ps → Frag) _ _ _ _ _ _ _ _ _ _ rfl
  intro _ a969 b969 _ _ _ s969 _ _ _ _
  refine (?f976 : ∀ n a b dl r tp sc ts bi ps, stAt 53 PySem.Challenge.pw_bd0008_01.main.body = Stmt.FunctionDef n a b dl r tp sc ts bi ps → Frag) _ _ _ _ _ _ _ _ _ _ rfl
  intro _ a976 b976 _ _ _ s976 _ _ _ _
  refine (?f983 : ∀ n a b dl r tp sc ts bi ps, stAt 54 PySem.Challenge.pw_bd0008_01.main.body = Stmt.FunctionDef n a b dl r tp sc ts bi ps → Frag) _ _ _ _ _ _ _ _ _ _ rfl
  intro _ a983 b983 _ _ _ s983 _ _ _ _
  refine (?f990 : ∀ n a b dl r tp sc ts bi ps, stAt 55 PySem.Challenge.pw_bd0008_01.main.body = Stmt.FunctionDef n a b dl r tp sc ts bi ps → Frag) _ _ _ _ _ _ _ _ _ _ rfl
  intro _ a990 b990 _ _ _ s990 _ _ _ _
  refine (?f997 : ∀ n a b dl r tp sc ts bi ps, stAt 56 PySem.Challenge.pw_bd0008_01.main.body = Stmt.FunctionDef n a b dl r tp sc ts bi ps → Frag) _ _ _ _ _ _ _ _ _ _ rfl
  intro _ a997 b997 _ _ _ s997 _ _ _ _
  refine (?f1004 : ∀ n a b dl r tp sc ts bi ps, stAt 57 PySem.Challenge.pw_bd0008_01.main.body = Stmt.FunctionDef n a b dl r tp sc ts bi ps → Frag) _ _ _ _ _ _ _ _ _ _ rfl
  intro _ a1004 b1004 _ _ _ s1004 _ _ _ _
  exact ((nat_lit 2, ⟨Value.none, none, (Data.dict #[⟨(PyData.keyHash P (Str.ofString "type.__subclasses__.OSError.0")), (Value.str (Str.ofString "type.__subclasses__.OSError.0") 697), (Value.int 228 0)⟩, ⟨(PyData.keyHash P (Str.ofString "type.__subclasses__.OSError.n")), (Value.str (Str.ofString "type.__subclasses__.OSError.n") 698), (Value.int 1 0)⟩, ⟨(PyData.keyHash P (Str.ofString "type.__subclasses__.Exception.0")), (Value.str (Str.ofString "type.__subclasses__.Exception.0") 1336), (Value.int 764 0)⟩, ⟨(PyData.keyHash P (Str.ofString "type.__subclasses__.Exception.n")), (Value.str (Str.ofString "type.__subclasses__.Exception.n") 1337), (Value.int 1 0)⟩] 4), #[]⟩) ::
    (nat_lit 3, ⟨(Value.type "dict"), none, (Data.dict #[⟨(PyData.keyHash P (Str.ofString "__name__")), (Value.str (Str.ofString "__name__") 165), (Value.str (Str.ofString "law_bd0008_01") 1623)⟩, ⟨(PyData.keyHash P (Str.ofString "__doc__")), (Value.str (Str.ofString "__doc__") 166), Value.none⟩, ⟨(PyData.keyHash P (Str.ofString "__package__")), (Value.str (Str.ofString "__package__") 167), Value.none⟩, ⟨(PyData.keyHash P (Str.ofString "__loader__")), (Value.str (Str.ofString "__loader__") 168), (Value.builtin "__main__.__loader__#opaque")⟩, ⟨(PyData.keyHash P (Str.ofString "__spec__")), (Value.str (Str.ofString "__spec__") 169), Value.none⟩, ⟨(PyData.keyHash P (Str.ofString "__annotations__")), (Value.str (Str.ofString "__annotations__") 170), (Value.ref 6)⟩, ⟨(PyData.keyHash P (Str.ofString "__builtins__")), (Value.str (Str.ofString "__builtins__") 171), (Value.ref 4)⟩, ⟨(PyData.keyHash P (Str.ofString "__file__")), (Value.str (Str.ofString "__file__") 173), (Value.str (Str.ofString "/claim/cut.py") 172)⟩, ⟨(PyData.keyHash P (Str.ofString "__cached__")), (Value.str (Str.ofString "__cached__") 174), Value.none⟩, ⟨(PyData.keyHash P (Str.ofString "_wall")), (Value.str (Str.ofString "_wall") 193), (Value.ref 21)⟩, ⟨(PyData.keyHash P (Str.ofString "NETWORKS")), (Value.str (Str.ofString "NETWORKS") 382), (Value.ref 22)⟩, ⟨(PyData.keyHash P (Str.ofString "hexlify")), (Value.str (Str.ofString "hexlify") 390), (Value.ref 31)⟩, ⟨(PyData.keyHash P (Str.ofString "Sha256")), (Value.str (Str.ofString "Sha256") 436), (Value.ref 63)⟩, ⟨(PyData.keyHash P (Str.ofString "hashlib")), (Value.str (Str.ofString "hashlib") 476), (Value.ref 88)⟩, ⟨(PyData.keyHash P (Str.ofString "double_sha256")), (Value.str (Str.ofString "double_sha256") 485), (Value.ref 99)⟩, ⟨(PyData.keyHash P (Str.ofString "B58_DIGITS")), (Value.str (Str.ofString "B58_DIGITS") 489), (Value.str (Str.ofString "123456789ABCDEFGHJKLMNPQRSTUVWXYZabcdefghijkmnopqrstuvwxyz") 488)⟩, ⟨(PyData.keyHash P (Str.ofString "encode")), (Value.str (Str.ofString "encode") 502), (Value.ref 197)⟩, ⟨(PyData.keyHash P (Str.ofString "encode_base58")), (Value.str (Str.ofString "encode_base58") 503), (Value.ref 106)⟩, ⟨(PyData.keyHash P (Str.ofString "decode")), (Value.str (Str.ofString "decode") 515), (Value.ref 190)⟩, ⟨(PyData.keyHash P (Str.ofString "decode_base58")), (Value.str (Str.ofString "decode_base58") 516), (Value.ref 113)⟩, ⟨(PyData.keyHash P (Str.ofString "encode_check")), (Value.str (Str.ofString "encode_check") 523), (Value.ref 120)⟩, ⟨(PyData.keyHash P (Str.ofString "decode_check")), (Value.str (Str.ofString "decode_check") 532), (Value.ref 127)⟩, ⟨(PyData.keyHash P (Str.ofString "CHARSET")), (Value.str (Str.ofString "CHARSET") 536), (Value.str (Str.ofString "qpzry9x8gf2tvdw0s3jn54khce6mua7l") 535)⟩, ⟨(PyData.keyHash P (Str.ofString "BECH32_CONST")), (Value.str (Str.ofString "BECH32_CONST") 538), (Value.int 1 537)⟩, ⟨(PyData.keyHash P (Str.ofString "BECH32M_CONST")), (Value.str (Str.ofString "BECH32M_CONST") 540), (Value.int 734539939 539)⟩, ⟨(PyData.keyHash P (Str.ofString "Encoding")), (Value.str (Str.ofString "Encoding") 564), (Value.ref 137)⟩, ⟨(PyData.keyHash P (Str.ofString "bech32_polymod")), (Value.str (Str.ofString "bech32_polymod") 576), (Value.ref 148)⟩, ⟨(PyData.keyHash P (Str.ofString "bech32_hrp_expand")), (Value.str (Str.ofString "bech32_hrp_expand") 582), (Value.ref 153)⟩, ⟨(PyData.keyHash P (Str.ofString "bech32_verify_checksum")), (Value.str (Str.ofString "bech32_verify_checksum") 591), (Value.ref 160)⟩, ⟨(PyData.keyHash P (Str.ofString "bech32_create_checksum")), (Value.str (Str.ofString "bech32_create_checksum") 597), (Value.ref 165)⟩, ⟨(PyData.keyHash P (Str.ofString "bech32_encode")), (Value.str (Str.ofString "bech32_encode") 603), (Value.ref 170)⟩, ⟨(PyData.keyHash P (Str.ofString "bech32_decode")), (Value.str (Str.ofString "bech32_decode") 609), (Value.ref 175)⟩, ⟨(PyData.keyHash P (Str.ofString "convertbits")), (Value.str (Str.ofString "convertbits") 625), (Value.ref 183)⟩, ⟨(PyData.keyHash P (Str.ofString "decode_bech32")), (Value.str (Str.ofString "decode_bech32") 638), (Value.ref 190)⟩, ⟨(PyData.keyHash P (Str.ofString "encode_bech32")), (Value.str (Str.ofString "encode_bech32") 650), (Value.ref 197)⟩, ⟨(PyData.keyHash P (Str.ofString "to_bytes")), (Value.str (Str.ofString "to_bytes") 660), (Value.ref 204)⟩, ⟨(PyData.keyHash P (Str.ofString "_whence")), (Value.str (Str.ofString "_whence") 670), (Value.ref 211)⟩, ⟨(PyData.keyHash P (Str.ofString "_index")), (Value.str (Str.ofString "_index") 678), (Value.ref 218)⟩, ⟨(PyData.keyHash P (Str.ofString "UnsupportedOperation")), (Value.str (Str.ofString "UnsupportedOperation") 700), (Value.ref 228)⟩, ⟨(PyData.keyHash P (Str.ofString "IOBase")), (Value.str (Str.ofString "IOBase") 732), (Value.ref 248)⟩, ⟨(PyData.keyHash P (Str.ofString "BufferedIOBase")), (Value.str (Str.ofString "BufferedIOBase") 750), (Value.ref 263)⟩, ⟨(PyData.keyHash P (Str.ofString "TextIOBase")), (Value.str (Str.ofString "TextIOBase") 768), (Value.ref 275)⟩, ⟨(PyData.keyHash P (Str.ofString "BytesIO")), (Value.str (Str.ofString "BytesIO") 1030), (Value.ref 505)⟩, ⟨(PyData.keyHash P (Str.ofString "StringIO")), (Value.str (Str.ofString "StringIO") 1317), (Value.ref 752)⟩, ⟨(PyData.keyHash P (Str.ofString "EmbitError")), (Value.str (Str.ofString "EmbitError") 1339), (Value.ref 764)⟩, ⟨(PyData.keyHash P (Str.ofString "EmbitBase")), (Value.str (Str.ofString "EmbitBase") 1479), (Value.ref 849)⟩, ⟨(PyData.keyHash P (Str.ofString "Script")), (Value.str (Str.ofString "Script") 1610), (Value.ref 941)⟩, ⟨(PyData.keyHash P (Str.ofString "address_to_scriptpubkey")), (Value.str (Str.ofString "address_to_scriptpubkey") 1622), (Value.ref 950)⟩, ⟨(PyData.keyHash P (Str.ofString "_law_frames")), (Value.str (Str.ofString "_law_frames") 1630), (Value.ref 957)⟩, ⟨(PyData.keyHash P (Str.ofString "_law_nets")), (Value.str (Str.ofString "_law_nets") 1643), (Value.ref 962)⟩, ⟨(PyData.keyHash P (Str.ofString "_law_number")), (Value.str (Str.ofString "_law_number") 1651), (Value.ref 969)⟩, ⟨(PyData.keyHash P (Str.ofString "_law_octets")), (Value.str (Str.ofString "_law_octets") 1659), (Value.ref 976)⟩, ⟨(PyData.keyHash P (Str.ofString "_law_made")), (Value.str (Str.ofString "_law_made") 1674), (Value.ref 983)⟩, ⟨(PyData.keyHash P (Str.ofString "_law_kind")), (Value.str (Str.ofString "_law_kind") 1685), (Value.ref 990)⟩, ⟨(PyData.keyHash P (Str.ofString "_law_address")), (Value.str (Str.ofString "_law_address") 1693), (Value.ref 997)⟩, ⟨(PyData.keyHash P (Str.ofString "law")), (Value.str (Str.ofString "law") 1711), (Value.ref 1004)⟩] 56), #[]⟩) ::
    (nat_lit 15, ⟨(Value.type "tuple"), none, (Data.seq #[] 0), #[]⟩) ::
    (nat_lit 22, ⟨(Value.type "dict"), none, (Data.dict #[⟨(PyData.keyHash P (Str.ofString "main")), (Value.str (Str.ofString "main") 194), (Value.ref 23)⟩, ⟨(PyData.keyHash P (Str.ofString "test")), (Value.str (Str.ofString "test") 240), (Value.ref 24)⟩, ⟨(PyData.keyHash P (Str.ofString "regtest")), (Value.str (Str.ofString "regtest") 286), (Value.ref 25)⟩, ⟨(PyData.keyHash P (Str.ofString "signet")), (Value.str (Str.ofString "signet") 332), (Value.ref 26)⟩] 4), #[]⟩) ::
    (nat_lit 23, ⟨(Value.type "dict"), none, (Data.dict #[⟨(PyData.keyHash P (Str.ofString "name")), (Value.str (Str.ofString "name") 195), (Value.str (Str.ofString "Mainnet") 196)⟩, ⟨(PyData.keyHash P (Str.ofString "wif")), (Value.str (Str.ofString "wif") 197), (Value.bytes #[128] 198)⟩, ⟨(PyData.keyHash P (Str.ofString "p2pkh")), (Value.str (Str.ofString "p2pkh") 199), (Value.bytes #[0] 200)⟩, ⟨(PyData.keyHash P (Str.ofString "p2sh")), (Value.str (Str.ofString "p2sh") 201), (Value.bytes #[5] 202)⟩, ⟨(PyData.keyHash P (Str.ofString "bech32")), (Value.str (Str.ofString "bech32") 203), (Value.str (Str.ofString "bc") 204)⟩, ⟨(PyData.keyHash P (Str.ofString "xprv")), (Value.str (Str.ofString "xprv") 205), (Value.bytes #[4, 136, 173, 228] 206)⟩, ⟨(PyData.keyHash P (Str.ofString "xpub")), (Value.str (Str.ofString "xpub") 207), (Value.bytes #[4, 136, 178, 30] 208)⟩, ⟨(PyData.keyHash P (Str.ofString "yprv")), (Value.str (Str.ofString "yprv") 209), (Value.bytes #[4, 157, 120, 120] 210)⟩, ⟨(PyData.keyHash P (Str.ofString "zprv")), (Value.str (Str.ofString "zprv") 211), (Value.bytes #[4, 178, 67, 12] 212)⟩, ⟨(PyData.keyHash P (Str.ofString "Yprv")), (Value.str (Str.ofString "Yprv") 213), (Value.bytes #[2, 149, 176, 5] 214)⟩, ⟨(PyData.keyHash P (Str.ofString "Zprv")), (Value.str (Str.ofString "Zprv") 215), (Value.bytes #[2, 170, 122, 153] 216)⟩, ⟨(PyData.keyHash P (Str.ofString "ypub")), (Value.str (Str.ofString "ypub") 217), (Value.bytes #[4, 157, 124, 178] 218)⟩, ⟨(PyData.keyHash P (Str.ofString "zpub")), (Value.str (Str.ofString "zpub") 219), (Value.bytes #[4, 178, 71, 70] 220)⟩, ⟨(PyData.keyHash P (Str.ofString "Ypub")), (Value.str (Str.ofString "Ypub") 221), (Value.bytes #[2, 149, 180, 63] 222)⟩, ⟨(PyData.keyHash P (Str.ofString "Zpub")), (Value.str (Str.ofString "Zpub") 223), (Value.bytes #[2, 170, 126, 211] 224)⟩] 15), #[]⟩) ::
    (nat_lit 24, ⟨(Value.type "dict"), none, (Data.dict #[⟨(PyData.keyHash P (Str.ofString "name")), (Value.str (Str.ofString "name") 241), (Value.str (Str.ofString "Testnet") 242)⟩, ⟨(PyData.keyHash P (Str.ofString "wif")), (Value.str (Str.ofString "wif") 243), (Value.bytes #[239] 244)⟩, ⟨(PyData.keyHash P (Str.ofString "p2pkh")), (Value.str (Str.ofString "p2pkh") 245), (Value.bytes #[111] 246)⟩, ⟨(PyData.keyHash P (Str.ofString "p2sh")), (Value.str (Str.ofString "p2sh") 247), (Value.bytes #[196] 248)⟩, ⟨(PyData.keyHash P (Str.ofString "bech32")), (Value.str (Str.ofString "bech32") 249), (Value.str (Str.ofString "tb") 250)⟩, ⟨(PyData.keyHash P (Str.ofString "xprv")), (Value.str (Str.ofString "xprv") 251), (Value.bytes #[4, 53, 131, 148] 252)⟩, ⟨(PyData.keyHash P (Str.ofString "xpub")), (Value.str (Str.ofString "xpub") 253), (Value.bytes #[4, 53, 135, 207] 254)⟩, ⟨(PyData.keyHash P (Str.ofString "yprv")), (Value.str (Str.ofString "yprv") 255), (Value.bytes #[4, 74, 78, 40] 256)⟩, ⟨(PyData.keyHash P (Str.ofString "zprv")), (Value.str (Str.ofString "zprv") 257), (Value.bytes #[4, 95, 24, 188] 258)⟩, ⟨(PyData.keyHash P (Str.ofString "Yprv")), (Value.str (Str.ofString "Yprv") 259), (Value.bytes #[2, 66, 133, 181] 260)⟩, ⟨(PyData.keyHash P (Str.ofString "Zprv")), (Value.str (Str.ofString "Zprv") 261), (Value.bytes #[2, 87, 80, 72] 262)⟩, ⟨(PyData.keyHash P (Str.ofString "ypub")), (Value.str (Str.ofString "ypub") 263), (Value.bytes #[4, 74, 82, 98] 264)⟩, ⟨(PyData.keyHash P (Str.ofString "zpub")), (Value.str (Str.ofString "zpub") 265), (Value.bytes #[4, 95, 28, 246] 266)⟩, ⟨(PyData.keyHash P (Str.ofString "Ypub")), (Value.str (Str.ofString "Ypub") 267), (Value.bytes #[2, 66, 137, 239] 268)⟩, ⟨(PyData.keyHash P (Str.ofString "Zpub")), (Value.str (Str.ofString "Zpub") 269), (Value.bytes #[2, 87, 84, 131] 270)⟩] 15), #[]⟩) ::
    (nat_lit 25, ⟨(Value.type "dict"), none, (Data.dict #[⟨(PyData.keyHash P (Str.ofString "name")), (Value.str (Str.ofString "name") 287), (Value.str (Str.ofString "Regtest") 288)⟩, ⟨(PyData.keyHash P (Str.ofString "wif")), (Value.str (Str.ofString "wif") 289), (Value.bytes #[239] 290)⟩, ⟨(PyData.keyHash P (Str.ofString "p2pkh")), (Value.str (Str.ofString "p2pkh") 291), (Value.bytes #[111] 292)⟩, ⟨(PyData.keyHash P (Str.ofString "p2sh")), (Value.str (Str.ofString "p2sh") 293), (Value.bytes #[196] 294)⟩, ⟨(PyData.keyHash P (Str.ofString "bech32")), (Value.str (Str.ofString "bech32") 295), (Value.str (Str.ofString "bcrt") 296)⟩, ⟨(PyData.keyHash P (Str.ofString "xprv")), (Value.str (Str.ofString "xprv") 297), (Value.bytes #[4, 53, 131, 148] 298)⟩, ⟨(PyData.keyHash P (Str.ofString "xpub")), (Value.str (Str.ofString "xpub") 299), (Value.bytes #[4, 53, 135, 207] 300)⟩, ⟨(PyData.keyHash P (Str.ofString "yprv")), (Value.str (Str.ofString "yprv") 301), (Value.bytes #[4, 74, 78, 40] 302)⟩, ⟨(PyData.keyHash P (Str.ofString "zprv")), (Value.str (Str.ofString "zprv") 303), (Value.bytes #[4, 95, 24, 188] 304)⟩, ⟨(PyData.keyHash P (Str.ofString "Yprv")), (Value.str (Str.ofString "Yprv") 305), (Value.bytes #[2, 66, 133, 181] 306)⟩, ⟨(PyData.keyHash P (Str.ofString "Zprv")), (Value.str (Str.ofString "Zprv") 307), (Value.bytes #[2, 87, 80, 72] 308)⟩, ⟨(PyData.keyHash P (Str.ofString "ypub")), (Value.str (Str.ofString "ypub") 309), (Value.bytes #[4, 74, 82, 98] 310)⟩, ⟨(PyData.keyHash P (Str.ofString "zpub")), (Value.str (Str.ofString "zpub") 311), (Value.bytes #[4, 95, 28, 246] 312)⟩, ⟨(PyData.keyHash P (Str.ofString "Ypub")), (Value.str (Str.ofString "Ypub") 313), (Value.bytes #[2, 66, 137, 239] 314)⟩, ⟨(PyData.keyHash P (Str.ofString "Zpub")), (Value.str (Str.ofString "Zpub") 315), (Value.bytes #[2, 87, 84, 131] 316)⟩] 15), #[]⟩) ::
    (nat_lit 26, ⟨(Value.type "dict"), none, (Data.dict #[⟨(PyData.keyHash P (Str.ofString "name")), (Value.str (Str.ofString "name") 333), (Value.str (Str.ofString "Signet") 334)⟩, ⟨(PyData.keyHash P (Str.ofString "wif")), (Value.str (Str.ofString "wif") 335), (Value.bytes #[239] 336)⟩, ⟨(PyData.keyHash P (Str.ofString "p2pkh")), (Value.str (Str.ofString "p2pkh") 337), (Value.bytes #[111] 338)⟩, ⟨(PyData.keyHash P (Str.ofString "p2sh")), (Value.str (Str.ofString "p2sh") 339), (Value.bytes #[196] 340)⟩, ⟨(PyData.keyHash P (Str.ofString "bech32")), (Value.str (Str.ofString "bech32") 341), (Value.str (Str.ofString "tb") 342)⟩, ⟨(PyData.keyHash P (Str.ofString "xprv")), (Value.str (Str.ofString "xprv") 343), (Value.bytes #[4, 53, 131, 148] 344)⟩, ⟨(PyData.keyHash P (Str.ofString "xpub")), (Value.str (Str.ofString "xpub") 345), (Value.bytes #[4, 53, 135, 207] 346)⟩, ⟨(PyData.keyHash P (Str.ofString "yprv")), (Value.str (Str.ofString "yprv") 347), (Value.bytes #[4, 74, 78, 40] 348)⟩, ⟨(PyData.keyHash P (Str.ofString "zprv")), (Value.str (Str.ofString "zprv") 349), (Value.bytes #[4, 95, 24, 188] 350)⟩, ⟨(PyData.keyHash P (Str.ofString "Yprv")), (Value.str (Str.ofString "Yprv") 351), (Value.bytes #[2, 66, 133, 181] 352)⟩, ⟨(PyData.keyHash P (Str.ofString "Zprv")), (Value.str (Str.ofString "Zprv") 353), (Value.bytes #[2, 87, 80, 72] 354)⟩, ⟨(PyData.keyHash P (Str.ofString "ypub")), (Value.str (Str.ofString "ypub") 355), (Value.bytes #[4, 74, 82, 98] 356)⟩, ⟨(PyData.keyHash P (Str.ofString "zpub")), (Value.str (Str.ofString "zpub") 357), (Value.bytes #[4, 95, 28, 246] 358)⟩, ⟨(PyData.keyHash P (Str.ofString "Ypub")), (Value.str (Str.ofString "Ypub") 359), (Value.bytes #[2, 66, 137, 239] 360)⟩, ⟨(PyData.keyHash P (Str.ofString "Zpub")), (Value.str (Str.ofString "Zpub") 361), (Value.bytes #[2, 87, 84, 131] 362)⟩] 15), #[]⟩) ::
    (nat_lit 39, ⟨(Value.type "tuple"), none, (Data.seq #[(Value.bytes #[] 403)] 0), #[]⟩) ::
    (nat_lit 40, ⟨(Value.type "tuple"), none, (Data.seq #[] 0), #[]⟩) ::
    (nat_lit 42, ⟨(Value.type "tuple"), none, (Data.seq #[(Value.str (Str.ofString "self") 407), (Value.str (Str.ofString "data") 408)] 0), #[]⟩) ::
    (nat_lit 43, ⟨(Value.type "tuple"), none, (Data.seq #[] 0), #[]⟩) ::
    (nat_lit 45, ⟨(Value.type "code"), none, (Data.fields #[(Value.str (Str.ofString "__init__") 404), (Value.str (Str.ofString "Sha256.__init__") 405), (Value.str (Str.ofString "/claim/cut.py") 406), (Value.int 11 0), (Value.int 2 0), (Value.int 0 0), (Value.int 0 0), (Value.int 3 0), (Value.ref 40), (Value.bool Bool.true), (Value.int 181 0), (Value.ref 41), Value.none, (Value.ref 42), (Value.ref 43), (Value.ref 44), (Value.int 409 0), (Value.int 11 0), (Value.str (Str.ofString "/claim/cut.py") 410)]), #[]⟩) ::
    (nat_lit 46, ⟨(Value.type "function"), none, (Data.func ⟨(Str.ofString "__init__"), (Str.ofString "Sha256.__init__"), a46, (FuncBody.stmts b46), s46, 3, [], (Value.ref 39), Value.none, Value.none, (Value.str (Str.ofString "embit.misc") 383), none, (Value.ref 45), Value.none, 0⟩), #[]⟩) ::
    (nat_lit 54, ⟨(Value.type "tuple"), none, (Data.seq #[] 0), #[]⟩) ::
    (nat_lit 56, ⟨(Value.type "tuple"), none, (Data.seq #[(Value.str (Str.ofString "self") 423), (Value.str (Str.ofString "number") 424)] 0), #[]⟩) ::
    (nat_lit 57, ⟨(Value.type "tuple"), none, (Data.seq #[] 0), #[]⟩) ::
    (nat_lit 59, ⟨(Value.type "code"), none, (Data.fields #[(Value.str (Str.ofString "digest") 420), (Value.str (Str.ofString "Sha256.digest") 421), (Value.str (Str.ofString "/claim/cut.py") 422), (Value.int 17 0), (Value.int 1 0), (Value.int 0 0), (Value.int 0 0), (Value.int 3 0), (Value.ref 54), (Value.bool Bool.true), (Value.int 181 0), (Value.ref 55), Value.none, (Value.ref 56), (Value.ref 57), (Value.ref 58), (Value.int 425 0), (Value.int 17 0), (Value.str (Str.ofString "/claim/cut.py") 426)]), #[]⟩) ::
    (nat_lit 60, ⟨(Value.type "function"), none, (Data.func ⟨(Str.ofString "digest"), (Str.ofString "Sha256.digest"), a60, (FuncBody.stmts b60), s60, 3, [], Value.none, Value.none, Value.none, (Value.str (Str.ofString "embit.misc") 383), none, (Value.ref 59), Value.none, 0⟩), #[]⟩) ::
    (nat_lit 61, ⟨(Value.type "tuple"), none, (Data.seq #[(Value.str (Str.ofString "data") 428)] 0), #[]⟩) ::
    (nat_lit 62, ⟨(Value.type "dict"), none, (Data.dict #[⟨(PyData.keyHash P (Str.ofString "__module__")), (Value.str (Str.ofString "__module__") 398), (Value.str (Str.ofString "embit.misc") 383)⟩, ⟨(PyData.keyHash P (Str.ofString "__firstlineno__")), (Value.str (Str.ofString "__firstlineno__") 402), (Value.int 9 401)⟩, ⟨(PyData.keyHash P (Str.ofString "__init__")), (Value.str (Str.ofString "__init__") 411), (Value.ref 46)⟩, ⟨(PyData.keyHash P (Str.ofString "update")), (Value.str (Str.ofString "update") 419), (Value.ref 53)⟩, ⟨(PyData.keyHash P (Str.ofString "digest")), (Value.str (Str.ofString "digest") 427), (Value.ref 60)⟩, ⟨(PyData.keyHash P (Str.ofString "__static_attributes__")), (Value.str (Str.ofString "__static_attributes__") 429), (Value.ref 61)⟩, ⟨(PyData.keyHash P (Str.ofString "__dict__")), (Value.str (Str.ofString "__dict__") 431), (Value.ref 64)⟩, ⟨(PyData.keyHash P (Str.ofString "__weakref__")), (Value.str (Str.ofString "__weakref__") 433), (Value.ref 65)⟩, ⟨(PyData.keyHash P (Str.ofString "__doc__")), (Value.str (Str.ofString "__doc__") 434), Value.none⟩] 4), #[]⟩) ::
    (nat_lit 63, ⟨(Value.type "type"), none, (Data.cls ⟨(Str.ofString "Sha256"), [(Value.type "object")], [(Value.ref 63), (Value.type "object")], 62, (Str.ofString "Sha256"), Bool.true, [], [], Bool.false, none, Bool.false⟩), #[none, none, (some (Value.str (Str.ofString "Sha256") 391)), (some (Value.str (Str.ofString "Sha256") 399)), (some (Value.builtin "object.__new__")), (some (Value.bool Bool.true))]⟩) ::
    (nat_lit 64, ⟨(Value.type "getset_descriptor"), none, (Data.fields #[(Value.str (Str.ofString "__dict__") 430), (Value.ref 63), (Value.builtin "function.__dict__"), (Value.builtin "function.__dict__#set")]), #[]⟩) ::
    (nat_lit 65, ⟨(Value.type "getset_descriptor"), none, (Data.fields #[(Value.str (Str.ofString "__weakref__") 432), (Value.ref 63), (Value.builtin "ExceptionGroup.__weakref__"), Value.none]), #[]⟩) ::
    (nat_lit 75, ⟨(Value.type "tuple"), none, (Data.seq #[(Value.bytes #[] 449)] 0), #[]⟩) ::
    (nat_lit 76, ⟨(Value.type "tuple"), none, (Data.seq #[] 0), #[]⟩) ::
    (nat_lit 78, ⟨(Value.type "tuple"), none, (Data.seq #[(Value.str (Str.ofString "data") 453)] 0), #[]⟩) ::
    (nat_lit 79, ⟨(Value.type "tuple"), none, (Data.seq #[] 0), #[]⟩) ::
    (nat_lit 81, ⟨(Value.type "code"), none, (Data.fields #[(Value.str (Str.ofString "sha256") 450), (Value.str (Str.ofString "hashlib.sha256") 451), (Value.str (Str.ofString "/claim/cut.py") 452), (Value.int 22 0), (Value.int 1 0), (Value.int 0 0), (Value.int 0 0), (Value.int 3 0), (Value.ref 76), (Value.bool Bool.true), (Value.int 181 0), (Value.ref 77), Value.none, (Value.ref 78), (Value.ref 79), (Value.ref 80), (Value.int 454 0), (Value.int 22 0), (Value.str (Str.ofString "/claim/cut.py") 455)]), #[]⟩) ::
    (nat_lit 82, ⟨(Value.type "function"), none, (Data.func ⟨(Str.ofString "sha256"), (Str.ofString "hashlib.sha256"), a82, (FuncBody.stmts b82), s82, 3, [], (Value.ref 75), Value.none, Value.none, (Value.str (Str.ofString "embit.misc") 383), (some 85), (Value.ref 81), Value.none, 0⟩), #[]⟩) ::
    (nat_lit 83, ⟨(Value.type "dict"), none, (Data.dict #[⟨(PyData.keyHash P (Str.ofString "__module__")), (Value.str (Str.ofString "__module__") 457), (Value.str (Str.ofString "embit.misc") 383)⟩, ⟨(PyData.keyHash P (Str.ofString "__name__")), (Value.str (Str.ofString "__name__") 460), (Value.str (Str.ofString "sha256") 459)⟩, ⟨(PyData.keyHash P (Str.ofString "__qualname__")), (Value.str (Str.ofString "__qualname__") 463), (Value.str (Str.ofString "hashlib.sha256") 462)⟩, ⟨(PyData.keyHash P (Str.ofString "__doc__")), (Value.str (Str.ofString "__doc__") 465), Value.none⟩, ⟨(PyData.keyHash P (Str.ofString "__annotations__")), (Value.str (Str.ofString "__annotations__") 467), (Value.ref 85)⟩] 5), #[]⟩) ::
    (nat_lit 84, ⟨(Value.type "staticmethod"), (some 83), (Data.fields #[(Value.ref 82), (Value.bool Bool.false)]), #[]⟩) ::
    (nat_lit 85, ⟨(Value.type "dict"), none, (Data.dict #[] 0), #[]⟩) ::
    (nat_lit 86, ⟨(Value.type "tuple"), none, (Data.seq #[] 0), #[]⟩) ::
    (nat_lit 87, ⟨(Value.type "dict"), none, (Data.dict #[⟨(PyData.keyHash P (Str.ofString "__module__")), (Value.str (Str.ofString "__module__") 444), (Value.str (Str.ofString "embit.misc") 383)⟩, ⟨(PyData.keyHash P (Str.ofString "__firstlineno__")), (Value.str (Str.ofString "__firstlineno__") 448), (Value.int 20 447)⟩, ⟨(PyData.keyHash P (Str.ofString "sha256")), (Value.str (Str.ofString "sha256") 468), (Value.ref 84)⟩, ⟨(PyData.keyHash P (Str.ofString "__static_attributes__")), (Value.str (Str.ofString "__static_attributes__") 469), (Value.ref 86)⟩, ⟨(PyData.keyHash P (Str.ofString "__dict__")), (Value.str (Str.ofString "__dict__") 471), (Value.ref 89)⟩, ⟨(PyData.keyHash P (Str.ofString "__weakref__")), (Value.str (Str.ofString "__weakref__") 473), (Value.ref 90)⟩, ⟨(PyData.keyHash P (Str.ofString "__doc__")), (Value.str (Str.ofString "__doc__") 474), Value.none⟩] 4), #[]⟩) ::
    (nat_lit 88, ⟨(Value.type "type"), none, (Data.cls ⟨(Str.ofString "hashlib"), [(Value.type "object")], [(Value.ref 88), (Value.type "object")], 87, (Str.ofString "hashlib"), Bool.true, [], [], Bool.false, none, Bool.false⟩), #[none, none, (some (Value.str (Str.ofString "hashlib") 437)), (some (Value.str (Str.ofString "hashlib") 445)), (some (Value.builtin "object.__new__")), (some (Value.bool Bool.true))]⟩) ::
    (nat_lit 89, ⟨(Value.type "getset_descriptor"), none, (Data.fields #[(Value.str (Str.ofString "__dict__") 470), (Value.ref 88), (Value.builtin "function.__dict__"), (Value.builtin "function.__dict__#set")]), #[]⟩) ::
    (nat_lit 90, ⟨(Value.type "getset_descriptor"), none, (Data.fields #[(Value.str (Str.ofString "__weakref__") 472), (Value.ref 88), (Value.builtin "ExceptionGroup.__weakref__"), Value.none]), #[]⟩) ::
    (nat_lit 93, ⟨(Value.type "tuple"), none, (Data.seq #[] 0), #[]⟩) ::
    (nat_lit 95, ⟨(Value.type "tuple"), none, (Data.seq #[(Value.str (Str.ofString "msg") 482)] 0), #[]⟩) ::
    (nat_lit 96, ⟨(Value.type "tuple"), none, (Data.seq #[] 0), #[]⟩) ::
    (nat_lit 98, ⟨(Value.type "code"), none, (Data.fields #[(Value.str (Str.ofString "double_sha256") 479), (Value.str (Str.ofString "double_sha256") 480), (Value.str (Str.ofString "/claim/cut.py") 481), (Value.int 26 0), (Value.int 1 0), (Value.int 0 0), (Value.int 0 0), (Value.int 3 0), (Value.ref 93), (Value.bool Bool.true), (Value.int 181 0), (Value.ref 94), Value.none, (Value.ref 95), (Value.ref 96), (Value.ref 97), (Value.int 483 0), (Value.int 26 0), (Value.str (Str.ofString "/claim/cut.py") 484)]), #[]⟩) ::
    (nat_lit 99, ⟨(Value.type "function"), none, (Data.func ⟨(Str.ofString "double_sha256"), (Str.ofString "double_sha256"), a99, (FuncBody.stmts b99), s99, 3, [], Value.none, Value.none, Value.none, (Value.str (Str.ofString "embit.hashes") 477), none, (Value.ref 98), Value.none, 0⟩), #[]⟩) ::
    (nat_lit 100, ⟨(Value.type "tuple"), none, (Data.seq #[] 0), #[]⟩) ::
    (nat_lit 102, ⟨(Value.type "tuple"), none, (Data.seq #[(Value.str (Str.ofString "b") 493), (Value.str (Str.ofString "n") 494), (Value.str (Str.ofString "chars") 495), (Value.str (Str.ofString "r") 496), (Value.str (Str.ofString "result") 497), (Value.str (Str.ofString "pad") 498), (Value.str (Str.ofString "c") 499)] 0), #[]⟩) ::
    (nat_lit 103, ⟨(Value.type "tuple"), none, (Data.seq #[] 0), #[]⟩) ::
    (nat_lit 105, ⟨(Value.type "code"), none, (Data.fields #[(Value.str (Str.ofString "encode") 490), (Value.str (Str.ofString "encode") 491), (Value.str (Str.ofString "/claim/cut.py") 492), (Value.int 30 0), (Value.int 1 0), (Value.int 0 0), (Value.int 0 0), (Value.int 3 0), (Value.ref 100), (Value.bool Bool.true), (Value.int 181 0), (Value.ref 101), Value.none, (Value.ref 102), (Value.ref 103), (Value.ref 104), (Value.int 500 0), (Value.int 30 0), (Value.str (Str.ofString "/claim/cut.py") 501)]), #[]⟩) ::
    (nat_lit 106, ⟨(Value.type "function"), none, (Data.func ⟨(Str.ofString "encode"), (Str.ofString "encode"), a106, (FuncBody.stmts b106), s106, 3, [], Value.none, Value.none, Value.none, (Value.str (Str.ofString "embit.base58") 486), none, (Value.ref 105), Value.none, 0⟩), #[]⟩) ::
    (nat_lit 107, ⟨(Value.type "tuple"), none, (Data.seq #[] 0), #[]⟩) ::
    (nat_lit 109, ⟨(Value.type "tuple"), none, (Data.seq #[(Value.str (Str.ofString "s") 507), (Value.str (Str.ofString "n") 508), (Value.str (Str.ofString "c") 509), (Value.str (Str.ofString "digit") 510), (Value.str (Str.ofString "res") 511), (Value.str (Str.ofString "pad") 512)] 0), #[]⟩) ::
    (nat_lit 110, ⟨(Value.type "tuple"), none, (Data.seq #[] 0), #[]⟩) ::
    (nat_lit 112, ⟨(Value.type "code"), none, (Data.fields #[(Value.str (Str.ofString "decode") 504), (Value.str (Str.ofString "decode") 505), (Value.str (Str.ofString "/claim/cut.py") 506), (Value.int 45 0), (Value.int 1 0), (Value.int 0 0), (Value.int 0 0), (Value.int 3 0), (Value.ref 107), (Value.bool Bool.true), (Value.int 181 0), (Value.ref 108), Value.none, (Value.ref 109), (Value.ref 110), (Value.ref 111), (Value.int 513 0), (Value.int 45 0), (Value.str (Str.ofString "/claim/cut.py") 514)]), #[]⟩) ::
    (nat_lit 113, ⟨(Value.type "function"), none, (Data.func ⟨(Str.ofString "decode"), (Str.ofString "decode"), a113, (FuncBody.stmts b113), s113, 3, [], Value.none, Value.none, Value.none, (Value.str (Str.ofString "embit.base58") 486), none, (Value.ref 112), Value.none, 0⟩), #[]⟩) ::
    (nat_lit 114, ⟨(Value.type "tuple"), none, (Data.seq #[] 0), #[]⟩) ::
    (nat_lit 116, ⟨(Value.type "tuple"), none, (Data.seq #[(Value.str (Str.ofString "b") 520)] 0), #[]⟩) ::
    (nat_lit 117, ⟨(Value.type "tuple"), none, (Data.seq #[] 0), #[]⟩) ::
    (nat_lit 119, ⟨(Value.type "code"), none, (Data.fields #[(Value.str (Str.ofString "encode_check") 517), (Value.str (Str.ofString "encode_check") 518), (Value.str (Str.ofString "/claim/cut.py") 519), (Value.int 64 0), (Value.int 1 0), (Value.int 0 0), (Value.int 0 0), (Value.int 3 0), (Value.ref 114), (Value.bool Bool.true), (Value.int 181 0), (Value.ref 115), Value.none, (Value.ref 116), (Value.ref 117), (Value.ref 118), (Value.int 521 0), (Value.int 64 0), (Value.str (Str.ofString "/claim/cut.py") 522)]), #[]⟩) ::
    (nat_lit 120, ⟨(Value.type "function"), none, (Data.func ⟨(Str.ofString "encode_check"), (Str.ofString "encode_check"), a120, (FuncBody.stmts b120), s120, 3, [], Value.none, Value.none, Value.none, (Value.str (Str.ofString "embit.base58") 486), none, (Value.ref 119), Value.none, 0⟩), #[]⟩) ::
    (nat_lit 121, ⟨(Value.type "tuple"), none, (Data.seq #[] 0), #[]⟩) ::
    (nat_lit 123, ⟨(Value.type "tuple"), none, (Data.seq #[(Value.str (Str.ofString "s") 527), (Value.str (Str.ofString "b") 528), (Value.str (Str.ofString "checksum") 529)] 0), #[]⟩) ::
    (nat_lit 124, ⟨(Value.type "tuple"), none, (Data.seq #[] 0), #[]⟩) ::
    (nat_lit 126, ⟨(Value.type "code"), none, (Data.fields #[(Value.str (Str.ofString "decode_check") 524), (Value.str (Str.ofString "decode_check") 525), (Value.str (Str.ofString "/claim/cut.py") 526), (Value.int 66 0), (Value.int 1 0), (Value.int 0 0), (Value.int 0 0), (Value.int 3 0), (Value.ref 121), (Value.bool Bool.true), (Value.int 181 0), (Value.ref 122), Value.none, (Value.ref 123), (Value.ref 124), (Value.ref 125), (Value.int 530 0), (Value.int 66 0), (Value.str (Str.ofString "/claim/cut.py") 531)]), #[]⟩) ::
    (nat_lit 127, ⟨(Value.type "function"), none, (Data.func ⟨(Str.ofString "decode_check"), (Str.ofString "decode_check"), a127, (FuncBody.stmts b127), s127, 3, [], Value.none, Value.none, Value.none, (Value.str (Str.ofString "embit.base58") 486), none, (Value.ref 126), Value.none, 0⟩), #[]⟩) ::
    (nat_lit 135, ⟨(Value.type "tuple"), none, (Data.seq #[] 0), #[]⟩) ::
    (nat_lit 136, ⟨(Value.type "dict"), none, (Data.dict #[⟨(PyData.keyHash P (Str.ofString "__module__")), (Value.str (Str.ofString "__module__") 548), (Value.str (Str.ofString "embit.bech32") 533)⟩, ⟨(PyData.keyHash P (Str.ofString "__firstlineno__")), (Value.str (Str.ofString "__firstlineno__") 552), (Value.int 76 551)⟩, ⟨(PyData.keyHash P (Str.ofString "BECH32")), (Value.str (Str.ofString "BECH32") 554), (Value.int 1 553)⟩, ⟨(PyData.keyHash P (Str.ofString "BECH32M")), (Value.str (Str.ofString "BECH32M") 556), (Value.int 2 555)⟩, ⟨(PyData.keyHash P (Str.ofString "__static_attributes__")), (Value.str (Str.ofString "__static_attributes__") 557), (Value.ref 135)⟩, ⟨(PyData.keyHash P (Str.ofString "__dict__")), (Value.str (Str.ofString "__dict__") 559), (Value.ref 138)⟩, ⟨(PyData.keyHash P (Str.ofString "__weakref__")), (Value.str (Str.ofString "__weakref__") 561), (Value.ref 139)⟩, ⟨(PyData.keyHash P (Str.ofString "__doc__")), (Value.str (Str.ofString "__doc__") 562), Value.none⟩] 4), #[]⟩) ::
    (nat_lit 137, ⟨(Value.type "type"), none, (Data.cls ⟨(Str.ofString "Encoding"), [(Value.type "object")], [(Value.ref 137), (Value.type "object")], 136, (Str.ofString "Encoding"), Bool.true, [], [], Bool.false, none, Bool.false⟩), #[none, none, (some (Value.str (Str.ofString "Encoding") 541)), (some (Value.str (Str.ofString "Encoding") 549)), (some (Value.builtin "object.__new__")), (some (Value.bool Bool.true))]⟩) ::
    (nat_lit 138, ⟨(Value.type "getset_descriptor"), none, (Data.fields #[(Value.str (Str.ofString "__dict__") 558), (Value.ref 137), (Value.builtin "function.__dict__"), (Value.builtin "function.__dict__#set")]), #[]⟩) ::
    (nat_lit 139, ⟨(Value.type "getset_descriptor"), none, (Data.fields #[(Value.str (Str.ofString "__weakref__") 560), (Value.ref 137), (Value.builtin "ExceptionGroup.__weakref__"), Value.none]), #[]⟩) ::
    (nat_lit 142, ⟨(Value.type "tuple"), none, (Data.seq #[] 0), #[]⟩) ::
    (nat_lit 144, ⟨(Value.type "tuple"), none, (Data.seq #[(Value.str (Str.ofString "values") 568), (Value.str (Str.ofString "generator") 569), (Value.str (Str.ofString "chk") 570), (Value.str (Str.ofString "value") 571), (Value.str (Str.ofString "top") 572), (Value.str (Str.ofString "i") 573)] 0), #[]⟩) ::
    (nat_lit 145, ⟨(Value.type "tuple"), none, (Data.seq #[] 0), #[]⟩) ::
    (nat_lit 147, ⟨(Value.type "code"), none, (Data.fields #[(Value.str (Str.ofString "bech32_polymod") 565), (Value.str (Str.ofString "bech32_polymod") 566), (Value.str (Str.ofString "/claim/cut.py") 567), (Value.int 79 0), (Value.int 1 0), (Value.int 0 0), (Value.int 0 0), (Value.int 3 0), (Value.ref 142), (Value.bool Bool.true), (Value.int 181 0), (Value.ref 143), Value.none, (Value.ref 144), (Value.ref 145), (Value.ref 146), (Value.int 574 0), (Value.int 79 0), (Value.str (Str.ofString "/claim/cut.py") 575)]), #[]⟩) ::
    (nat_lit 148, ⟨(Value.type "function"), none, (Data.func ⟨(Str.ofString "bech32_polymod"), (Str.ofString "bech32_polymod"), a148, (FuncBody.stmts b148), s148, 3, [], Value.none, Value.none, Value.none, (Value.str (Str.ofString "embit.bech32") 533), none, (Value.ref 147), Value.none, 0⟩), #[]⟩) ::
    (nat_lit 149, ⟨(Value.type "tuple"), none, (Data.seq #[] 0), #[]⟩) ::
    (nat_lit 152, ⟨(Value.type "code"), none, (Data.fields #[(Value.str (Str.ofString "bech32_hrp_expand") 577), (Value.str (Str.ofString "bech32_hrp_expand") 578), (Value.str (Str.ofString "/claim/cut.py") 579), (Value.int 88 0), (Value.int 1 0), (Value.int 0 0), (Value.int 0 0), (Value.int 3 0), (Value.ref 149), (Value.bool Bool.true), (Value.int 181 0), (Value.ref 150), Value.none, Value.none, Value.none, (Value.ref 151), (Value.int 580 0), (Value.int 88 0), (Value.str (Str.ofString "/claim/cut.py") 581)]), #[]⟩) ::
    (nat_lit 153, ⟨(Value.type "function"), none, (Data.func ⟨(Str.ofString "bech32_hrp_expand"), (Str.ofString "bech32_hrp_expand"), a153, (FuncBody.stmts b153), s153, 3, [], Value.none, Value.none, Value.none, (Value.str (Str.ofString "embit.bech32") 533), none, (Value.ref 152), Value.none, 0⟩), #[]⟩) ::
    (nat_lit 154, ⟨(Value.type "tuple"), none, (Data.seq #[] 0), #[]⟩) ::
    (nat_lit 156, ⟨(Value.type "tuple"), none, (Data.seq #[(Value.str (Str.ofString "hrp") 586), (Value.str (Str.ofString "data") 587), (Value.str (Str.ofString "check") 588)] 0), #[]⟩) ::
    (nat_lit 157, ⟨(Value.type "tuple"), none, (Data.seq #[] 0), #[]⟩) ::
    (nat_lit 159, ⟨(Value.type "code"), none, (Data.fields #[(Value.str (Str.ofString "bech32_verify_checksum") 583), (Value.str (Str.ofString "bech32_verify_checksum") 584), (Value.str (Str.ofString "/claim/cut.py") 585), (Value.int 90 0), (Value.int 2 0), (Value.int 0 0), (Value.int 0 0), (Value.int 3 0), (Value.ref 154), (Value.bool Bool.true), (Value.int 181 0), (Value.ref 155), Value.none, (Value.ref 156), (Value.ref 157), (Value.ref 158), (Value.int 589 0), (Value.int 90 0), (Value.str (Str.ofString "/claim/cut.py") 590)]), #[]⟩) ::
    (nat_lit 160, ⟨(Value.type "function"), none, (Data.func ⟨(Str.ofString "bech32_verify_checksum"), (Str.ofString "bech32_verify_checksum"), a160, (FuncBody.stmts b160), s160, 3, [], Value.none, Value.none, Value.none, (Value.str (Str.ofString "embit.bech32") 533), none, (Value.ref 159), Value.none, 0⟩), #[]⟩) ::
    (nat_lit 161, ⟨(Value.type "tuple"), none, (Data.seq #[] 0), #[]⟩) ::
    (nat_lit 164, ⟨(Value.type "code"), none, (Data.fields #[(Value.str (Str.ofString "bech32_create_checksum") 592), (Value.str (Str.ofString "bech32_create_checksum") 593), (Value.str (Str.ofString "/claim/cut.py") 594), (Value.int 98 0), (Value.int 3 0), (Value.int 0 0), (Value.int 0 0), (Value.int 3 0), (Value.ref 161), (Value.bool Bool.true), (Value.int 181 0), (Value.ref 162), Value.none, Value.none, Value.none, (Value.ref 163), (Value.int 595 0), (Value.int 98 0), (Value.str (Str.ofString "/claim/cut.py") 596)]), #[]⟩) ::
    (nat_lit 165, ⟨(Value.type "function"), none, (Data.func ⟨(Str.ofString "bech32_create_checksum"), (Str.ofString "bech32_create_checksum"), a165, (FuncBody.stmts b165), s165, 3, [], Value.none, Value.none, Value.none, (Value.str (Str.ofString "embit.bech32") 533), none, (Value.ref 164), Value.none, 0⟩), #[]⟩) ::
    (nat_lit 166, ⟨(Value.type "tuple"), none, (Data.seq #[] 0), #[]⟩) ::
    (nat_lit 169, ⟨(Value.type "code"), none, (Data.fields #[(Value.str (Str.ofString "bech32_encode") 598), (Value.str (Str.ofString "bech32_encode") 599), (Value.str (Str.ofString "/claim/cut.py") 600), (Value.int 103 0), (Value.int 3 0), (Value.int 0 0), (Value.int 0 0), (Value.int 3 0), (Value.ref 166), (Value.bool Bool.true), (Value.int 181 0), (Value.ref 167), Value.none, Value.none, Value.none, (Value.ref 168), (Value.int 601 0), (Value.int 103 0), (Value.str (Str.ofString "/claim/cut.py") 602)]), #[]⟩) ::
    (nat_lit 170, ⟨(Value.type "function"), none, (Data.func ⟨(Str.ofString "bech32_encode"), (Str.ofString "bech32_encode"), a170, (FuncBody.stmts b170), s170, 3, [], Value.none, Value.none, Value.none, (Value.str (Str.ofString "embit.bech32") 533), none, (Value.ref 169), Value.none, 0⟩), #[]⟩) ::
    (nat_lit 171, ⟨(Value.type "tuple"), none, (Data.seq #[] 0), #[]⟩) ::
    (nat_lit 174, ⟨(Value.type "code"), none, (Data.fields #[(Value.str (Str.ofString "bech32_decode") 604), (Value.str (Str.ofString "bech32_decode") 605), (Value.str (Str.ofString "/claim/cut.py") 606), (Value.int 106 0), (Value.int 1 0), (Value.int 0 0), (Value.int 0 0), (Value.int 3 0), (Value.ref 171), (Value.bool Bool.true), (Value.int 181 0), (Value.ref 172), Value.none, Value.none, Value.none, (Value.ref 173), (Value.int 607 0), (Value.int 106 0), (Value.str (Str.ofString "/claim/cut.py") 608)]), #[]⟩) ::
    (nat_lit 175, ⟨(Value.type "function"), none, (Data.func ⟨(Str.ofString "bech32_decode"), (Str.ofString "bech32_decode"), a175, (FuncBody.stmts b175), s175, 3, [], Value.none, Value.none, Value.none, (Value.str (Str.ofString "embit.bech32") 533), none, (Value.ref 174), Value.none, 0⟩), #[]⟩) ::
    (nat_lit 176, ⟨(Value.type "tuple"), none, (Data.seq #[(Value.bool Bool.true)] 0), #[]⟩) ::
    (nat_lit 177, ⟨(Value.type "tuple"), none, (Data.seq #[] 0), #[]⟩) ::
    (nat_lit 179, ⟨(Value.type "tuple"), none, (Data.seq #[(Value.str (Str.ofString "data") 613), (Value.str (Str.ofString "frombits") 614), (Value.str (Str.ofString "tobits") 615), (Value.str (Str.ofString "pad") 616), (Value.str (Str.ofString "acc") 617), (Value.str (Str.ofString "bits") 618), (Value.str (Str.ofString "ret") 619), (Value.str (Str.ofString "maxv") 620), (Value.str (Str.ofString "max_acc") 621), (Value.str (Str.ofString "value") 622)] 0), #[]⟩) ::
    (nat_lit 180, ⟨(Value.type "tuple"), none, (Data.seq #[] 0), #[]⟩) ::
    (nat_lit 182, ⟨(Value.type "code"), none, (Data.fields #[(Value.str (Str.ofString "convertbits") 610), (Value.str (Str.ofString "convertbits") 611), (Value.str (Str.ofString "/claim/cut.py") 612), (Value.int 121 0), (Value.int 4 0), (Value.int 0 0), (Value.int 0 0), (Value.int 3 0), (Value.ref 177), (Value.bool Bool.true), (Value.int 181 0), (Value.ref 178), Value.none, (Value.ref 179), (Value.ref 180), (Value.ref 181), (Value.int 623 0), (Value.int 121 0), (Value.str (Str.ofString "/claim/cut.py") 624)]), #[]⟩) ::
    (nat_lit 183, ⟨(Value.type "function"), none, (Data.func ⟨(Str.ofString "convertbits"), (Str.ofString "convertbits"), a183, (FuncBody.stmts b183), s183, 3, [], (Value.ref 176), Value.none, Value.none, (Value.str (Str.ofString "embit.bech32") 533), none, (Value.ref 182), Value.none, 0⟩), #[]⟩) ::
    (nat_lit 184, ⟨(Value.type "tuple"), none, (Data.seq #[] 0), #[]⟩) ::
    (nat_lit 186, ⟨(Value.type "tuple"), none, (Data.seq #[(Value.str (Str.ofString "hrp") 629), (Value.str (Str.ofString "addr") 630), (Value.str (Str.ofString "encoding") 631), (Value.str (Str.ofString "hrpgot") 632), (Value.str (Str.ofString "data") 633), (Value.str (Str.ofString "decoded") 634)] 0), #[]⟩) ::
    (nat_lit 187, ⟨(Value.type "tuple"), none, (Data.seq #[] 0), #[]⟩) ::
    (nat_lit 189, ⟨(Value.type "code"), none, (Data.fields #[(Value.str (Str.ofString "decode") 626), (Value.str (Str.ofString "decode") 627), (Value.str (Str.ofString "/claim/cut.py") 628), (Value.int 141 0), (Value.int 2 0), (Value.int 0 0), (Value.int 0 0), (Value.int 3 0), (Value.ref 184), (Value.bool Bool.true), (Value.int 181 0), (Value.ref 185), Value.none, (Value.ref 186), (Value.ref 187), (Value.ref 188), (Value.int 635 0), (Value.int 141 0), (Value.str (Str.ofString "/claim/cut.py") 636)]), #[]⟩) ::
    (nat_lit 190, ⟨(Value.type "function"), none, (Data.func ⟨(Str.ofString "decode"), (Str.ofString "decode"), a190, (FuncBody.stmts b190), s190, 3, [], Value.none, Value.none, Value.none, (Value.str (Str.ofString "embit.bech32") 533), none, (Value.ref 189), Value.none, 0⟩), #[]⟩) ::
    (nat_lit 191, ⟨(Value.type "tuple"), none, (Data.seq #[] 0), #[]⟩) ::
    (nat_lit 193, ⟨(Value.type "tuple"), none, (Data.seq #[(Value.str (Str.ofString "hrp") 642), (Value.str (Str.ofString "witver") 643), (Value.str (Str.ofString "witprog") 644), (Value.str (Str.ofString "encoding") 645), (Value.str (Str.ofString "ret") 646)] 0), #[]⟩) ::
    (nat_lit 194, ⟨(Value.type "tuple"), none, (Data.seq #[] 0), #[]⟩) ::
    (nat_lit 196, ⟨(Value.type "code"), none, (Data.fields #[(Value.str (Str.ofString "encode") 639), (Value.str (Str.ofString "encode") 640), (Value.str (Str.ofString "/claim/cut.py") 641), (Value.int 156 0), (Value.int 3 0), (Value.int 0 0), (Value.int 0 0), (Value.int 3 0), (Value.ref 191), (Value.bool Bool.true), (Value.int 181 0), (Value.ref 192), Value.none, (Value.ref 193), (Value.ref 194), (Value.ref 195), (Value.int 647 0), (Value.int 156 0), (Value.str (Str.ofString "/claim/cut.py") 648)]), #[]⟩) ::
    (nat_lit 197, ⟨(Value.type "function"), none, (Data.func ⟨(Str.ofString "encode"), (Str.ofString "encode"), a197, (FuncBody.stmts b197), s197, 3, [], Value.none, Value.none, Value.none, (Value.str (Str.ofString "embit.bech32") 533), none, (Value.ref 196), Value.none, 0⟩), #[]⟩) ::
    (nat_lit 399, ⟨(Value.type "tuple"), none, (Data.seq #[] 0), #[]⟩) ::
    (nat_lit 445, ⟨(Value.type "tuple"), none, (Data.seq #[] 0), #[]⟩) ::
    (nat_lit 544, ⟨(Value.type "tuple"), none, (Data.seq #[] 0), #[]⟩) ::
    (nat_lit 546, ⟨(Value.type "tuple"), none, (Data.seq #[(Value.str (Str.ofString "self") 1082), (Value.str (Str.ofString "limit") 1083), (Value.str (Str.ofString "start") 1084), (Value.str (Str.ofString "stop") 1085), (Value.str (Str.ofString "cut") 1086), (Value.str (Str.ofString "newline") 1087), (Value.str (Str.ofString "i") 1088), (Value.str (Str.ofString "j") 1089), (Value.str (Str.ofString "end") 1090)] 0), #[]⟩) ::
    (nat_lit 547, ⟨(Value.type "tuple"), none, (Data.seq #[] 0), #[]⟩) ::
    (nat_lit 549, ⟨(Value.type "code"), none, (Data.fields #[(Value.str (Str.ofString "__line") 1079), (Value.str (Str.ofString "StringIO.__line") 1080), (Value.str (Str.ofString "/claim/cut.py") 1081), (Value.int 406 0), (Value.int 2 0), (Value.int 0 0), (Value.int 0 0), (Value.int 3 0), (Value.ref 544), (Value.bool Bool.true), (Value.int 181 0), (Value.ref 545), Value.none, (Value.ref 546), (Value.ref 547), (Value.ref 548), (Value.int 1091 0), (Value.int 406 0), (Value.str (Str.ofString "/claim/cut.py") 1092)]), #[]⟩) ::
    (nat_lit 782, ⟨(Value.type "dict"), none, (Data.dict #[⟨(PyData.keyHash P (Str.ofString "__module__")), (Value.str (Str.ofString "__module__") 1362), (Value.str (Str.ofString "embit.base") 1318)⟩, ⟨(PyData.keyHash P (Str.ofString "__name__")), (Value.str (Str.ofString "__name__") 1365), (Value.str (Str.ofString "read_from") 1364)⟩, ⟨(PyData.keyHash P (Str.ofString "__qualname__")), (Value.str (Str.ofString "__qualname__") 1368), (Value.str (Str.ofString "EmbitBase.read_from") 1367)⟩, ⟨(PyData.keyHash P (Str.ofString "__doc__")), (Value.str (Str.ofString "__doc__") 1370), Value.none⟩, ⟨(PyData.keyHash P (Str.ofString "__annotations__")), (Value.str (Str.ofString "__annotations__") 1372), (Value.ref 784)⟩] 5), #[]⟩) ::
    (nat_lit 783, ⟨(Value.type "classmethod"), (some 782), (Data.fields #[(Value.ref 781), (Value.bool Bool.false)]), #[]⟩) ::
    (nat_lit 784, ⟨(Value.type "dict"), none, (Data.dict #[] 0), #[]⟩) ::
    (nat_lit 792, ⟨(Value.type "dict"), none, (Data.dict #[⟨(PyData.keyHash P (Str.ofString "__module__")), (Value.str (Str.ofString "__module__") 1384), (Value.str (Str.ofString "embit.base") 1318)⟩, ⟨(PyData.keyHash P (Str.ofString "__name__")), (Value.str (Str.ofString "__name__") 1387), (Value.str (Str.ofString "parse") 1386)⟩, ⟨(PyData.keyHash P (Str.ofString "__qualname__")), (Value.str (Str.ofString "__qualname__") 1390), (Value.str (Str.ofString "EmbitBase.parse") 1389)⟩, ⟨(PyData.keyHash P (Str.ofString "__doc__")), (Value.str (Str.ofString "__doc__") 1392), Value.none⟩, ⟨(PyData.keyHash P (Str.ofString "__annotations__")), (Value.str (Str.ofString "__annotations__") 1394), (Value.ref 794)⟩] 5), #[]⟩) ::
    (nat_lit 793, ⟨(Value.type "classmethod"), (some 792), (Data.fields #[(Value.ref 791), (Value.bool Bool.false)]), #[]⟩) ::
    (nat_lit 794, ⟨(Value.type "dict"), none, (Data.dict #[] 0), #[]⟩) ::
    (nat_lit 823, ⟨(Value.type "dict"), none, (Data.dict #[⟨(PyData.keyHash P (Str.ofString "__module__")), (Value.str (Str.ofString "__module__") 1436), (Value.str (Str.ofString "embit.base") 1318)⟩, ⟨(PyData.keyHash P (Str.ofString "__name__")), (Value.str (Str.ofString "__name__") 1439), (Value.str (Str.ofString "from_string") 1438)⟩, ⟨(PyData.keyHash P (Str.ofString "__qualname__")), (Value.str (Str.ofString "__qualname__") 1442), (Value.str (Str.ofString "EmbitBase.from_string") 1441)⟩, ⟨(PyData.keyHash P (Str.ofString "__doc__")), (Value.str (Str.ofString "__doc__") 1444), Value.none⟩, ⟨(PyData.keyHash P (Str.ofString "__annotations__")), (Value.str (Str.ofString "__annotations__") 1446), (Value.ref 825)⟩] 5), #[]⟩) ::
    (nat_lit 824, ⟨(Value.type "classmethod"), (some 823), (Data.fields #[(Value.ref 822), (Value.bool Bool.false)]), #[]⟩) ::
    (nat_lit 825, ⟨(Value.type "dict"), none, (Data.dict #[] 0), #[]⟩) ::
    (nat_lit 847, ⟨(Value.type "tuple"), none, (Data.seq #[] 0), #[]⟩) ::
    (nat_lit 848, ⟨(Value.type "dict"), none, (Data.dict #[⟨(PyData.keyHash P (Str.ofString "__module__")), (Value.str (Str.ofString "__module__") 1347), (Value.str (Str.ofString "embit.base") 1318)⟩, ⟨(PyData.keyHash P (Str.ofString "__firstlineno__")), (Value.str (Str.ofString "__firstlineno__") 1351), (Value.int 583 1350)⟩, ⟨(PyData.keyHash P (Str.ofString "read_from")), (Value.str (Str.ofString "read_from") 1373), (Value.ref 783)⟩, ⟨(PyData.keyHash P (Str.ofString "parse")), (Value.str (Str.ofString "parse") 1395), (Value.ref 793)⟩, ⟨(PyData.keyHash P (Str.ofString "write_to")), (Value.str (Str.ofString "write_to") 1405), (Value.ref 801)⟩, ⟨(PyData.keyHash P (Str.ofString "serialize")), (Value.str (Str.ofString "serialize") 1415), (Value.ref 808)⟩, ⟨(PyData.keyHash P (Str.ofString "to_string")), (Value.str (Str.ofString "to_string") 1425), (Value.ref 815)⟩, ⟨(PyData.keyHash P (Str.ofString "from_string")), (Value.str (Str.ofString "from_string") 1447), (Value.ref 824)⟩, ⟨(PyData.keyHash P (Str.ofString "__str__")), (Value.str (Str.ofString "__str__") 1454), (Value.ref 832)⟩, ⟨(PyData.keyHash P (Str.ofString "__eq__")), (Value.str (Str.ofString "__eq__") 1462), (Value.ref 839)⟩, ⟨(PyData.keyHash P (Str.ofString "__ne__")), (Value.str (Str.ofString "__ne__") 1470), (Value.ref 846)⟩, ⟨(PyData.keyHash P (Str.ofString "__static_attributes__")), (Value.str (Str.ofString "__static_attributes__") 1471), (Value.ref 847)⟩, ⟨(PyData.keyHash P (Str.ofString "__dict__")), (Value.str (Str.ofString "__dict__") 1473), (Value.ref 850)⟩, ⟨(PyData.keyHash P (Str.ofString "__weakref__")), (Value.str (Str.ofString "__weakref__") 1475), (Value.ref 851)⟩, ⟨(PyData.keyHash P (Str.ofString "__doc__")), (Value.str (Str.ofString "__doc__") 1476), Value.none⟩, ⟨(PyData.keyHash P (Str.ofString "__hash__")), (Value.str (Str.ofString "__hash__") 1477), Value.none⟩] 5), #[]⟩) ::
    (nat_lit 849, ⟨(Value.type "type"), none, (Data.cls ⟨(Str.ofString "EmbitBase"), [(Value.type "object")], [(Value.ref 849), (Value.type "object")], 848, (Str.ofString "EmbitBase"), Bool.true, [], [(Value.ref 941)], Bool.false, none, Bool.false⟩), #[none, none, (some (Value.str (Str.ofString "EmbitBase") 1340)), (some (Value.str (Str.ofString "EmbitBase") 1348)), (some (Value.builtin "object.__new__")), (some (Value.bool Bool.true))]⟩) ::
    (nat_lit 850, ⟨(Value.type "getset_descriptor"), none, (Data.fields #[(Value.str (Str.ofString "__dict__") 1472), (Value.ref 849), (Value.builtin "function.__dict__"), (Value.builtin "function.__dict__#set")]), #[]⟩) ::
    (nat_lit 851, ⟨(Value.type "getset_descriptor"), none, (Data.fields #[(Value.str (Str.ofString "__weakref__") 1474), (Value.ref 849), (Value.builtin "ExceptionGroup.__weakref__"), Value.none]), #[]⟩) ::
    (nat_lit 854, ⟨(Value.type "tuple"), none, (Data.seq #[(Value.ref 849)] 0), #[]⟩) ::
    (nat_lit 861, ⟨(Value.type "tuple"), none, (Data.seq #[(Value.bytes #[] 1494)] 0), #[]⟩) ::
    (nat_lit 862, ⟨(Value.type "tuple"), none, (Data.seq #[] 0), #[]⟩) ::
    (nat_lit 864, ⟨(Value.type "tuple"), none, (Data.seq #[(Value.str (Str.ofString "self") 1498), (Value.str (Str.ofString "data") 1499)] 0), #[]⟩) ::
    (nat_lit 865, ⟨(Value.type "tuple"), none, (Data.seq #[] 0), #[]⟩) ::
    (nat_lit 867, ⟨(Value.type "code"), none, (Data.fields #[(Value.str (Str.ofString "__init__") 1495), (Value.str (Str.ofString "Script.__init__") 1496), (Value.str (Str.ofString "/claim/cut.py") 1497), (Value.int 626 0), (Value.int 2 0), (Value.int 0 0), (Value.int 0 0), (Value.int 3 0), (Value.ref 862), (Value.bool Bool.true), (Value.int 181 0), (Value.ref 863), Value.none, (Value.ref 864), (Value.ref 865), (Value.ref 866), (Value.int 1500 0), (Value.int 626 0), (Value.str (Str.ofString "/claim/cut.py") 1501)]), #[]⟩) ::
    (nat_lit 868, ⟨(Value.type "function"), none, (Data.func ⟨(Str.ofString "__init__"), (Str.ofString "Script.__init__"), a868, (FuncBody.stmts b868), s868, 3, [], (Value.ref 861), Value.none, Value.none, (Value.str (Str.ofString "embit.script") 1480), none, (Value.ref 867), Value.none, 0⟩), #[]⟩) ::
    (nat_lit 869, ⟨(Value.type "tuple"), none, (Data.seq #[(Value.ref 23)] 0), #[]⟩) ::
    (nat_lit 870, ⟨(Value.type "tuple"), none, (Data.seq #[] 0), #[]⟩) ::
    (nat_lit 872, ⟨(Value.type "tuple"), none, (Data.seq #[(Value.str (Str.ofString "self") 1508), (Value.str (Str.ofString "network") 1509), (Value.str (Str.ofString "script_type") 1510), (Value.str (Str.ofString "data") 1511), (Value.str (Str.ofString "d") 1512), (Value.str (Str.ofString "ver") 1513)] 0), #[]⟩) ::
    (nat_lit 873, ⟨(Value.type "tuple"), none, (Data.seq #[] 0), #[]⟩) ::
    (nat_lit 875, ⟨(Value.type "code"), none, (Data.fields #[(Value.str (Str.ofString "address") 1505), (Value.str (Str.ofString "Script.address") 1506), (Value.str (Str.ofString "/claim/cut.py") 1507), (Value.int 629 0), (Value.int 2 0), (Value.int 0 0), (Value.int 0 0), (Value.int 3 0), (Value.ref 870), (Value.bool Bool.true), (Value.int 181 0), (Value.ref 871), Value.none, (Value.ref 872), (Value.ref 873), (Value.ref 874), (Value.int 1514 0), (Value.int 629 0), (Value.str (Str.ofString "/claim/cut.py") 1515)]), #[]⟩) ::
    (nat_lit 876, ⟨(Value.type "function"), none, (Data.func ⟨(Str.ofString "address"), (Str.ofString "Script.address"), a876, (FuncBody.stmts b876), s876, 3, [], (Value.ref 869), Value.none, Value.none, (Value.str (Str.ofString "embit.script") 1480), none, (Value.ref 875), Value.none, 0⟩), #[]⟩) ::
    (nat_lit 884, ⟨(Value.type "tuple"), none, (Data.seq #[] 0), #[]⟩) ::
    (nat_lit 886, ⟨(Value.type "tuple"), none, (Data.seq #[(Value.str (Str.ofString "self") 1528), (Value.str (Str.ofString "data") 1529)] 0), #[]⟩) ::
    (nat_lit 887, ⟨(Value.type "tuple"), none, (Data.seq #[] 0), #[]⟩) ::
    (nat_lit 889, ⟨(Value.type "code"), none, (Data.fields #[(Value.str (Str.ofString "script_type") 1525), (Value.str (Str.ofString "Script.script_type") 1526), (Value.str (Str.ofString "/claim/cut.py") 1527), (Value.int 650 0), (Value.int 1 0), (Value.int 0 0), (Value.int 0 0), (Value.int 3 0), (Value.ref 884), (Value.bool Bool.true), (Value.int 181 0), (Value.ref 885), Value.none, (Value.ref 886), (Value.ref 887), (Value.ref 888), (Value.int 1530 0), (Value.int 650 0), (Value.str (Str.ofString "/claim/cut.py") 1531)]), #[]⟩) ::
    (nat_lit 890, ⟨(Value.type "function"), none, (Data.func ⟨(Str.ofString "script_type"), (Str.ofString "Script.script_type"), a890, (FuncBody.stmts b890), s890, 3, [], Value.none, Value.none, Value.none, (Value.str (Str.ofString "embit.script") 1480), none, (Value.ref 889), Value.none, 0⟩), #[]⟩) ::
    (nat_lit 905, ⟨(Value.type "dict"), none, (Data.dict #[⟨(PyData.keyHash P (Str.ofString "__module__")), (Value.str (Str.ofString "__module__") 1550), (Value.str (Str.ofString "embit.script") 1480)⟩, ⟨(PyData.keyHash P (Str.ofString "__name__")), (Value.str (Str.ofString "__name__") 1553), (Value.str (Str.ofString "read_from") 1552)⟩, ⟨(PyData.keyHash P (Str.ofString "__qualname__")), (Value.str (Str.ofString "__qualname__") 1556), (Value.str (Str.ofString "Script.read_from") 1555)⟩, ⟨(PyData.keyHash P (Str.ofString "__doc__")), (Value.str (Str.ofString "__doc__") 1558), Value.none⟩, ⟨(PyData.keyHash P (Str.ofString "__annotations__")), (Value.str (Str.ofString "__annotations__") 1560), (Value.ref 907)⟩] 5), #[]⟩) ::
    (nat_lit 906, ⟨(Value.type "classmethod"), (some 905), (Data.fields #[(Value.ref 904), (Value.bool Bool.false)]), #[]⟩) ::
    (nat_lit 907, ⟨(Value.type "dict"), none, (Data.dict #[] 0), #[]⟩) ::
    (nat_lit 908, ⟨(Value.type "tuple"), none, (Data.seq #[] 0), #[]⟩) ::
    (nat_lit 910, ⟨(Value.type "tuple"), none, (Data.seq #[(Value.str (Str.ofString "cls") 1565), (Value.str (Str.ofString "addr") 1566)] 0), #[]⟩) ::
    (nat_lit 911, ⟨(Value.type "tuple"), none, (Data.seq #[] 0), #[]⟩) ::
    (nat_lit 913, ⟨(Value.type "code"), none, (Data.fields #[(Value.str (Str.ofString "from_address") 1562), (Value.str (Str.ofString "Script.from_address") 1563), (Value.str (Str.ofString "/claim/cut.py") 1564), (Value.int 673 0), (Value.int 2 0), (Value.int 0 0), (Value.int 0 0), (Value.int 3 0), (Value.ref 908), (Value.bool Bool.true), (Value.int 181 0), (Value.ref 909), Value.none, (Value.ref 910), (Value.ref 911), (Value.ref 912), (Value.int 1567 0), (Value.int 673 0), (Value.str (Str.ofString "/claim/cut.py") 1568)]), #[]⟩) ::
    (nat_lit 914, ⟨(Value.type "function"), none, (Data.func ⟨(Str.ofString "from_address"), (Str.ofString "Script.from_address"), a914, (FuncBody.stmts b914), s914, 3, [], Value.none, Value.none, Value.none, (Value.str (Str.ofString "embit.script") 1480), (some 917), (Value.ref 913), Value.none, 0⟩), #[]⟩) ::
    (nat_lit 915, ⟨(Value.type "dict"), none, (Data.dict #[⟨(PyData.keyHash P (Str.ofString "__module__")), (Value.str (Str.ofString "__module__") 1570), (Value.str (Str.ofString "embit.script") 1480)⟩, ⟨(PyData.keyHash P (Str.ofString "__name__")), (Value.str (Str.ofString "__name__") 1573), (Value.str (Str.ofString "from_address") 1572)⟩, ⟨(PyData.keyHash P (Str.ofString "__qualname__")), (Value.str (Str.ofString "__qualname__") 1576), (Value.str (Str.ofString "Script.from_address") 1575)⟩, ⟨(PyData.keyHash P (Str.ofString "__doc__")), (Value.str (Str.ofString "__doc__") 1578), Value.none⟩, ⟨(PyData.keyHash P (Str.ofString "__annotations__")), (Value.str (Str.ofString "__annotations__") 1580), (Value.ref 917)⟩] 5), #[]⟩) ::
    (nat_lit 916, ⟨(Value.type "classmethod"), (some 915), (Data.fields #[(Value.ref 914), (Value.bool Bool.false)]), #[]⟩) ::
    (nat_lit 917, ⟨(Value.type "dict"), none, (Data.dict #[] 0), #[]⟩) ::
    (nat_lit 939, ⟨(Value.type "tuple"), none, (Data.seq #[(Value.str (Str.ofString "data") 1605)] 0), #[]⟩) ::
    (nat_lit 940, ⟨(Value.type "dict"), none, (Data.dict #[⟨(PyData.keyHash P (Str.ofString "__module__")), (Value.str (Str.ofString "__module__") 1489), (Value.str (Str.ofString "embit.script") 1480)⟩, ⟨(PyData.keyHash P (Str.ofString "__firstlineno__")), (Value.str (Str.ofString "__firstlineno__") 1493), (Value.int 624 1492)⟩, ⟨(PyData.keyHash P (Str.ofString "__init__")), (Value.str (Str.ofString "__init__") 1502), (Value.ref 868)⟩, ⟨(PyData.keyHash P (Str.ofString "address")), (Value.str (Str.ofString "address") 1516), (Value.ref 876)⟩, ⟨(PyData.keyHash P (Str.ofString "push")), (Value.str (Str.ofString "push") 1524), (Value.ref 883)⟩, ⟨(PyData.keyHash P (Str.ofString "script_type")), (Value.str (Str.ofString "script_type") 1532), (Value.ref 890)⟩, ⟨(PyData.keyHash P (Str.ofString "write_to")), (Value.str (Str.ofString "write_to") 1541), (Value.ref 897)⟩, ⟨(PyData.keyHash P (Str.ofString "read_from")), (Value.str (Str.ofString "read_from") 1561), (Value.ref 906)⟩, ⟨(PyData.keyHash P (Str.ofString "from_address")), (Value.str (Str.ofString "from_address") 1581), (Value.ref 916)⟩, ⟨(PyData.keyHash P (Str.ofString "__eq__")), (Value.str (Str.ofString "__eq__") 1589), (Value.ref 924)⟩, ⟨(PyData.keyHash P (Str.ofString "__ne__")), (Value.str (Str.ofString "__ne__") 1597), (Value.ref 931)⟩, ⟨(PyData.keyHash P (Str.ofString "__len__")), (Value.str (Str.ofString "__len__") 1604), (Value.ref 938)⟩, ⟨(PyData.keyHash P (Str.ofString "__static_attributes__")), (Value.str (Str.ofString "__static_attributes__") 1606), (Value.ref 939)⟩, ⟨(PyData.keyHash P (Str.ofString "__doc__")), (Value.str (Str.ofString "__doc__") 1607), Value.none⟩, ⟨(PyData.keyHash P (Str.ofString "__hash__")), (Value.str (Str.ofString "__hash__") 1608), Value.none⟩] 3), #[]⟩) ::
    (nat_lit 941, ⟨(Value.type "type"), none, (Data.cls ⟨(Str.ofString "Script"), [(Value.ref 849)], [(Value.ref 941), (Value.ref 849), (Value.type "object")], 940, (Str.ofString "Script"), Bool.true, [], [], Bool.false, none, Bool.false⟩), #[(some (Value.ref 854)), none, (some (Value.str (Str.ofString "Script") 1482)), (some (Value.str (Str.ofString "Script") 1490)), (some (Value.builtin "object.__new__")), (some (Value.bool Bool.true))]⟩) ::
    (nat_lit 944, ⟨(Value.type "tuple"), none, (Data.seq #[] 0), #[]⟩) ::
    (nat_lit 946, ⟨(Value.type "tuple"), none, (Data.seq #[(Value.str (Str.ofString "addr") 1614), (Value.str (Str.ofString "data") 1615), (Value.str (Str.ofString "prefix") 1616), (Value.str (Str.ofString "net") 1617), (Value.str (Str.ofString "hrp") 1618), (Value.str (Str.ofString "ver") 1619)] 0), #[]⟩) ::
    (nat_lit 947, ⟨(Value.type "tuple"), none, (Data.seq #[] 0), #[]⟩) ::
    (nat_lit 949, ⟨(Value.type "code"), none, (Data.fields #[(Value.str (Str.ofString "address_to_scriptpubkey") 1611), (Value.str (Str.ofString "address_to_scriptpubkey") 1612), (Value.str (Str.ofString "/claim/cut.py") 1613), (Value.int 685 0), (Value.int 1 0), (Value.int 0 0), (Value.int 0 0), (Value.int 3 0), (Value.ref 944), (Value.bool Bool.true), (Value.int 181 0), (Value.ref 945), Value.none, (Value.ref 946), (Value.ref 947), (Value.ref 948), (Value.int 1620 0), (Value.int 685 0), (Value.str (Str.ofString "/claim/cut.py") 1621)]), #[]⟩) ::
    (nat_lit 950, ⟨(Value.type "function"), none, (Data.func ⟨(Str.ofString "address_to_scriptpubkey"), (Str.ofString "address_to_scriptpubkey"), a950, (FuncBody.stmts b950), s950, 3, [], Value.none, Value.none, Value.none, (Value.str (Str.ofString "embit.script") 1480), none, (Value.ref 949), Value.none, 0⟩), #[]⟩) ::
    (nat_lit 951, ⟨(Value.type "tuple"), none, (Data.seq #[] 0), #[]⟩) ::
    (nat_lit 953, ⟨(Value.type "tuple"), none, (Data.seq #[] 0), #[]⟩) ::
    (nat_lit 954, ⟨(Value.type "tuple"), none, (Data.seq #[] 0), #[]⟩) ::
    (nat_lit 956, ⟨(Value.type "code"), none, (Data.fields #[(Value.str (Str.ofString "_law_frames") 1625), (Value.str (Str.ofString "_law_frames") 1626), (Value.str (Str.ofString "/claim/cut.py") 1627), (Value.int 705 0), (Value.int 0 0), (Value.int 0 0), (Value.int 0 0), (Value.int 3 0), (Value.ref 951), (Value.bool Bool.true), (Value.int 181 0), (Value.ref 952), Value.none, (Value.ref 953), (Value.ref 954), (Value.ref 955), (Value.int 1628 0), (Value.int 705 0), (Value.str (Str.ofString "/claim/cut.py") 1629)]), #[]⟩) ::
    (nat_lit 957, ⟨(Value.type "function"), none, (Data.func ⟨(Str.ofString "_law_frames"), (Str.ofString "_law_frames"), a957, (FuncBody.stmts b957), s957, 3, [], Value.none, Value.none, Value.none, (Value.str (Str.ofString "law_bd0008_01") 1623), none, (Value.ref 956), Value.none, 0⟩), #[]⟩) ::
    (nat_lit 958, ⟨(Value.type "tuple"), none, (Data.seq #[(Value.str (Str.ofString "main") 1631), (Value.int 0 1632), (Value.str (Str.ofString "bc") 1633)] 0), #[]⟩) ::
    (nat_lit 959, ⟨(Value.type "tuple"), none, (Data.seq #[(Value.str (Str.ofString "test") 1634), (Value.int 1 1635), (Value.str (Str.ofString "tb") 1636)] 0), #[]⟩) ::
    (nat_lit 960, ⟨(Value.type "tuple"), none, (Data.seq #[(Value.str (Str.ofString "regtest") 1637), (Value.int 1 1638), (Value.str (Str.ofString "bcrt") 1639)] 0), #[]⟩) ::
    (nat_lit 961, ⟨(Value.type "tuple"), none, (Data.seq #[(Value.str (Str.ofString "signet") 1640), (Value.int 1 1641), (Value.str (Str.ofString "tb") 1642)] 0), #[]⟩) ::
    (nat_lit 962, ⟨(Value.type "list"), none, (Data.seq #[(Value.ref 958), (Value.ref 959), (Value.ref 960), (Value.ref 961)] 0), #[]⟩) ::
    (nat_lit 963, ⟨(Value.type "tuple"), none, (Data.seq #[] 0), #[]⟩) ::
    (nat_lit 965, ⟨(Value.type "tuple"), none, (Data.seq #[(Value.str (Str.ofString "script") 1647), (Value.str (Str.ofString "place") 1648)] 0), #[]⟩) ::
    (nat_lit 966, ⟨(Value.type "tuple"), none, (Data.seq #[] 0), #[]⟩) ::
    (nat_lit 968, ⟨(Value.type "code"), none, (Data.fields #[(Value.str (Str.ofString "_law_number") 1644), (Value.str (Str.ofString "_law_number") 1645), (Value.str (Str.ofString "/claim/cut.py") 1646), (Value.int 708 0), (Value.int 2 0), (Value.int 0 0), (Value.int 0 0), (Value.int 3 0), (Value.ref 963), (Value.bool Bool.true), (Value.int 181 0), (Value.ref 964), Value.none, (Value.ref 965), (Value.ref 966), (Value.ref 967), (Value.int 1649 0), (Value.int 708 0), (Value.str (Str.ofString "/claim/cut.py") 1650)]), #[]⟩) ::
    (nat_lit 969, ⟨(Value.type "function"), none, (Data.func ⟨(Str.ofString "_law_number"), (Str.ofString "_law_number"), a969, (FuncBody.stmts b969), s969, 3, [], Value.none, Value.none, Value.none, (Value.str (Str.ofString "law_bd0008_01") 1623), none, (Value.ref 968), Value.none, 0⟩), #[]⟩) ::
    (nat_lit 970, ⟨(Value.type "tuple"), none, (Data.seq #[] 0), #[]⟩) ::
    (nat_lit 972, ⟨(Value.type "tuple"), none, (Data.seq #[(Value.str (Str.ofString "number") 1655), (Value.str (Str.ofString "size") 1656)] 0), #[]⟩) ::
    (nat_lit 973, ⟨(Value.type "tuple"), none, (Data.seq #[] 0), #[]⟩) ::
    (nat_lit 975, ⟨(Value.type "code"), none, (Data.fields #[(Value.str (Str.ofString "_law_octets") 1652), (Value.str (Str.ofString "_law_octets") 1653), (Value.str (Str.ofString "/claim/cut.py") 1654), (Value.int 710 0), (Value.int 2 0), (Value.int 0 0), (Value.int 0 0), (Value.int 3 0), (Value.ref 970), (Value.bool Bool.true), (Value.int 181 0), (Value.ref 971), Value.none, (Value.ref 972), (Value.ref 973), (Value.ref 974), (Value.int 1657 0), (Value.int 710 0), (Value.str (Str.ofString "/claim/cut.py") 1658)]), #[]⟩) ::
    (nat_lit 976, ⟨(Value.type "function"), none, (Data.func ⟨(Str.ofString "_law_octets"), (Str.ofString "_law_octets"), a976, (FuncBody.stmts b976), s976, 3, [], Value.none, Value.none, Value.none, (Value.str (Str.ofString "law_bd0008_01") 1623), none, (Value.ref 975), Value.none, 0⟩), #[]⟩) ::
    (nat_lit 977, ⟨(Value.type "tuple"), none, (Data.seq #[] 0), #[]⟩) ::
    (nat_lit 979, ⟨(Value.type "tuple"), none, (Data.seq #[(Value.str (Str.ofString "pick") 1663), (Value.str (Str.ofString "body") 1664), (Value.str (Str.ofString "front") 1665), (Value.str (Str.ofString "size") 1666), (Value.str (Str.ofString "back") 1667), (Value.str (Str.ofString "name") 1668), (Value.str (Str.ofString "octets") 1669), (Value.str (Str.ofString "places") 1670), (Value.str (Str.ofString "at") 1671)] 0), #[]⟩) ::
    (nat_lit 980, ⟨(Value.type "tuple"), none, (Data.seq #[] 0), #[]⟩) ::
    (nat_lit 982, ⟨(Value.type "code"), none, (Data.fields #[(Value.str (Str.ofString "_law_made") 1660), (Value.str (Str.ofString "_law_made") 1661), (Value.str (Str.ofString "/claim/cut.py") 1662), (Value.int 712 0), (Value.int 2 0), (Value.int 0 0), (Value.int 0 0), (Value.int 3 0), (Value.ref 977), (Value.bool Bool.true), (Value.int 181 0), (Value.ref 978), Value.none, (Value.ref 979), (Value.ref 980), (Value.ref 981), (Value.int 1672 0), (Value.int 712 0), (Value.str (Str.ofString "/claim/cut.py") 1673)]), #[]⟩) ::
    (nat_lit 983, ⟨(Value.type "function"), none, (Data.func ⟨(Str.ofString "_law_made"), (Str.ofString "_law_made"), a983, (FuncBody.stmts b983), s983, 3, [], Value.none, Value.none, Value.none, (Value.str (Str.ofString "law_bd0008_01") 1623), none, (Value.ref 982), Value.none, 0⟩), #[]⟩) ::
    (nat_lit 984, ⟨(Value.type "tuple"), none, (Data.seq #[] 0), #[]⟩) ::
    (nat_lit 986, ⟨(Value.type "tuple"), none, (Data.seq #[(Value.str (Str.ofString "octets") 1678), (Value.str (Str.ofString "front") 1679), (Value.str (Str.ofString "size") 1680), (Value.str (Str.ofString "back") 1681), (Value.str (Str.ofString "name") 1682)] 0), #[]⟩) ::
    (nat_lit 987, ⟨(Value.type "tuple"), none, (Data.seq #[] 0), #[]⟩) ::
    (nat_lit 989, ⟨(Value.type "code"), none, (Data.fields #[(Value.str (Str.ofString "_law_kind") 1675), (Value.str (Str.ofString "_law_kind") 1676), (Value.str (Str.ofString "/claim/cut.py") 1677), (Value.int 723 0), (Value.int 1 0), (Value.int 0 0), (Value.int 0 0), (Value.int 3 0), (Value.ref 984), (Value.bool Bool.true), (Value.int 181 0), (Value.ref 985), Value.none, (Value.ref 986), (Value.ref 987), (Value.ref 988), (Value.int 1683 0), (Value.int 723 0), (Value.str (Str.ofString "/claim/cut.py") 1684)]), #[]⟩) ::
    (nat_lit 990, ⟨(Value.type "function"), none, (Data.func ⟨(Str.ofString "_law_kind"), (Str.ofString "_law_kind"), a990, (FuncBody.stmts b990), s990, 3, [], Value.none, Value.none, Value.none, (Value.str (Str.ofString "law_bd0008_01") 1623), none, (Value.ref 989), Value.none, 0⟩), #[]⟩) ::
    (nat_lit 991, ⟨(Value.type "tuple"), none, (Data.seq #[] 0), #[]⟩) ::
    (nat_lit 993, ⟨(Value.type "tuple"), none, (Data.seq #[(Value.str (Str.ofString "octets") 1689), (Value.str (Str.ofString "network") 1690)] 0), #[]⟩) ::
    (nat_lit 994, ⟨(Value.type "tuple"), none, (Data.seq #[] 0), #[]⟩) ::
    (nat_lit 996, ⟨(Value.type "code"), none, (Data.fields #[(Value.str (Str.ofString "_law_address") 1686), (Value.str (Str.ofString "_law_address") 1687), (Value.str (Str.ofString "/claim/cut.py") 1688), (Value.int 728 0), (Value.int 2 0), (Value.int 0 0), (Value.int 0 0), (Value.int 3 0), (Value.ref 991), (Value.bool Bool.true), (Value.int 181 0), (Value.ref 992), Value.none, (Value.ref 993), (Value.ref 994), (Value.ref 995), (Value.int 1691 0), (Value.int 728 0), (Value.str (Str.ofString "/claim/cut.py") 1692)]), #[]⟩) ::
    (nat_lit 997, ⟨(Value.type "function"), none, (Data.func ⟨(Str.ofString "_law_address"), (Str.ofString "_law_address"), a997, (FuncBody.stmts b997), s997, 3, [], Value.none, Value.none, Value.none, (Value.str (Str.ofString "law_bd0008_01") 1623), none, (Value.ref 996), Value.none, 0⟩), #[]⟩) ::
    (nat_lit 998, ⟨(Value.type "tuple"), none, (Data.seq #[] 0), #[]⟩) ::
    (nat_lit 1000, ⟨(Value.type "tuple"), none, (Data.seq #[(Value.str (Str.ofString "script") 1697), (Value.str (Str.ofString "body") 1698), (Value.str (Str.ofString "at") 1699), (Value.str (Str.ofString "turned") 1700), (Value.str (Str.ofString "one") 1701), (Value.str (Str.ofString "two") 1702), (Value.str (Str.ofString "here") 1703), (Value.str (Str.ofString "there") 1704), (Value.str (Str.ofString "kinds") 1705), (Value.str (Str.ofString "a") 1706), (Value.str (Str.ofString "b") 1707), (Value.str (Str.ofString "place") 1708)] 0), #[]⟩) ::
    (nat_lit 1001, ⟨(Value.type "tuple"), none, (Data.seq #[] 0), #[]⟩) ::
    (nat_lit 1003, ⟨(Value.type "code"), none, (Data.fields #[(Value.str (Str.ofString "law") 1694), (Value.str (Str.ofString "law") 1695), (Value.str (Str.ofString "/claim/cut.py") 1696), (Value.int 733 0), (Value.int 1 0), (Value.int 0 0), (Value.int 0 0), (Value.int 3 0), (Value.ref 998), (Value.bool Bool.true), (Value.int 181 0), (Value.ref 999), Value.none, (Value.ref 1000), (Value.ref 1001), (Value.ref 1002), (Value.int 1709 0), (Value.int 733 0), (Value.str (Str.ofString "/claim/cut.py") 1710)]), #[]⟩) ::
    (nat_lit 1004, ⟨(Value.type "function"), none, (Data.func ⟨(Str.ofString "law"), (Str.ofString "law"), a1004, (FuncBody.stmts b1004), s1004, 3, [], Value.none, Value.none, Value.none, (Value.str (Str.ofString "law_bd0008_01") 1623), none, (Value.ref 1003), Value.none, 0⟩), #[]⟩) ::
    [])
noncomputable def hd.view_39 : Program := view PySem.Challenge.pw_bd0008_01 [26, 57]
def hd.loose : List Str := [Str.ofString "_wall", Str.ofString "NETWORKS", Str.ofString "hexlify", Str.ofString "Sha256", Str.ofString "hashlib", Str.ofString "double_sha256", Str.ofString "B58_DIGITS", Str.ofString "encode", Str.ofString "encode_base58", Str.ofString "decode", Str.ofString "decode_base58", Str.ofString "encode_check", Str.ofString "decode_check", Str.ofString "CHARSET", Str.ofString "BECH32_CONST", Str.ofString "BECH32M_CONST", Str.ofString "Encoding", Str.ofString "bech32_polymod", Str.ofString "bech32_hrp_expand", Str.ofString "bech32_verify_checksum", Str.ofString "bech32_create_checksum", Str.ofString "bech32_encode", Str.ofString "convertbits", Str.ofString "decode_bech32", Str.ofString "encode_bech32", Str.ofString "to_bytes", Str.ofString "_whence", Str.ofString "_index", Str.ofString "UnsupportedOperation", Str.ofString "IOBase", Str.ofString "BufferedIOBase", Str.ofString "TextIOBase", Str.ofString "BytesIO", Str.ofString "StringIO", Str.ofString "EmbitError", Str.ofString "EmbitBase", Str.ofString "Script", Str.ofString "address_to_scriptpubkey", Str.ofString "_law_frames", Str.ofString "_law_nets", Str.ofString "_law_number", Str.ofString "_law_octets", Str.ofString "_law_made", Str.ofString "_law_kind", Str.ofString "_law_address"]
def hd.ats : List Addr := [2, 3, 15, 22, 23, 24, 25, 26, 39, 40, 42, 43, 45, 46, 54, 56, 57, 59, 60, 61, 62, 63, 64, 65, 75, 76, 78, 79, 81, 82, 83, 84, 85, 86, 87, 88, 89, 90, 93, 95, 96, 98, 99, 100, 102, 103, 105, 106, 107, 109, 110, 112, 113, 114, 116, 117, 119, 120, 121, 123, 124, 126, 127, 135, 136, 137, 138, 139, 142, 144, 145, 147, 148, 149, 152, 153, 154, 156, 157, 159, 160, 161, 164, 165, 166, 169, 170, 171, 174, 175, 176, 177, 179, 180, 182, 183, 184, 186, 187, 189, 190, 191, 193, 194, 196, 197, 399, 445, 544, 546, 547, 549, 782, 783, 784, 792, 793, 794, 823, 824, 825, 847, 848, 849, 850, 851, 854, 861, 862, 864, 865, 867, 868, 869, 870, 872, 873, 875, 876, 884, 886, 887, 889, 890, 905, 906, 907, 908, 910, 911, 913, 914, 915, 916, 917, 939, 940, 941, 944, 946, 947, 949, 950, 951, 953, 954, 956, 957, 958, 959, 960, 961, 962, 963, 965, 966, 968, 969, 970, 972, 973, 975, 976, 977, 979, 980, 982, 983, 984, 986, 987, 989, 990, 991, 993, 994, 996, 997, 998, 1000, 1001, 1003, 1004]
set_option maxRecDepth 100000 in
theorem hd.atsE : ∀ P, hd.ats = (hd.heap_39 P).map (·.1) := fun P => by kernel_rfl
end Mine
end

section
open PySem PySem.W PySem.Calls PyProof.Rows
set_option maxRecDepth 100000
namespace Mine
theorem through_end (t : Thread) : through t = (endAt 0 t).isSome := by
  obtain ⟨cur, code, pos, stack⟩ := t
  unfold through endAt
  cases stack with
  | cons a r => rfl
  | nil =>
    cases cur with
    | pure x => cases x <;> rfl
    | _ => rfl
section
variable {tb : String → Option Builtin} {p : Program} {w : World} {n₀ : Nat} {ann : Option Value}
theorem topRun_of_seg : ∀ {n : Nat} {s s' : Shared} {t : Thread} {f : Flow} {c : Code} {q : Pos}, segRun tb p w n₀ ann 0 n s t = some (f, s', c, q) → topRun tb p w n₀ ann n s t = some s'
  | 0, _, _, _, _, _, _, h => by cases h
  | n + 1, s, s', t, f, c, q, h => by
    unfold segRun at h
    unfold topRun
    rw [through_end]
    cases he : endAt 0 t with
    | some x => rw [he] at h; cases h; rfl
    | none =>
      rw [he] at h
      dsimp only [Option.isSome] at h ⊢
      cases hk : stepOk n₀ ann t with
      | false => rw [hk] at h; cases h
      | true =>
        rw [hk] at h
        dsimp only at h ⊢
        cases hs : step (denote tb) p w s t with
        | go s2 t2 =>
          rw [hs] at h
          exact topRun_of_seg h
        | halt o x => rw [hs] at h; cases h
end
def lookAll (p q : Program) (loose : List Str) (Xt : Shared → Bool) {α : Type} (Yf : Shared → α) (g0 : Bool) (H : Heap) (s : Shared) :=
  ((staticsOk (importedModules p.main.body) H s.heap && namesBound p s.heap && gensDone s && laidKept H s.heap), openSeen q loose (importedModules p.main.body) Xt g0 s, Yf s)
/-- the head by one run of the whole top over the tree of objects -/
theorem left_of_run {p q : Program} {loose : List Str} {Xt : Shared → Bool} {α : Type} {Yf : Shared → α} {Ya : World → α} {N : Nat} {g0 : Bool} {T₀ : Params → BT} {n₀ : Nat} {life : Life} {ann : Option Value} {M : Nat}
    (e : opening p = plainProg p.main.scope.names) (hN : Nat.ble 600 N = true) (f : ∀ s, fenceModules? p s = some s)
    (abs0 : ∀ P, absHeap (T₀ P) n₀ life = boot_heap P)
    (size : ∀ w : World, ((boot_heap w.params).isNs mainGlobals, (boot_heap w.params).objs.size, (boot_heap w.params).nsMap mainGlobals "__annotations__") = (true, n₀, ann))
    (le : Nat.ble M N = true)
    (run : ∀ w : World, (fun os => (segRunT treeTable p w n₀ ann 0 M ⟨T₀ w.params, n₀, life, #[], boot_drawn, boot_toks, os⟩ (topStub p)).map fun x => lookAll p q loose Xt Yf g0 (boot_heap w.params) x.2.1.abs) = fun _ => some (true, openGood q loose, Ya w)) : LeftO p q loose Xt Yf Ya N g0 := fun w => by
  obtain ⟨⟨h, gs, d, k, os⟩, e1, e2⟩ := Option.map_eq_some_iff.mp (boot_open e hN f w)
  obtain ⟨rfl, rfl, rfl, rfl⟩ : h = boot_heap w.params ∧ gs = #[] ∧ d = boot_drawn ∧ k = boot_toks := by simpa using e2
  obtain ⟨z1, z2, z3⟩ : _ ∧ _ ∧ _ := by simpa only [Prod.mk.injEq] using size w
  obtain ⟨⟨fl, s1, c, ps⟩, r1, r2⟩ := Option.map_eq_some_iff.mp (congrFun (run w) os)
  obtain ⟨l1, l2, l3⟩ : _ ∧ _ ∧ _ := by simpa only [lookAll, Prod.mk.injEq] using r2
  have r3 := topRun_of_seg (segRun_of r1)
  have r := topRun_mono (N - M) _ _ _ _ r3
  rw [show M + (N - M) = N by have := Nat.le_of_ble_eq_true le; omega] at r
  have hs : (⟨T₀ w.params, n₀, life, #[], boot_drawn, boot_toks, os⟩ : SharedT).abs = ⟨boot_heap w.params, #[], boot_drawn, boot_toks, os⟩ := by
    unfold SharedT.abs
    rw [abs0]
  rw [hs] at r
  have t : topFrom treeTable p w N ⟨boot_heap w.params, #[], boot_drawn, boot_toks, os⟩ = some s1.abs := by
    unfold topFrom
    dsimp only
    rw [z1, z2, z3, r]
    show (match staticsOk (importedModules p.main.body) (boot_heap w.params) s1.abs.heap && namesBound p s1.abs.heap && gensDone s1.abs && laidKept (boot_heap w.params) s1.abs.heap with | true => _ | false => _) = _
    rw [l1]
  unfold openEnds
  rw [e1]
  show (topFrom treeTable p w N _).map _ = _
  rw [t]
  exact congrArg some (Prod.ext l2 l3)
end Mine
end

section
open PySem PySem.W PySem.Calls PyProof.Rows
set_option maxRecDepth 100000
namespace Mine
def obsT (as : List Addr) (x : SharedT) : List (Option Obj) := as.map fun a => match Nat.blt a x.n with
  | true => alive ((x.tree.get a).getD default)
  | false => none
theorem obsT_eq (as : List Addr) (x : SharedT) : as.map x.abs.heap.get? = obsT as x := by
  unfold obsT
  refine List.map_congr_left fun a _ => ?_
  show (absHeap x.tree x.n x.life).get? a = _
  cases h : Nat.blt a x.n with
  | true =>
    have hl : a < x.n := Nat.le_of_ble_eq_true h
    unfold Heap.get?
    rw [absHeap_at, if_pos hl]
    show (match some ((x.tree.get a).getD default) with | some ⟨_, _, .freed, _⟩ => none | o => o) = alive _
    generalize (x.tree.get a).getD default = o
    obtain ⟨c, d, dt, sl⟩ := o
    cases dt <;> rfl
  | false =>
    refine abs_get_none fun hl => ?_
    rw [show Nat.blt a x.n = true from Nat.ble_eq_true_of_le hl] at h
    cases h
noncomputable def bt0 (P : Params) : BT := ((boot_heap P).objs.toList.foldl (fun (x : BT × Nat) o => (x.1.ins x.2 o, x.2 + 1)) (BT.nil, 0)).1
noncomputable def hd.rw : RowW := OpenRow.toRowW PySem.Challenge.rw_bd0008_01.row
noncomputable def hd.Xt (s : Shared) : Bool := xlAt hd.view_39 [] s && recOk (RowW.records hd.rw) s
/-- one run of the whole top, what it leaves looked at -/
def RunOk (w : World) : Prop := (fun os : OsState => (segRunT treeTable PySem.Challenge.pw_bd0008_01 w 11 (some (.ref 6)) 0 9000 ⟨bt0 w.params, 11, { debug := 0, thresholds := [2000, 10, 10] }, #[], boot_drawn, boot_toks, os⟩ (topStub PySem.Challenge.pw_bd0008_01)).map fun x =>
    (lookAll PySem.Challenge.pw_bd0008_01 hd.view_39 hd.loose hd.Xt (fun _ => ()) true (boot_heap w.params) x.2.1.abs, obsT hd.ats x.2.1)) = fun _ => some ((true, openGood hd.view_39 hd.loose, ()), (hd.heap_39 w.params).map fun p => some p.2)
theorem run_no : ∀ w : World, RunOk (w.withFollow "special-get-raises" false) := by
  unfold RunOk
  rw [PySem.W.Fast.te10110043849684766642, PySem.W.Fast.te14364793385576792824]
  exact fun w => by kernel_rfl
theorem run_yes : ∀ w : World, RunOk (w.withFollow "special-get-raises" true) := by
  unfold RunOk
  rw [PySem.W.Fast.te10110043849684766642, PySem.W.Fast.te14364793385576792824]
  exact fun w => by kernel_rfl
theorem run2 (w : World) : RunOk w := byRow2 "special-get-raises" run_no run_yes w
end Mine
end

section
open PySem PySem.W PySem.Calls PyProof.Rows
set_option maxRecDepth 100000
namespace Mine
theorem left_of_runT {p q : Program} {loose : List Str} {Xt : Shared → Bool} {α : Type} {Yf : Shared → α} {YT : SharedT → α} {Ya : World → α} {N : Nat} {g0 : Bool} {T₀ : Params → BT} {n₀ : Nat} {life : Life} {ann : Option Value} {M : Nat}
    (hY : ∀ x, Yf (SharedT.abs x) = YT x)
    (e : opening p = plainProg p.main.scope.names) (hN : Nat.ble 600 N = true) (f : ∀ s, fenceModules? p s = some s)
    (abs0 : ∀ P, absHeap (T₀ P) n₀ life = boot_heap P)
    (size : ∀ w : World, ((boot_heap w.params).isNs mainGlobals, (boot_heap w.params).objs.size, (boot_heap w.params).nsMap mainGlobals "__annotations__") = (true, n₀, ann))
    (le : Nat.ble M N = true)
    (run : ∀ w : World, (fun os => (segRunT treeTable p w n₀ ann 0 M ⟨T₀ w.params, n₀, life, #[], boot_drawn, boot_toks, os⟩ (topStub p)).map fun x => (lookAll p q loose Xt (fun _ => ()) g0 (boot_heap w.params) x.2.1.abs, YT x.2.1)) = fun _ => some ((true, openGood q loose, ()), Ya w)) : LeftO p q loose Xt Yf Ya N g0 := by
  refine left_of_run (T₀ := T₀) (n₀ := n₀) (life := life) (ann := ann) (M := M) e hN f abs0 size le fun w => funext fun os => ?_
  have h := congrFun (run w) os
  obtain ⟨x, h1, h2⟩ := Option.map_eq_some_iff.mp h
  show Option.map _ _ = _
  rw [h1]
  show some (lookAll p q loose Xt Yf g0 (boot_heap w.params) x.2.1.abs) = _
  have h3 := congrArg (fun z => z.1.1) h2
  have h4 := congrArg (fun z => z.1.2.1) h2
  have h5 := congrArg (fun z => z.2) h2
  exact congrArg some (Prod.ext h3 (Prod.ext h4 ((hY x.2.1).trans h5)))
theorem hd.left : LeftO PySem.Challenge.pw_bd0008_01 hd.view_39 hd.loose hd.Xt (Hook.obs (kHook hd.heap_39 hd.ats hd.atsE)) (Hook.val (kHook hd.heap_39 hd.ats hd.atsE)) 9000 :=
  left_of_runT (YT := obsT hd.ats) (T₀ := bt0) (fun x => obsT_eq hd.ats x) (by kernel_rfl) (by decide) (fun s => by with_unfolding_all rfl) (fun P => by kernel_rfl) (fun w => by kernel_rfl) (by decide) run2
set_option maxHeartbeats 8000000 in
theorem hd.said : PySem.Challenge.rw_bd0008_01.wellSaid = true := by
  unfold OpenLaw.wellSaid OpenRow.wellSaid OpenRow.partSaid looksOpen
  repeat' (with_reducible refine look_both ?_ ?_)
  all_goals decide +kernel
set_option maxHeartbeats 8000000 in
theorem hd {d : DefRec} {kwd : List (Str × PySem.Expr)} (hdef : defOf hd.view_39 (Str.ofString "law") = some (d, kwd)) (hp : PySem.Challenge.pw_bd0008_01.theDef (Str.ofString "law") = some (d.params, d.body, d.scope)) (hk : kwWritten? d.params.kwonlyargs d.params.kw_defaults = some kwd)
    (call : WalkO hd.view_39 hd.loose (XL hd.view_39 []) (Hook.says (kHook hd.heap_39 hd.ats hd.atsE)) hd.rw d kwd fun f vs => PySem.call f vs) : PySem.Challenge.rw_bd0008_01.Holds := by
  w_on
  refine holds_law hd.said fun said => ?_
  refine holds_open (q := hd.view_39) (loose := hd.loose) (Xt := hd.Xt) (XP := XL hd.view_39 []) (Yf := Hook.obs (kHook hd.heap_39 hd.ats hd.atsE)) (Ya := Hook.val (kHook hd.heap_39 hd.ats hd.atsE)) (YP := Hook.says (kHook hd.heap_39 hd.ats hd.atsE)) (N := 9000) hd.left (Hook.of _) (Hook.keeps _) (fun s e => xl_of s (Bool.and_eq_true_iff.mp e).1) XL.keeps hdef hp hk (fun s e => recFacts_of (Bool.and_eq_true_iff.mp e).2) (by rfl) said (by decide +kernel) ⟨rfl, rfl, rfl, rfl, rfl, by decide +kernel⟩ ?hw call
  case hw => w_witness2
end Mine
end

section
set_option maxRecDepth 100000
namespace Mine
open PySem

theorem sealedT {α : Sort _} (a : α) : ∃ x : α, x = a := ⟨a, rfl⟩

/-! numbers in a base -/
def val0 (B : Nat) (l : List Nat) : Nat := l.foldl (fun a x => a * B + x) 0
noncomputable def val : Nat → List Nat → Nat := Classical.choose (sealedT val0)
theorem val_def (B : Nat) (l : List Nat) : val B l = l.foldl (fun a x => a * B + x) 0 := congrFun (congrFun (Classical.choose_spec (sealedT val0)) B) l
def dig0 (B k X : Nat) : List Nat := if _h : k = 0 then [] else dig0 B (k - 1) (X / B) ++ [X % B]
termination_by k
noncomputable def dig : Nat → Nat → Nat → List Nat := Classical.choose (sealedT dig0)
theorem dig_def (B k X : Nat) : dig B k X = dig0 B k X := congrFun (congrFun (congrFun (Classical.choose_spec (sealedT dig0)) B) k) X
theorem dig_zero (B X : Nat) : dig B 0 X = [] := by rw [dig_def, dig0, dif_pos rfl]
theorem dig_succ (B k X : Nat) : dig B (k + 1) X = dig B k (X / B) ++ [X % B] := by rw [dig_def, dig_def, dig0, dif_neg (Nat.succ_ne_zero k)]; rfl

theorem val_snoc (B : Nat) (l : List Nat) (x : Nat) : val B (l ++ [x]) = val B l * B + x := by
  rw [val_def, val_def, List.foldl_append]; rfl
theorem val_nil (B : Nat) : val B [] = 0 := val_def B []

theorem dig_length (B k X : Nat) : (dig B k X).length = k := by
  induction k generalizing X with
  | zero => rw [dig_zero]; rfl
  | succ k ih => rw [dig_succ, List.length_append, ih]; rfl

theorem dig_lt {B : Nat} (hB : 0 < B) (k X : Nat) : ∀ x ∈ dig B k X, x < B := by
  induction k generalizing X with
  | zero => intro x hx; rw [dig_zero] at hx; cases hx
  | succ k ih =>
    intro x hx
    simp only [dig_succ, List.mem_append, List.mem_singleton] at hx
    rcases hx with h | rfl
    · exact ih _ _ h
    · exact Nat.mod_lt _ hB

theorem val_dig (B k X : Nat) : val B (dig B k X) = X % B ^ k := by
  induction k generalizing X with
  | zero => simp [dig_zero, val_nil, Nat.mod_one]
  | succ k ih =>
    rw [dig_succ, val_snoc, ih, Nat.pow_succ, Nat.mul_comm (B ^ k) B, Nat.mod_mul, Nat.mul_comm B]; omega

theorem snoc_ind {α : Type} {P : List α → Prop} (h0 : P []) (h1 : ∀ l x, P l → P (l ++ [x])) : ∀ l, P l := by
  intro l
  have : ∀ n, ∀ l : List α, l.length = n → P l := by
    intro n
    induction n with
    | zero => intro l hl; rw [List.eq_nil_of_length_eq_zero hl]; exact h0
    | succ n ih =>
      intro l hl
      have hne : l ≠ [] := by intro e; rw [e] at hl; cases hl
      rw [← List.dropLast_concat_getLast hne]
      refine h1 _ _ (ih _ ?_)
      rw [List.length_dropLast, hl]; rfl
  exact this _ l rfl

theorem val_lt {B : Nat} (l : List Nat) (h : ∀ x ∈ l, x < B) : val B l < B ^ l.length := by
  induction l using snoc_ind with
  | h0 => simp [val_nil]
  | h1 l x ih =>
    rw [val_snoc, List.length_append]
    have h1 := ih (fun y hy => h y (List.mem_append.mpr (.inl hy)))
    have h2 := h x (List.mem_append.mpr (.inr (.head _)))
    show _ < B ^ (l.length + 1)
    rw [Nat.pow_succ]
    have h3 : (val B l + 1) * B ≤ B ^ l.length * B := Nat.mul_le_mul_right _ h1
    rw [Nat.add_mul, Nat.one_mul] at h3
    omega

theorem dig_val {B : Nat} (l : List Nat) (h : ∀ x ∈ l, x < B) : dig B l.length (val B l) = l := by
  induction l using snoc_ind with
  | h0 => exact dig_zero _ _
  | h1 l x ih =>
    have h1 := ih (fun y hy => h y (List.mem_append.mpr (.inl hy)))
    have h2 := h x (List.mem_append.mpr (.inr (.head _)))
    have hB : 0 < B := by omega
    rw [val_snoc, List.length_append]
    show dig B (l.length + 1) _ = _
    rw [dig_succ]
    have e1 : (val B l * B + x) / B = val B l := by
      rw [Nat.mul_comm, Nat.mul_add_div hB, Nat.div_eq_of_lt h2, Nat.add_zero]
    have e2 : (val B l * B + x) % B = x := by
      rw [Nat.mul_comm, Nat.mul_add_mod, Nat.mod_eq_of_lt h2]
    rw [e1, e2, h1]

theorem val_append (B : Nat) (l m : List Nat) : val B (l ++ m) = val B l * B ^ m.length + val B m := by
  induction m using snoc_ind with
  | h0 => simp [val_nil]
  | h1 m x ih =>
    rw [← List.append_assoc, val_snoc, ih, val_snoc, List.length_append]
    show _ = _ * B ^ (m.length + 1) + _
    rw [Nat.pow_succ, Nat.add_mul, Nat.mul_assoc]; omega

theorem val_replicate_zero (B p : Nat) (l : List Nat) : val B (List.replicate p 0 ++ l) = val B l := by
  rw [val_append]
  have : val B (List.replicate p 0) = 0 := by
    induction p with
    | zero => exact val_nil B
    | succ p ih => rw [List.replicate_succ', val_snoc, ih, Nat.zero_mul]
  rw [this, Nat.zero_mul, Nat.zero_add]

/-! minimal digits, most significant last -/
def ldig0 (B : Nat) (n : Nat) : List Nat := if _h : n = 0 ∨ B < 2 then [] else n % B :: ldig0 B (n / B)
termination_by n
decreasing_by
  have : 0 < n := by omega
  exact Nat.div_lt_self this (by omega)
noncomputable def ldig : Nat → Nat → List Nat := Classical.choose (sealedT ldig0)
theorem ldig_def (B n : Nat) : ldig B n = ldig0 B n := congrFun (congrFun (Classical.choose_spec (sealedT ldig0)) B) n
theorem ldig_zero (B : Nat) : ldig B 0 = [] := by rw [ldig_def, ldig0]; simp
theorem ldig_pos {B n : Nat} (hB : 2 ≤ B) (hn : 0 < n) : ldig B n = n % B :: ldig B (n / B) := by
  rw [ldig_def, ldig_def, ldig0, dif_neg (by omega)]

theorem val_ldig {B : Nat} (hB : 2 ≤ B) (n : Nat) : val B (ldig B n).reverse = n := by
  induction n using Nat.strongRecOn with
  | ind n ih =>
    by_cases h0 : n = 0
    · subst h0; rw [ldig_zero]; exact val_nil B
    · rw [ldig_pos hB (by omega), List.reverse_cons, val_snoc, ih _ (Nat.div_lt_self (by omega) (by omega)), Nat.mul_comm]
      exact Nat.div_add_mod n B

theorem ldig_lt {B : Nat} (hB : 2 ≤ B) (n : Nat) : ∀ x ∈ ldig B n, x < B := by
  induction n using Nat.strongRecOn with
  | ind n ih =>
    by_cases h0 : n = 0
    · subst h0; rw [ldig_zero]; intro x hx; cases hx
    · rw [ldig_pos hB (by omega)]
      intro x hx
      rcases List.mem_cons.mp hx with rfl | hx
      · exact Nat.mod_lt _ (by omega)
      · exact ih _ (Nat.div_lt_self (by omega) (by omega)) x hx

theorem ldig_lead {B : Nat} (hB : 2 ≤ B) (n : Nat) (hn : 0 < n) : ∃ d r, (ldig B n).reverse = d :: r ∧ d ≠ 0 := by
  induction n using Nat.strongRecOn with
  | ind n ih =>
    rw [ldig_pos hB hn, List.reverse_cons]
    by_cases h0 : n / B = 0
    · rw [h0, ldig_zero]
      refine ⟨n % B, [], rfl, ?_⟩
      have : n < B := by
        rcases Nat.div_eq_zero_iff.mp h0 with h | h <;> omega
      rw [Nat.mod_eq_of_lt this]; omega
    · obtain ⟨d, r, e, hd⟩ := ih (n / B) (Nat.div_lt_self hn (by omega)) (Nat.pos_of_ne_zero h0)
      exact ⟨d, r ++ [n % B], by rw [e]; rfl, hd⟩

theorem ldig_length_le {B : Nat} (hB : 2 ≤ B) (k n : Nat) (h : n < B ^ k) : (ldig B n).length ≤ k := by
  induction k generalizing n with
  | zero =>
    have : n = 0 := by simpa using h
    subst this; rw [ldig_zero]; exact Nat.le_refl 0
  | succ k ih =>
    by_cases h0 : n = 0
    · subst h0; rw [ldig_zero]; exact Nat.zero_le _
    · rw [ldig_pos hB (by omega), List.length_cons]
      refine Nat.succ_le_succ (ih _ ?_)
      rw [Nat.pow_succ, Nat.mul_comm] at h
      exact Nat.div_lt_of_lt_mul h

theorem ldig_length_ge {B : Nat} (hB : 2 ≤ B) (k n : Nat) (h : B ^ k ≤ n) : k < (ldig B n).length := by
  induction k generalizing n with
  | zero =>
    have : 0 < n := by rw [Nat.pow_zero] at h; exact h
    rw [ldig_pos hB this, List.length_cons]; omega
  | succ k ih =>
    have h0 : 0 < n := Nat.lt_of_lt_of_le (Nat.pow_pos (by omega)) h
    rw [ldig_pos hB h0, List.length_cons]
    refine Nat.succ_lt_succ (ih _ ?_)
    rw [Nat.pow_succ] at h
    exact (Nat.le_div_iff_mul_le (by omega)).mpr h

theorem dig_eq (B : Nat) : ∀ (k X : Nat), dig B k X = ((List.range k).map fun i => X / B ^ i % B).reverse
  | 0, X => dig_zero B X
  | k + 1, X => by
    rw [dig_succ, dig_eq B k, List.range_succ_eq_map, List.map_cons, List.map_map, List.reverse_cons]
    have e : ((fun i => X / B ^ i % B) ∘ Nat.succ) = fun i => X / B / B ^ i % B := by
      funext i
      show X / B ^ (i + 1) % B = _
      rw [Nat.pow_succ, Nat.mul_comm, Nat.div_div_eq_div_mul]
    rw [e, Nat.pow_zero, Nat.div_one]

/-- naturals as the walk's ints -/
def nI (l : List Nat) : List Int := l.map fun (n : Nat) => (n : Int)
theorem nI_length (l : List Nat) : (nI l).length = l.length := by simp [nI]
theorem nI_append (l m : List Nat) : nI l ++ nI m = nI (l ++ m) := by simp [nI]
theorem nI_take (l : List Nat) (k : Nat) : (nI l).take k = nI (l.take k) := by simp [nI]
theorem nI_drop (l : List Nat) (k : Nat) : (nI l).drop k = nI (l.drop k) := by simp [nI]
theorem nI_reverse (l : List Nat) : (nI l).reverse = nI l.reverse := by simp [nI]
theorem nI_inj {l m : List Nat} (h : nI l = nI m) : l = m := by
  have e : ∀ l : List Nat, (nI l).map Int.toNat = l := fun l => by
    rw [nI, List.map_map]
    exact List.map_id' l
  rw [← e l, h, e m]
theorem nI_getD (l : List Nat) (j : Nat) : (nI l).getD j 0 = ((l.getD j 0 : Nat) : Int) := by
  simp only [nI, List.getD_eq_getElem?_getD, List.getElem?_map]
  cases l[j]? <;> rfl
theorem bytes_bound {b : Array UInt8} {l : List Nat} (h : PySem.W.KBw.bInts b = nI l) : ∀ x ∈ l, x < 256 := by
  intro x hx
  have : (x : Int) ∈ PySem.W.KBw.bInts b := by rw [h]; exact List.mem_map.mpr ⟨x, hx, rfl⟩
  have := PySem.W.KBw.ints_in this
  omega
theorem foldI_val : ∀ (l : List UInt8) (a : Nat), l.foldl (fun (acc : Int) (b : UInt8) => acc * 256 + (b.toNat : Int)) (a : Int) = (((l.map UInt8.toNat).foldl (fun a x => a * 256 + x) a : Nat) : Int)
  | [], _ => rfl
  | c :: r, a => by
    have e : ((a : Int) * 256 + (c.toNat : Int)) = ((a * 256 + c.toNat : Nat) : Int) := by push_cast; rfl
    rw [List.foldl_cons, List.map_cons, List.foldl_cons, e, foldI_val r]
theorem bInts_nat {b : Array UInt8} {l : List Nat} (h : PySem.W.KBw.bInts b = nI l) : b.toList.map UInt8.toNat = l := by
  apply nI_inj
  rw [← h]
  simp [nI, PySem.W.KBw.bInts]

end Mine
end

section
open PySem PySem.W PyProof.Rows
set_option maxRecDepth 100000
namespace Mine

theorem rm0 {a D N : Nat} (h : a + D < N) : a < N := Nat.lt_of_le_of_lt (Nat.le_add_right a D) h
theorem rm1 {a b D N : Nat} (h : a + D < N) (k : b ≤ D) : a + b < N := Nat.lt_of_le_of_lt (Nat.add_le_add_left k a) h
theorem rm2 {a b c D N : Nat} (h : a + D < N) (k : b + c ≤ D) : a + b + c < N := Nat.lt_of_le_of_lt (Nat.add_assoc a b c ▸ Nat.add_le_add_left k a) h
theorem rm3 {a b c d D N : Nat} (h : a + D < N) (k : b + c + d ≤ D) : a + b + c + d < N := by rw [Nat.add_assoc a b c] at *; exact rm2 h k
theorem le_c {x a b : Nat} (h : x ≤ a) (k : a ≤ b) : x ≤ b := Nat.le_trans h k

section
variable {α : Type} {M : Model} {A : Around} {E : Value → Shared → Prop} {h : Heap} {g : Array GenState} {d : Drawn} {n : Nat} {o : OsState} {env : Env} {kk : Nat} {pos : Pos}
theorem gen_toks {t : Sem α} {Q : α → Shared → Prop} (k : ∀ n, wpAny M A t Q E ⟨h, g, d, n, o⟩) : wpAny M A t Q E ⟨h, g, d, n, o⟩ := k n
theorem cst_int {i : Int} {Q : Value → Shared → Prop} (k : ∀ t n', Q (.int i t) ⟨h, g, d, n', o⟩) : wpAny M A (eval (.Constant (.int i) kk pos) env) Q E ⟨h, g, d, n, o⟩ := wpAny_Constant_int (k _ _)
theorem cst_str {x : Str} {Q : Value → Shared → Prop} (k : ∀ t n', Q (.str x t) ⟨h, g, d, n', o⟩) : wpAny M A (eval (.Constant (.str x) kk pos) env) Q E ⟨h, g, d, n, o⟩ := Calls.Constant_str (k _ _)
theorem cst_bytes {x : List UInt8} {Q : Value → Shared → Prop} (k : ∀ t n', Q (.bytes x.toArray t) ⟨h, g, d, n', o⟩) : wpAny M A (eval (.Constant (.bytes x) kk pos) env) Q E ⟨h, g, d, n, o⟩ := PySem.W.Constant_bytes (k _ _)
end

abbrev Led := List (Addr × Obj)

/-- what is said of a call of the def at f: it ends, and gives v with the objects tl made anew, by R -/
def Says (prog : Program) (w : World) (p : Program) (loose : List Str) (mean : ExcName → Option Value) (mg mb : Str → Option Value)
    (D U : Nat) (f : Addr) (vs : List Value) (pre : Heap → Led → Prop) (R : Value → Led → Prop) : Prop :=
  ∀ (dp un : Nat) (gd : Option (List Code)) (cn : Str) (cs : Scope) (a : Addr) (ccd : Value) (cl : List (Str × Addr)) (outer : List Env) (A₀ : Around)
    (base h₀ : Heap) (L : Addr) (m : Str → Option Value) (news : Led) (s : Shared) (Q E : Value → Shared → Prop),
    Below A₀ base outer h₀ → Fr h₀ L s.heap m → (hd.heap_39 w.params).In h₀ → News h₀ L s.heap news → Top p loose mean mg mb h₀ → cs.kind = .function →
    pre base news → dp + D < recursionLimit → un + U < cLine →
    (∀ (v : Value) (tl : Led) (h' : Heap) (tk' : Nat), R v tl → Fr h₀ L h' m → News h₀ L h' (tl ++ news) → (∀ x ∈ tl, ∀ q ∈ news, q.1 < x.1) → Q v { s with heap := h', toks := tk' }) →
    wpAny (model prog w) (ktrTop dp un gd cn cs L a ccd cl outer) (call (.ref f) vs) Q E s

def RInt (x : Int) (v : Value) (tl : Led) : Prop := tl = [] ∧ ∃ t, v = .int x t
def RStr (x : Str) (v : Value) (tl : Led) : Prop := tl = [] ∧ ∃ t, v = .str x t
def RBytes (ks : List Int) (v : Value) (tl : Led) : Prop := tl = [] ∧ ∃ b t, v = .bytes b t ∧ KBw.bInts b = ks
def RVal (x : Value) (v : Value) (tl : Led) : Prop := tl = [] ∧ v = x

section
variable {h₀ h' : Heap} {L : Addr} {m : Str → Option Value} {news news' : Led} {s : Shared} {Q : Value → Shared → Prop} {t : Tok} {tk' : Nat}
abbrev RetT (h₀ : Heap) (L : Addr) (m : Str → Option Value) (news : Led) (s : Shared) (Q : Value → Shared → Prop) (R : Value → Led → Prop) : Prop :=
  ∀ (v : Value) (tl : Led) (h' : Heap) (tk' : Nat), R v tl → Fr h₀ L h' m → News h₀ L h' (tl ++ news) → (∀ x ∈ tl, ∀ q ∈ news, q.1 < x.1) → Q v { s with heap := h', toks := tk' }
theorem ret_int {x y : Int} (hret : RetT h₀ L m news s Q (RInt x)) (e : y = x) (F : Fr h₀ L h' m) (N : News h₀ L h' news') (hs : ∀ p ∈ news, p ∈ news') : Q (.int y t) { s with heap := h', toks := tk' } := by
  subst e
  exact hret _ [] h' tk' ⟨rfl, t, rfl⟩ F (fun p hp => N p (hs p hp)) (fun _ hx => nomatch hx)
theorem ret_str {x y : Str} (hret : RetT h₀ L m news s Q (RStr x)) (e : y = x) (F : Fr h₀ L h' m) (N : News h₀ L h' news') (hs : ∀ p ∈ news, p ∈ news') : Q (.str y t) { s with heap := h', toks := tk' } := by
  subst e
  exact hret _ [] h' tk' ⟨rfl, t, rfl⟩ F (fun p hp => N p (hs p hp)) (fun _ hx => nomatch hx)
theorem ret_bytes {ks ls : List Int} {b : Array UInt8} (hret : RetT h₀ L m news s Q (RBytes ks)) (hb : KBw.bInts b = ls) (e : ls = ks) (F : Fr h₀ L h' m) (N : News h₀ L h' news') (hs : ∀ p ∈ news, p ∈ news') : Q (.bytes b t) { s with heap := h', toks := tk' } := by
  subst e
  exact hret _ [] h' tk' ⟨rfl, b, t, rfl, hb⟩ F (fun p hp => N p (hs p hp)) (fun _ hx => nomatch hx)
theorem ret_val {x y : Value} (hret : RetT h₀ L m news s Q (RVal x)) (e : y = x) (F : Fr h₀ L h' m) (N : News h₀ L h' news') (hs : ∀ p ∈ news, p ∈ news') : Q y { s with heap := h', toks := tk' } := by
  subst e
  exact hret _ [] h' tk' ⟨rfl, rfl⟩ F (fun p hp => N p (hs p hp)) (fun _ hx => nomatch hx)
end

theorem rt_int {h₀ : Heap} {L : Addr} {m : Str → Option Value} {news : Led} {s : Shared} {Q : Value → Shared → Prop} {x : Int} (k : ∀ (t : Tok) (h' : Heap) (tk' : Nat), Fr h₀ L h' m → News h₀ L h' (news) → Q (.int x t) { s with heap := h', toks := tk' }) : RetT h₀ L m news s Q (RInt x) := by
  rintro v tl h' tk' ⟨rfl, t, rfl⟩ F N l
  exact k t h' tk' F N
theorem rt_str {h₀ : Heap} {L : Addr} {m : Str → Option Value} {news : Led} {s : Shared} {Q : Value → Shared → Prop} {x : Str} (k : ∀ (t : Tok) (h' : Heap) (tk' : Nat), Fr h₀ L h' m → News h₀ L h' (news) → Q (.str x t) { s with heap := h', toks := tk' }) : RetT h₀ L m news s Q (RStr x) := by
  rintro v tl h' tk' ⟨rfl, t, rfl⟩ F N l
  exact k t h' tk' F N
theorem rt_bytes {h₀ : Heap} {L : Addr} {m : Str → Option Value} {news : Led} {s : Shared} {Q : Value → Shared → Prop} {ks : List Int} (k : ∀ (b : Array UInt8) (t : Tok) (h' : Heap) (tk' : Nat), KBw.bInts b = ks → Fr h₀ L h' m → News h₀ L h' (news) → Q (.bytes b t) { s with heap := h', toks := tk' }) : RetT h₀ L m news s Q (RBytes ks) := by
  rintro v tl h' tk' ⟨rfl, b, t, rfl, hb⟩ F N l
  exact k b t h' tk' hb F N
theorem rt_val {h₀ : Heap} {L : Addr} {m : Str → Option Value} {news : Led} {s : Shared} {Q : Value → Shared → Prop} {x : Value} (k : ∀ (h' : Heap) (tk' : Nat), Fr h₀ L h' m → News h₀ L h' (news) → Q x { s with heap := h', toks := tk' }) : RetT h₀ L m news s Q (RVal x) := by
  rintro v tl h' tk' ⟨rfl, rfl⟩ F N l
  exact k h' tk' F N

theorem fill : PySem.Challenge.rw_bd0008_01 = PySem.Challenge.rw_bd0008_01 ∧ hd.heap_39 = hd.heap_39 := by
  w_on
  k_fill
  exact ⟨rfl, rfl⟩

variable {prog : Program} {w : World} {p : Program} {loose : List Str} {mean : ExcName → Option Value} {mg mb : Str → Option Value}

def numAt (ns : List Int) (place : Int) : Int := (if ns.length = 0 then 0 else ns.getD (place % (ns.length : Int)).toNat 0) + 7 * place

set_option maxHeartbeats 4000000 in
theorem c_number (l : Addr) (vs : List Value) (ns : List Int) (i : Int) (t : Tok) :
    Says prog w p loose mean mg mb 10 40 969 [.ref l, .int i t] (fun base _ => base.IsList l vs.toArray ∧ IntsAre vs ns ∧ ns.length < 2 ^ 62 ∧ 0 ≤ i) (RInt (numAt ns i)) := by
  unfold Says
  intro dp un gd cn cs a ccd cl outer A₀ base h₀ L m news s Q E B F X N T hk hpre hdp hu hret
  obtain ⟨hl, hi, hf, h0⟩ := hpre
  refine wpAny_call ?_
  w_strict (k_dflt cell_enter)
  k_steps
  · exact ret_int hret (by unfold numAt; rw [if_neg (by omega), Int.fmod_eq_emod_of_nonneg _ (by omega)]) (by k_asm) (by k_asm) (fun _ h => h)
  · exact ret_int hret (by unfold numAt; rw [if_pos (by omega)]) (by k_asm) (by k_asm) (fun _ h => h)

theorem Says.use {D U : Nat} {f : Addr} {vs : List Value} {pre : Heap → Led → Prop} {R : Value → Led → Prop} {dp un : Nat} {gd : Option (List Code)} {cn : Str} {cs : Scope} {a : Addr} {ccd : Value} {cl : List (Str × Addr)} {outer : List Env} {A₀ : Around}
    {base h₀ : Heap} {L : Addr} {m : Str → Option Value} {news : Led} {s : Shared} {Q E : Value → Shared → Prop} (C : Says prog w p loose mean mg mb D U f vs pre R)
    (B : Below A₀ base outer h₀) (F : Fr h₀ L s.heap m) (X : (hd.heap_39 w.params).In h₀) (N : News h₀ L s.heap news) (T : Top p loose mean mg mb h₀) (hk : cs.kind = .function)
    (hp : pre base news) (hdp : dp + D < recursionLimit) (hu : un + U < cLine)
    (ret : RetT h₀ L m news s Q R) :
    wpAny (model prog w) (ktrTop dp un gd cn cs L a ccd cl outer) (call (.ref f) vs) Q E s := C dp un gd cn cs a ccd cl outer A₀ base h₀ L m news s Q E B F X N T hk hp hdp hu ret
end Mine
end

section
open PySem PySem.W PySem.Calls PyProof.Rows
set_option maxRecDepth 100000
namespace Mine
variable {prog : Program} {w : World} {A : Around} {E : Value → Shared → Prop} {s : Shared} {h₀ : Heap} {L : Addr} {m : Str → Option Value} {news : Led}

theorem low_big {X k : Nat} (h : X < 256 ^ k) : (KTBy.low (X : Int) k).map (fun c => ((c.toNat : Nat) : Int)) = nI (dig 256 k X).reverse := by
  rw [KTBy.low_ints (by omega) (by rw [KTBy.p256]; exact Int.ofNat_lt.mpr h), dig_eq, List.reverse_reverse, nI, List.map_map]
  refine List.map_congr_left fun i _ => ?_
  show (X : Int) / 256 ^ i % 256 = ((X / 256 ^ i % 256 : Nat) : Int)
  rw [KTBy.p256]; rfl

theorem bits_small {X k : Nat} (h : X < 256 ^ k) : Builtin.Int.intBits (X : Int) ≤ 8 * k :=
  KTBy.bits_le (B := 256 ^ k) rfl (by omega) (by rw [KTBy.p256]; exact Int.ofNat_lt.mpr h)

theorem to_bytes_any {o : String} {lit : Bool} {t u v : Tok} {x K : Int} {X k : Nat} {Q : Value → Shared → Prop} (ho : (o = "big" ∧ lit = false) ∨ (o = "little" ∧ lit = true)) (hx : x = (X : Int)) (hK : K = (k : Int)) (hk : k ≤ 10000) (hX : X < 256 ^ k)
    (h : ∀ (b : Array UInt8) t' k', KBw.bInts b = nI (if lit then (dig 256 k X).reverse else dig 256 k X) → Q (.bytes b t') { s with toks := k' }) :
    wpAny (model prog w) A (call (.builtin "int.to_bytes") [.int x t, .int K u, .str (PySem.Str.ofString o) v]) Q E s := by
  subst hx hK
  have hb := bits_small hX
  refine wpAny_call_entry KTBy.slot (typeIs_int s (X : Int) t) KTBy.entry ?_ (KTBy.args _ _ _)
  show wpAny _ _ (Builtin.Int.intOfSelf (.int (X : Int) t) >>= fun y => _) _ _ s
  refine wpAny_bind (wpAny_of_eq (a := (X : Int)) rfl ?_)
  show wpAny _ _ (Builtin.Int.intBindNamed "to_bytes" ["length", "byteorder", "signed"] 0 2 [.int (k : Int) u, .str (PySem.Str.ofString o) v] [] >>= fun l => _) _ _ s
  refine wpAny_bind (wpAny_of_eq (a := [some (.int (k : Int) u), some (.str (PySem.Str.ofString o) v), none]) (by rcases ho with ⟨rfl, _⟩ | ⟨rfl, _⟩ <;> kernel_rfl) ?_)
  show wpAny _ _ (Builtin.Int.intIndex "int.to_bytes" (.int (k : Int) u) >>= fun n => _) _ _ s
  refine wpAny_bind (wpAny_of_eq (a := (k : Int)) rfl ?_)
  refine KTBy.if_not (by show (decide ((k : Int) < -(2 ^ 63 : Int)) || decide ((k : Int) ≥ 2 ^ 63)) = false; rw [decide_eq_false (show ¬ ((k : Int) < -(2 ^ 63 : Int)) by omega), decide_eq_false (show ¬ ((k : Int) ≥ 2 ^ 63) by omega)]; rfl) ?_
  refine wpAny_bind (wpAny_of_eq (a := PySem.Str.ofString o) (by rcases ho with ⟨rfl, _⟩ | ⟨rfl, _⟩ <;> kernel_rfl) ?_)
  refine wpAny_bind (wpAny_of_eq (a := false) rfl ?_)
  refine wpAny_bind (wpAny_of_eq (a := lit) (by rcases ho with ⟨rfl, rfl⟩ | ⟨rfl, rfl⟩ <;> kernel_rfl) ?_)
  refine wpAny_ite_false (decide_eq_false (show ¬ ((k : Int) < 0) by omega)) ?_
  refine wpAny_ite_false (decide_eq_false (show ¬ ((k : Int) > 2 ^ 63 - 1 - 33) by omega)) ?_
  refine wpAny_ite_false (decide_eq_false (show ¬ ((k : Int) > (sizeLine : Int)) by rw [sizeLine_eq]; omega)) ?_
  refine KTBy.if_not (by show (decide ((X : Int) < 0) && !false) = false; rw [decide_eq_false (show ¬ (X : Int) < 0 by omega)]; rfl) ?_
  refine KTBy.if_not (by show (_ && decide ((Builtin.Int.intBits (X : Int) : Int) > 8 * (k : Int))) = false; rw [decide_eq_false (show ¬ ((Builtin.Int.intBits (X : Int) : Int) > 8 * (k : Int)) by omega), Bool.and_false]) ?_
  refine wpAny_bind (wpAny_mkBytes (wpAny_pure ⟨_, rfl, h _ _ _ ?_⟩) ?_)
  · show (List.map (fun c : UInt8 => ((c.toNat : Nat) : Int)) (if lit = true then KTBy.low (X : Int) (Int.toNat (k : Int)) else (KTBy.low (X : Int) (Int.toNat (k : Int))).reverse)) = _
    rw [Int.toNat_natCast]
    cases lit
    · simp only [Bool.false_eq_true, if_false]
      rw [List.map_reverse, low_big hX, nI_reverse, List.reverse_reverse]
    · simp only [if_true]
      rw [low_big hX]
  · show (if lit = true then KTBy.low (X : Int) (Int.toNat (k : Int)) else (KTBy.low (X : Int) (Int.toNat (k : Int))).reverse).length ≤ sizeLine
    rw [Int.toNat_natCast, sizeLine_eq]
    cases lit
    · simp only [Bool.false_eq_true, if_false, List.length_reverse, KTBy.low_length]; omega
    · simp only [if_true, KTBy.low_length]; omega

theorem grown_small {n k : Nat} {M : Model} {Q : Value → Shared → Prop} (hn : n < 256 ^ k) (hk : k ≤ 10000) (h : Q (.int (n : Int) s.toks) { s with toks := s.toks + 1 }) : wpAny M A (mkIntGrown (n : Int)) Q E s := by
  unfold mkIntGrown
  have hl : ¬ ((n : Int).natAbs.log2 ≥ bitsLine) := by
    rw [Int.natAbs_natCast]
    have hb : bitsLine = 134217728 := by first | rfl | decide
    by_cases hz : n = 0
    · subst hz
      rw [hb]
      decide
    · have h1 : n < 2 ^ (8 * k) := by rw [Nat.pow_mul]; exact hn
      have h2 := (Nat.log2_lt hz).mpr h1
      omega
  rw [if_neg hl]
  exact wpAny_mkInt h

theorem from_big_tree {M : Model} {b : Array UInt8} {t u : Tok} {l : List Nat} {P : Fin → Shared → Prop} (hb : KBw.bInts b = nI l) (hl : l.length ≤ 10000) (h : P (.done (.ret (.int ((val 256 l : Nat) : Int) s.toks))) { s with toks := s.toks + 1 }) :
    wpAny M A (Builtin.«int.from_bytes» ⟨[.type "int", .bytes b t, .str (PySem.Str.ofString "big") u], []⟩) P E s := by
  have hlt := val_lt l (bytes_bound hb)
  unfold Builtin.«int.from_bytes»
  refine wpAny_bind (wpAny_of_eq (a := true) KFB.type_int ?_)
  refine KFB.if_not rfl ?_
  refine wpAny_bind (wpAny_of_eq (a := true) F.conv_sub_int ?_)
  refine KFB.if_not rfl ?_
  refine wpAny_bind (wpAny_of_eq (a := [some (.bytes b t), some (.str (PySem.Str.ofString "big") u), none]) (by kernel_rfl) ?_)
  refine wpAny_bind (wpAny_of_eq (a := PySem.Str.ofString "big") (by kernel_rfl) ?_)
  refine wpAny_bind (wpAny_of_eq (a := false) rfl ?_)
  refine wpAny_bind (wpAny_of_eq (a := false) (by kernel_rfl) ?_)
  refine wpAny_bind (wpAny_of_eq (a := b) rfl ?_)
  show wpAny _ _ (mkIntGrown (b.toList.foldl (fun (acc : Int) (b : UInt8) => acc * 256 + (b.toNat : Int)) ((0 : Nat) : Int)) >>= fun v => _) _ _ _
  rw [foldI_val, bInts_nat hb, ← val_def]
  refine wpAny_bind (grown_small (n := val 256 l) hlt hl ?_)
  refine KFB.if_so (by decide +kernel) ?_
  exact wpAny_bind (wpAny_pure (wpAny_pure h))

theorem from_big {x : Addr} {b : Array UInt8} {t u : Tok} {l : List Nat} {Q : Value → Shared → Prop} (N : News h₀ L s.heap news) (hm : (x, KFB.bound) ∈ news) (hb : KBw.bInts b = nI l) (hl : l.length ≤ 10000)
    (h : ∀ t' k, Q (.int ((val 256 l : Nat) : Int) t') { s with toks := k }) : wpAny (model prog w) A (call (.ref x) [.bytes b t, .str (PySem.Str.ofString "big") u]) Q E s :=
  KFB.call_of (KFB.at_of N hm) (fun z => from_big_tree hb hl z) (h _ _)
end Mine
end

section
open PySem PySem.W PySem.Calls PyProof.Rows
set_option maxRecDepth 100000
namespace Mine

/-! list(bytes): the octets as ints -/
section
variable {prog : Program} {w : World} {A : Around} {E : Value → Shared → Prop} {s : Shared}
abbrev OctAt (b : Array UInt8) (i : Nat) (v : Value) : Prop := ∃ (c : UInt8) (u : Tok), b[i]? = some c ∧ v = Value.int (c.toNat : Int) u
theorem extend_bytes {R : Result → Shared → Prop} (hh : A.handled = none) (b : Array UInt8) (t : Tok) (S : Addr) (c₀ : Nat) (hS : s.heap.get? S = some { cls := .type "list", data := .seq #[] c₀ }) (hn : b.size ≤ sizeLine)
    (hR : ∀ h' tk acc c, (∀ a o, a ≠ S → s.heap.get? a = some o → h'.get? a = some o) → h'.get? S = some { cls := .type "list", dict := none, data := .seq acc c, slots := #[] } → ItemsOf (OctAt b) acc b.size → R (.ok (.ret .none)) { s with heap := h', toks := tk }) :
    wpAny (model prog w) A.in1 (Builtin.List.listExtendWith (.ref S) (.bytes b t) .none)
      (fun fin s' => match fin with | .done f => R (.ok f) s' | .again c' => c'.quiet = true ∧ codeAny (model prog w) A c' R s') (fun e s' => R (.error e) s') s := by
  have hne : S ≠ s.heap.objs.size := Nat.ne_of_lt (Heap.lt_size hS)
  unfold Builtin.List.listExtendWith
  refine wpAny_bind (wpAny_typeOf (T := "bytes") (v := .bytes b t) rfl ?_)
  have e1 : Builtin.List.listSameRef (.ref S) (.bytes b t) = false := rfl
  have e2 : (Value.type "bytes" == Value.type "list") = false := by decide
  have e3 : (Value.type "bytes" == Value.type "tuple") = false := by decide
  simp only [e1, e2, e3, Bool.or_false, Bool.false_eq_true, if_false]
  refine wpAny_bind (KBw.pyIter_bytes ?_)
  refine wpAny_bind (wpAny_holding ?_)
  unfold Builtin.List.listLengthHint
  refine wpAny_bind (wpAny_specialOf (T := "bytes") (v := .bytes b t) rfl FB.slot_bytes_len.lookup ?_)
  wp_delta
  refine wpAny_bind (wpAny_isInstance (T := "bytes") (v := .bytes b t) (b := true) rfl (by rw [isSubtype_type]; kernel_rfl) ?_)
  show wpAny _ _ (typeOf (Value.bytes b t) >>= _) _ _ _
  refine wpAny_bind (wpAny_typeOf (T := "bytes") (v := .bytes b t) rfl ?_)
  refine wpAny_pure ?_
  rw [if_neg (by decide)]
  refine wpAny_pure ⟨plainId_quiet F.plain_extend_loop _, codeAny_extend_loopS (KBw.walks (prog := prog) (w := w) (A := A.in1) hh s.heap.objs.size b t).toS hn S (fun hm => hne (List.mem_singleton.mp hm)) .none b.size 0 _ _ _ rfl (Nat.zero_le _) ⟨_, Heap.get?_push_size _ rfl, rfl, rfl⟩ (Heap.get?_push_of_some _ hS) (ItemsOf.nil _) fun s' acc c hm hS' hacc => ?_⟩
  rw [Moved.eq_with hm]
  refine hR s'.heap s'.toks acc c (fun a o ha e => hm.heap a o (fun hmem => ?_) (Heap.get?_push_of_some _ e)) hS' hacc
  rcases List.mem_cons.mp hmem with h | h
  · exact ha h
  · exact Nat.lt_irrefl _ ((List.mem_singleton.mp h) ▸ Heap.lt_size e)
theorem list_bytes {Q : Value → Shared → Prop} {h₀ : Heap} {L : Addr} {m : Str → Option Value} {news : Led} {b : Array UInt8} {t : Tok} {ks : List Int} (hh : A.handled = none) (F : Fr h₀ L s.heap m) (N : News h₀ L s.heap news) (hb : KBw.bInts b = ks) (hn : ks.length ≤ 1000)
    (h : ∀ D us c h' tk, Fr h₀ L h' m → News h₀ L h' ((D, listOf (List.toArray us) c) :: news) → (∀ p ∈ news, p.1 < D) → IntsAre us ks → Q (.ref D) { s with heap := h', toks := tk }) :
    wpAny (model prog w) A (call (.type "list") [.bytes b t]) Q E s := by
  have hsz : b.size ≤ sizeLine := by
    have := KBw.ints_length b
    rw [hb] at this
    rw [sizeLine_eq]; omega
  refine callType_codes (Q₁ := fun obj s₁ => obj = .ref s.heap.objs.size ∧ s₁ = { s with heap := s.heap.push { cls := .type "list", data := .seq #[] } }) PySem.F.called_list (PySem.F.typeCall_list_1 _) PySem.F.entry_list_init (code_list_new _ ⟨rfl, rfl⟩) fun obj s₁ h₁ => ?_
  obtain ⟨rfl, rfl⟩ := h₁
  have hS : (s.heap.push { cls := .type "list", data := .seq #[] }).get? s.heap.objs.size = some { cls := .type "list", data := .seq #[] } := Heap.get?_push_size _ rfl
  refine ⟨⟨_, hS, rfl⟩, PySem.F.args_list_init_2 _ _, ?_⟩
  show wpAny _ _ (do let old ← Builtin.List.listItems (.ref s.heap.objs.size); Builtin.List.listUpdate (.ref s.heap.objs.size) (fun _ => #[]); letGo old.toList.reverse; Builtin.List.listExtendWith (.ref s.heap.objs.size) (.bytes b t) .none) _ _ _
  refine wpAny_bind ?_
  unfold Builtin.List.listItems
  refine wpAny_bind (wpAny_seqItems hS rfl (wpAny_pure ?_))
  show wpAny _ _ (updateSeq s.heap.objs.size (fun _ => #[]) >>= fun _ => letGo (#[] : Array Value).toList.reverse >>= fun _ => Builtin.List.listExtendWith (.ref s.heap.objs.size) (.bytes b t) .none) _ _ _
  refine wpAny_bind (wpAny_updateSeq hS rfl ?_)
  have hS2 := Heap.get?_update_self (Obj.mapSeq (fun _ => (#[] : Array Value))) hS rfl
  refine wpAny_bind (wpAny_letGo ?_)
  refine extend_bytes (A := A.in1) hh b t _ _ hS2 hsz fun h' tk acc c hk hS' hacc => ?_
  have hkeep : ∀ a o, s.heap.get? a = some o → h'.get? a = some o := fun a o e => by
    have hne : a ≠ s.heap.objs.size := Nat.ne_of_lt (Heap.lt_size e)
    exact hk a o hne ((Heap.get?_update_other _ _ (Ne.symm hne)).trans (Heap.get?_push_of_some _ e))
  have hD : h'.get? s.heap.objs.size = some (listOf (List.toArray acc.toList) c) := by rw [Array.toArray_toList]; exact hS'
  refine ⟨rfl, h _ acc.toList c h' tk (F.keeps hkeep) (news_pushed F N hkeep hD rfl) (fun p hp => Heap.lt_size (N p hp).1) ?_⟩
  have hAll : ∀ (l : List UInt8) (us : List Value), us.length = l.length → (∀ (j : Nat) (v : Value), us[j]? = some v → ∃ (c : UInt8) (u : Tok), l[j]? = some c ∧ v = Value.int (c.toNat : Int) u) → IntsAre us (l.map fun c => (c.toNat : Int)) := by
    intro l
    induction l with
    | nil => intro us hu _; rw [List.eq_nil_of_length_eq_zero hu]; exact .nil
    | cons x r ih =>
      intro us hu hv
      cases us with
      | nil => cases hu
      | cons v q =>
        obtain ⟨c, u, hc, rfl⟩ := hv 0 v rfl
        cases hc
        exact .cons _ u (ih q (Nat.succ.inj hu) fun j v hj => hv (j + 1) v hj)
  rw [← hb]
  refine hAll b.toList acc.toList (by rw [Array.length_toList, Array.length_toList]; exact hacc.1) fun j v hj => ?_
  obtain ⟨c, u, hc, rfl⟩ := hacc.2 j v (by rw [← hj, Array.getElem?_toList])
  exact ⟨c, u, by rw [← hc, Array.getElem?_toList], rfl⟩
end
end Mine
end

section
open PySem PySem.W PySem.Calls PyProof.Rows
set_option maxRecDepth 100000
namespace Mine

/-! texts as lists of signs -/
def sN (l : List Nat) : Str := ⟨l.toArray⟩
theorem sN_inj {l m : List Nat} (h : sN l = sN m) : l = m := by
  have := congrArg (fun x : Str => x.cps.toList) h
  simpa [sN] using this
theorem sN_append (l m : List Nat) : sN l ++ sN m = sN (l ++ m) := by
  show (⟨l.toArray ++ m.toArray⟩ : Str) = ⟨(l ++ m).toArray⟩
  simp
theorem sN_length (l : List Nat) : (sN l).length = l.length := by simp [sN, Str.length]
theorem strjoin_ones : ∀ L : List Nat, Str.join Str.empty (L.map fun c => sN [c]) = sN L
  | [] => rfl
  | [c] => rfl
  | c :: d :: r => by
    have ih := strjoin_ones (d :: r)
    show sN [c] ++ Str.empty ++ Str.join Str.empty ((d :: r).map fun c => sN [c]) = _
    rw [ih]
    have e : sN [c] ++ Str.empty = sN [c] := by show (⟨#[c] ++ #[]⟩ : Str) = ⟨#[c]⟩; simp
    rw [e, sN_append]; rfl
theorem join_ones (L : List Nat) : Txt.join (Str.ofString "") (L.map fun c => sN [c]) = sN L := by
  have e : Str.ofString "" = Str.empty := by decide
  rw [e, ← strjoin_ones L]
  exact StrLaws.glued_eq_join _ _
theorem foldl_rep (c : Nat) : ∀ (n : Nat) (a : Array Nat), (List.replicate n #[c]).foldl (· ++ ·) a = a ++ (List.replicate n c).toArray
  | 0, a => by simp
  | n + 1, a => by
    rw [List.replicate_succ, List.foldl_cons, foldl_rep c n, List.replicate_succ]
    apply Array.ext'
    simp
theorem mul_one_sign (c n : Nat) : Txt.mul (sN [c]) (n : Int) = sN (List.replicate n c) := by
  unfold Txt.mul
  by_cases h0 : (n : Int) < 1
  · rw [if_pos h0]
    have : n = 0 := by omega
    subst this; rfl
  · rw [if_neg h0]
    by_cases h1 : ((n : Int) == 1 || (sN [c]).length == 0) = true
    · rw [if_pos h1]
      have hl : (sN [c]).length = 1 := rfl
      have : n = 1 := by
        rw [hl] at h1
        simp at h1
        omega
      subst this; rfl
    · rw [if_neg h1, Int.toNat_natCast]
      show (⟨(List.replicate n #[c]).foldl (· ++ ·) #[]⟩ : Str) = _
      rw [foldl_rep]
      simp [sN]
theorem mul_ok_one (c n : Nat) (hn : n ≤ 1000) : MulOk (sN [c]) (n : Int) := by
  unfold MulOk
  have hl : (sN [c]).length = 1 := rfl
  rw [hl]
  refine ⟨?_, fun h1 h2 => ?_, ?_⟩
  · rw [decide_eq_false (by omega), decide_eq_false (by omega)]; rfl
  · have : (1 : Int) ≤ (2 ^ 63 - 1) / n := (Int.le_ediv_iff_mul_le (by omega)).mpr (by omega)
    omega
  · rw [Int.toNat_natCast, Nat.one_mul]
    intro _ _
    show decide (n > sizeLine) = false
    rw [sizeLine_eq]
    exact decide_eq_false (by omega)
theorem strsAre_reverse {vs : List Value} {ys : List Str} (h : StrsAre vs ys) : StrsAre vs.reverse ys.reverse := by
  induction h with
  | nil => exact .nil
  | cons y t h ih =>
    rw [List.reverse_cons, List.reverse_cons]
    exact ih.append' (.cons _ _ .nil)
theorem sum_ones (L : List Nat) : (((L.map fun c => sN [c]).map (·.length)).sum) = L.length := by
  induction L with
  | nil => rfl
  | cons c r ih => rw [List.map_cons, List.map_cons, List.sum_cons, ih, List.length_cons]; show 1 + _ = _; omega
theorem strIdx_plain (lo hi : Option Int) (n : Nat) : Builtin.Str.strSliceIndices lo hi 1 n = (List.range (hi.elim n (clipAt n) - lo.elim 0 (clipAt n))).map (lo.elim 0 (clipAt n) + ·) := by
  rw [← sliceRange_one]
  unfold Builtin.Str.strSliceIndices
  simp only [show (1 : Int) > 0 by decide, if_true]
  congr 1
  · cases lo with
    | none => rfl
    | some i => show _ = ((clipAt n i : Nat) : Int); rw [clipAt_cast]
  · cases hi with
    | none => rfl
    | some i => show _ = ((clipAt n i : Nat) : Int); rw [clipAt_cast]
theorem slice_sN (l : List Nat) (lo hi : Option Int) : Txt.slice (sN l) lo hi = sN ((l.drop (lo.elim 0 (clipAt l.length))).take (hi.elim l.length (clipAt l.length) - lo.elim 0 (clipAt l.length))) := by
  have hlen : (sN l).length = l.length := sN_length l
  have hp := pick_run l.toArray (lo.elim 0 (clipAt l.length)) (hi.elim l.length (clipAt l.length) - lo.elim 0 (clipAt l.length))
  unfold Txt.slice
  rw [hlen, strIdx_plain]
  split
  · rename_i h
    have hb : (hi.elim l.length (clipAt l.length) - lo.elim 0 (clipAt l.length)) = l.length := by simpa using h
    have ha : hi.elim l.length (clipAt l.length) ≤ l.length := by
      cases hi with
      | none => exact Nat.le_refl _
      | some i =>
        have := clipAt_cast l.length i
        show clipAt l.length i ≤ l.length
        omega
    by_cases h0 : l.length = 0
    · have : l = [] := List.eq_nil_of_length_eq_zero h0
      subst this; simp
    · have h1 : lo.elim 0 (clipAt l.length) = 0 := by omega
      rw [hb, h1, List.drop_zero, List.take_length]
  · show (⟨_⟩ : Str) = ⟨_⟩
    rw [show ((sN l).cps[·]?) = (l.toArray[·]?) from rfl, hp]
theorem clip_neg (n : Nat) (k : Nat) (hk : 0 < k) : clipAt n (-(k : Int)) = n - k := by
  have := clipAt_cast n (-(k : Int))
  rw [if_pos (by omega)] at this
  omega
theorem slice_dropLast (l : List Nat) : Txt.slice (sN l) none (some (-1)) = sN l.dropLast := by
  rw [slice_sN]
  have : clipAt l.length (-1) = l.length - 1 := clip_neg l.length 1 (by decide)
  simp only [Option.elim, this, List.drop_zero, Nat.sub_zero]
  rw [List.dropLast_eq_take]
theorem bytes_mul_zero {prog : Program} {w : World} {A : Around} {E : Value → Shared → Prop} {s : Shared} {n : Int} {k : Nat} {t u : Tok} {Q : Value → Shared → Prop} (hn : n = (k : Int)) (hk : k ≤ 100000)
    (h : ∀ b t' k', KBw.bInts b = nI (List.replicate k 0) → Q (.bytes b t') { s with toks := k' }) : wpAny (model prog w) A (binaryOp .Mult (.bytes #[0] t) (.int n u)) Q E s := by
  subst hn
  refine bytes_mul_any (b := [0]) (by decide) (by omega) (by omega) (by decide) fun t' k' => h _ t' k' ?_
  rw [Int.toNat_natCast]
  have e : ∀ k : Nat, (List.replicate k [(0 : UInt8)]).flatten = List.replicate k 0 := by
    intro k
    induction k with
    | zero => rfl
    | succ k ih => rw [List.replicate_succ, List.flatten_cons, ih, List.replicate_succ]; rfl
  rw [e]
  show (List.replicate k (0 : UInt8)).map _ = (List.replicate k 0).map _
  rw [List.map_replicate, List.map_replicate]; rfl

end Mine
end

section
open PySem PySem.W PySem.Calls PyProof.Rows
set_option maxRecDepth 100000
namespace Mine

theorem bitAnd_nat (a b : Nat) : Builtin.bitAnd (a : Int) (b : Int) = ((a &&& b : Nat) : Int) := by
  unfold Builtin.bitAnd
  rw [decide_eq_true (Int.natCast_nonneg a), decide_eq_true (Int.natCast_nonneg b)]
  simp
theorem bitNot_eq (x : Int) : Builtin.bitNot x = -x - 1 := by first | rfl | (unfold Builtin.bitNot; omega)
theorem bitOr_nat (a b : Nat) : Builtin.bitOr (a : Int) (b : Int) = ((a ||| b : Nat) : Int) := by
  unfold Builtin.bitOr Builtin.bitAnd
  have h1 : ¬ (0 : Int) ≤ Builtin.bitNot (a : Int) := by rw [bitNot_eq]; omega
  have h2 : ¬ (0 : Int) ≤ Builtin.bitNot (b : Int) := by rw [bitNot_eq]; omega
  rw [decide_eq_false h1, decide_eq_false h2]
  have e : ∀ x : Nat, Builtin.bitNot (Builtin.bitNot (x : Int)) = (x : Int) := fun x => by rw [bitNot_eq, bitNot_eq]; omega
  simp only [e, Int.toNat_natCast]
theorem or_mod2 (a b : Nat) : (a ||| b) % 2 = (a ^^^ b) % 2 + (a &&& b) % 2 := by
  have h1 := Nat.or_mod_two_pow (a := a) (b := b) (n := 1)
  have h2 := Nat.xor_mod_two_pow (a := a) (b := b) (n := 1)
  have h3 := Nat.and_mod_two_pow (a := a) (b := b) (n := 1)
  rw [Nat.pow_one] at h1 h2 h3
  rw [h1, h2, h3]
  rcases Nat.mod_two_eq_zero_or_one a with p | p <;> rcases Nat.mod_two_eq_zero_or_one b with q | q <;> (rw [p, q]; rfl)
theorem half_add {o x n : Nat} (h : o / 2 = x / 2 + n / 2) (hm : o % 2 = x % 2 + n % 2) : o = x + n := by omega
theorem or_and_xor (a b : Nat) : (a ||| b) = (a ^^^ b) + (a &&& b) := by
  induction a using Nat.strongRecOn generalizing b with
  | ind a ih =>
    by_cases ha : a = 0
    · subst ha; simp
    · have h := ih (a / 2) (Nat.div_lt_self (Nat.pos_of_ne_zero ha) (by decide)) (b / 2)
      rw [← Nat.or_div_two, ← Nat.xor_div_two, ← Nat.and_div_two] at h
      exact half_add h (or_mod2 a b)
theorem bitXor_nat (a b : Nat) : Builtin.bitXor (a : Int) (b : Int) = ((a ^^^ b : Nat) : Int) := by
  unfold Builtin.bitXor
  rw [bitOr_nat, bitAnd_nat, or_and_xor]
  omega

section
variable {prog : Program} {w : World} {A : Around} {E : Value → Shared → Prop} {s : Shared} {x y : Int} {a b : Nat} {t u : Tok} {Q : Value → Shared → Prop}
theorem nat_and (hx : x = (a : Int)) (hy : y = (b : Int)) (h : ∀ t k, Q (.int ((a &&& b : Nat) : Int) t) { s with toks := k }) : wpAny (model prog w) A (binaryOp .BitAnd (.int x t) (.int y u)) Q E s := by
  subst hx hy
  refine and_int ?_
  rw [bitAnd_nat]; exact h _ _
theorem nat_or (hx : x = (a : Int)) (hy : y = (b : Int)) (h : ∀ t k, Q (.int ((a ||| b : Nat) : Int) t) { s with toks := k }) : wpAny (model prog w) A (binaryOp .BitOr (.int x t) (.int y u)) Q E s := by
  subst hx hy
  refine or_int ?_
  rw [bitOr_nat]; exact h _ _
theorem nat_xor (hx : x = (a : Int)) (hy : y = (b : Int)) (h : ∀ t k, Q (.int ((a ^^^ b : Nat) : Int) t) { s with toks := k }) : wpAny (model prog w) A (binaryOp .BitXor (.int x t) (.int y u)) Q E s := by
  subst hx hy
  refine xor_int ?_
  rw [bitXor_nat]; exact h _ _
theorem nat_ixor (hx : x = (a : Int)) (hy : y = (b : Int)) (h : ∀ t k, Q (.int ((a ^^^ b : Nat) : Int) t) { s with toks := k }) : wpAny (model prog w) A (inplaceOp .BitXor (.int x t) (.int y u)) Q E s := by
  subst hx hy
  refine ixor_int ?_
  rw [bitXor_nat]; exact h _ _
theorem nat_shr (hx : x = (a : Int)) (hy : y = (b : Int)) (h : ∀ t k, Q (.int ((a >>> b : Nat) : Int) t) { s with toks := k }) : wpAny (model prog w) A (binaryOp .RShift (.int x t) (.int y u)) Q E s := by
  subst hx hy
  refine rshift_int (by omega) ?_
  have e : (a : Int).fdiv (2 ^ (b : Int).toNat) = ((a >>> b : Nat) : Int) := by
    rw [Int.toNat_natCast, Nat.shiftRight_eq_div_pow, Int.fdiv_eq_ediv_of_nonneg _ (Int.le_of_lt (Int.pow_pos (by decide)))]
    rw [Int.natCast_ediv, Int.natCast_pow]; rfl
  rw [e]; exact h _ _
theorem nat_shl (hx : x = (a : Int)) (hy : y = (b : Int)) (hb : b ≤ 1000) (ha : a < 2 ^ 64) (h : ∀ t k, Q (.int ((a <<< b : Nat) : Int) t) { s with toks := k }) : wpAny (model prog w) A (binaryOp .LShift (.int x t) (.int y u)) Q E s := by
  subst hx hy
  refine lshift_int_small (by omega) (by omega) (by rw [Int.natAbs_natCast]; exact ha) ?_
  have e : (a : Int) * 2 ^ (b : Int).toNat = ((a <<< b : Nat) : Int) := by
    rw [Int.toNat_natCast, Nat.shiftLeft_eq, Int.natCast_mul, Int.natCast_pow]; rfl
  rw [e]; exact h _ _
end
end Mine
end

section
open PySem PySem.W PySem.Calls PyProof.Rows
set_option maxRecDepth 100000
namespace Mine

/-! the check sum as a function of numbers -/
def genN : List Nat := [996825010, 642813549, 513874426, 1027748829, 705979059]
def inner0 (T c : Nat) : Nat → Nat
  | 0 => c
  | k + 1 => inner0 T c k ^^^ (if (T >>> k) &&& 1 = 0 then 0 else genN.getD k 0)
noncomputable def innerN : Nat → Nat → Nat → Nat := Classical.choose (sealedT inner0)
theorem innerN_def (T c k : Nat) : innerN T c k = inner0 T c k := congrFun (congrFun (congrFun (Classical.choose_spec (sealedT inner0)) T) c) k
def pstep (c v : Nat) : Nat := inner0 (c >>> 25) (((c &&& 33554431) <<< 5) ^^^ v) 5
def poly0 (l : List Nat) : Nat := l.foldl pstep 1
noncomputable def polyN : List Nat → Nat := Classical.choose (sealedT poly0)
theorem polyN_def (l : List Nat) : polyN l = poly0 l := congrFun (Classical.choose_spec (sealedT poly0)) l
noncomputable def polyW : List Int → Nat := Classical.choose (sealedT fun l : List Int => polyN (l.map Int.toNat))
theorem polyW_def (l : List Int) : polyW l = polyN (l.map Int.toNat) := congrFun (Classical.choose_spec (sealedT fun l : List Int => polyN (l.map Int.toNat))) l
noncomputable def expN : List Nat → List Nat := Classical.choose (sealedT fun hl : List Nat => hl.map (· >>> 5) ++ 0 :: hl.map (· &&& 31))
theorem expN_def (hl : List Nat) : expN hl = hl.map (· >>> 5) ++ 0 :: hl.map (· &&& 31) := congrFun (Classical.choose_spec (sealedT fun hl : List Nat => hl.map (· >>> 5) ++ 0 :: hl.map (· &&& 31))) hl
noncomputable def createN : Nat → List Nat → List Nat → List Nat := Classical.choose (sealedT fun (m : Nat) (hl ds : List Nat) => [25, 20, 15, 10, 5, 0].map fun i => ((polyN (expN hl ++ ds ++ [0, 0, 0, 0, 0, 0]) ^^^ m) >>> i) &&& 31)
theorem createN_def (m : Nat) (hl ds : List Nat) : createN m hl ds = [25, 20, 15, 10, 5, 0].map fun i => ((polyN (expN hl ++ ds ++ [0, 0, 0, 0, 0, 0]) ^^^ m) >>> i) &&& 31 := congrFun (congrFun (congrFun (Classical.choose_spec (sealedT fun (m : Nat) (hl ds : List Nat) => [25, 20, 15, 10, 5, 0].map fun i => ((polyN (expN hl ++ ds ++ [0, 0, 0, 0, 0, 0]) ^^^ m) >>> i) &&& 31)) m) hl) ds
theorem createN_length (m : Nat) (hl ds : List Nat) : (createN m hl ds).length = 6 := by rw [createN_def]; rfl
theorem createN_lt (m : Nat) (hl ds : List Nat) : ∀ x ∈ createN m hl ds, x < 32 := by
  rw [createN_def]; intro x hx
  obtain ⟨i, _, rfl⟩ := List.mem_map.mp hx
  exact Nat.lt_of_le_of_lt Nat.and_le_right (by decide)
noncomputable def cstN : Nat → Nat := Classical.choose (sealedT fun d : Nat => [113, 112, 122, 114, 121, 57, 120, 56, 103, 102, 50, 116, 118, 100, 119, 48, 115, 51, 106, 110, 53, 52, 107, 104, 99, 101, 54, 109, 117, 97, 55, 108].getD d 0)
theorem cstN_def (d : Nat) : cstN d = [113, 112, 122, 114, 121, 57, 120, 56, 103, 102, 50, 116, 118, 100, 119, 48, 115, 51, 106, 110, 53, 52, 107, 104, 99, 101, 54, 109, 117, 97, 55, 108].getD d 0 := congrFun (Classical.choose_spec (sealedT fun d : Nat => [113, 112, 122, 114, 121, 57, 120, 56, 103, 102, 50, 116, 118, 100, 119, 48, 115, 51, 106, 110, 53, 52, 107, 104, 99, 101, 54, 109, 117, 97, 55, 108].getD d 0)) d
noncomputable def combT : Nat → List Nat → List Nat → List Nat := Classical.choose (sealedT fun (M : Nat) (hl ds : List Nat) => (ds ++ createN M hl ds).map cstN)
theorem combT_def (M : Nat) (hl ds : List Nat) : combT M hl ds = (ds ++ createN M hl ds).map cstN := congrFun (congrFun (congrFun (Classical.choose_spec (sealedT fun (M : Nat) (hl ds : List Nat) => (ds ++ createN M hl ds).map cstN)) M) hl) ds

theorem xlc (a b c : Nat) : a ^^^ (b ^^^ c) = b ^^^ (a ^^^ c) := by rw [← Nat.xor_assoc, Nat.xor_comm a b, Nat.xor_assoc]
theorem inner_lin (S T c d : Nat) : ∀ k, inner0 (S ^^^ T) (c ^^^ d) k = inner0 S c k ^^^ inner0 T d k
  | 0 => rfl
  | k + 1 => by
    show inner0 (S ^^^ T) (c ^^^ d) k ^^^ _ = (inner0 S c k ^^^ _) ^^^ (inner0 T d k ^^^ _)
    rw [inner_lin S T c d k]
    have e : ((S ^^^ T) >>> k) &&& 1 = (((S >>> k) &&& 1) ^^^ ((T >>> k) &&& 1)) := by
      rw [Nat.shiftRight_xor_distrib, Nat.and_xor_distrib_right]
    have hs : (S >>> k) &&& 1 = 0 ∨ (S >>> k) &&& 1 = 1 := by rw [Nat.and_one_is_mod]; omega
    have ht : (T >>> k) &&& 1 = 0 ∨ (T >>> k) &&& 1 = 1 := by rw [Nat.and_one_is_mod]; omega
    rw [e]
    generalize genN.getD k 0 = g
    generalize inner0 S c k = a
    generalize inner0 T d k = b
    rcases hs with hs | hs <;> rcases ht with ht | ht <;> rw [hs, ht] <;> simp
    · rw [Nat.xor_assoc]
    · rw [Nat.xor_assoc, Nat.xor_assoc, Nat.xor_comm b g]
    · have : a ^^^ g ^^^ (b ^^^ g) = a ^^^ b ^^^ (g ^^^ g) := by
        rw [Nat.xor_assoc, Nat.xor_assoc, xlc g b g]
      rw [this, Nat.xor_self, Nat.xor_zero]
theorem pstep_lin (a b x y : Nat) : pstep (a ^^^ b) (x ^^^ y) = pstep a x ^^^ pstep b y := by
  unfold pstep
  rw [Nat.shiftRight_xor_distrib, Nat.and_xor_distrib_right, Nat.shiftLeft_xor_distrib, ← inner_lin]
  congr 1
  generalize (a &&& 33554431) <<< 5 = u
  generalize (b &&& 33554431) <<< 5 = v
  rw [Nat.xor_assoc, Nat.xor_assoc, xlc v x y]
theorem inner_zero (c : Nat) : ∀ k, inner0 0 c k = c
  | 0 => rfl
  | k + 1 => by
    show inner0 0 c k ^^^ _ = c
    rw [inner_zero c k, Nat.zero_shiftRight]
    simp
theorem pstep_small {c v : Nat} (h : c < 2 ^ 25) : pstep c v = (c <<< 5) ^^^ v := by
  unfold pstep
  have h1 : c >>> 25 = 0 := by rw [Nat.shiftRight_eq_div_pow]; exact Nat.div_eq_of_lt h
  have h2 : c &&& 33554431 = c := by
    have : 33554431 = 2 ^ 25 - 1 := rfl
    rw [this, Nat.and_two_pow_sub_one_eq_mod]; exact Nat.mod_eq_of_lt h
  rw [h1, h2, inner_zero]
theorem inner_lt {c : Nat} (T : Nat) (hc : c < 2 ^ 30) : ∀ k, inner0 T c k < 2 ^ 30
  | 0 => hc
  | k + 1 => by
    refine Nat.xor_lt_two_pow (inner_lt T hc k) ?_
    split
    · decide
    · have : ∀ k, genN.getD k 0 < 2 ^ 30 := by
        intro k
        by_cases hk : k < 5
        · have : k = 0 ∨ k = 1 ∨ k = 2 ∨ k = 3 ∨ k = 4 := by omega
          rcases this with rfl | rfl | rfl | rfl | rfl <;> decide
        · have : genN.getD k 0 = 0 := by
            rw [List.getD_eq_getElem?_getD, List.getElem?_eq_none (by show genN.length ≤ k; have : genN.length = 5 := rfl; omega)]; rfl
          rw [this]; decide
      exact this k
theorem pstep_lt {c v : Nat} (hv : v < 32) : pstep c v < 2 ^ 30 := by
  unfold pstep
  refine inner_lt _ (Nat.xor_lt_two_pow ?_ (Nat.lt_trans hv (by decide))) 5
  rw [Nat.shiftLeft_eq]
  have : c &&& 33554431 < 2 ^ 25 := Nat.lt_of_le_of_lt Nat.and_le_right (by decide)
  omega
theorem poly_snoc (l : List Nat) (v : Nat) : polyN (l ++ [v]) = pstep (polyN l) v := by
  rw [polyN_def, polyN_def]; unfold poly0; rw [List.foldl_append]; rfl

theorem shr5 (P i : Nat) : ((P >>> (i + 5)) <<< 5) ^^^ ((P >>> i) &&& 31) = P >>> i := by
  have e : P >>> (i + 5) = (P >>> i) >>> 5 := by rw [← Nat.shiftRight_add]
  rw [e]
  generalize P >>> i = Q
  apply Nat.eq_of_testBit_eq
  intro j
  have e31 : (31 : Nat) = 2 ^ 5 - 1 := rfl
  rw [Nat.testBit_xor, Nat.testBit_shiftLeft, Nat.testBit_shiftRight, e31, Nat.testBit_and, Nat.testBit_two_pow_sub_one]
  by_cases hj : j < 5
  · have : ¬ j ≥ 5 := by omega
    simp [hj, this]
  · have h5 : j ≥ 5 := by omega
    have : 5 + (j - 5) = j := by omega
    simp [hj, h5, this]
/-- one symbol of the check sum more -/
theorem check_step {X P i : Nat} (h : (P >>> (i + 5)) < 2 ^ 25) : pstep (X ^^^ (P >>> (i + 5))) ((P >>> i) &&& 31) = pstep X 0 ^^^ (P >>> i) := by
  have e : ((P >>> i) &&& 31) = 0 ^^^ ((P >>> i) &&& 31) := (Nat.zero_xor _).symm
  rw [e, pstep_lin, pstep_small h, shr5]
theorem check_sum (X P : Nat) (hP : P < 2 ^ 30) : pstep (pstep (pstep (pstep (pstep (pstep X (P >>> 25 &&& 31)) (P >>> 20 &&& 31)) (P >>> 15 &&& 31)) (P >>> 10 &&& 31)) (P >>> 5 &&& 31)) (P >>> 0 &&& 31)
    = pstep (pstep (pstep (pstep (pstep (pstep X 0) 0) 0) 0) 0) 0 ^^^ P := by
  have hs : ∀ i, 5 ≤ i → P >>> i < 2 ^ 25 := by
    intro i hi
    rw [Nat.shiftRight_eq_div_pow]
    refine Nat.div_lt_of_lt_mul ?_
    refine Nat.lt_of_lt_of_le hP ?_
    rw [← Nat.pow_add]
    exact Nat.pow_le_pow_right (by decide) (by omega)
  have h30 : P >>> 30 = 0 := by rw [Nat.shiftRight_eq_div_pow]; exact Nat.div_eq_of_lt hP
  have s0 : pstep X (P >>> 25 &&& 31) = pstep X 0 ^^^ (P >>> 25) := by
    have e : ((P >>> 25) &&& 31) = 0 ^^^ ((P >>> 25) &&& 31) := (Nat.zero_xor _).symm
    have eX : X = X ^^^ 0 := (Nat.xor_zero X).symm
    have h2 := shr5 P 25
    rw [h30] at h2
    have h0 : (0 : Nat) <<< 5 = 0 := rfl
    calc pstep X (P >>> 25 &&& 31) = pstep (X ^^^ 0) (0 ^^^ (P >>> 25 &&& 31)) := by rw [Nat.xor_zero, Nat.zero_xor]
      _ = pstep X 0 ^^^ pstep 0 (P >>> 25 &&& 31) := pstep_lin _ _ _ _
      _ = _ := by rw [pstep_small (c := 0) (by decide), h2]
  rw [s0, check_step (X := pstep X 0) (i := 20) (hs _ (by decide)), check_step (i := 15) (hs _ (by decide)), check_step (i := 10) (hs _ (by decide)),
    check_step (i := 5) (hs _ (by decide)), check_step (i := 0) (hs _ (by decide))]
  rfl
theorem poly_check {M : Nat} (hM : M < 2 ^ 30) (hl ds : List Nat) : polyN (expN hl ++ (ds ++ createN M hl ds)) = M := by
  rw [← List.append_assoc]
  generalize hX : expN hl ++ ds = l
  rw [createN_def, hX]
  have e6 : ∀ a b c d e f : Nat, polyN (l ++ [a, b, c, d, e, f]) = pstep (pstep (pstep (pstep (pstep (pstep (polyN l) a) b) c) d) e) f := by
    intro a b c d e f
    have : l ++ [a, b, c, d, e, f] = l ++ [a] ++ [b] ++ [c] ++ [d] ++ [e] ++ [f] := by simp
    rw [this, poly_snoc, poly_snoc, poly_snoc, poly_snoc, poly_snoc, poly_snoc]
  simp only [List.map_cons, List.map_nil]
  rw [e6, e6]
  generalize polyN l = X
  have hz : pstep (pstep (pstep (pstep (pstep (pstep X 0) 0) 0) 0) 0) 0 < 2 ^ 30 := pstep_lt (by decide)
  rw [check_sum X _ (Nat.xor_lt_two_pow hz hM), ← Nat.xor_assoc, Nat.xor_self, Nat.zero_xor]

theorem cst_inj : ∀ a, a < 32 → ∀ b, b < 32 → cstN a = cstN b → a = b := by
  intro a ha b hb
  rw [cstN_def, cstN_def]
  revert a b
  decide +kernel
theorem map_cst_inj : ∀ {a b : List Nat}, (∀ x ∈ a, x < 32) → (∀ x ∈ b, x < 32) → a.map cstN = b.map cstN → a = b
  | [], [], _, _, _ => rfl
  | [], _ :: _, _, _, h => by cases h
  | _ :: _, [], _, _, h => by cases h
  | x :: a, y :: b, ha, hb, h => by
    rw [List.map_cons, List.map_cons] at h
    have h1 := List.cons.inj h
    rw [cst_inj x (ha x (.head _)) y (hb y (.head _)) h1.1, map_cst_inj (fun z hz => ha z (.tail _ hz)) (fun z hz => hb z (.tail _ hz)) h1.2]
end Mine
end

section
open PySem PySem.W PySem.Calls PyProof.Rows
set_option maxRecDepth 100000
namespace Mine

def drainN (t acc : Nat) : Nat → Nat → List Nat → Nat × List Nat
  | 0, b, r => (b, r)
  | k + 1, b, r => if t ≤ b then drainN t acc k (b - t) (r ++ [(acc >>> (b - t)) &&& (2 ^ t - 1)]) else (b, r)
def cvStep (f t : Nat) (s : Nat × Nat × List Nat) (v : Nat) : Nat × Nat × List Nat :=
  (((s.1 <<< f) ||| v) &&& (2 ^ (f + t - 1) - 1), drainN t (((s.1 <<< f) ||| v) &&& (2 ^ (f + t - 1) - 1)) (s.2.1 + f) (s.2.1 + f) s.2.2)
def conv0 (f t : Nat) (l : List Nat) : Nat × Nat × List Nat := l.foldl (cvStep f t) (0, 0, [])
noncomputable def conv : Nat → Nat → List Nat → Nat × Nat × List Nat := Classical.choose (sealedT conv0)
theorem conv_def (f t : Nat) (l : List Nat) : conv f t l = conv0 f t l := congrFun (congrFun (congrFun (Classical.choose_spec (sealedT conv0)) f) t) l
noncomputable def drain : Nat → Nat → Nat → List Nat → Nat × List Nat := Classical.choose (sealedT fun (t acc b : Nat) (r : List Nat) => drainN t acc b b r)
theorem drain_def (t acc b : Nat) (r : List Nat) : drain t acc b r = drainN t acc b b r := congrFun (congrFun (congrFun (congrFun (Classical.choose_spec (sealedT fun (t acc b : Nat) (r : List Nat) => drainN t acc b b r)) t) acc) b) r
theorem drain_fuel {t acc : Nat} (ht : 0 < t) : ∀ (k b : Nat) (r : List Nat), b ≤ k → drainN t acc k b r = drain t acc b r := by
  have key : ∀ (k j b : Nat) (r : List Nat), b ≤ k → b ≤ j → drainN t acc k b r = drainN t acc j b r := by
    intro k
    induction k with
    | zero =>
      intro j b r hb _
      have : b = 0 := by omega
      subst this
      cases j with
      | zero => rfl
      | succ j => show (0, r) = if t ≤ 0 then _ else _; rw [if_neg (by omega)]
    | succ k ih =>
      intro j b r hb hj
      cases j with
      | zero =>
        have : b = 0 := by omega
        subst this
        show (if t ≤ 0 then _ else _) = (0, r); rw [if_neg (by omega)]
      | succ j =>
        show (if t ≤ b then _ else _) = if t ≤ b then _ else _
        by_cases h : t ≤ b
        · rw [if_pos h, if_pos h]; exact ih j _ _ (by omega) (by omega)
        · rw [if_neg h, if_neg h]
  intro k b r hb
  rw [drain_def]
  exact key k b b r hb (Nat.le_refl _)
theorem drain_go {t acc b : Nat} {r : List Nat} (ht : 0 < t) (h : t ≤ b) : drain t acc b r = drain t acc (b - t) (r ++ [(acc >>> (b - t)) &&& (2 ^ t - 1)]) := by
  cases b with
  | zero => omega
  | succ k =>
    rw [drain_def]
    show (if t ≤ k + 1 then _ else _) = _
    rw [if_pos h]
    exact drain_fuel ht k _ _ (by omega)
theorem drain_end {t acc b : Nat} {r : List Nat} (h : ¬ t ≤ b) : drain t acc b r = (b, r) := by
  rw [drain_def]
  cases b with
  | zero => rfl
  | succ k => show (if t ≤ k + 1 then _ else _) = _; rw [if_neg h]
theorem drain_lt {t acc : Nat} (ht : 0 < t) (b : Nat) : ∀ r, (drain t acc b r).1 < t := by
  induction b using Nat.strongRecOn with
  | ind b ih =>
    intro r
    by_cases h : t ≤ b
    · rw [drain_go ht h]; exact ih _ (by omega) _
    · rw [drain_end h]; exact Nat.lt_of_not_le h
theorem conv_nil (f t : Nat) : conv f t [] = (0, 0, []) := by rw [conv_def]; rfl
theorem conv_snoc (f t : Nat) (l : List Nat) (v : Nat) : conv f t (l ++ [v]) = ((((conv f t l).1 <<< f) ||| v) &&& (2 ^ (f + t - 1) - 1), drain t ((((conv f t l).1 <<< f) ||| v) &&& (2 ^ (f + t - 1) - 1)) ((conv f t l).2.1 + f) (conv f t l).2.2) := by
  rw [drain_def, conv_def, conv_def]
  unfold conv0
  rw [List.foldl_append]; rfl

/-! what the regrouping computes: the digits of one number -/
theorem shl_or {a f v : Nat} (hv : v < 2 ^ f) : (a <<< f) ||| v = a * 2 ^ f + v := by
  rw [Nat.shiftLeft_eq, Nat.mul_comm, Nat.two_pow_add_eq_or_of_lt hv]
theorem and_mask (x n : Nat) : x &&& (2 ^ n - 1) = x % 2 ^ n := Nat.and_two_pow_sub_one_eq_mod x n
theorem drain_dig {t V m : Nat} (ht : 0 < t) : ∀ (b k : Nat), b < m + 1 → drain t (V % 2 ^ m) b (dig (2 ^ t) k (V >>> b)) = (b % t, dig (2 ^ t) (k + b / t) (V >>> (b % t))) := by
  intro b
  induction b using Nat.strongRecOn with
  | ind b ih =>
    intro k hm
    by_cases h : t ≤ b
    · rw [drain_go ht h]
      have e1 : ((V % 2 ^ m) >>> (b - t)) &&& (2 ^ t - 1) = (V >>> (b - t)) % 2 ^ t := by
        rw [and_mask]
        apply Nat.eq_of_testBit_eq
        intro j
        rw [Nat.testBit_mod_two_pow, Nat.testBit_mod_two_pow, Nat.testBit_shiftRight, Nat.testBit_shiftRight, Nat.testBit_mod_two_pow]
        by_cases hj : j < t
        · have : b - t + j < m := by omega
          simp [hj, this]
        · simp [hj]
      have e2 : V >>> b = (V >>> (b - t)) / 2 ^ t := by
        have : b = (b - t) + t := by omega
        rw [← Nat.shiftRight_eq_div_pow, ← Nat.shiftRight_add, ← this]
      rw [e1, e2, ← dig_succ, ih (b - t) (by omega) (k + 1) (by omega)]
      have e3 : (b - t) % t = b % t := (Nat.mod_eq_sub_mod h).symm
      have e4 : b / t = (b - t) / t + 1 := by rw [Nat.div_eq_sub_div ht h]
      rw [e3, e4]
      have e5 : k + 1 + (b - t) / t = k + ((b - t) / t + 1) := by omega
      rw [e5]
    · rw [drain_end h]
      have hb : b < t := Nat.lt_of_not_le h
      rw [Nat.mod_eq_of_lt hb, Nat.div_eq_of_lt hb, Nat.add_zero]
theorem conv_eq {f t : Nat} (ht : 0 < t) (hf : 0 < f) (l : List Nat) (hl : ∀ x ∈ l, x < 2 ^ f) :
    conv f t l = (val (2 ^ f) l % 2 ^ (f + t - 1), (f * l.length) % t, dig (2 ^ t) (f * l.length / t) (val (2 ^ f) l >>> ((f * l.length) % t))) := by
  induction l using snoc_ind with
  | h0 => rw [conv_nil, val_nil]; simp [dig_zero]
  | h1 l v ih =>
    rw [conv_snoc, ih fun x hx => hl x (List.mem_append.mpr (.inl hx))]
    have hv := hl v (List.mem_append.mpr (.inr (.head _)))
    dsimp only
    have eA : ((val (2 ^ f) l % 2 ^ (f + t - 1)) <<< f ||| v) &&& (2 ^ (f + t - 1) - 1) = val (2 ^ f) (l ++ [v]) % 2 ^ (f + t - 1) := by
      rw [shl_or hv, and_mask, val_snoc, Nat.add_mod, Nat.mod_mul_mod, ← Nat.add_mod]
    rw [eA, val_snoc, List.length_append, List.length_singleton]
    have e1 : val (2 ^ f) l >>> (f * l.length % t) = (val (2 ^ f) l * 2 ^ f + v) >>> (f * l.length % t + f) := by
      rw [Nat.add_comm _ f, Nat.shiftRight_add]
      congr 1
      rw [Nat.shiftRight_eq_div_pow, Nat.mul_comm, Nat.mul_add_div (Nat.pow_pos (by decide)), Nat.div_eq_of_lt hv, Nat.add_zero]
    have hlt := Nat.mod_lt (f * l.length) ht
    rw [e1, drain_dig ht _ _ (by omega)]
    have e2 : (f * l.length % t + f) % t = f * (l.length + 1) % t := by rw [Nat.mod_add_mod, Nat.mul_add, Nat.mul_one]
    have e3 : f * l.length / t + (f * l.length % t + f) / t = f * (l.length + 1) / t := by
      rw [Nat.mul_add, Nat.mul_one]
      have := Nat.div_add_mod (f * l.length) t
      conv => rhs; rw [← this, Nat.add_assoc, Nat.mul_add_div ht]
    rw [e2, e3]

/-- eight bits to five, padded: what the two sizes give -/
noncomputable def fiveN : List Nat → List Nat := Classical.choose (sealedT fun l : List Nat => if l.length = 20 then dig 32 32 (val 256 l) else dig 32 52 (val 256 l * 16))
theorem fiveN_def (l : List Nat) : fiveN l = if l.length = 20 then dig 32 32 (val 256 l) else dig 32 52 (val 256 l * 16) := congrFun (Classical.choose_spec (sealedT fun l : List Nat => if l.length = 20 then dig 32 32 (val 256 l) else dig 32 52 (val 256 l * 16))) l
theorem fiveN_length {l : List Nat} (h : l.length = 20 ∨ l.length = 32) : (fiveN l).length = if l.length = 20 then 32 else 52 := by
  rw [fiveN_def]
  rcases h with h | h <;> rw [h] <;> simp [dig_length]
theorem fiveN_lt (l : List Nat) : ∀ x ∈ fiveN l, x < 32 := by
  rw [fiveN_def]
  split
  · exact dig_lt (by decide) _ _
  · exact dig_lt (by decide) _ _
theorem conv85 {l : List Nat} (hl : ∀ x ∈ l, x < 256) (h : l.length = 20) : (conv 8 5 l).2.1 = 0 ∧ (conv 8 5 l).2.2 = fiveN l := by
  rw [conv_eq (by decide) (by decide) l hl, h, fiveN_def, if_pos h]
  exact ⟨rfl, rfl⟩
theorem conv85' {l : List Nat} (hl : ∀ x ∈ l, x < 256) (h : l.length = 32) : (conv 8 5 l).2.1 = 1 ∧ (conv 8 5 l).2.2 ++ [((conv 8 5 l).1 <<< 4) &&& 31] = fiveN l := by
  rw [conv_eq (by decide) (by decide) l hl, h, fiveN_def, if_neg (by rw [h]; decide)]
  refine ⟨rfl, ?_⟩
  show dig 32 51 (val 256 l >>> 1) ++ [((val 256 l % 2 ^ 12) <<< 4) &&& (2 ^ 5 - 1)] = dig 32 52 (val 256 l * 16)
  rw [and_mask]
  generalize val 256 l = V
  have e1 : V >>> 1 = V * 16 / 32 := by rw [Nat.shiftRight_eq_div_pow]; omega
  have e2 : ((V % 2 ^ 12) <<< 4) % 2 ^ 5 = V * 16 % 32 := by rw [Nat.shiftLeft_eq]; omega
  rw [e1, e2]
  exact (dig_succ 32 51 _).symm
theorem five_val {l : List Nat} (hl : ∀ x ∈ l, x < 256) (h : l.length = 20 ∨ l.length = 32) : val 32 (fiveN l) = if l.length = 20 then val 256 l else val 256 l * 16 := by
  have hv := val_lt l hl
  rw [fiveN_def]
  rcases h with h | h
  · rw [if_pos h, if_pos h, val_dig]
    rw [h] at hv
    exact Nat.mod_eq_of_lt (Nat.lt_of_lt_of_le hv (by decide +kernel))
  · rw [if_neg (by omega), if_neg (by omega), val_dig]
    rw [h] at hv
    refine Nat.mod_eq_of_lt ?_
    have : 256 ^ 32 * 16 = 32 ^ 52 := by decide +kernel
    omega
theorem conv58 {l : List Nat} (hl : ∀ x ∈ l, x < 256) (h : l.length = 20 ∨ l.length = 32) : (conv 5 8 (fiveN l)).2.1 < 5 ∧ ((conv 5 8 (fiveN l)).1 <<< (8 - (conv 5 8 (fiveN l)).2.1)) &&& 255 = 0 ∧ (conv 5 8 (fiveN l)).2.2 = l := by
  have hd := dig_val l hl
  have hv := val_lt l hl
  rw [conv_eq (by decide) (by decide) _ (fiveN_lt l), fiveN_length h]
  rw [show (2 ^ 5 : Nat) = 32 from rfl, five_val hl h]
  rcases h with h | h
  · rw [if_pos h, if_pos h]
    rw [h] at hd
    refine ⟨by show (0 : Nat) < 5; decide, ?_, hd⟩
    show ((val 256 l % 2 ^ 12) <<< 8) &&& (2 ^ 8 - 1) = 0
    rw [and_mask, Nat.shiftLeft_eq]; omega
  · rw [if_neg (by omega), if_neg (by omega)]
    rw [h] at hd
    refine ⟨by show (4 : Nat) < 5; decide, ?_, ?_⟩
    · show ((val 256 l * 16 % 2 ^ 12) <<< 4) &&& (2 ^ 8 - 1) = 0
      rw [and_mask, Nat.shiftLeft_eq]; omega
    · show dig 256 32 ((val 256 l * 16) >>> 4) = l
      have : (val 256 l * 16) >>> 4 = val 256 l := by rw [Nat.shiftRight_eq_div_pow]; omega
      rw [this, hd]
theorem five_inj {l m : List Nat} (hl : ∀ x ∈ l, x < 256) (hm : ∀ x ∈ m, x < 256) (h : l.length = 20 ∨ l.length = 32) (h' : m.length = 20 ∨ m.length = 32) (e : fiveN l = fiveN m) : l = m := by
  have h1 := (conv58 hl h).2.2
  have h2 := (conv58 hm h').2.2
  rw [← h1, ← h2, e]
end Mine
end

section
open PySem PySem.W PySem.Calls PyProof.Rows
set_option maxRecDepth 100000
namespace Mine

section
local macro_rules | `(tactic| omega) => `(tactic| first | (with_reducible decide) | (with_reducible refine' rm0 ?h; (case h => assumption)) | (with_reducible refine' rm1 ?h ?k; (case h => assumption); (case k => decide)) | (with_reducible refine' rm2 ?h ?k; (case h => assumption); (case k => decide)) | (with_reducible refine' rm3 ?h ?k; (case h => assumption); (case k => decide)) | (with_reducible refine' le_c ?h ?k; (case h => assumption); (case k => decide)) | omega (splitDisjunctions := true))
local macro_rules | `(tactic| walk_at "eval Constant int") => `(tactic| (refine cst_int ?_; intro _ _))
local macro_rules | `(tactic| walk_at "eval Constant str") => `(tactic| (refine cst_str ?_; intro _ _))
local macro_rules | `(tactic| walk_at "eval Constant bytes") => `(tactic| (refine cst_bytes ?_; intro _ _))
local macro_rules | `(tactic| walk_at "eval Name") => `(tactic| (k_here; k_dflt (refine' nameX_L ?F ?v ?_ ?a ?b; (case F => k_asm); (case a => exact Eq.refl ScopeKind.function); (case b => exact Eq.refl (some NameKind.local)); (case v => exact Eq.refl (some _)); k_whole)))
local macro_rules | `(tactic| k_room) => `(tactic| ktr_room)
local macro_rules | `(tactic| k_units) => `(tactic| ktr_units)
local macro_rules | `(tactic| walk_at "binaryOp Mod int int") => `(tactic| (refine mod_int' (by decide +kernel) ?_))
local macro_rules | `(tactic| walk_at "binaryOp Add bytes bytes") => `(tactic| (refine KBa.add_K (by with_reducible assumption) (by with_reducible assumption) (by (simp only [nI_length, List.length_append, List.length_replicate, List.length_cons, List.length_nil, dig_length, List.length_take, List.length_drop, List.length_reverse]; omega)) ?_; intro _ _ kbaApp))
local macro_rules | `(tactic| walk_at "InvEndN") => `(tactic| k_dflt kst_close)
local macro_rules | `(tactic| k_memK) => `(tactic| ((repeat (refine List.Mem.tail _ ?_)); assumption))
local macro_rules | `(tactic| walk_at "binaryOp BitAnd int int") => `(tactic| k_dflt (refine nat_and rfl rfl ?_; intro _ _))
local macro_rules | `(tactic| walk_at "binaryOp BitXor int int") => `(tactic| k_dflt (refine nat_xor rfl rfl ?_; intro _ _))
local macro_rules | `(tactic| walk_at "binaryOp BitOr int int") => `(tactic| k_dflt (refine nat_or rfl rfl ?_; intro _ _))
local macro_rules | `(tactic| walk_at "inplaceOp BitXor int int") => `(tactic| k_dflt (refine nat_ixor rfl rfl ?_; intro _ _))
local macro_rules | `(tactic| walk_at "binaryOp RShift int int") => `(tactic| k_dflt (refine nat_shr rfl rfl ?_; intro _ _))

section
open PySem PySem.W PySem.Calls PyProof.Rows
set_option maxRecDepth 100000
variable {prog : Program} {w : World} {p : Program} {loose : List Str} {mean : ExcName → Option Value} {mg mb : Str → Option Value}

theorem fill10 : PySem.Challenge.rw_bd0008_01 = PySem.Challenge.rw_bd0008_01 ∧ hd.heap_39 = hd.heap_39 := by
  w_on
  k_fill
  exact ⟨rfl, rfl⟩

local macro_rules | `(tactic| kst_facts1) => `(tactic| first | exact PyProof.Rows.StrsAre.nil | exact PyProof.Rows.StrsAre.append' (by with_reducible assumption) (.cons _ _ .nil))


theorem inner_start (T c : Nat) : (c : Int) = ((innerN T c ([] : List Int).length : Nat) : Int) := by rw [innerN_def]; rfl
theorem inner_a {T c : Nat} {pre : List Int} {x : Int} (h : ((T >>> pre.length &&& 1 : Nat) : Int) ≠ 0) : Builtin.bitXor ((innerN T c pre.length : Nat) : Int) ([996825010, 642813549, 513874426, 1027748829, 705979059].getD ((pre.length : Nat) : Int).toNat 0) = ((innerN T c (pre ++ [x]).length : Nat) : Int) := by
  have hg : ∀ k : Nat, ([996825010, 642813549, 513874426, 1027748829, 705979059] : List Int).getD k 0 = ((genN.getD k 0 : Nat) : Int) := fun k => nI_getD genN k
  rw [Int.toNat_natCast, hg, bitXor_nat, List.length_append, List.length_singleton, innerN_def, innerN_def]
  show _ = ((inner0 T c pre.length ^^^ (if (T >>> pre.length) &&& 1 = 0 then 0 else genN.getD pre.length 0) : Nat) : Int)
  rw [if_neg (by omega)]
theorem inner_b {T c : Nat} {pre : List Int} {x : Int} (h : ((T >>> pre.length &&& 1 : Nat) : Int) = 0) : ((innerN T c pre.length ^^^ 0 : Nat) : Int) = ((innerN T c (pre ++ [x]).length : Nat) : Int) := by
  rw [List.length_append, List.length_singleton, innerN_def, innerN_def]
  show _ = ((inner0 T c pre.length ^^^ (if (T >>> pre.length) &&& 1 = 0 then 0 else genN.getD pre.length 0) : Nat) : Int)
  rw [if_pos (by omega)]
theorem poly_turn {pre : List Int} {v c0 k : Nat} {x : Int} (hc : polyW pre = c0) (h : x = ((innerN (c0 >>> 25) (((c0 &&& 33554431) <<< 5) ^^^ v) k : Nat) : Int)) (hk : k = 5) : x = ((polyW (pre ++ [(v : Int)]) : Nat) : Int) := by
  subst hk hc
  rw [h, innerN_def, polyW_def, polyW_def, List.map_append, polyN_def, polyN_def]
  unfold poly0
  rw [List.foldl_append]; rfl
theorem poly_start : (1 : Int) = ((polyW [] : Nat) : Int) := by rw [polyW_def, polyN_def]; rfl

local macro_rules | `(tactic| walk_at "binaryOp LShift int int") => `(tactic| k_dflt (refine nat_shl rfl rfl (by decide) (Nat.lt_of_le_of_lt Nat.and_le_right (by decide)) ?_; intro _ _))

set_option maxHeartbeats 4000000 in
theorem c_poly (l : Addr) (vs : List Value) (ns : List Int) (n : Nat) : Says prog w p loose mean mg mb 20 100 148 [.ref l] (fun _ news => (l, listOf vs.toArray n) ∈ news ∧ IntsAre vs ns ∧ ns.length ≤ 100 ∧ ∀ x ∈ ns, 0 ≤ x ∧ x < 32) (RInt ((polyW ns : Nat) : Int)) := by
  unfold Says
  intro dp un gd cn cs a ccd cl outer A₀ base h₀ L m news s Q E B F X N T hk hpre hdp hu hret
  obtain ⟨hm, hi, hl, hr⟩ := hpre
  refine wpAny_call ?_
  w_strict (k_dflt cell_enter)
  refine PySem.wpAny_noRaise ?_
  k_with_none
  k_with "pyIter ref" => fail
  (k_with "state" => exact poly_start)
  repeat (fail_if_success (with_reducible show wpAny _ _ (pyIter _) _ _ _)); first | (k_unfold; (try dsimp only)) | walk1 | (dsimp only; walk1)
  k_state (fun (pre : List Int) (chk : Int) => chk = ((polyW pre : Nat) : Int)) "chk"
  · rename (_ = ((polyW _ : Nat) : Int)) => hW
    rename (_ = _ ++ _ :: _) => hEq
    rename (_ ∈ ns) => hMem
    generalize hc0 : polyW _ = c0 at hW
    subst hW
    obtain ⟨v, hv⟩ := Int.eq_ofNat_of_zero_le (hr _ hMem).1
    subst hv
    repeat (fail_if_success (with_reducible show wpAny _ _ (pyIter _) _ _ _)); first | (k_unfold; (try dsimp only)) | walk1 | (dsimp only; walk1)
    (k_with "state" => exact inner_start _ _)
    k_state_short (fun (pre : List Int) (chk : Int) => chk = ((innerN (c0 >>> 25) (((c0 &&& 33554431) <<< 5) ^^^ v) pre.length : Nat) : Int)) "chk"
    · rename (_ = 0 + ((List.length _ : Nat) : Int)) => hI
      rename (_ = ((innerN _ _ _ : Nat) : Int)) => hC
      rw [Int.zero_add] at hI
      subst hI
      subst hC
      (k_with "state" => first | exact inner_a (by with_reducible assumption) | exact inner_b (by with_reducible assumption))
      k_steps
    · (k_with "state" => exact poly_turn hc0 (by with_reducible assumption) (by simp only [rangeKs_length]; rfl))
      k_steps
  · k_steps
    exact ret_int hret (by with_reducible assumption) (by k_asm) (by k_asm) (by kcj_all)
end

section
open PySem PySem.W PySem.Calls PyProof.Rows
set_option maxRecDepth 100000

/-! comprehensions over a text of signs below 128 -/
section
variable {prog : Program} {w : World} {A : Around} {E : Value → Shared → Prop} {s : Shared} {h₀ : Heap} {L : Addr} {m : Str → Option Value} {env : Env}

/-- the iterable is a text, its turns are given -/
def TextSrc (prog : Program) (w : World) (A : Around) (h₀ : Heap) (L : Addr) (m : Str → Option Value) (env : Env) (elt : PySem.Expr) (x : Str) (scope : Scope) (cl : List (Str × Addr)) (Fin : Shared → List Value → Led → Prop) (xv : Value) (s₁ : Shared) : Prop :=
  ∃ (tx : Str) (t : Tok) (news : Led), xv = .str tx t ∧ A.handled = none ∧ Fr h₀ L s₁.heap m ∧ News h₀ L s₁.heap news ∧ tx.cps.all (· < 128) = true ∧ tx.cps.size ≤ sizeLine ∧
    ∀ g : Heap, LCg.CompRest prog w A h₀ L m env elt x scope cl { s₁ with heap := g } (fun _ => True) (SignAt tx) (Fin { s₁ with heap := g }) tx.cps.size 0 [] news

theorem iter_at {I : Addr} {tx : Str} {t : Tok} : ∀ (i : Nat) (h h' : Heap) (o : Obj) (nw : Led), h.IsStrIter I "str_ascii_iterator" tx t i → h.get? I = some o → h'.get? I = some o → (∀ b o, h₀.get? b = some o → h'.get? b = some o) → News h₀ L h' nw → True → h'.IsStrIter I "str_ascii_iterator" tx t i :=
  fun i h h' o nw st e e' _ _ _ => by
    obtain ⟨o', q, r⟩ := st
    rw [e] at q
    cases q
    exact ⟨o, e', r⟩

theorem comp_text {elt iter : PySem.Expr} {x : Str} {px : Pos} {scope : Scope} {cl : List (Str × Addr)} {pos : Pos} {Q : Value → Shared → Prop} (_F₀ : Fr h₀ L s.heap m)
    (hclos : closureFor scope env = pure cl) (hcell : ∀ y ∈ scope.names, y.2 ≠ .cell) (hkind : scope.kind = .function)
    (hnames : ∀ y ∈ scope.names, y.2 = .local → scope.names.lookup y.1 = some .local) (hx : scope.names.lookup x = some .local)
    (h : wpAny (model prog w) A (eval iter env) (TextSrc prog w A h₀ L m env elt x scope cl (fun s₂ => LCg.FinE h₀ L m s₂ Q)) E s)
    (hs : ∀ x, foldedSetIterable iter env x = pure x := by intro _; rfl) :
    wpAny (model prog w) A (eval (.ListComp elt [⟨.Name x px, iter, [], 0⟩] scope pos) env) Q E s := by
  rw [eval_ListComp]
  refine wpAny_comprehension_free (use := none) rfl hs hclos hkind hnames (wpAny_mono h (fun xv s₁ h₁ => ?_) fun _ _ e => e)
  obtain ⟨tx, t, news, rfl, hh, F, N, ha, hsz, R⟩ := h₁
  refine wpAny_pyIter_ascii ha ?_
  refine LCg.block_U (Walks.strAscii hh s₁.heap.objs.size tx t) hsz (fun i h st => by obtain ⟨o, e, _⟩ := st; exact ⟨o, e⟩) iter_at hcell hkind hx ⟨_, Heap.get?_push_size _ rfl, rfl, rfl⟩ (fun b hb => ?_)
    (F.keeps fun _ _ e => Heap.get?_push_of_some _ e) (N.grown fun _ _ e => Heap.get?_push_of_some _ e) (Nat.ne_of_lt F.ns.lt) (next_is_new F) (fun p hp => Nat.ne_of_lt (Heap.lt_size (N p hp).1)) trivial (R _) ?_
  · rw [List.mem_singleton.mp hb]
    show s₁.heap.objs.size < (s₁.heap.push _).objs.size
    rw [Heap.size_push]; exact Nat.lt_succ_self _
  · intro D C h tk m' ys news' F' N' o1 hn hC₀ hD₀ hCL hDL hCD offC fin
    refine ⟨m', hn, fun h'' hs'' => fin D h'' tk (F'.change hs'' hCL hC₀) (fun p hp => ?_) o1⟩
    refine ⟨hs''.extBut _ _ ?_ (N' p hp).1, (N' p hp).2⟩
    rcases List.mem_cons.mp hp with rfl | hp
    · exact Ne.symm hCD
    · exact offC p hp

theorem comp_text_assign {elt iter : PySem.Expr} {x y : Str} {px py : Pos} {scope : Scope} {cl : List (Str × Addr)} {pos spos : Pos} {Q : Flow → Shared → Prop} (_F₀ : Fr h₀ L s.heap m) (hLe : env.locals = L)
    (hsw : swapsWith (.ListComp elt [⟨.Name x px, iter, [], 0⟩] scope pos) (some (.Name y py)) spos.line env = pure true)
    (hclos : closureFor scope env = pure cl) (hcell : ∀ z ∈ scope.names, z.2 ≠ .cell) (hkind : scope.kind = .function)
    (hnames : ∀ z ∈ scope.names, z.2 = .local → scope.names.lookup z.1 = some .local) (hx : scope.names.lookup x = some .local)
    (hy : env.kindOf y = some .local) (hp : (env.scope.kind == .class || (env.scope.kind == .module && env.locals != env.globals)) = false)
    (h : wpAny (model prog w) A (eval iter env) (TextSrc prog w A h₀ L m env elt x scope cl (fun s₂ => LCg.FinA h₀ L m s₂ y Q)) E s)
    (hs : ∀ x, foldedSetIterable iter env x = pure x := by intro _; rfl) :
    wpAny (model prog w) A (exec (.Assign [.Name y py] (.ListComp elt [⟨.Name x px, iter, [], 0⟩] scope pos) spos) env) Q E s := by
  subst hLe
  rw [exec_Assign_Name_used _ _ _ _ hsw]
  refine wpAny_bind (wpAny_standAt (wpAny_bind ?_))
  show wpAny _ A (do let _ ← comprehension (.ListComp elt [⟨.Name x px, iter, [], 0⟩] scope pos) scope env _ (newList []) false (eval iter env) (some (assign (.Name y py) env))) _ _ s
  refine wpAny_bind (wpAny_mono (wpAny_comprehension_free (use := some (assign (.Name y py) env)) (Q := fun _ s' => Q .next s') rfl hs hclos hkind hnames
    (wpAny_mono h (fun xv s₁ h₁ => ?_) fun _ _ e => e)) (fun _ s' hq => wpAny_pure (wpAny_pure hq)) fun _ _ e => e)
  obtain ⟨tx, t, news, rfl, hh, F, N, ha, hsz, R⟩ := h₁
  refine wpAny_pyIter_ascii ha ?_
  refine LCg.block_U (Walks.strAscii hh s₁.heap.objs.size tx t) hsz (fun i h st => by obtain ⟨o, e, _⟩ := st; exact ⟨o, e⟩) iter_at hcell hkind hx ⟨_, Heap.get?_push_size _ rfl, rfl, rfl⟩ (fun b hb => ?_)
    (F.keeps fun _ _ e => Heap.get?_push_of_some _ e) (N.grown fun _ _ e => Heap.get?_push_of_some _ e) (Nat.ne_of_lt F.ns.lt) (next_is_new F) (fun p hp => Nat.ne_of_lt (Heap.lt_size (N p hp).1)) trivial (R _) ?_
  · rw [List.mem_singleton.mp hb]
    show s₁.heap.objs.size < (s₁.heap.push _).objs.size
    rw [Heap.size_push]; exact Nat.lt_succ_self _
  · intro D C h' tk m' ys news' F' N' o1 hn hC₀ hD₀ hCL hDL hCD offC fin
    show wpAny _ A (assign (.Name y py) env (.ref D)) _ _ _
    refine wpAny_assign_Name (wpAny_storeName_local hy F'.ns (fun h₂ hn₂ hs₂ => ?_) hp)
    have hL₀ : h₀.get? env.locals = none := Heap.get?_none_of_le F'.above
    have F₂ : Fr h₀ env.locals h₂ (fun z => if z = y then some (.ref D) else m z) := ⟨hn₂, fun b o e => hs₂.extBut b o (fun q => by rw [q, hL₀] at e; cases e) (F'.keep b o e), F'.above⟩
    refine ⟨m', hn.sameBut hs₂ hCL, fun h'' hs'' => fin D h'' _ (F₂.change hs'' hCL hC₀) (fun p hp => ?_) o1⟩
    have z : h₂.get? p.1 = some p.2 := hs₂.extBut _ _ (N' p hp).2.1 (N' p hp).1
    refine ⟨hs''.extBut _ _ ?_ z, (N' p hp).2⟩
    rcases List.mem_cons.mp hp with rfl | hp
    · exact Ne.symm hCD
    · exact offC p hp

/-- the turns over a text, each giving an int by the sign -/
theorem text_rest {elt : PySem.Expr} {x : Str} {scope : Scope} {cl : List (Str × Addr)} {Fin : List Value → Led → Prop} {news : Led} (l : List Nat) (g : Nat → Int)
    (turn : ∀ c t I oI C oC D m₂ ys h tk (E' : Value → Shared → Prop), c ∈ l → LCg.NsObj oC m₂ → m₂ x = some (.str ⟨#[c]⟩ t) → Fr h₀ L h m → News h₀ L h ((I, oI) :: (C, oC) :: (D, LCg.lst ys) :: news) → LCg.Off3 I C D news → ((@Ne Nat I C) ∧ (@Ne Nat I D) ∧ (@Ne Nat C D)) → KPfMark →
      wpAny (model prog w) A (eval elt (compEnvC scope cl C env)) (LCg.CompEnd h₀ L m { s with heap := h, toks := tk } I oI C oC D (LCg.lst ys) (fun _ => True) (fun y news' => KCfEl news (g c) y news')) E' { s with heap := h, toks := tk })
    (fin : ∀ ys, IntsAre ys (l.map g) → Fin ys news) : LCg.CompRest prog w A h₀ L m env elt x scope cl s (fun _ => True) (SignAt (sN l)) Fin (sN l).cps.size 0 [] news := by
  have hsz : (sN l).cps.size = l.length := by simp [sN]
  rw [hsz]
  have key : ∀ (j i : Nat) (ys : List Value), i + j = l.length → IntsAre ys ((l.take i).map g) → LCg.CompRest prog w A h₀ L m env elt x scope cl s (fun _ => True) (SignAt (sN l)) Fin j i ys news := by
    intro j
    induction j with
    | zero =>
      intro i ys hi hy
      have e : i = l.length := by omega
      subst e
      rw [List.take_length] at hy
      exact LCg.CompRest.zero (fin ys hy)
    | succ j ih =>
      intro i ys hi hy
      refine LCg.CompRest.succ ?_
      intro v I oI C oC D m₂ h tk E' hv hC hx F N off ne
      obtain ⟨c, t, hc, hv'⟩ := hv
      have hc' : l[i]? = some c := by simpa [sN] using hc
      rw [hv'] at hx
      refine wpAny_mono (turn c t I oI C oC D m₂ ys h tk E' (List.mem_of_getElem? hc') hC hx F N off ne True.intro) (fun y s₂ hq => ?_) fun _ _ e => e
      obtain ⟨h', tk', nw, e, F', N', off', _, hn, t', hy'⟩ := hq
      rw [hn] at N' off'
      refine ⟨h', tk', news, e, F', N', off', trivial, ?_⟩
      rw [hy']
      refine ih (i + 1) _ (by omega) ?_
      rw [List.take_add_one, hc']
      simpa using IntsAre.append hy (.cons (g c) t' .nil)
  exact key l.length 0 [] (by omega) (by simp only [List.take_zero, List.map_nil]; exact .nil)
end
end

section
local macro_rules | `(tactic| walk_at "no such key of mine") => `(tactic| fail)
open PySem PySem.W PySem.Calls PyProof.Rows
set_option maxRecDepth 100000
variable {prog : Program} {w : World} {p : Program} {loose : List Str} {mean : ExcName → Option Value} {mg mb : Str → Option Value}

theorem fill11 : PySem.Challenge.rw_bd0008_01 = PySem.Challenge.rw_bd0008_01 ∧ hd.heap_39 = hd.heap_39 := by
  w_on
  k_fill
  exact ⟨rfl, rfl⟩

local macro_rules | `(tactic| kst_facts1) => `(tactic| first | exact PyProof.Rows.StrsAre.nil | exact PyProof.Rows.StrsAre.append' (by with_reducible assumption) (.cons _ _ .nil))

local macro_rules | `(tactic| walk_at "eval ListComp") => `(tactic| (k_here; k_dflt (refine comp_text (_F₀ := by k_asm) (by with_unfolding_all rfl) (by decide) (by rfl) (by decide) (by rfl) ?_)))

def RList (ns : List Int) (v : Value) (tl : Led) : Prop := ∃ D vs k, v = .ref D ∧ tl = [(D, listOf (List.toArray vs) k)] ∧ IntsAre vs ns
theorem rt_list {h₀ : Heap} {L : Addr} {m : Str → Option Value} {news : Led} {s : Shared} {Q : Value → Shared → Prop} {ns : List Int} (k : ∀ (D : Addr) (vs : List Value) (c : Nat) (h' : Heap) (tk' : Nat), IntsAre vs ns → Fr h₀ L h' m → News h₀ L h' ((D, listOf (List.toArray vs) c) :: news) → AllLt D news → Q (.ref D) { s with heap := h', toks := tk' }) : RetT h₀ L m news s Q (RList ns) := by
  rintro v tl h' tk' ⟨D, vs, c, rfl, rfl, hi⟩ F N l
  exact k D vs c h' tk' hi F N (allLt_of (l _ (List.Mem.head _)))
theorem asc_of {hl : List Nat} (h : ∀ c ∈ hl, c < 128) : (sN hl).cps.all (· < 128) = true := by
  simp only [sN, List.all_toArray, List.all_eq_true, decide_eq_true_eq]
  exact h

theorem lt_0 {D : Addr} {news : Led} (h : AllLt D news) : ∀ q ∈ news, q.1 < D := ktn_ltOf h
theorem lt_1 {D : Addr} {news : Led} {a : Prop} (h : a ∧ AllLt D news) : ∀ q ∈ news, q.1 < D := ktn_ltOf h.2
theorem lt_2 {D : Addr} {news : Led} {a b : Prop} (h : a ∧ b ∧ AllLt D news) : ∀ q ∈ news, q.1 < D := ktn_ltOf h.2.2
theorem lt_3 {D : Addr} {news : Led} {a b c : Prop} (h : a ∧ b ∧ c ∧ AllLt D news) : ∀ q ∈ news, q.1 < D := ktn_ltOf h.2.2.2
theorem lt_4 {D : Addr} {news : Led} {a b c d : Prop} (h : a ∧ b ∧ c ∧ d ∧ AllLt D news) : ∀ q ∈ news, q.1 < D := ktn_ltOf h.2.2.2.2
theorem lt_5 {D : Addr} {news : Led} {a b c d e : Prop} (h : a ∧ b ∧ c ∧ d ∧ e ∧ AllLt D news) : ∀ q ∈ news, q.1 < D := ktn_ltOf h.2.2.2.2.2
theorem ret_list {h₀ h' : Heap} {L : Addr} {m : Str → Option Value} {news news' : Led} {s : Shared} {Q : Value → Shared → Prop} {tk' : Nat} {ns ls : List Int} {D : Addr} {vs : List Value} {k : Nat}
    (hret : RetT h₀ L m news s Q (RList ns)) (hi : IntsAre vs ls) (e : ls = ns) (F : Fr h₀ L h' m) (N : News h₀ L h' news') (hm : (D, listOf vs.toArray k) ∈ news') (hs : ∀ p ∈ news, p ∈ news') (hlt : ∀ q ∈ news, q.1 < D) :
    Q (.ref D) { s with heap := h', toks := tk' } := by
  subst e
  refine hret _ [(D, listOf vs.toArray k)] h' tk' ⟨D, vs, k, rfl, rfl, hi⟩ F (fun p hp => ?_) (fun x hx q hq => ?_)
  · rcases List.mem_cons.mp hp with rfl | hp
    · exact N _ hm
    · exact N p (hs p hp)
  · rw [List.mem_singleton.mp hx]
    exact hlt q hq
local macro_rules | `(tactic| ktr_unf) => `(tactic| first | with_reducible assumption | exact lt_0 (by with_reducible assumption) | exact lt_1 (by with_reducible assumption) | exact lt_2 (by with_reducible assumption) | exact lt_3 (by with_reducible assumption) | exact lt_4 (by with_reducible assumption) | exact lt_5 (by with_reducible assumption))

theorem expand_eq (hl : List Nat) : ((hl.map (fun c : Nat => ((c >>> 5 : Nat) : Int)) : List Int) ++ ([0] : List Int)) ++ (hl.map (fun c : Nat => ((c &&& 31 : Nat) : Int)) : List Int) = nI (hl.map (· >>> 5) ++ 0 :: hl.map (· &&& 31)) := by
  rw [nI, List.map_append, List.map_cons, List.map_map, List.map_map, List.append_assoc]; rfl

set_option maxHeartbeats 4000000 in
theorem c_expand (hl : List Nat) (u : Tok) : Says prog w p loose mean mg mb 20 100 153 [.str (sN hl) u] (fun _ _ => hl.length ≤ 10 ∧ ∀ c ∈ hl, c < 128) (RList (nI (hl.map (· >>> 5) ++ 0 :: hl.map (· &&& 31)))) := by
  unfold Says
  intro dp un gd cn cs a ccd cl outer A₀ base h₀ L m news s Q E B F X N T hk hpre hdp hu hret
  obtain ⟨hm, hi⟩ := hpre
  have hz : (sN hl).length ≤ 10 := by rw [sN_length]; exact hm
  refine wpAny_call ?_
  w_strict (k_dflt cell_enter)
  refine PySem.wpAny_noRaise ?_
  k_with_none
  k_steps
  refine ⟨_, _, _, rfl, by rfl, by k_asm, by k_asm, asc_of hi, (by rw [sizeLine_eq]; exact Nat.le_trans hz (by decide)), fun g' => text_rest hl (fun c => ((c >>> 5 : Nat) : Int)) (fun c' t' I' oI' C' oC' D' m' ys' h' tk' E' hm' hC' hx' F' N' off' ne' hMark' => ?_) (fun ys' hys' => ?_)⟩
  · k_steps
  · intro D1 h1 tk1 F1 N1 off1
    k_steps
    refine ⟨_, _, _, rfl, by rfl, by k_asm, by k_asm, asc_of hi, (by rw [sizeLine_eq]; exact Nat.le_trans hz (by decide)), fun g' => text_rest hl (fun c => ((c &&& 31 : Nat) : Int)) (fun c' t' I' oI' C' oC' D' m' ys' h' tk' E' hm' hC' hx' F' N' off' ne' hMark' => ?_) (fun ys' hys' => ?_)⟩
    · k_steps
    · intro D2 h2 tk2 F2 N2 off2
      k_steps
      with_reducible rename IntsAre _ _ => hRes
      exact ret_list hret hRes (expand_eq hl) (by k_asm) (by k_asm) (by k_mem) (by kcj_all) (by ktr_unf)
end

section
open PySem PySem.W PySem.Calls PyProof.Rows
set_option maxRecDepth 100000
variable {prog : Program} {w : World} {p : Program} {loose : List Str} {mean : ExcName → Option Value} {mg mb : Str → Option Value}

theorem fill3 : PySem.Challenge.rw_bd0008_01 = PySem.Challenge.rw_bd0008_01 ∧ hd.heap_39 = hd.heap_39 := by
  w_on
  k_fill
  exact ⟨rfl, rfl⟩

local macro_rules | `(tactic| kst_facts1) => `(tactic| first | exact PyProof.Rows.StrsAre.nil | exact PyProof.Rows.StrsAre.append' (by with_reducible assumption) (.cons _ _ .nil))

def b58 : Str := PySem.Str.ofString "123456789ABCDEFGHJKLMNPQRSTUVWXYZabcdefghijkmnopqrstuvwxyz"
noncomputable def alpha : Nat → Nat := Classical.choose (sealedT fun d : Nat => b58.cps.getD d 0)
theorem alpha_def (d : Nat) : alpha d = b58.cps.getD d 0 := congrFun (Classical.choose_spec (sealedT fun d : Nat => b58.cps.getD d 0)) d
noncomputable def ldigS : Int → List Str := Classical.choose (sealedT fun n : Int => (ldig 58 n.toNat).map fun d => sN [alpha d])
theorem ldigS_def (n : Int) : ldigS n = (ldig 58 n.toNat).map fun d => sN [alpha d] := congrFun (Classical.choose_spec (sealedT fun n : Int => (ldig 58 n.toNat).map fun d => sN [alpha d])) n
theorem enc_step {n : Int} (hn : 0 < n) : ldigS n = Txt.item (Str.ofString "123456789ABCDEFGHJKLMNPQRSTUVWXYZabcdefghijkmnopqrstuvwxyz") (n.fmod 58) :: ldigS (n.fdiv 58) := by
  obtain ⟨N, rfl⟩ := Int.eq_ofNat_of_zero_le (Int.le_of_lt hn)
  have hN : 0 < N := by omega
  rw [ldigS_def, ldigS_def, Int.toNat_natCast, ldig_pos (by decide) hN, List.map_cons]
  have e1 : ((N : Int).fdiv 58).toNat = N / 58 := by
    rw [Int.fdiv_eq_ediv_of_nonneg _ (by decide)]; omega
  have e2 : (N : Int).fmod 58 = ((N % 58 : Nat) : Int) := by
    rw [Int.fmod_eq_emod_of_nonneg _ (by decide)]; rfl
  rw [e1, e2]
  congr 1
  rw [item_meets ⟨by omega, by
    have : (Str.ofString "123456789ABCDEFGHJKLMNPQRSTUVWXYZabcdefghijkmnopqrstuvwxyz").length = 58 := by decide +kernel
    rw [this]; omega⟩, Int.toNat_natCast, alpha_def]
  rfl
theorem enc_turn {v0 n : Int} {chars : List Str} (h0 : 0 ≤ n) (h1 : ldigS v0 = chars ++ ldigS n) (hL : (ldigS v0).length ≤ 900) (hn : 0 < n) :
    0 ≤ n.fdiv 58 ∧ ldigS v0 = (chars ++ [Txt.item (Str.ofString "123456789ABCDEFGHJKLMNPQRSTUVWXYZabcdefghijkmnopqrstuvwxyz") (n.fmod 58)]) ++ ldigS (n.fdiv 58) ∧ (chars ++ [Txt.item (Str.ofString "123456789ABCDEFGHJKLMNPQRSTUVWXYZabcdefghijkmnopqrstuvwxyz") (n.fmod 58)]).length ≤ 1000 := by
  refine ⟨?_, ?_, ?_⟩
  · rw [Int.fdiv_eq_ediv_of_nonneg _ (by decide)]; omega
  · rw [h1, enc_step hn, List.append_assoc]; rfl
  · have := congrArg List.length h1
    rw [List.length_append] at this
    rw [List.length_append, List.length_singleton]; omega
theorem enc_less {n : Int} (hn : 0 < n) : (n.fdiv 58).toNat < n.toNat := by
  rw [Int.fdiv_eq_ediv_of_nonneg _ (by decide)]; omega
theorem enc_len {l : List Nat} {v0 : Int} (hv : ((val 256 l : Nat) : Int) = v0) (hb : ∀ x ∈ l, x < 256) (hl : l.length ≤ 100) : (ldigS v0).length ≤ 900 := by
  subst hv
  rw [ldigS_def, List.length_map, Int.toNat_natCast]
  refine Nat.le_trans (ldig_length_le (by decide) (2 * l.length) _ ?_) (by omega)
  refine Nat.lt_of_lt_of_le (val_lt l hb) ?_
  rw [Nat.pow_mul]
  exact Nat.pow_le_pow_left (by decide) _

noncomputable def digT : List Nat → List Nat := Classical.choose (sealedT fun l : List Nat => ((ldig 58 (val 256 l)).map alpha).reverse)
theorem digT_def (l : List Nat) : digT l = ((ldig 58 (val 256 l)).map alpha).reverse := congrFun (Classical.choose_spec (sealedT fun l : List Nat => ((ldig 58 (val 256 l)).map alpha).reverse)) l
noncomputable def lz : List Nat → Nat := Classical.choose (sealedT fun l : List Nat => (l.takeWhile (· == 0)).length)
theorem lz_def (l : List Nat) : lz l = (l.takeWhile (· == 0)).length := congrFun (Classical.choose_spec (sealedT fun l : List Nat => (l.takeWhile (· == 0)).length)) l
theorem lz_le (l : List Nat) : lz l ≤ l.length := by
  rw [lz_def]
  exact (List.takeWhile_sublist _).length_le
theorem digT_len {b : Array UInt8} {l : List Nat} (hb : KBw.bInts b = nI l) (hl : l.length ≤ 100) : (digT l).length ≤ 900 := by
  rw [digT_def, List.length_reverse, List.length_map]
  refine Nat.le_trans (ldig_length_le (by decide) (2 * l.length) _ ?_) (by omega)
  refine Nat.lt_of_lt_of_le (val_lt l (bytes_bound hb)) ?_
  rw [Nat.pow_mul]
  exact Nat.pow_le_pow_left (by decide) _
noncomputable def encT : List Nat → Str := Classical.choose (sealedT fun l : List Nat => sN (List.replicate (lz l) 49 ++ digT l))
theorem encT_def (l : List Nat) : encT l = sN (List.replicate (lz l) 49 ++ digT l) := congrFun (Classical.choose_spec (sealedT fun l : List Nat => sN (List.replicate (lz l) 49 ++ digT l))) l
theorem mul_pad {x : Int} {k : Nat} (h : x = (k : Int)) : Txt.mul (Txt.item (Str.ofString "123456789ABCDEFGHJKLMNPQRSTUVWXYZabcdefghijkmnopqrstuvwxyz") 0) x = sN (List.replicate k 49) := by
  subst h
  have e : Txt.item (Str.ofString "123456789ABCDEFGHJKLMNPQRSTUVWXYZabcdefghijkmnopqrstuvwxyz") 0 = sN [49] := by decide +kernel
  rw [e, mul_one_sign]
theorem enc_done {v0 n : Int} {chars : List Str} {l : List Nat} (hv : ((val 256 l : Nat) : Int) = v0) (h0 : 0 ≤ n) (hn : ¬ 0 < n) (h1 : ldigS v0 = chars ++ ldigS n) :
    chars = (ldig 58 (val 256 l)).map fun d => sN [alpha d] := by
  have : n = 0 := by omega
  subst this hv
  have e0 : ldigS 0 = [] := by rw [ldigS_def]; show (ldig 58 0).map _ = []; rw [ldig_zero]; rfl
  rw [e0, List.append_nil, ldigS_def, Int.toNat_natCast] at h1
  exact h1.symm
theorem enc_join {chars : List Str} {l : List Nat} (h : chars = (ldig 58 (val 256 l)).map fun d => sN [alpha d]) : Txt.join (Str.ofString "") chars.reverse = sN (digT l) := by
  rw [h, digT_def, ← join_ones, ← List.map_reverse, ← List.map_reverse, List.map_map]; rfl
theorem enc_w {chars : List Str} {l : List Nat} (h : chars = (ldig 58 (val 256 l)).map fun d => sN [alpha d]) (hn : chars.length ≤ 1000) : (chars.reverse.map (·.length)).sum + chars.reverse.length ≤ 1048576 := by
  have e : chars.reverse.map (·.length) = (((((ldig 58 (val 256 l)).map alpha).reverse).map fun c => sN [c]).map (·.length)) := by
    rw [h, ← List.map_reverse, ← List.map_reverse, List.map_map, List.map_map, List.map_map]; rfl
  rw [e, sum_ones, List.length_reverse, List.length_reverse, List.length_map]
  rw [h, List.length_map] at hn
  rw [h, List.length_map]; omega
theorem lz_break {l : List Nat} {pre post : List Int} {n : Int} (h : nI l = pre ++ n :: post) (hp : ∀ x ∈ pre, x = 0) (hn : n ≠ 0) : lz l = pre.length := by
  rw [lz_def]
  induction pre generalizing l with
  | nil =>
    cases l with
    | nil => cases h
    | cons a r =>
      have e : (a : Int) = n := (List.cons.inj h).1
      have : a ≠ 0 := by omega
      simp [this]
  | cons y pre ih =>
    cases l with
    | nil => cases h
    | cons a r =>
      have e : (a : Int) = y := (List.cons.inj h).1
      have y0 := hp y (.head _)
      have : a = 0 := by omega
      subst this
      rw [List.takeWhile_cons]
      simp only [beq_self_eq_true, if_true, List.length_cons]
      rw [ih (List.cons.inj h).2 fun x hx => hp x (.tail _ hx)]
theorem lz_all {l : List Nat} (hp : ∀ x ∈ nI l, x = 0) : lz l = l.length := by
  rw [lz_def]
  induction l with
  | nil => rfl
  | cons a r ih =>
    have : (a : Int) = 0 := hp _ (.head _)
    have : a = 0 := by omega
    subst this
    rw [List.takeWhile_cons]
    simp only [beq_self_eq_true, if_true, List.length_cons]
    rw [ih fun x hx => hp x (.tail _ hx)]
theorem snoc_zero {pre : List Int} {n : Int} (h : ∀ x ∈ pre, x = 0) (hn : n = 0) : ∀ x ∈ pre ++ [n], x = 0 := by
  intro x hx
  rcases List.mem_append.mp hx with hx | hx
  · exact h x hx
  · rw [List.mem_singleton.mp hx, hn]

local macro_rules | `(tactic| walk_at "subscriptTail Name Slice ref ref") => `(tactic| (k_here; (with_reducible show wpAny _ _ (subscriptTail _ (PySem.Expr.Slice none none (some _) _) (Value.ref _) (Value.ref _)) _ _ _); (with_reducible rename StrsAre _ _ => hSr); k_dflt (refine' krv_lit ?F ?N ?l ?k rfl ?_ ?s ?t ?z; (case F => k_asm); (case N => k_asm); (case l => kmk_list); (case k => exact IsPart.int _ _); (case s => with_unfolding_all rfl); (case t => kmk_pure); (case z => kmk_size)); intro D' h' F' N' l1; (try k_lt l1); (try k_sweep)))
theorem news_tail {h₀ h : Heap} {L : Addr} {q : Addr × Obj} {news : Led} (N : News h₀ L h (q :: news)) : News h₀ L h news := fun p hp => N p (.tail _ hp)
theorem Fr.recast {h₀ h : Heap} {L : Addr} {m m' : Str → Option Value} (F : Fr h₀ L h m) (e : ∀ y, m y = m' y) : Fr h₀ L h m' := by
  have : m = m' := funext e
  exact this ▸ F

set_option maxHeartbeats 4000000 in
theorem c_enc58 (b : Array UInt8) (u : Tok) (l : List Nat) : Says prog w p loose mean mg mb 20 100 106 [.bytes b u] (fun _ _ => KBw.bInts b = nI l ∧ l.length ≤ 100) (RStr (encT l)) := by
  unfold Says
  intro dp un gd cn cs a ccd cl outer A₀ base h₀ L m news s Q E B F X N T hk hpre hdp hu hret
  obtain ⟨hb, hl⟩ := hpre
  have hz : (nI l).length ≤ 100 := by rw [nI_length]; exact hl
  refine wpAny_call ?_
  w_strict (k_dflt cell_enter)
  refine PySem.wpAny_noRaise ?_
  k_steps
  k_dflt (refine' from_big (l := l) ?a ?b ?c ?d ?_; (case a => k_asm); (case b => k_mem); (case c => assumption); (case d => omega))
  intro _ _
  generalize hv : ((val 256 l : Nat) : Int) = v0
  have hL := enc_len hv (bytes_bound hb) hl
  k_with_none
  (k_with "state" => first | exact ⟨by omega, by rw [List.nil_append], by decide⟩ | exact enc_turn (by assumption) (by assumption) (by assumption) (by assumption))
  (k_with "measure" => exact enc_less (by assumption))
  (k_with "exec While Compare cons nil" => k_while (fun (_ : List Int) (n : Int) (chars : List Str) => 0 ≤ n ∧ ldigS v0 = chars ++ ldigS n ∧ chars.length ≤ 1000) (fun (_ : List Int) (n : Int) (_ : List Str) => n.toNat) "n" "chars$")
  k_steps
  · rename News _ _ _ _ => N9
    have N8 := news_tail N9
    clear N9
    dsimp only [List.nil_append, List.cons_append]
    k_steps
  have hc := enc_done hv (by with_reducible assumption) (by with_reducible assumption) (by with_reducible assumption)
  with_reducible rename StrsAre _ _ => hS2
  dsimp only [List.nil_append, List.cons_append]
  k_dflt (refine' join_listW (News.isList ?a ?b) (strsAre_reverse hS2) ?c (enc_w hc ?d) ?_; (case a => k_asm); (case b => k_mem); (case c => decide +kernel); (case d => with_reducible assumption))
  intro _ _
  rw [enc_join hc]
  have hdl : (sN (digT l)).length ≤ 900 := by rw [sN_length]; exact digT_len hb hl
  k_with_none
  (k_with "state" => first | exact ⟨rfl, fun _ h => (List.not_mem_nil h).elim⟩ | exact ⟨by rw [List.length_append, List.length_singleton]; omega, snoc_zero (by with_reducible assumption) (by omega)⟩)
  (k_with "pyIter bytes" => k_state (fun (pre : List Int) (pad : Int) => pad = (pre.length : Int) ∧ ∀ x ∈ pre, x = 0) "pad")
  k_steps
  · rename (_ = _ ++ _ :: _) => hEq
    rename (_ = ((List.length _ : Nat) : Int)) => hPad
    rename (∀ x ∈ _, x = _) => hAll
    rename (_ ≠ _) => hNe
    exact ret_str hret (by rw [mul_pad hPad, ← lz_break hEq hAll hNe, sN_append, ← encT_def]) (by k_asm) (by k_asm) (by kcj_all)
  · rename (_ = ((List.length _ : Nat) : Int)) => hPad
    rename (∀ x ∈ _, x = _) => hAll
    exact ret_str hret (by rw [mul_pad hPad, nI_length, ← lz_all hAll, sN_append, ← encT_def]) (by k_asm) (by k_asm) (by kcj_all)
end

section
open PySem PySem.W PySem.Calls PyProof.Rows
set_option maxRecDepth 100000
variable {prog : Program} {w : World} {p : Program} {loose : List Str} {mean : ExcName → Option Value} {mg mb : Str → Option Value}

theorem fill4 : PySem.Challenge.rw_bd0008_01 = PySem.Challenge.rw_bd0008_01 ∧ hd.heap_39 = hd.heap_39 := by
  w_on
  k_fill
  exact ⟨rfl, rfl⟩

local macro_rules | `(tactic| kst_facts1) => `(tactic| first | exact PyProof.Rows.StrsAre.nil | exact PyProof.Rows.StrsAre.append' (by with_reducible assumption) (.cons _ _ .nil))

theorem find_alpha0 : ∀ d : Fin 58, Txt.find (Str.ofString "123456789ABCDEFGHJKLMNPQRSTUVWXYZabcdefghijkmnopqrstuvwxyz") ⟨#[b58.cps.getD d.val 0]⟩ = (d.val : Int) ∧
    (Builtin.Str.occurrences (Str.ofString "123456789ABCDEFGHJKLMNPQRSTUVWXYZabcdefghijkmnopqrstuvwxyz") ⟨#[b58.cps.getD d.val 0]⟩ 0 (Str.ofString "123456789ABCDEFGHJKLMNPQRSTUVWXYZabcdefghijkmnopqrstuvwxyz").length 1).isEmpty = false ∧
    ((b58.cps.getD d.val 0 = 49) ↔ d.val = 0) := by decide +kernel
theorem find_alpha {d : Nat} (h : d < 58) : Txt.find (Str.ofString "123456789ABCDEFGHJKLMNPQRSTUVWXYZabcdefghijkmnopqrstuvwxyz") ⟨#[alpha d]⟩ = (d : Int) := by
  rw [alpha_def]; exact (find_alpha0 ⟨d, h⟩).1
theorem has_alpha {d : Nat} (h : d < 58) : (Builtin.Str.occurrences (Str.ofString "123456789ABCDEFGHJKLMNPQRSTUVWXYZabcdefghijkmnopqrstuvwxyz") ⟨#[alpha d]⟩ 0 (Str.ofString "123456789ABCDEFGHJKLMNPQRSTUVWXYZabcdefghijkmnopqrstuvwxyz").length 1).isEmpty = false := by
  rw [alpha_def]; exact (find_alpha0 ⟨d, h⟩).2.1
theorem alpha_one {d : Nat} (h : d < 58) : alpha d = 49 ↔ d = 0 := by
  rw [alpha_def]; exact (find_alpha0 ⟨d, h⟩).2.2
noncomputable def decW : List Nat → Nat → Int := Classical.choose (sealedT fun (ds : List Nat) (k : Nat) => ((val 58 (ds.take k) : Nat) : Int))
theorem decW_def (ds : List Nat) (k : Nat) : decW ds k = ((val 58 (ds.take k) : Nat) : Int) := congrFun (congrFun (Classical.choose_spec (sealedT fun (ds : List Nat) (k : Nat) => ((val 58 (ds.take k) : Nat) : Int))) ds) k
theorem codes_sN (ct : List Nat) : KStt.codes (sN ct) = nI ct := rfl
theorem nI_split {ct : List Nat} {pre post : List Int} {x : Nat} (h : nI ct = pre ++ (x : Int) :: post) : ct[pre.length]? = some x := by
  have h1 : (nI ct)[pre.length]? = some (x : Int) := by rw [h]; simp
  rw [nI, List.getElem?_map] at h1
  cases hc : ct[pre.length]? with
  | none => rw [hc] at h1; cases h1
  | some y =>
    rw [hc] at h1
    have := Option.some.inj h1
    have : y = x := by
      have h2 : (y : Int) = (x : Int) := this
      omega
    rw [this]
theorem dec_at {ct ds : List Nat} {pre post : List Int} {x : Nat} (hct : ct = ds.map alpha) (hEq : KStt.codes (sN ct) = pre ++ (x : Int) :: post) : ∃ d, ds[pre.length]? = some d ∧ x = alpha d := by
  rw [codes_sN] at hEq
  have h := nI_split hEq
  rw [hct, List.getElem?_map] at h
  cases hc : ds[pre.length]? with
  | none => rw [hc] at h; cases h
  | some d => rw [hc] at h; exact ⟨d, rfl, (Option.some.inj h).symm⟩
theorem dec_turn {ct ds : List Nat} {pre post : List Int} {x : Nat} {n : Int} (hct : ct = ds.map alpha) (hd : ∀ d ∈ ds, d < 58) (hEq : KStt.codes (sN ct) = pre ++ (x : Int) :: post) (hn : n = decW ds pre.length) :
    n * 58 + Txt.find (Str.ofString "123456789ABCDEFGHJKLMNPQRSTUVWXYZabcdefghijkmnopqrstuvwxyz") ⟨#[x]⟩ = decW ds (pre ++ [(x : Int)]).length := by
  obtain ⟨d, hg, rfl⟩ := dec_at hct hEq
  rw [find_alpha (hd d (List.mem_of_getElem? hg)), hn, decW_def, decW_def, List.length_append, List.length_singleton, List.take_add_one, hg]
  show _ = ((val 58 (ds.take pre.length ++ [d]) : Nat) : Int)
  rw [val_snoc]; push_cast; rfl
theorem dec_not {ct ds : List Nat} {pre post : List Int} {x : Nat} (hct : ct = ds.map alpha) (hd : ∀ d ∈ ds, d < 58) (hEq : KStt.codes (sN ct) = pre ++ (x : Int) :: post)
    (h : (Builtin.Str.occurrences (Str.ofString "123456789ABCDEFGHJKLMNPQRSTUVWXYZabcdefghijkmnopqrstuvwxyz") ⟨#[x]⟩ 0 (Str.ofString "123456789ABCDEFGHJKLMNPQRSTUVWXYZabcdefghijkmnopqrstuvwxyz").length 1).isEmpty = true) : False := by
  obtain ⟨d, hg, rfl⟩ := dec_at hct hEq
  rw [has_alpha (hd d (List.mem_of_getElem? hg))] at h
  cases h
noncomputable def blen : Nat → Nat := Classical.choose (sealedT fun N : Nat => max 1 ((Builtin.Int.intBits (N : Int) + 7) / 8))
theorem blen_def (N : Nat) : blen N = max 1 ((Builtin.Int.intBits (N : Int) + 7) / 8) := congrFun (Classical.choose_spec (sealedT fun N : Nat => max 1 ((Builtin.Int.intBits (N : Int) + 7) / 8))) N
theorem blen_lt (N : Nat) : N < 256 ^ blen N := by
  have h := intBits_le_iff.mp (Nat.le_refl (Builtin.Int.intBits (N : Int)))
  rw [Int.natAbs_natCast] at h
  rw [show (256 : Nat) = 2 ^ 8 from rfl, ← Nat.pow_mul]
  refine Nat.lt_of_lt_of_le h (Nat.pow_le_pow_right (by decide) ?_)
  rw [blen_def]; omega
theorem dec_end {ct ds : List Nat} {n : Int} (hct : ct = ds.map alpha) (hn : n = decW ds (sN ct).length) : n = ((val 58 ds : Nat) : Int) := by
  rw [hn, decW_def, sN_length, hct, List.length_map, List.take_length]
theorem blen_a {n : Int} {N : Nat} (h : n = (N : Int)) (ha : ((Builtin.Int.intBits n : Int) + 7).fdiv 8 ≠ 0) : ((Builtin.Int.intBits n : Int) + 7).fdiv 8 = (blen N : Int) := by
  subst h
  rw [Int.fdiv_eq_ediv_of_nonneg _ (by decide)] at ha ⊢
  rw [blen_def]; omega
theorem blen_b {n : Int} {N : Nat} (h : n = (N : Int)) (ha : ((Builtin.Int.intBits n : Int) + 7).fdiv 8 = 0) : (1 : Int) = (blen N : Int) := by
  subst h
  rw [Int.fdiv_eq_ediv_of_nonneg _ (by decide)] at ha
  rw [blen_def]; omega
theorem blen_le {ds : List Nat} (hd : ∀ d ∈ ds, d < 58) (hl : ds.length ≤ 200) : blen (val 58 ds) ≤ 300 := by
  have h1 := val_lt ds hd
  have h2 : Builtin.Int.intBits ((val 58 ds : Nat) : Int) ≤ 1200 := by
    refine intBits_le_iff.mpr ?_
    rw [Int.natAbs_natCast]
    refine Nat.lt_of_lt_of_le h1 (Nat.le_trans (Nat.pow_le_pow_right (by decide) hl) ?_)
    decide +kernel
  rw [blen_def]; omega

local macro_rules | `(tactic| walk_at "exec For Name Subscript cons nil") => `(tactic| (k_here; (rename Fr _ _ _ _ => lF'); (with_unfolding_all refine' For_invVF lF' ?k1 ?k2 ?_; (case k1 => exact rfl); (case k2 => exact rfl); k_whole)))

theorem one58 : Txt.item (Str.ofString "123456789ABCDEFGHJKLMNPQRSTUVWXYZabcdefghijkmnopqrstuvwxyz") 0 = ⟨#[49]⟩ := by decide +kernel
theorem snoc_49 {pre : List Int} {x : Nat} (h : ∀ y ∈ pre, y = 49) (hx : (({ cps := #[x] } : Str) == Txt.item (Str.ofString "123456789ABCDEFGHJKLMNPQRSTUVWXYZabcdefghijkmnopqrstuvwxyz") 0) = true) : ∀ y ∈ pre ++ [(x : Int)], y = 49 := by
  intro y hy
  rcases List.mem_append.mp hy with hy | hy
  · exact h y hy
  · rw [List.mem_singleton.mp hy]
    rw [one58, beq_iff_eq] at hx
    have : x = 49 := by simpa using hx
    omega
theorem not_49 {x : Nat} (hx : (({ cps := #[x] } : Str) == Txt.item (Str.ofString "123456789ABCDEFGHJKLMNPQRSTUVWXYZabcdefghijkmnopqrstuvwxyz") 0) = false) : x ≠ 49 := by
  intro h
  subst h
  rw [one58] at hx
  exact absurd hx (by decide)
theorem lzA_break {es : List Nat} {pre post : List Int} {x : Nat} (hd : ∀ d ∈ es, d < 58) (h : nI (es.map alpha) = pre ++ (x : Int) :: post) (hp : ∀ y ∈ pre, y = 49) (hx : x ≠ 49) : lz es = pre.length := by
  rw [lz_def]
  induction pre generalizing es with
  | nil =>
    cases es with
    | nil => cases h
    | cons d r =>
      have e : ((alpha d : Nat) : Int) = (x : Int) := (List.cons.inj h).1
      have : d ≠ 0 := fun e0 => hx (by have := (alpha_one (hd d (.head _))).mpr e0; omega)
      simp [this]
  | cons y pre ih =>
    cases es with
    | nil => cases h
    | cons d r =>
      have e : ((alpha d : Nat) : Int) = y := (List.cons.inj h).1
      have y0 := hp y (.head _)
      have : d = 0 := (alpha_one (hd d (.head _))).mp (by omega)
      subst this
      rw [List.takeWhile_cons]
      simp only [beq_self_eq_true, if_true, List.length_cons]
      rw [ih (fun d hd' => hd d (.tail _ hd')) (List.cons.inj h).2 fun x hx => hp x (.tail _ hx)]
theorem lzA_all {es : List Nat} (hd : ∀ d ∈ es, d < 58) (hp : ∀ x ∈ nI (es.map alpha), x = 49) : lz es = es.length := by
  rw [lz_def]
  induction es with
  | nil => rfl
  | cons d r ih =>
    have e : ((alpha d : Nat) : Int) = 49 := hp _ (.head _)
    have : d = 0 := (alpha_one (hd d (.head _))).mp (by omega)
    subst this
    rw [List.takeWhile_cons]
    simp only [beq_self_eq_true, if_true, List.length_cons]
    rw [ih (fun d hd' => hd d (.tail _ hd')) fun x hx => hp x (.tail _ hx)]
noncomputable def decB : List Nat → List Nat := Classical.choose (sealedT fun ds : List Nat => List.replicate (lz ds.dropLast) 0 ++ dig 256 (blen (val 58 ds)) (val 58 ds))
theorem decB_def (ds : List Nat) : decB ds = List.replicate (lz ds.dropLast) 0 ++ dig 256 (blen (val 58 ds)) (val 58 ds) := congrFun (Classical.choose_spec (sealedT fun ds : List Nat => List.replicate (lz ds.dropLast) 0 ++ dig 256 (blen (val 58 ds)) (val 58 ds))) ds
theorem dec_fin1 {ct ds : List Nat} {pre post : List Int} {x : Nat} (hct : ct = ds.map alpha) (hd : ∀ d ∈ ds, d < 58) (hEq : KStt.codes (sN ct.dropLast) = pre ++ (x : Int) :: post) (hp : ∀ y ∈ pre, y = 49)
    (hx : (({ cps := #[x] } : Str) == Txt.item (Str.ofString "123456789ABCDEFGHJKLMNPQRSTUVWXYZabcdefghijkmnopqrstuvwxyz") 0) = false) :
    nI (List.replicate pre.length 0) ++ nI (dig 256 (blen (val 58 ds)) (val 58 ds)) = nI (decB ds) := by
  rw [codes_sN, hct, ← List.map_dropLast] at hEq
  rw [nI_append, decB_def, lzA_break (fun d hd' => hd d (List.dropLast_subset _ hd')) hEq hp (not_49 hx)]
theorem dec_fin2 {ct ds : List Nat} (hct : ct = ds.map alpha) (hd : ∀ d ∈ ds, d < 58) (hp : ∀ y ∈ KStt.codes (sN ct.dropLast), y = 49) :
    nI (List.replicate (sN ct.dropLast).length 0) ++ nI (dig 256 (blen (val 58 ds)) (val 58 ds)) = nI (decB ds) := by
  rw [codes_sN, hct, ← List.map_dropLast] at hp
  rw [nI_append, decB_def, lzA_all (fun d hd' => hd d (List.dropLast_subset _ hd')) hp, sN_length, hct, ← List.map_dropLast, List.length_map]

local macro_rules | `(tactic| walk_at "binaryOp Mult bytes int") => `(tactic| (rename (_ = ((_ : Nat) : Int)) => hPd; refine bytes_mul_zero hPd (by omega) ?_; intro _ _ _ hMz))

set_option maxHeartbeats 4000000 in
theorem c_dec58 (ct ds : List Nat) (u : Tok) : Says prog w p loose mean mg mb 20 100 113 [.str (sN ct) u] (fun _ _ => ct = ds.map alpha ∧ (∀ d ∈ ds, d < 58) ∧ 0 < ds.length ∧ ds.length ≤ 200) (RBytes (nI (decB ds))) := by
  unfold Says
  intro dp un gd cn cs a ccd cl outer A₀ base h₀ L m news s Q E B F X N T hk hpre hdp hu hret
  obtain ⟨hct, hd, hd0, hd1⟩ := hpre
  have hc0 : 0 < ct.length := by rw [hct, List.length_map]; exact hd0
  have hc1 : ct.length ≤ 200 := by rw [hct, List.length_map]; exact hd1
  have hlen : (sN ct).length ≤ 200 := by rw [sN_length]; exact hc1
  have hdlen : (sN ct.dropLast).length ≤ 200 := by rw [sN_length, List.length_dropLast]; omega
  have hbl := blen_le hd hd1
  have hlen0 : 0 < (sN ct).length := by rw [sN_length]; exact hc0
  refine wpAny_call ?_
  w_strict (k_dflt cell_enter)
  refine PySem.wpAny_noRaise ?_
  k_with_none
  (k_with "state" => first | exact (by rw [decW_def]; exact (congrArg _ (val_nil 58)).symm) | exact dec_turn hct hd (by with_reducible assumption) (by with_reducible assumption))
  (k_with "pyIter str" => k_state (fun (pre : List Int) (n : Int) => n = decW ds pre.length) "n")
  k_steps
  · exfalso
    exact dec_not hct hd (by with_reducible assumption) (by with_reducible assumption)
  · rename (_ = decW _ _) => hDec
    rename (Int.fdiv _ _ ≠ 0) => hNz
    dsimp only [List.nil_append, List.cons_append]
    refine to_bytes_any (o := "big") (lit := false) (.inl ⟨rfl, rfl⟩) (dec_end hct hDec) (blen_a (dec_end hct hDec) hNz) (Nat.le_trans (blen_le hd hd1) (by decide)) (blen_lt _) ?_
    intro b2 t2 k2 hb2
    clear hDec hNz
    replace hb2 : KBw.bInts b2 = nI (dig 256 (blen (val 58 ds)) (val 58 ds)) := hb2
    k_with_none
    (k_with "state" => first | exact ⟨rfl, fun _ h => (List.not_mem_nil h).elim⟩ | exact ⟨by rw [List.length_append, List.length_singleton]; omega, snoc_49 (by with_reducible assumption) (by with_reducible assumption)⟩)
    (k_with "pyIter str" => (rw [slice_dropLast]; k_state (fun (pre : List Int) (pad : Int) => pad = (pre.length : Int) ∧ ∀ x ∈ pre, x = 49) "pad"))
    k_steps
    · rename (KStt.codes (sN (List.dropLast _)) = _) => hEq
      exact ret_bytes hret (by with_reducible assumption) (dec_fin1 hct hd hEq (by with_reducible assumption) (by with_reducible assumption)) (by k_asm) (by k_asm) (by kcj_all)
    · rename (∀ x ∈ _, x = _) => hAll
      exact ret_bytes hret (by with_reducible assumption) (dec_fin2 hct hd hAll) (by k_asm) (by k_asm) (by kcj_all)
  · rename (_ = decW _ _) => hDec
    rename (Int.fdiv _ _ = 0) => hNz
    dsimp only [List.nil_append, List.cons_append]
    refine to_bytes_any (o := "big") (lit := false) (.inl ⟨rfl, rfl⟩) (dec_end hct hDec) (blen_b (dec_end hct hDec) hNz) (Nat.le_trans (blen_le hd hd1) (by decide)) (blen_lt _) ?_
    intro b2 t2 k2 hb2
    clear hDec hNz
    replace hb2 : KBw.bInts b2 = nI (dig 256 (blen (val 58 ds)) (val 58 ds)) := hb2
    k_with_none
    (k_with "state" => first | exact ⟨rfl, fun _ h => (List.not_mem_nil h).elim⟩ | exact ⟨by rw [List.length_append, List.length_singleton]; omega, snoc_49 (by with_reducible assumption) (by with_reducible assumption)⟩)
    (k_with "pyIter str" => (rw [slice_dropLast]; k_state (fun (pre : List Int) (pad : Int) => pad = (pre.length : Int) ∧ ∀ x ∈ pre, x = 49) "pad"))
    k_steps
    · rename (KStt.codes (sN (List.dropLast _)) = _) => hEq
      exact ret_bytes hret (by with_reducible assumption) (dec_fin1 hct hd hEq (by with_reducible assumption) (by with_reducible assumption)) (by k_asm) (by k_asm) (by kcj_all)
    · rename (∀ x ∈ _, x = _) => hAll
      exact ret_bytes hret (by with_reducible assumption) (dec_fin2 hct hd hAll) (by k_asm) (by k_asm) (by kcj_all)
  · exfalso; omega
end

section
open PySem PySem.W PySem.Calls PyProof.Rows
set_option maxRecDepth 100000
variable {prog : Program} {w : World} {p : Program} {loose : List Str} {mean : ExcName → Option Value} {mg mb : Str → Option Value}

theorem fill2 : PySem.Challenge.rw_bd0008_01 = PySem.Challenge.rw_bd0008_01 ∧ hd.heap_39 = hd.heap_39 := by
  w_on
  k_fill
  exact ⟨rfl, rfl⟩

local macro_rules | `(tactic| kst_facts1) => `(tactic| first | exact PyProof.Rows.StrsAre.nil | exact PyProof.Rows.StrsAre.append' (by with_reducible assumption) (.cons _ _ .nil))

theorem mulOk_bits {a b : Int} (ha : Builtin.Int.intBits a ≤ 4000000) (hb : Builtin.Int.intBits b ≤ 4000000) : IntMulOk a b := by
  unfold IntMulOk
  have h : Builtin.Int.intTooBig (Builtin.Int.intBits a + Builtin.Int.intBits b) = false := by
    unfold Builtin.Int.intTooBig
    have hb : bitsLine = 134217728 := by first | rfl | decide
    rw [hb]
    exact decide_eq_false (by omega)
  rw [h]; simp

def bigC : Int := 16395309179817738009521987751666139093583423331470737840399399094199505546377
def octN0 (x : Int) : Nat := (x * bigC % 256 ^ 20).toNat
noncomputable def octN : Int → Nat := Classical.choose (sealedT octN0)
theorem octN_def (x : Int) : octN x = (x * bigC % 256 ^ 20).toNat := congrFun (Classical.choose_spec (sealedT octN0)) x
theorem toNat20 : Int.toNat 20 = 20 := rfl
theorem oct_cast (x : Int) : (x * 16395309179817738009521987751666139093583423331470737840399399094199505546377).fmod (256 ^ Int.toNat 20) = (octN x : Int) := by
  rw [toNat20]
  have h : (0 : Int) ≤ 256 ^ 20 := by decide +kernel
  rw [Int.fmod_eq_emod_of_nonneg _ h]
  rw [octN_def]; unfold bigC
  exact (Int.toNat_of_nonneg (Int.emod_nonneg _ (by decide +kernel))).symm
theorem oct_lt (x : Int) : octN x < 256 ^ 20 := by
  rw [octN_def]
  have h1 := Int.emod_nonneg (x * bigC) (b := 256 ^ 20) (by decide +kernel)
  have h2 := Int.emod_lt_of_pos (x * bigC) (b := 256 ^ 20) (by decide +kernel)
  have e : ((256 ^ 20 : Nat) : Int) = 256 ^ 20 := by rw [Int.natCast_pow]; rfl
  omega

set_option maxHeartbeats 4000000 in
theorem c_octets (x : Int) (t u : Tok) :
    Says prog w p loose mean mg mb 10 40 976 [.int x t, .int 20 u] (fun _ _ => Builtin.Int.intBits x ≤ 2000000) (RBytes (nI (dig 256 20 (octN x)).reverse)) := by
  unfold Says
  intro dp un gd cn cs a ccd cl outer A₀ base h₀ L m news s Q E B F X N T hk hpre hdp hu hret
  refine wpAny_call ?_
  w_strict (k_dflt cell_enter)
  refine PySem.wpAny_noRaise ?_
  k_steps
  refine PyProof.Rows.mul_int ?_ (mulOk_bits (by omega) (by decide +kernel))
  k_steps
  refine to_bytes_any (o := "little") (lit := true) (X := octN x) (k := 20) (.inr ⟨rfl, rfl⟩) (oct_cast x) rfl (by decide) (oct_lt x) ?_
  intro b' t' k' hb'
  k_steps
  exact ret_bytes hret hb' rfl (by k_asm) (by k_asm) (fun _ h => h)

def shaP : Nat := 2 ^ 255 - 19
noncomputable def shaN : List Nat → Nat := Classical.choose (sealedT fun l : List Nat => val 256 (1 :: l) * val 256 (1 :: l) * 48181483302151357469556550866566148933 % shaP)
theorem shaN_def (l : List Nat) : shaN l = val 256 (1 :: l) * val 256 (1 :: l) * 48181483302151357469556550866566148933 % shaP := congrFun (Classical.choose_spec (sealedT fun l : List Nat => val 256 (1 :: l) * val 256 (1 :: l) * 48181483302151357469556550866566148933 % shaP)) l
noncomputable def sha : List Nat → List Nat := Classical.choose (sealedT fun l : List Nat => dig 256 32 (shaN l))
theorem sha_def (l : List Nat) : sha l = dig 256 32 (shaN l) := congrFun (Classical.choose_spec (sealedT fun l : List Nat => dig 256 32 (shaN l))) l
noncomputable def dsha : List Nat → List Nat := Classical.choose (sealedT fun l : List Nat => sha (sha l))
theorem dsha_def (l : List Nat) : dsha l = sha (sha l) := congrFun (Classical.choose_spec (sealedT fun l : List Nat => sha (sha l))) l
theorem sha_length (l : List Nat) : (sha l).length = 32 := by rw [sha_def]; exact dig_length _ _ _
theorem sha_lt (l : List Nat) : shaN l < 256 ^ 32 := by rw [shaN_def]; exact Nat.lt_trans (Nat.mod_lt _ (by decide +kernel)) (by decide +kernel)
theorem sha_cast (l : List Nat) : (((val 256 (1 :: l) : Nat) : Int) * ((val 256 (1 :: l) : Nat) : Int) * 48181483302151357469556550866566148933).fmod (2 ^ Int.toNat 255 - 19) = (shaN l : Int) := by
  have h : (0 : Int) ≤ 2 ^ Int.toNat 255 - 19 := by decide +kernel
  have e : (2 : Int) ^ Int.toNat 255 - 19 = ((shaP : Nat) : Int) := by decide +kernel
  rw [Int.fmod_eq_emod_of_nonneg _ h, e]
  rw [shaN_def]
  rw [Int.natCast_emod, Int.natCast_mul, Int.natCast_mul]
  rfl

theorem val_bits {l : List Nat} (hl : ∀ x ∈ l, x < 256) (hn : l.length ≤ 200) : Builtin.Int.intBits ((val 256 l : Nat) : Int) ≤ 2000 :=
  Nat.le_trans (bits_small (val_lt l hl)) (by omega)
theorem one_bound {l : List Nat} (hl : ∀ x ∈ l, x < 256) : ∀ x ∈ 1 :: l, x < 256 := by
  intro x hx
  rcases List.mem_cons.mp hx with rfl | hx
  · decide
  · exact hl x hx
theorem sha_bound (l : List Nat) : ∀ x ∈ sha l, x < 256 := by rw [sha_def]; exact dig_lt (by decide) _ _

theorem sq_ok {l : List Nat} (hl : ∀ x ∈ l, x < 256) (hn : l.length ≤ 100) : IntMulOk ((val 256 (1 :: l) : Nat) : Int) ((val 256 (1 :: l) : Nat) : Int) :=
  have hv := val_bits (one_bound hl) (by rw [List.length_cons]; omega)
  mulOk_bits (Nat.le_trans hv (by decide)) (Nat.le_trans hv (by decide))
theorem sq_ok2 {l : List Nat} (hl : ∀ x ∈ l, x < 256) (hn : l.length ≤ 100) : IntMulOk (((val 256 (1 :: l) : Nat) : Int) * ((val 256 (1 :: l) : Nat) : Int)) 48181483302151357469556550866566148933 :=
  have hv := val_bits (one_bound hl) (by rw [List.length_cons]; omega)
  mulOk_bits (Nat.le_trans (intBits_mul_le hv hv) (by decide)) (by decide +kernel)

theorem from_big1 {w : World} {prog : Program} {A : Around} {E : Value → Shared → Prop} {s : Shared} {h₀ : Heap} {L : Addr} {news : Led} {x : Addr} {b : Array UInt8} {t u : Tok} {l : List Nat} {Q : Value → Shared → Prop} (N : News h₀ L s.heap news) (hm : (x, KFB.bound) ∈ news) (hb : KBw.bInts b = nI [1] ++ nI l) (hl : l.length ≤ 9000)
    (h : ∀ t' k, Q (.int ((val 256 (1 :: l) : Nat) : Int) t') { s with toks := k }) : wpAny (model prog w) A (call (.ref x) [.bytes b t, .str (PySem.Str.ofString "big") u]) Q E s :=
  from_big N hm (l := 1 :: l) hb (by rw [List.length_cons]; omega) h
local macro_rules | `(tactic| walk_at "call ref") => `(tactic| (k_here; (with_reducible show wpAny _ _ (call (Value.ref _) [Value.bytes _ _, Value.str _ _]) _ _ _); k_dflt (refine' from_big1 ?n ?m ?b ?c ?_; (case n => k_asm); (case m => k_mem); (case b => with_reducible assumption); (case c => omega)); intro _ _))

theorem Says.go {D U : Nat} {f : Addr} {vs : List Value} {pre : Heap → Led → Prop} {R : Value → Led → Prop} {dp un : Nat} {gd : Option (List Code)} {cn : Str} {cs : Scope} {a : Addr} {ccd : Value} {cl : List (Str × Addr)} {outer : List Env} {A₀ : Around}
    {base h₀ : Heap} {L : Addr} {m : Str → Option Value} {news : Led} {s : Shared} {Q E : Value → Shared → Prop} (C : Says prog w p loose mean mg mb D U f vs pre R)
    (hp : pre base news) (ret : RetT h₀ L m news s Q R)
    (B : Below A₀ base outer h₀ := by k_asm) (F : Fr h₀ L s.heap m := by k_asm) (X : (hd.heap_39 w.params).In h₀ := by k_asm) (N : News h₀ L s.heap news := by k_asm) (T : Top p loose mean mg mb h₀ := by k_asm)
    (hk : cs.kind = .function := by first | exact rfl | assumption) (hdp : dp + D < recursionLimit := by ktr_room) (hu : un + U < cLine := by ktr_units) :
    wpAny (model prog w) (ktrTop dp un gd cn cs L a ccd cl outer) (call (.ref f) vs) Q E s := C dp un gd cn cs a ccd cl outer A₀ base h₀ L m news s Q E B F X N T hk hp hdp hu ret
abbrev datS (P : Params) (tk : Tok) (v : Value) : Obj := dictOf [{ hash := PyData.keyHash P (Str.ofString "data"), key := .str (Str.ofString "data") tk, val := v }] 1
def RSha (b : Array UInt8) (K : Params) (v : Value) (tl : Led) : Prop := ∃ x d tk ub, v = .ref x ∧ tl = [(x, instObj 63 d), (d, datS K tk (.bytes b ub))] ∧ d < x
theorem rt_sha {h₀ : Heap} {L : Addr} {m : Str → Option Value} {news : Led} {s : Shared} {Q : Value → Shared → Prop} {b : Array UInt8} {K : Params} (k : ∀ (x d : Addr) (tk : Tok) (ub : Tok) (h' : Heap) (tk' : Nat), d < x → Fr h₀ L h' m → News h₀ L h' ((x, instObj 63 d) :: (d, datS K tk (.bytes b ub)) :: news) → AllLt x news → AllLt d news → Q (.ref x) { s with heap := h', toks := tk' }) : RetT h₀ L m news s Q (RSha b K) := by
  rintro v tl h' tk' ⟨x, d, tk, ub, rfl, rfl, hd⟩ F N l
  exact k x d tk ub h' tk' hd F N (allLt_of (l _ (.head _))) (allLt_of (l _ (.tail _ (.head _))))
set_option maxHeartbeats 4000000 in
theorem c_sha (b : Array UInt8) (u : Tok) : Says prog w p loose mean mg mb 10 60 82 [.bytes b u] (fun _ _ => True) (RSha b w.params) := by
  unfold Says
  intro dp un gd cn cs a ccd cl outer A₀ base h₀ L m news s Q E B F X N T hk hpre hdp hu hret
  refine wpAny_call ?_
  w_strict (k_dflt (refine' PySem.W.code_def ?k1 ?k2 ?k3 ?k4 ?k5 ?kA ?kF ?kK ?k6 ?k7 ?k8 ?k9 ?kB ?_ ?c2 ?c3 ?c4 ?c5; (case kA => exact rfl); (case kF => exact rfl); (case kK => assumption); (case k1 => k_asm); (case k2 => k_asm); (case k3 => k_asm); (case k4 => k_asm); (case k5 => k_asm); (case k6 => k_is); (case k7 => k_is); (case k8 => ktr_room); (case k9 => exact binds_K (X.keeps F.keep) rfl (by k_is) rfl rfl rfl); (case c5 => decide); (case kB => exact locs rfl); (case c2 => exact rfl); (case c3 => exact rfl); (case c4 => exact rfl); k_whole; intro g' L' h'' FG' F'' N'' B' X' T'; (try dsimp only); (try k_lift B'); (try k_fold)))
  refine PySem.wpAny_noRaise ?_
  k_with_none
  k_steps
  with_reducible rename News _ _ _ _ => kN9
  (try dsimp only at kN9)
  with_reducible rename (∀ q, q ∈ news → _) => l1
  with_reducible rename (@LT.lt Nat _ _ _) => l2
  refine hret _ [_, _] _ _ ⟨_, _, _, u, rfl, rfl, l2⟩ (by k_asm) kN9 ?_
  intro q hq p hp
  have h1 := l1 p hp
  rcases hq with _ | ⟨_, hq⟩
  · exact Nat.lt_trans h1 l2
  rcases hq with _ | ⟨_, hq⟩
  · exact h1
  · exact nomatch hq
local macro_rules | `(tactic| k_mem) => `(tactic| ((repeat (refine List.Mem.tail _ ?_)); assumption))
set_option maxHeartbeats 4000000 in
theorem c_dig (x d : Addr) (tk ub : Tok) (b : Array UInt8) (l : List Nat) : Says prog w p loose mean mg mb 10 60 60 [.ref x] (fun _ news => (x, instObj 63 d) ∈ news ∧ (d, datS w.params tk (.bytes b ub)) ∈ news ∧ KBw.bInts b = nI l ∧ l.length ≤ 100) (RBytes (nI (sha l))) := by
  unfold Says
  intro dp un gd cn cs a ccd cl outer A₀ base h₀ L m news s Q E B F X N T hk hpre hdp hu hret
  obtain ⟨hmx, hmd, hb, hl⟩ := hpre
  have h1 : KBw.bInts #[1] = nI [1] := rfl
  have hz : (nI l).length ≤ 100 := by rw [nI_length]; exact hl
  have hm1 := sq_ok (bytes_bound hb) hl
  have hm2 := sq_ok2 (bytes_bound hb) hl
  refine wpAny_call ?_
  w_strict (k_dflt cell_enter)
  refine PySem.wpAny_noRaise ?_
  refine gen_toks ?_
  intro tk0
  with_reducible rename Fr _ _ _ _ => Fe
  replace Fe : Fr _ _ _ (fun y => List.lookup y [(Str.ofString "self", _)]) := Fe
  k_with_none
  k_steps
  refine to_bytes_any (o := "big") (lit := false) (X := shaN l) (k := 32) (.inl ⟨rfl, rfl⟩) (sha_cast l) rfl (by decide) (sha_lt l) ?_
  intro b2 t2 k2 hb2
  replace hb2 : KBw.bInts b2 = nI (sha l) := by rw [sha_def]; exact hb2
  k_steps
  exact ret_bytes hret hb2 rfl (by k_asm) (by k_asm) (by kcj_all)
set_option maxHeartbeats 4000000 in
theorem c_dsha (b : Array UInt8) (u : Tok) (l : List Nat) : Says prog w p loose mean mg mb 20 100 99 [.bytes b u] (fun _ _ => KBw.bInts b = nI l ∧ l.length ≤ 100) (RBytes (nI (dsha l))) := by
  unfold Says
  intro dp un gd cn cs a ccd cl outer A₀ base h₀ L m news s Q E B F X N T hk hpre hdp hu hret
  obtain ⟨hb, hl⟩ := hpre
  have hs := sha_length l
  refine wpAny_call ?_
  w_strict (k_dflt cell_enter)
  refine PySem.wpAny_noRaise ?_
  k_with_none
  repeat (fail_if_success (with_reducible show wpAny _ _ (call (Value.ref 82) _) _ _ _)); first | (k_unfold; (try dsimp only)) | walk1 | (dsimp only; walk1)
  refine Says.go (c_sha _ _) trivial ?_
  refine rt_sha ?_
  intro x1 d1 tk1 ub1 h1a tk1a lx1 F9 N9 lA1 lB1
  (try simp only [AllLt, and_true] at lA1 lB1)
  repeat (fail_if_success (with_reducible show wpAny _ _ (call (Value.ref 60) _) _ _ _)); first | (k_unfold; (try dsimp only)) | walk1 | (dsimp only; walk1)
  refine Says.go (c_dig _ _ _ _ _ l) ⟨.head _, .tail _ (.head _), hb, hl⟩ ?_
  refine rt_bytes ?_
  intro b1 t1 h1b tk1b hb1 F9 N9
  repeat (fail_if_success (with_reducible show wpAny _ _ (call (Value.ref 82) _) _ _ _)); first | (k_unfold; (try dsimp only)) | walk1 | (dsimp only; walk1)
  refine Says.go (c_sha _ _) trivial ?_
  refine rt_sha ?_
  intro x2 d2 tk2 ub2 h2a tk2a lx2 F9 N9 lA2 lB2
  (try simp only [AllLt, and_true] at lA2 lB2)
  repeat (fail_if_success (with_reducible show wpAny _ _ (call (Value.ref 60) _) _ _ _)); first | (k_unfold; (try dsimp only)) | walk1 | (dsimp only; walk1)
  refine Says.go (c_dig _ _ _ _ _ (sha l)) ⟨.head _, .tail _ (.head _), hb1, by rw [hs]; decide⟩ ?_
  refine rt_bytes ?_
  intro b2 t2 h2b tk2b hb2 F9 N9
  k_steps
  exact ret_bytes hret hb2 (by rw [dsha_def]) (by k_asm) (by k_asm) (by kcj_all)
end

section
open PySem PySem.W PySem.Calls PyProof.Rows
set_option maxRecDepth 100000
variable {prog : Program} {w : World} {p : Program} {loose : List Str} {mean : ExcName → Option Value} {mg mb : Str → Option Value}

theorem fill5 : PySem.Challenge.rw_bd0008_01 = PySem.Challenge.rw_bd0008_01 ∧ hd.heap_39 = hd.heap_39 := by
  w_on
  k_fill
  exact ⟨rfl, rfl⟩

local macro_rules | `(tactic| kst_facts1) => `(tactic| first | exact PyProof.Rows.StrsAre.nil | exact PyProof.Rows.StrsAre.append' (by with_reducible assumption) (.cons _ _ .nil))

noncomputable def chk : List Nat → List Nat := Classical.choose (sealedT fun l : List Nat => l ++ (dsha l).take 4)
theorem chk_def (l : List Nat) : chk l = l ++ (dsha l).take 4 := congrFun (Classical.choose_spec (sealedT fun l : List Nat => l ++ (dsha l).take 4)) l
theorem dsha_length (l : List Nat) : (dsha l).length = 32 := by rw [dsha_def]; exact sha_length _
theorem chk_length (l : List Nat) : (chk l).length = l.length + 4 := by
  rw [chk_def, List.length_append, List.length_take, dsha_length]; omega

theorem chk_ints (l : List Nat) : nI l ++ List.take (clipAt (nI (dsha l)).length 4 - clipAt (nI (dsha l)).length 0) (List.drop (clipAt (nI (dsha l)).length 0) (nI (dsha l))) = nI (chk l) := by
  rw [nI_length, dsha_length]
  show nI l ++ List.take 4 (nI (dsha l)) = _
  rw [nI_take, nI_append, chk_def]
theorem chk_bound {b : Array UInt8} {l : List Nat} (hb : KBw.bInts b = nI l) : ∀ x ∈ chk l, x < 256 := by
  intro x hx
  rw [chk_def] at hx
  rcases List.mem_append.mp hx with h | h
  · exact bytes_bound hb x h
  · have h2 := List.mem_of_mem_take h
    rw [dsha_def] at h2
    exact sha_bound _ x h2


set_option maxHeartbeats 4000000 in
theorem c_encheck (b : Array UInt8) (u : Tok) (l : List Nat) : Says prog w p loose mean mg mb 60 300 120 [.bytes b u] (fun _ _ => KBw.bInts b = nI l ∧ l.length ≤ 90) (RStr (encT (chk l))) := by
  unfold Says
  intro dp un gd cn cs a ccd cl outer A₀ base h₀ L m news s Q E B F X N T hk hpre hdp hu hret
  obtain ⟨hb, hl⟩ := hpre
  have hz : (nI l).length ≤ 90 := by rw [nI_length]; exact hl
  have hz9 : (nI (dsha l)).length = 32 := by rw [nI_length, dsha_length]
  refine wpAny_call ?_
  w_strict (k_dflt cell_enter)
  refine PySem.wpAny_noRaise ?_
  k_with_none
  repeat (fail_if_success (with_reducible show wpAny _ _ (call (Value.ref 99) [Value.bytes _ _]) _ _ _)); first | (k_unfold; (try dsimp only)) | walk1 | (dsimp only; walk1)
  k_dflt (refine' Says.go (c_dsha _ _ _) ⟨?sayP, ?sayQ⟩ ?_; (case sayP => with_reducible assumption); (case sayQ => omega); refine rt_bytes ?_; intro b9 t9 h9 tk9 hb9 F9 N9; (try dsimp only); (try k_fold))
  repeat (fail_if_success (with_reducible show wpAny _ _ (call (Value.ref 106) _) _ _ _)); first | (k_unfold; (try dsimp only)) | walk1 | (dsimp only; walk1)
  rename (KBw.bInts (_ ++ _) = _) => hApp
  refine Says.go (c_enc58 _ _ (chk l)) ⟨hApp.trans (chk_ints l), by rw [chk_length]; omega⟩ ?_
  first | refine rt_str ?_ | refine rt_int ?_
  intro t9 h9 tk9 F9 N9
  k_steps
  exact ret_str hret rfl (by k_asm) (by k_asm) (by kcj_all)
end

section
open PySem PySem.W PySem.Calls PyProof.Rows
set_option maxRecDepth 100000
variable {prog : Program} {w : World} {p : Program} {loose : List Str} {mean : ExcName → Option Value} {mg mb : Str → Option Value}

theorem fill6 : PySem.Challenge.rw_bd0008_01 = PySem.Challenge.rw_bd0008_01 ∧ hd.heap_39 = hd.heap_39 := by
  w_on
  k_fill
  exact ⟨rfl, rfl⟩

local macro_rules | `(tactic| kst_facts1) => `(tactic| first | exact PyProof.Rows.StrsAre.nil | exact PyProof.Rows.StrsAre.append' (by with_reducible assumption) (.cons _ _ .nil))

noncomputable def encD : List Nat → List Nat := Classical.choose (sealedT fun l : List Nat => List.replicate (lz l) 0 ++ (ldig 58 (val 256 l)).reverse)
theorem encD_def (l : List Nat) : encD l = List.replicate (lz l) 0 ++ (ldig 58 (val 256 l)).reverse := congrFun (Classical.choose_spec (sealedT fun l : List Nat => List.replicate (lz l) 0 ++ (ldig 58 (val 256 l)).reverse)) l
theorem alpha_zero : alpha 0 = 49 := (alpha_one (by decide)).mpr rfl
theorem encT_D (l : List Nat) : encT l = sN ((encD l).map alpha) := by
  rw [encT_def, encD_def, digT_def, List.map_append, List.map_replicate, alpha_zero, List.map_reverse]
theorem encD_lt (l : List Nat) : ∀ d ∈ encD l, d < 58 := by
  intro d hd
  rw [encD_def] at hd
  rcases List.mem_append.mp hd with h | h
  · rw [List.eq_of_mem_replicate h]; decide
  · exact ldig_lt (by decide) _ d (List.mem_reverse.mp h)
theorem encD_len {l : List Nat} (hb : ∀ x ∈ l, x < 256) (hl : l.length ≤ 60) : (encD l).length ≤ 200 := by
  rw [encD_def, List.length_append, List.length_replicate, List.length_reverse]
  have := lz_le l
  have h2 : (ldig 58 (val 256 l)).length ≤ 2 * l.length := by
    refine ldig_length_le (by decide) _ _ ?_
    refine Nat.lt_of_lt_of_le (val_lt l hb) ?_
    rw [Nat.pow_mul]
    exact Nat.pow_le_pow_left (by decide) _
  omega
theorem lz_split (l : List Nat) : ∃ l', l = List.replicate (lz l) 0 ++ l' ∧ ∀ a r, l' = a :: r → a ≠ 0 := by
  rw [lz_def]
  induction l with
  | nil => exact ⟨[], rfl, fun _ _ h => nomatch h⟩
  | cons a r ih =>
    by_cases ha : a = 0
    · subst ha
      obtain ⟨l', h1, h2⟩ := ih
      refine ⟨l', ?_, h2⟩
      rw [List.takeWhile_cons]
      simp only [beq_self_eq_true, if_true, List.length_cons, List.replicate_succ, List.cons_append]
      rw [← h1]
    · refine ⟨a :: r, ?_, fun b s e => by cases e; exact ha⟩
      rw [List.takeWhile_cons]
      simp [ha]
theorem lz_rep (z : Nat) (m : List Nat) (h : ∀ a r, m = a :: r → a ≠ 0) : lz (List.replicate z 0 ++ m) = z := by
  rw [lz_def]
  induction z with
  | zero =>
    cases m with
    | nil => rfl
    | cons a r => simp [h a r rfl]
  | succ z ih =>
    rw [List.replicate_succ, List.cons_append, List.takeWhile_cons]
    simp only [beq_self_eq_true, if_true, List.length_cons]
    rw [ih]
theorem val_zero_of_rep (z : Nat) : val 256 (List.replicate z 0) = 0 := by
  have := val_replicate_zero 256 z []
  rw [List.append_nil, val_nil] at this
  exact this
theorem val_lead {a : Nat} {r : List Nat} (ha : a ≠ 0) : 256 ^ r.length ≤ val 256 (a :: r) := by
  have h := val_append 256 [a] r
  have h1 : val 256 [a] = a := by have := val_snoc 256 [] a; rw [val_nil] at this; simpa using this
  rw [List.singleton_append, h1] at h
  rw [h]
  have : 1 * 256 ^ r.length ≤ a * 256 ^ r.length := Nat.mul_le_mul_right _ (by omega)
  omega
theorem blen_eq {N k : Nat} (h1 : 256 ^ k ≤ N) (h2 : N < 256 ^ (k + 1)) : blen N = k + 1 := by
  rw [blen_def]
  have p : (256 : Nat) = 2 ^ 8 := rfl
  rw [p, ← Nat.pow_mul] at h1 h2
  have a := (intBits_le_iff (m := 8 * (k + 1)) (x := (N : Int))).mpr (by rw [Int.natAbs_natCast]; exact h2)
  have b : ¬ Builtin.Int.intBits (N : Int) ≤ 8 * k := fun hh => by
    have := intBits_le_iff.mp hh
    rw [Int.natAbs_natCast] at this
    omega
  omega
theorem blen_zero : blen 0 = 1 := by rw [blen_def]; rfl
theorem decB_encD {l : List Nat} (hb : ∀ x ∈ l, x < 256) (hl : 0 < l.length) : decB (encD l) = l := by
  obtain ⟨l', e, hlead⟩ := lz_split l
  have hv : val 58 (encD l) = val 256 l := by rw [encD_def, val_replicate_zero, val_ldig (by decide)]
  rw [decB_def, hv]
  cases l' with
  | nil =>
    rw [List.append_nil] at e
    have hN : val 256 l = 0 := by rw [e]; exact val_zero_of_rep _
    have hz : 0 < lz l := by
      rcases Nat.eq_zero_or_pos (lz l) with h | h
      · rw [h] at e; rw [e] at hl; exact absurd hl (by decide)
      · exact h
    rw [hN, blen_zero, encD_def, hN, ldig_zero, List.reverse_nil, List.append_nil, dig_succ, dig_zero]
    have hd : (List.replicate (lz l) 0).dropLast = List.replicate (lz l - 1) 0 := by
      rw [List.dropLast_replicate]
    rw [hd]
    have h1 := lz_rep (lz l - 1) [] (fun _ _ h => nomatch h)
    rw [List.append_nil] at h1
    rw [h1]
    show List.replicate (lz l - 1) 0 ++ [0] = l
    rw [← List.replicate_succ']
    have : lz l - 1 + 1 = lz l := by omega
    rw [this]; exact e.symm
  | cons a r =>
    have ha := hlead a r rfl
    have hN : val 256 l = val 256 (a :: r) := by
      have h := val_replicate_zero 256 (lz l) (a :: r)
      rw [← e] at h; exact h
    have hb' : ∀ x ∈ a :: r, x < 256 := fun x hx => hb x (by rw [e]; exact List.mem_append.mpr (.inr hx))
    have hlo := val_lead (r := r) ha
    have hhi := val_lt (a :: r) hb'
    have hbl := blen_eq hlo hhi
    have hpos : 0 < val 256 (a :: r) := Nat.lt_of_lt_of_le (Nat.pow_pos (by decide)) hlo
    rw [hN, hbl]
    have hdig := dig_val (a :: r) hb'
    rw [List.length_cons] at hdig
    rw [hdig]
    obtain ⟨d, q, hq, hd⟩ := ldig_lead (B := 58) (by decide) _ hpos
    rw [encD_def, hN, hq]
    have hdl : (List.replicate (lz l) 0 ++ d :: q).dropLast = List.replicate (lz l) 0 ++ (d :: q).dropLast := by
      rw [List.dropLast_append_of_ne_nil (by simp)]
    rw [hdl, lz_rep]
    · exact e.symm
    · intro b s hbs
      cases q with
      | nil => cases hbs
      | cons q1 q2 =>
        rw [List.dropLast_cons_of_ne_nil (by simp)] at hbs
        cases hbs; exact hd

theorem encD_pos {l : List Nat} (hl : 0 < l.length) : 0 < (encD l).length := by
  rcases Nat.eq_zero_or_pos (encD l).length with h | h
  · exfalso
    rw [encD_def, List.length_append, List.length_replicate, List.length_reverse] at h
    obtain ⟨l', e, hlead⟩ := lz_split l
    have hz : lz l = 0 := by omega
    have hd : ldig 58 (val 256 l) = [] := List.eq_nil_of_length_eq_zero (by omega)
    have hv := val_ldig (B := 58) (by decide) (val 256 l)
    rw [hd, List.reverse_nil, val_nil] at hv
    rw [hz, List.replicate_zero, List.nil_append] at e
    cases l' with
    | nil => rw [e] at hl; exact absurd hl (by decide)
    | cons a r =>
      have h1 := val_lead (r := r) (hlead a r rfl)
      rw [← e] at h1
      have : 0 < 256 ^ r.length := Nat.pow_pos (by decide)
      omega
  · exact h
theorem c_decE (x : Str) (u : Tok) (l : List Nat) : Says prog w p loose mean mg mb 20 100 113 [.str x u] (fun _ _ => x = encT l ∧ (∀ y ∈ l, y < 256) ∧ 0 < l.length ∧ l.length ≤ 60) (RBytes (nI l)) := by
  intro dp un gd cn cs a ccd cl outer A₀ base h₀ L m news s Q E B F X N T hk hpre hdp hu hret
  obtain ⟨hx, hb, h0, hl⟩ := hpre
  have h := c_dec58 (prog := prog) (w := w) (p := p) (loose := loose) (mean := mean) (mg := mg) (mb := mb) ((encD l).map alpha) (encD l) u
  rw [← encT_D, decB_encD hb h0, ← hx] at h
  exact h dp un gd cn cs a ccd cl outer A₀ base h₀ L m news s Q E B F X N T hk ⟨rfl, encD_lt l, encD_pos h0, encD_len hb hl⟩ hdp hu hret
end

section
local macro_rules | `(tactic| walk_at "no such key of mine") => `(tactic| fail)
open PySem PySem.W PySem.Calls PyProof.Rows
set_option maxRecDepth 100000
variable {prog : Program} {w : World} {p : Program} {loose : List Str} {mean : ExcName → Option Value} {mg mb : Str → Option Value}

theorem fill7 : PySem.Challenge.rw_bd0008_01 = PySem.Challenge.rw_bd0008_01 ∧ hd.heap_39 = hd.heap_39 := by
  w_on
  k_fill
  exact ⟨rfl, rfl⟩

local macro_rules | `(tactic| kst_facts1) => `(tactic| first | exact PyProof.Rows.StrsAre.nil | exact PyProof.Rows.StrsAre.append' (by with_reducible assumption) (.cons _ _ .nil))


theorem cut_front {b : Array UInt8} (l : List Nat) : KBw.bInts b = List.take (clipAt (nI (chk l)).length (-4)) (nI (chk l)) → KBw.bInts b = nI l := by
  intro h
  have hc : clipAt (l.length + 4) (-4) = l.length + 4 - 4 := clip_neg _ 4 (by decide)
  rw [h, nI_length, chk_length, hc, nI_take, chk_def]
  have : l.length + 4 - 4 = l.length := by omega
  rw [this, List.take_left']; rfl

theorem bInts_toList {x y : Array UInt8} (h : KBw.bInts x = KBw.bInts y) : x.toList = y.toList := by
  have h2 : x.toList.map UInt8.toNat = y.toList.map UInt8.toNat := by
    apply nI_inj
    have e : ∀ z : Array UInt8, nI (z.toList.map UInt8.toNat) = KBw.bInts z := fun z => by simp [nI, KBw.bInts]
    rw [e, e]; exact h
  have inj : ∀ a b : List UInt8, a.map UInt8.toNat = b.map UInt8.toNat → a = b := by
    intro a
    induction a with
    | nil => intro b hb; cases b with | nil => rfl | cons _ _ => cases hb
    | cons c r ih =>
      intro b hb
      cases b with
      | nil => cases hb
      | cons d q =>
        have h1 := List.cons.inj hb
        rw [UInt8.toNat_inj.mp h1.1, ih q h1.2]
  exact inj _ _ h2
theorem chk_same {x y : Array UInt8} {l : List Nat} (hx : KBw.bInts x = List.take ((nI (chk l)).length - clipAt (nI (chk l)).length (-4)) (List.drop (clipAt (nI (chk l)).length (-4)) (nI (chk l))))
    (hy : KBw.bInts y = List.take (clipAt (nI (dsha l)).length 4) (nI (dsha l))) (h : (x.toList != y.toList) = true) : False := by
  have hc : clipAt (l.length + 4) (-4) = l.length + 4 - 4 := clip_neg _ 4 (by decide)
  have e1 : KBw.bInts x = nI ((dsha l).take 4) := by
    rw [hx, nI_length, chk_length, hc, nI_drop, nI_take, chk_def]
    have : l.length + 4 - 4 = l.length := by omega
    rw [this, List.drop_left', List.take_of_length_le]
    · rw [List.length_take, dsha_length]; omega
    · rfl
  have e2 : KBw.bInts y = nI ((dsha l).take 4) := by
    rw [hy, nI_length, dsha_length, nI_take]; rfl
  have := bInts_toList (e1.trans e2.symm)
  rw [this] at h
  simp at h

set_option maxHeartbeats 4000000 in
theorem c_dcheck (x : Str) (u : Tok) (l : List Nat) : Says prog w p loose mean mg mb 60 300 127 [.str x u] (fun _ _ => x = encT (chk l) ∧ (∀ y ∈ l, y < 256) ∧ l.length ≤ 50) (RBytes (nI l)) := by
  unfold Says
  intro dp un gd cn cs a ccd cl outer A₀ base h₀ L m news s Q E B F X N T hk hpre hdp hu hret
  obtain ⟨hx, hb, hl⟩ := hpre
  have hcb : ∀ y ∈ chk l, y < 256 := by
    intro y hy
    rw [chk_def] at hy
    rcases List.mem_append.mp hy with h | h
    · exact hb y h
    · have h2 := List.mem_of_mem_take h
      rw [dsha_def] at h2
      exact sha_bound _ y h2
  have h60 : (chk l).length ≤ 60 := by rw [chk_length]; omega
  have hpos : 0 < (chk l).length := by rw [chk_length]; omega
  have hz9 : (nI (dsha l)).length = 32 := by rw [nI_length, dsha_length]
  have hz : (nI (chk l)).length ≤ 60 := by rw [nI_length, chk_length]; omega
  refine wpAny_call ?_
  w_strict (k_dflt cell_enter)
  refine PySem.wpAny_noRaise ?_
  k_with_none
  repeat (fail_if_success (with_reducible show wpAny _ _ (call (Value.ref 113) [Value.str _ _]) _ _ _)); first | (k_unfold; (try dsimp only)) | walk1 | (dsimp only; walk1)
  k_dflt (refine' Says.go (c_decE _ _ _) ⟨?sayP, ?sayQ, ?sayR, ?sayS⟩ ?_; (case sayP => with_reducible assumption); (case sayQ => with_reducible assumption); (case sayR => with_reducible assumption); (case sayS => with_reducible assumption); refine rt_bytes ?_; intro b9 t9 h9 tk9 hb9 F9 N9; (try dsimp only); (try k_fold))
  repeat (fail_if_success (with_reducible show wpAny _ _ (call (Value.ref 99) [Value.bytes _ _]) _ _ _)); first | (k_unfold; (try dsimp only)) | walk1 | (dsimp only; walk1)
  k_dflt (refine' Says.go (c_dsha _ _ _) ⟨?sayP, ?sayQ⟩ ?_; (case sayP => first | with_reducible assumption | exact cut_front _ (by with_reducible assumption)); (case sayQ => omega); refine rt_bytes ?_; intro b9 t9 h9 tk9 hb9 F9 N9; (try dsimp only); (try k_fold))
  k_steps
  · exfalso
    exact chk_same (by with_reducible assumption) (by with_reducible assumption) (by with_reducible assumption)
  · exact ret_bytes hret (cut_front l (by with_reducible assumption)) rfl (by k_asm) (by k_asm) (by kcj_all)
end

section
local macro_rules | `(tactic| ktr_unf) => `(tactic| first | with_reducible assumption | exact lt_0 (by with_reducible assumption) | exact lt_1 (by with_reducible assumption) | exact lt_2 (by with_reducible assumption) | exact lt_3 (by with_reducible assumption) | exact lt_4 (by with_reducible assumption) | exact lt_5 (by with_reducible assumption))
local macro_rules | `(tactic| k_mem) => `(tactic| ((repeat (refine List.Mem.tail _ ?_)); assumption))
local macro_rules | `(tactic| walk_at "binaryOp Add ref ref") => `(tactic| (k_here; (with_reducible show wpAny _ _ (binaryOp _ (Value.ref _) (Value.ref _)) _ _ _); k_dflt (refine' kmk_add_ints ?F ?N ?a ?b ?i ?j ?_ ?z; (case F => k_asm); (case N => k_asm); (case a => kmk_list); (case b => kmk_list); (case i => l_ints); (case j => l_ints); (case z => (simp only [sizeLine_eq, nI_length, List.length_append, List.length_cons, List.length_nil, List.length_map, List.length_replicate, dig_length]; omega)); intro D' ws' h' F' N' l1 hI'; (try k_lt l1); (try k_sweep))))
local macro_rules | `(tactic| kst_facts1) => `(tactic| first | exact PyProof.Rows.StrsAre.nil | exact IntsAre.nil | exact IntsAre.append (by with_reducible assumption) (.cons _ _ .nil) | exact PyProof.Rows.StrsAre.append' (by with_reducible assumption) (.cons _ _ .nil))

section
open PySem PySem.W PySem.Calls PyProof.Rows
set_option maxRecDepth 100000
variable {prog : Program} {w : World} {p : Program} {loose : List Str} {mean : ExcName → Option Value} {mg mb : Str → Option Value}

theorem fill15 : PySem.Challenge.rw_bd0008_01 = PySem.Challenge.rw_bd0008_01 ∧ hd.heap_39 = hd.heap_39 := by
  w_on
  k_fill
  exact ⟨rfl, rfl⟩



noncomputable def cvp : Nat → Nat → List Int → Nat × Nat × List Nat := Classical.choose (sealedT fun (f t : Nat) (l : List Int) => conv f t (l.map Int.toNat))
theorem cvp_def (f t : Nat) (l : List Int) : cvp f t l = conv f t (l.map Int.toNat) := congrFun (congrFun (congrFun (Classical.choose_spec (sealedT fun (f t : Nat) (l : List Int) => conv f t (l.map Int.toNat))) f) t) l
theorem cv_start (f t : Nat) : (0 : Int) = (((cvp f t []).1 : Nat) : Int) ∧ (0 : Int) = (((cvp f t []).2.1 : Nat) : Int) ∧ ([] : List Int) = nI (cvp f t []).2.2 := by
  rw [cvp_def, List.map_nil, conv_nil]; exact ⟨rfl, rfl, rfl⟩
theorem cvp_nI (f t : Nat) (l : List Nat) : cvp f t (nI l) = conv f t l := by
  rw [cvp_def, nI, List.map_map]
  congr 1
  exact List.map_id' l
theorem byte_at {l : List Nat} {pre post : List Int} {x : Int} (h : nI l = pre ++ x :: post) (hb : ∀ y ∈ l, y < 256) : ∃ v : Nat, v < 2 ^ 8 ∧ x = (v : Int) := by
  have hx : x ∈ nI l := by rw [h]; exact List.mem_append.mpr (.inr List.mem_cons_self)
  obtain ⟨c, hc, rfl⟩ := List.mem_map.mp hx
  exact ⟨c, hb c hc, rfl⟩
theorem five_at {l : List Nat} {pre post : List Int} {x : Int} (h : nI l = pre ++ x :: post) (hb : ∀ y ∈ l, y < 32) : ∃ v : Nat, v < 2 ^ 5 ∧ x = (v : Int) := by
  have hx : x ∈ nI l := by rw [h]; exact List.mem_append.mpr (.inr List.mem_cons_self)
  obtain ⟨c, hc, rfl⟩ := List.mem_map.mp hx
  exact ⟨c, hb c hc, rfl⟩
theorem conv_lt {f t : Nat} (ht : 0 < t) (hf : f + t - 1 ≤ 60) (l : List Nat) : (conv f t l).1 < 2 ^ 60 ∧ (conv f t l).2.1 < t := by
  rcases List.eq_nil_or_concat l with rfl | ⟨l', v, rfl⟩
  · rw [conv_nil]; exact ⟨Nat.pow_pos (by decide), ht⟩
  · rw [List.concat_eq_append, conv_snoc]
    refine ⟨Nat.lt_of_le_of_lt Nat.and_le_right (Nat.lt_of_lt_of_le (Nat.sub_lt (Nat.pow_pos (by decide)) Nat.one_pos) (Nat.pow_le_pow_right (by decide) hf)), drain_lt ht _ _⟩
theorem cvp_lt {f t : Nat} {l : List Int} {st : Nat × Nat × List Nat} (ht : 0 < t) (hf : f + t - 1 ≤ 60) (h : cvp f t l = st) : st.1 < 2 ^ 64 ∧ st.2.1 < t := by
  rw [cvp_def] at h
  subst h
  have := conv_lt ht hf (l.map Int.toNat)
  exact ⟨Nat.lt_trans this.1 (by decide), this.2⟩
theorem drain_len {t acc : Nat} (ht : 0 < t) (b : Nat) : ∀ r, t * (drain t acc b r).2.length + (drain t acc b r).1 = t * r.length + b := by
  induction b using Nat.strongRecOn with
  | ind b ih =>
    intro r
    by_cases h : t ≤ b
    · rw [drain_go ht h, ih _ (by omega), List.length_append, List.length_singleton, Nat.mul_add]; omega
    · rw [drain_end h]
theorem conv_len {f t : Nat} (ht : 0 < t) (l : List Nat) : t * (conv f t l).2.2.length + (conv f t l).2.1 = f * l.length := by
  induction l using snoc_ind with
  | h0 => rw [conv_nil]; simp
  | h1 l v ih => rw [conv_snoc]; dsimp only; rw [drain_len ht, List.length_append, List.length_singleton, Nat.mul_add]; omega
theorem cvp_len {f t : Nat} {l : List Int} {st : Nat × Nat × List Nat} (ht : 0 < t) (h : cvp f t l = st) : t * st.2.2.length + st.2.1 = f * l.length := by
  rw [cvp_def] at h
  subst h
  rw [conv_len ht, List.length_map]
theorem cv_while0 {f t AA b0 : Nat} {r0 : List Nat} {m : Nat} (h : b0 + f ≤ m) : ∃ (bb : Nat) (rr : List Nat), ((b0 : Int) + (f : Int)) = (bb : Int) ∧ nI r0 = nI rr ∧ bb ≤ m ∧ t * rr.length + bb = t * r0.length + b0 + f ∧ drain t AA bb rr = drain t AA (b0 + f) r0 :=
  ⟨b0 + f, r0, by omega, rfl, h, by omega, rfl⟩
theorem cv_while1 {t AA bb m N : Nat} {rr : List Nat} {B : Nat × List Nat} (ht : 0 < t) (h : (t : Int) ≤ (bb : Int)) (h3 : bb ≤ m) (h5 : t * rr.length + bb = N) (h4 : drain t AA bb rr = B) : ∃ (bb' : Nat) (rr' : List Nat), ((bb : Int) - (t : Int)) = (bb' : Int) ∧ nI rr ++ [((AA >>> (bb - t) &&& (2 ^ t - 1) : Nat) : Int)] = nI rr' ∧ bb' ≤ m ∧ t * rr'.length + bb' = N ∧ drain t AA bb' rr' = B :=
  ⟨bb - t, rr ++ [AA >>> (bb - t) &&& (2 ^ t - 1)], by omega, by rw [← nI_append]; rfl, by omega, by rw [List.length_append, List.length_singleton, Nat.mul_add]; omega, by rw [← drain_go ht (by omega)]; exact h4⟩
theorem cv_turn {f t K : Nat} {pre : List Int} {v a0 b0 bb AA : Nat} {r0 rr : List Nat} (hst : cvp f t pre = (a0, b0, r0)) (hA : (a0 <<< f ||| v) &&& K = AA) (hK : K = 2 ^ (f + t - 1) - 1) (hd : drain t AA bb rr = drain t AA (b0 + f) r0) (hb : ¬ (t : Int) ≤ (bb : Int)) :
    (AA : Int) = (((cvp f t (pre ++ [(v : Int)])).1 : Nat) : Int) ∧ (bb : Int) = (((cvp f t (pre ++ [(v : Int)])).2.1 : Nat) : Int) ∧ nI rr = nI (cvp f t (pre ++ [(v : Int)])).2.2 := by
  rw [cvp_def] at hst
  have e : cvp f t (pre ++ [(v : Int)]) = (AA, bb, rr) := by
    rw [cvp_def, List.map_append]
    show conv f t (pre.map Int.toNat ++ [v]) = _
    rw [conv_snoc, hst]
    dsimp only
    rw [← hK, hA, ← hd, drain_end (by omega)]
  rw [e]
  exact ⟨rfl, rfl, rfl⟩
section
variable {A : Around} {E : Value → Shared → Prop} {s : Shared} {x y : Int} {a b : Nat} {t u : Tok} {Q : Value → Shared → Prop}
theorem nat_shr0 (hx : x = (a : Int)) (hy : y = (b : Int)) (hl : a < 2 ^ b) (h : ∀ t k, Q (.int 0 t) { s with toks := k }) : wpAny (model prog w) A (binaryOp .RShift (.int x t) (.int y u)) Q E s := by
  refine nat_shr hx hy fun t k => ?_
  rw [Nat.shiftRight_eq_div_pow, Nat.div_eq_of_lt hl]
  exact h t k
theorem nat_shr_sub {t' : Nat} (hx : x = (a : Int)) (hy : y = (b : Int) - (t' : Int)) (hb : (t' : Int) ≤ (b : Int)) (h : ∀ t k, Q (.int ((a >>> (b - t') : Nat) : Int) t) { s with toks := k }) : wpAny (model prog w) A (binaryOp .RShift (.int x t) (.int y u)) Q E s := nat_shr hx (by omega) h
theorem nat_shl_sub {t' : Nat} (hx : x = (a : Int)) (hy : y = (t' : Int) - (b : Int)) (hb : b ≤ t') (ht : t' ≤ 1000) (ha : a < 2 ^ 64) (h : ∀ t k, Q (.int ((a <<< (t' - b) : Nat) : Int) t) { s with toks := k }) : wpAny (model prog w) A (binaryOp .LShift (.int x t) (.int y u)) Q E s := nat_shl hx (by omega) (by omega) ha h
end
local macro_rules | `(tactic| walk_at "binaryOp RShift int int") => `(tactic| k_dflt (first | (refine nat_shr0 (b := 8) rfl rfl (by with_reducible assumption) ?_; intro _ _) | (refine nat_shr0 (b := 5) rfl rfl (by with_reducible assumption) ?_; intro _ _) | (refine nat_shr_sub (t' := 5) rfl rfl (by omega) ?_; intro _ _) | (refine nat_shr_sub (t' := 8) rfl rfl (by omega) ?_; intro _ _)))
local macro_rules | `(tactic| walk_at "binaryOp LShift int int") => `(tactic| k_dflt (first | (refine nat_shl rfl (b := 8) rfl (by decide) (by with_reducible assumption) ?_; intro _ _) | (refine nat_shl rfl (b := 5) rfl (by decide) (by with_reducible assumption) ?_; intro _ _) | (refine nat_shl rfl (b := 4) (by decide) (by decide) (by with_reducible assumption) ?_; intro _ _) | (refine nat_shl rfl (b := 8) (by decide) (by decide) (by with_reducible assumption) ?_; intro _ _) | (refine nat_shl_sub (t' := 8) rfl rfl (by omega) (by decide) (by with_reducible assumption) ?_; intro _ _)))
local macro_rules | `(tactic| walk_at "binaryOp BitAnd int int") => `(tactic| k_dflt (first | (refine nat_and (b := 4095) rfl (by decide +kernel) ?_; intro _ _) | (refine nat_and (b := 31) rfl (by decide +kernel) ?_; intro _ _) | (refine nat_and (b := 255) rfl (by decide +kernel) ?_; intro _ _)))

local macro_rules | `(tactic| walk_at "KswEnd") => `(tactic| k_dflt ksw_close)
local macro_rules | `(tactic| walk_at "call builtin:list.append") => `(tactic| ((with_reducible show wpAny _ _ (call (Value.builtin _) ([Value.ref _] ++ [_])) _ _ _); dsimp only [List.nil_append, List.cons_append]))
set_option maxHeartbeats 4000000 in
theorem c_cv85 (l : List Nat) (b : Array UInt8) (u t1 t2 : Tok) : Says prog w p loose mean mg mb 20 100 183 [.bytes b u, .int 8 t1, .int 5 t2] (fun _ _ => KBw.bInts b = nI l ∧ (l.length = 20 ∨ l.length = 32) ∧ ∀ y ∈ l, y < 256) (RList (nI (fiveN l))) := by
  unfold Says
  intro dp un gd cn cs a ccd cl outer A₀ base h₀ L m news s Q E B F X N T hk hpre hdp hu hret
  obtain ⟨hb, hl, hlb⟩ := hpre
  have hz : (nI l).length ≤ 40 := by rw [nI_length]; omega
  refine wpAny_call ?_
  w_strict (k_dflt (refine' PySem.W.code_def ?k1 ?k2 ?k3 ?k4 ?k5 ?kA ?kF ?kK ?k6 ?k7 ?k8 ?k9 ?kB ?_ ?c2 ?c3 ?c4 ?c5; (case kA => exact rfl); (case kF => exact rfl); (case kK => assumption); (case k1 => k_asm); (case k2 => k_asm); (case k3 => k_asm); (case k4 => k_asm); (case k5 => k_asm); (case k6 => k_is); (case k7 => k_is); (case k8 => ktr_room); (case k9 => exact binds_K (X.keeps F.keep) rfl (by k_is) rfl rfl rfl); (case c5 => decide); (case kB => exact locs rfl); (case c2 => exact rfl); (case c3 => exact rfl); (case c4 => exact rfl); k_whole; intro g' L' h' FG' F' N' B' X' T'; (try dsimp only); (try k_lift B'); (try k_fold)))
  refine PySem.wpAny_noRaise ?_
  k_with_none
  k_with "pyIter bytes" => fail
  (k_with "state" => exact cv_start 8 5)
  repeat (fail_if_success (with_reducible show wpAny _ _ (pyIter _) _ _ _)); first | (k_unfold; (try dsimp only)) | walk1 | (dsimp only; walk1)

  k_state (fun (pre : List Int) (acc : Int) (bits : Int) (ret : List Int) => acc = (((cvp 8 5 pre).1 : Nat) : Int) ∧ bits = (((cvp 8 5 pre).2.1 : Nat) : Int) ∧ ret = nI (cvp 8 5 pre).2.2) "acc" "bits" "ret"
  · rename (_ = _ ++ _ :: _) => hEq
    obtain ⟨v, hv8, hv⟩ := byte_at hEq hlb
    subst hv
    with_reducible rename _ = Nat.cast (Prod.fst (cvp 8 5 _)) => hA
    with_reducible rename _ = Nat.cast (Prod.fst (Prod.snd (cvp 8 5 _))) => hB
    with_reducible rename _ = nI (Prod.snd (Prod.snd (cvp 8 5 _))) => hR
    generalize hst : cvp 8 5 _ = st at hA hB hR
    have hlt := cvp_lt (by decide) (by decide) hst
    have hrl := cvp_len (by decide) hst
    obtain ⟨a0, b0, r0⟩ := st
    dsimp only at hA hB hR hlt hrl
    obtain ⟨ha64, hb5⟩ := hlt
    subst hA
    subst hB
    subst hR
    repeat (fail_if_success (with_reducible show wpAny _ _ (exec (Stmt.While _ _ _ _) _) _ _ _)); first | (k_unfold; (try dsimp only)) | walk1 | (dsimp only; walk1)
    k_with_none
    (k_with "state" => exact cv_while0 (f := 8) (t := 5) (by omega))
    with_reducible rename Fr _ _ _ _ => hFX
    generalize hAA : (a0 <<< 8 ||| v) &&& 4095 = AA at hFX
    have hAl : AA < 4096 := by rw [← hAA]; exact Nat.lt_of_le_of_lt Nat.and_le_right (by decide)
    k_while (fun (_ : List Int) (bits : Int) (ret : List Int) => ∃ (bb : Nat) (rr : List Nat), bits = (bb : Int) ∧ ret = nI rr ∧ bb ≤ 12 ∧ 5 * rr.length + bb = 5 * r0.length + b0 + 8 ∧ drain 5 AA bb rr = drain 5 AA (b0 + 8) r0) (fun _ bits _ => bits.toNat) "bits" "ret"
    with_reducible rename ∃ (_ : Nat) (_ : List Nat), _ => hW
    obtain ⟨bb, rr, hw1, hw2, hw3, hw5, hw4⟩ := hW
    subst hw1
    subst hw2
    have hnr := nI_length rr
    k_with_none
    (k_with "measure" => (dsimp only; omega))
    (k_with "state" => first | exact cv_while1 (t := 5) (by decide) (by omega) hw3 hw5 hw4 | exact cv_turn hst hAA (by decide) hw4 (by omega))
    k_steps
  with_reducible rename _ = Nat.cast (Prod.fst (cvp 8 5 _)) => hA
  with_reducible rename _ = Nat.cast (Prod.fst (Prod.snd (cvp 8 5 _))) => hB
  with_reducible rename _ = nI (Prod.snd (Prod.snd (cvp 8 5 _))) => hR
  rw [cvp_nI] at hA hB hR
  k_with_none
  rcases hl with h20 | h32
  · obtain ⟨e1, e2⟩ := conv85 hlb h20
    have hB0 : (((conv 8 5 l).2.1 : Nat) : Int) = 0 := by rw [e1]; rfl
    rw [hB0] at hB
    rw [e2] at hR
    subst hA
    subst hB
    subst hR
    k_steps
    with_reducible rename IntsAre _ (nI (fiveN l)) => hRes
    exact ret_list hret hRes rfl (by k_asm) (by k_asm) (.head _) (by kcj_all) (by assumption)
  · obtain ⟨e1, e2⟩ := conv85' hlb h32
    have hB0 : (((conv 8 5 l).2.1 : Nat) : Int) = 1 := by rw [e1]; rfl
    rw [hB0] at hB
    have hln := conv_len (f := 8) (t := 5) (by decide) l
    have hlt := conv_lt (f := 8) (t := 5) (by decide) (by decide) l
    have ha64 : (conv 8 5 l).1 < 2 ^ 64 := Nat.lt_trans hlt.1 (by decide)
    have hnr := nI_length (conv 8 5 l).2.2
    clear hlt
    generalize (conv 8 5 l).1 = A1 at hA e2 ha64
    generalize (conv 8 5 l).2.2 = r1 at hR e2 hln hnr
    subst hA
    subst hB
    subst hR
    k_steps
    with_reducible rename IntsAre _ (nI r1) => hRes
    with_reducible rename News h₀ _ _ _ => kN9
    simp only [List.push_toArray] at kN9
    exact ret_list hret (hRes.append (.cons _ _ .nil)) (by rw [← e2, ← nI_append]; rfl) (by k_asm) kN9 (.head _) (by kcj_all) (by assumption)

set_option maxHeartbeats 4000000 in
theorem c_cv58 (l : List Nat) (a0 : Addr) (vs : List Value) (n : Nat) (t1 t2 : Tok) : Says prog w p loose mean mg mb 20 100 183 [.ref a0, .int 5 t1, .int 8 t2, .bool false] (fun _ news => (a0, listOf vs.toArray n) ∈ news ∧ IntsAre vs (nI (fiveN l)) ∧ (l.length = 20 ∨ l.length = 32) ∧ ∀ y ∈ l, y < 256) (RList (nI l)) := by
  unfold Says
  intro dp un gd cn cs a ccd cl outer A₀ base h₀ L m news s Q E B F X N T hk hpre hdp hu hret
  obtain ⟨hml, his, hl, hlb⟩ := hpre
  have hfl := fiveN_length hl
  have hff := fiveN_lt l
  have hz : (nI (fiveN l)).length ≤ 60 := by rw [nI_length, hfl]; split <;> decide
  refine wpAny_call ?_
  w_strict (k_dflt (refine' PySem.W.code_def ?k1 ?k2 ?k3 ?k4 ?k5 ?kA ?kF ?kK ?k6 ?k7 ?k8 ?k9 ?kB ?_ ?c2 ?c3 ?c4 ?c5; (case kA => exact rfl); (case kF => exact rfl); (case kK => assumption); (case k1 => k_asm); (case k2 => k_asm); (case k3 => k_asm); (case k4 => k_asm); (case k5 => k_asm); (case k6 => k_is); (case k7 => k_is); (case k8 => ktr_room); (case k9 => exact binds_K (X.keeps F.keep) rfl (by k_is) rfl rfl rfl); (case c5 => decide); (case kB => exact locs rfl); (case c2 => exact rfl); (case c3 => exact rfl); (case c4 => exact rfl); k_whole; intro g' L' h' FG' F' N' B' X' T'; (try dsimp only); (try k_lift B'); (try k_fold)))
  refine PySem.wpAny_noRaise ?_
  k_with_none
  k_with "pyIter ref" => fail
  (k_with "state" => exact cv_start 5 8)
  repeat (fail_if_success (with_reducible show wpAny _ _ (pyIter _) _ _ _)); first | (k_unfold; (try dsimp only)) | walk1 | (dsimp only; walk1)

  k_state (fun (pre : List Int) (acc : Int) (bits : Int) (ret : List Int) => acc = (((cvp 5 8 pre).1 : Nat) : Int) ∧ bits = (((cvp 5 8 pre).2.1 : Nat) : Int) ∧ ret = nI (cvp 5 8 pre).2.2) "acc" "bits" "ret"
  · rename (_ = _ ++ _ :: _) => hEq
    obtain ⟨v, hv8, hv⟩ := five_at hEq hff
    subst hv
    with_reducible rename _ = Nat.cast (Prod.fst (cvp 5 8 _)) => hA
    with_reducible rename _ = Nat.cast (Prod.fst (Prod.snd (cvp 5 8 _))) => hB
    with_reducible rename _ = nI (Prod.snd (Prod.snd (cvp 5 8 _))) => hR
    generalize hst : cvp 5 8 _ = st at hA hB hR
    have hlt := cvp_lt (by decide) (by decide) hst
    have hrl := cvp_len (by decide) hst
    obtain ⟨a0, b0, r0⟩ := st
    dsimp only at hA hB hR hlt hrl
    obtain ⟨ha64, hb5⟩ := hlt
    subst hA
    subst hB
    subst hR
    repeat (fail_if_success (with_reducible show wpAny _ _ (exec (Stmt.While _ _ _ _) _) _ _ _)); first | (k_unfold; (try dsimp only)) | walk1 | (dsimp only; walk1)
    k_with_none
    (k_with "state" => exact cv_while0 (f := 5) (t := 8) (by omega))
    with_reducible rename Fr _ _ _ _ => hFX
    generalize hAA : (a0 <<< 5 ||| v) &&& 4095 = AA at hFX
    have hAl : AA < 4096 := by rw [← hAA]; exact Nat.lt_of_le_of_lt Nat.and_le_right (by decide)
    k_while (fun (_ : List Int) (bits : Int) (ret : List Int) => ∃ (bb : Nat) (rr : List Nat), bits = (bb : Int) ∧ ret = nI rr ∧ bb ≤ 12 ∧ 8 * rr.length + bb = 8 * r0.length + b0 + 5 ∧ drain 8 AA bb rr = drain 8 AA (b0 + 5) r0) (fun _ bits _ => bits.toNat) "bits" "ret"
    with_reducible rename ∃ (_ : Nat) (_ : List Nat), _ => hW
    obtain ⟨bb, rr, hw1, hw2, hw3, hw5, hw4⟩ := hW
    subst hw1
    subst hw2
    have hnr := nI_length rr
    k_with_none
    (k_with "measure" => (dsimp only; omega))
    (k_with "state" => first | exact cv_while1 (t := 8) (by decide) (by omega) hw3 hw5 hw4 | exact cv_turn hst hAA (by decide) hw4 (by omega))
    k_steps
  with_reducible rename _ = Nat.cast (Prod.fst (cvp 5 8 _)) => hA
  with_reducible rename _ = Nat.cast (Prod.fst (Prod.snd (cvp 5 8 _))) => hB
  with_reducible rename _ = nI (Prod.snd (Prod.snd (cvp 5 8 _))) => hR
  rw [cvp_nI] at hA hB hR
  k_with_none
  obtain ⟨e1, e2, e3⟩ := conv58 hlb hl
  have hlt := conv_lt (f := 5) (t := 8) (by decide) (by decide) (fiveN l)
  have ha64 : (conv 5 8 (fiveN l)).1 < 2 ^ 64 := Nat.lt_trans hlt.1 (by decide)
  clear hlt
  rw [e3] at hR
  generalize (conv 5 8 (fiveN l)).1 = A1 at hA e2 ha64
  generalize (conv 5 8 (fiveN l)).2.1 = b1 at hB e1 e2
  subst hA
  subst hB
  subst hR
  k_steps
  · exfalso
    with_reducible rename (_ ≠ (0 : Int)) => hne
    rw [e2] at hne
    exact hne rfl
  · with_reducible rename IntsAre _ (nI l) => hRes
    exact ret_list hret hRes rfl (by k_asm) (by k_asm) (.head _) (by kcj_all) (by assumption)
end

section
open PySem PySem.W PySem.Calls PyProof.Rows
set_option maxRecDepth 100000
variable {prog : Program} {w : World} {p : Program} {loose : List Str} {mean : ExcName → Option Value} {mg mb : Str → Option Value}

theorem fill12 : PySem.Challenge.rw_bd0008_01 = PySem.Challenge.rw_bd0008_01 ∧ hd.heap_39 = hd.heap_39 := by
  w_on
  k_fill
  exact ⟨rfl, rfl⟩




abbrev RetU (h₀ : Heap) (L : Addr) (m : Str → Option Value) (news : Led) (s : Shared) (Q : Value → Shared → Prop) (R : Value → Led → Prop) : Prop :=
  ∀ (v : Value) (tl : Led) (h' : Heap) (tk' : Nat), R v tl → Fr h₀ L h' m → News h₀ L h' (tl ++ news) → Q v { s with heap := h', toks := tk' }
def SaysU (prog : Program) (w : World) (p : Program) (loose : List Str) (mean : ExcName → Option Value) (mg mb : Str → Option Value)
    (D U : Nat) (f : Addr) (vs : List Value) (pre : Heap → Led → Prop) (R : Value → Led → Prop) : Prop :=
  ∀ (dp un : Nat) (gd : Option (List Code)) (cn : Str) (cs : Scope) (a : Addr) (ccd : Value) (cl : List (Str × Addr)) (outer : List Env) (A₀ : Around)
    (base h₀ : Heap) (L : Addr) (m : Str → Option Value) (news : Led) (s : Shared) (Q E : Value → Shared → Prop),
    Below A₀ base outer h₀ → Fr h₀ L s.heap m → (hd.heap_39 w.params).In h₀ → News h₀ L s.heap news → Top p loose mean mg mb h₀ → cs.kind = .function →
    pre base news → dp + D < recursionLimit → un + U < cLine →
    (∀ (v : Value) (tl : Led) (h' : Heap) (tk' : Nat), R v tl → Fr h₀ L h' m → News h₀ L h' (tl ++ news) → Q v { s with heap := h', toks := tk' }) →
    wpAny (model prog w) (ktrTop dp un gd cn cs L a ccd cl outer) (call (.ref f) vs) Q E s
theorem ru_list {h₀ : Heap} {L : Addr} {m : Str → Option Value} {news : Led} {s : Shared} {Q : Value → Shared → Prop} {ns : List Int} (k : ∀ (D : Addr) (vs : List Value) (c : Nat) (h' : Heap) (tk' : Nat), IntsAre vs ns → Fr h₀ L h' m → News h₀ L h' ((D, listOf (List.toArray vs) c) :: news) → Q (.ref D) { s with heap := h', toks := tk' }) : RetU h₀ L m news s Q (RList ns) := by
  rintro v tl h' tk' ⟨D, vs, c, rfl, rfl, hi⟩ F N
  exact k D vs c h' tk' hi F N
theorem SaysU.go {D U : Nat} {f : Addr} {vs : List Value} {pre : Heap → Led → Prop} {R : Value → Led → Prop} {dp un : Nat} {gd : Option (List Code)} {cn : Str} {cs : Scope} {a : Addr} {ccd : Value} {cl : List (Str × Addr)} {outer : List Env} {A₀ : Around}
    {base h₀ : Heap} {L : Addr} {m : Str → Option Value} {news : Led} {s : Shared} {Q E : Value → Shared → Prop} (C : SaysU prog w p loose mean mg mb D U f vs pre R)
    (hp : pre base news) (ret : RetU h₀ L m news s Q R)
    (B : Below A₀ base outer h₀ := by k_asm) (F : Fr h₀ L s.heap m := by k_asm) (X : (hd.heap_39 w.params).In h₀ := by k_asm) (N : News h₀ L s.heap news := by k_asm) (T : Top p loose mean mg mb h₀ := by k_asm)
    (hk : cs.kind = .function := by first | exact rfl | assumption) (hdp : dp + D < recursionLimit := by ktr_room) (hu : un + U < cLine := by ktr_units) :
    wpAny (model prog w) (ktrTop dp un gd cn cs L a ccd cl outer) (call (.ref f) vs) Q E s := C dp un gd cn cs a ccd cl outer A₀ base h₀ L m news s Q E B F X N T hk hp hdp hu ret
theorem ret_listU {h₀ h' : Heap} {L : Addr} {m : Str → Option Value} {news news' : Led} {s : Shared} {Q : Value → Shared → Prop} {tk' : Nat} {ns ls : List Int} {D : Addr} {vs : List Value} {k : Nat}
    (hret : RetU h₀ L m news s Q (RList ns)) (hi : IntsAre vs ls) (e : ls = ns) (F : Fr h₀ L h' m) (N : News h₀ L h' news') (hm : (D, listOf vs.toArray k) ∈ news') (hs : ∀ p ∈ news, p ∈ news') :
    Q (.ref D) { s with heap := h', toks := tk' } := by
  subst e
  refine hret _ [(D, listOf vs.toArray k)] h' tk' ⟨D, vs, k, rfl, rfl, hi⟩ F (fun p hp => ?_)
  rcases List.mem_cons.mp hp with rfl | hp
  · exact N _ hm
  · exact N p (hs p hp)

theorem pad_len {hl ds : List Nat} (hm : hl.length ≤ 10) (hds : ds.length ≤ 70) : (nI (List.map (fun x => x >>> 5) hl ++ 0 :: List.map (fun x => x &&& 31) hl) ++ nI ds ++ [0, 0, 0, 0, 0, 0]).length ≤ 100 := by
  simp only [List.length_append, nI_length, List.length_cons, List.length_nil, List.length_map]; omega
theorem exp_lt {hl : List Nat} (hi : ∀ c ∈ hl, c < 128) : ∀ x ∈ (List.map (fun x => x >>> 5) hl ++ 0 :: List.map (fun x => x &&& 31) hl), x < 32 := by
  intro x hx
  rcases List.mem_append.mp hx with h | h
  · obtain ⟨c, hc, rfl⟩ := List.mem_map.mp h
    have := hi c hc
    rw [Nat.shiftRight_eq_div_pow]; omega
  · rcases List.mem_cons.mp h with rfl | h
    · decide
    · obtain ⟨c, _, rfl⟩ := List.mem_map.mp h
      exact Nat.lt_of_le_of_lt Nat.and_le_right (by decide)
theorem pad_in {hl ds : List Nat} (hi : ∀ c ∈ hl, c < 128) (hdb : ∀ x ∈ ds, x < 32) : ∀ x ∈ nI (List.map (fun x => x >>> 5) hl ++ 0 :: List.map (fun x => x &&& 31) hl) ++ nI ds ++ [0, 0, 0, 0, 0, 0], 0 ≤ x ∧ x < 32 := by
  intro x hx
  rcases List.mem_append.mp hx with h | h
  · rw [nI_append] at h
    obtain ⟨c, hc, rfl⟩ := List.mem_map.mp h
    have : c < 32 := by
      rcases List.mem_append.mp hc with h | h
      · exact exp_lt hi c h
      · exact hdb c h
    exact ⟨by omega, by omega⟩
  · simp at h; subst h; exact ⟨by decide, by decide⟩
theorem pad_poly (hl ds : List Nat) : polyW (nI (List.map (fun x => x >>> 5) hl ++ 0 :: List.map (fun x => x &&& 31) hl) ++ nI ds ++ [0, 0, 0, 0, 0, 0]) = polyN (expN hl ++ ds ++ [0, 0, 0, 0, 0, 0]) := by
  rw [polyW_def, expN_def]
  congr 1
  have e : ([0, 0, 0, 0, 0, 0] : List Int) = nI [0, 0, 0, 0, 0, 0] := rfl
  rw [e, nI_append, nI_append, nI, List.map_map]
  exact List.map_id' _
theorem shr_and (v i : Nat) : Builtin.bitAnd ((v : Int).fdiv (2 ^ i)) 31 = ((v >>> i &&& 31 : Nat) : Int) := by
  have e : (v : Int).fdiv (2 ^ i) = ((v >>> i : Nat) : Int) := by
    rw [Nat.shiftRight_eq_div_pow, Int.fdiv_eq_ediv_of_nonneg _ (Int.le_of_lt (Int.pow_pos (by decide)))]
    rw [Int.natCast_ediv, Int.natCast_pow]; rfl
  rw [e]; exact bitAnd_nat _ 31
theorem create_eq (m : Nat) (hl ds : List Nat) : List.map (fun k' => Builtin.bitAnd (((polyN (expN hl ++ ds ++ [0, 0, 0, 0, 0, 0]) ^^^ m : Nat) : Int).fdiv (2 ^ (5 * (5 - k')).toNat)) 31) (rangeKs 0 (6 - 0 : Int).toNat) = nI (createN m hl ds) := by
  rw [createN_def]
  generalize polyN (expN hl ++ ds ++ [0, 0, 0, 0, 0, 0]) ^^^ m = v
  have r : rangeKs 0 (6 - 0 : Int).toNat = [0, 1, 2, 3, 4, 5] := by decide
  rw [r]
  simp only [List.map_cons, List.map_nil, nI]
  rw [← shr_and, ← shr_and, ← shr_and, ← shr_and, ← shr_and, ← shr_and]
  rfl
theorem rsh_le {k : Int} (h : k < 0 + (((6 - 0 : Int).toNat : Nat) : Int)) : 0 ≤ 5 * (5 - k) := by omega
local macro_rules | `(tactic| walk_at "binaryOp RShift int int") => `(tactic| (with_reducible refine rshift_int (rsh_le (by with_reducible assumption)) ?_))
local macro_rules | `(tactic| walk_at "call ref") => `(tactic| ((with_reducible show wpAny _ _ (call (Value.ref 148) [Value.ref _]) _ _ _); (with_reducible rename IntsAre _ (_ ++ _ ++ _) => hLast); k_dflt (refine' Says.go (c_poly _ _ _ _) ⟨?sayP, ?sayQ, ?sayR, ?sayS⟩ ?_; (case sayQ => exact hLast); (case sayP => k_mem); (case sayR => exact pad_len (by assumption) (by assumption)); (case sayS => exact pad_in (by assumption) (by assumption)); refine rt_int ?_; intro t8 h8 tk8 F8 N8; (try dsimp only); rw [pad_poly]; (try k_fold))))

set_option maxHeartbeats 4000000 in
theorem c_create (M : Nat) (hl ds : List Nat) (e : Int) (u t : Tok) (l : Addr) (vs : List Value) (n : Nat) : SaysU prog w p loose mean mg mb 60 300 165 [.int e t, .str (sN hl) u, .ref l] (fun _ news => ((e = 2 ∧ M = 734539939) ∨ (e = 1 ∧ M = 1)) ∧ hl.length ≤ 10 ∧ (∀ c ∈ hl, c < 128) ∧ (l, listOf vs.toArray n) ∈ news ∧ IntsAre vs (nI ds) ∧ ds.length ≤ 70 ∧ ∀ x ∈ ds, x < 32) (RList (nI (createN M hl ds))) := by
  unfold SaysU
  intro dp un gd cn cs a ccd cl outer A₀ base h₀ L m news s Q E B F X N T hk hpre hdp hu hret
  obtain ⟨he, hm, hi, hml, his, hds, hdb⟩ := hpre
  refine wpAny_call ?_
  k_dflt (refine' code_defC ?k1 ?k2 ?k3 ?k4 ?k5 ?kA ?kF ?kK ?k6 ?k7 ?k8 ?k9 ?kB ?kD ?_ ?c2 ?c3 ?c4; (case kA => exact rfl); (case kF => exact rfl); (case kK => assumption); (case k1 => k_asm); (case k2 => k_asm); (case k3 => k_asm); (case k4 => k_asm); (case k5 => k_asm); (case k6 => k_is); (case k7 => k_is); (case k8 => ktr_room); (case k9 => exact BindsTo.of_eq rfl); (case kB => exact rfl); (case kD => decide +kernel); (case c2 => exact rfl); (case c3 => exact rfl); (case c4 => exact rfl); k_whole)
  intro g' L' h' tk' cells' FG' F' N' Y' B' X' T' l1
  (try k_lt l1)
  k_cells Y'
  (try simp only [List.cons_append, List.nil_append] at N')
  (try dsimp only)
  (try k_lift B')
  (try k_fold)
  refine PySem.wpAny_noRaise ?_
  k_with_none
  have hcl : ∀ q ∈ news, q.1 < L' + 1 := fun q hq => Nat.lt_succ_of_lt (l1 q hq)
  have hMk := kstMark
  repeat (fail_if_success (with_reducible show wpAny _ _ (call (Value.ref 153) _) _ _ _)); first | (k_unfold; (try dsimp only)) | walk1 | (dsimp only; walk1)
  refine Says.go (c_expand hl _) ⟨hm, hi⟩ ?_
  refine rt_list ?_
  intro D9 vs9 k9 h9 tk9 hi9 F9 N9 l9
  (try simp only [AllLt, and_true] at l9)
  (try dsimp only)
  (try k_fold)
  k_steps
  all_goals (
    (first
     | (have hE : e = 2 := by with_reducible assumption
        have hM : M = 734539939 := by
          rcases he with h | h
          · exact h.2
          · exact absurd (hE.symm.trans h.1) (by decide))
     | (have hE : e ≠ 2 := by with_reducible assumption
        have hM : M = 1 := by
          rcases he with h | h
          · exact absurd h.1 hE
          · exact h.2))
    subst hM
    with_reducible rename IntsAre _ (List.map _ (rangeKs _ _)) => hRes
    exact ret_listU hret hRes (create_eq _ _ _) (by k_asm) (by k_asm) (List.Mem.head _) (by kcj_all))
end

section
open PySem PySem.W PySem.Calls PyProof.Rows
set_option maxRecDepth 100000
variable {prog : Program} {w : World} {p : Program} {loose : List Str} {mean : ExcName → Option Value} {mg mb : Str → Option Value}

theorem fill13 : PySem.Challenge.rw_bd0008_01 = PySem.Challenge.rw_bd0008_01 ∧ hd.heap_39 = hd.heap_39 := by
  w_on
  k_fill
  exact ⟨rfl, rfl⟩



theorem ver_len {hl ds : List Nat} (hm : hl.length ≤ 10) (hds : ds.length ≤ 79) : (nI (List.map (fun x => x >>> 5) hl ++ 0 :: List.map (fun x => x &&& 31) hl) ++ nI ds).length ≤ 100 := by
  simp only [List.length_append, nI_length, List.length_cons, List.length_map]; omega
theorem ver_in {hl ds : List Nat} (hi : ∀ c ∈ hl, c < 128) (hdb : ∀ x ∈ ds, x < 32) : ∀ x ∈ nI (List.map (fun x => x >>> 5) hl ++ 0 :: List.map (fun x => x &&& 31) hl) ++ nI ds, 0 ≤ x ∧ x < 32 := fun x hx => pad_in hi hdb x (List.mem_append.mpr (.inl hx))
theorem ver_poly (hl ds : List Nat) : polyW (nI (List.map (fun x => x >>> 5) hl ++ 0 :: List.map (fun x => x &&& 31) hl) ++ nI ds) = polyN (expN hl ++ ds) := by
  rw [polyW_def, expN_def]
  congr 1
  rw [nI_append, nI, List.map_map]
  exact List.map_id' _

set_option maxHeartbeats 4000000 in
theorem c_verify (M : Nat) (hl ds : List Nat) (e : Int) (u : Tok) (l : Addr) (vs : List Value) (n : Nat) : Says prog w p loose mean mg mb 60 300 160 [.str (sN hl) u, .ref l] (fun _ news => ((e = 2 ∧ M = 734539939) ∨ (e = 1 ∧ M = 1)) ∧ hl.length ≤ 10 ∧ (∀ c ∈ hl, c < 128) ∧ (l, listOf vs.toArray n) ∈ news ∧ IntsAre vs (nI ds) ∧ ds.length ≤ 79 ∧ (∀ x ∈ ds, x < 32) ∧ polyN (expN hl ++ ds) = M) (RInt e) := by
  unfold Says
  intro dp un gd cn cs a ccd cl outer A₀ base h₀ L m news s Q E B F X N T hk hpre hdp hu hret
  obtain ⟨he, hm, hi, hml, his, hds, hdb, hpo⟩ := hpre
  have hPw : ((polyW (nI (List.map (fun x => x >>> 5) hl ++ 0 :: List.map (fun x => x &&& 31) hl) ++ nI ds) : Nat) : Int) = (M : Int) := by rw [ver_poly, hpo]
  clear hpo
  rcases he with ⟨rfl, rfl⟩ | ⟨rfl, rfl⟩
  all_goals (
    refine wpAny_call ?_
    w_strict (k_dflt cell_enter)
    refine PySem.wpAny_noRaise ?_
    k_with_none
    have hMk := kstMark
    repeat (fail_if_success (with_reducible show wpAny _ _ (call (Value.ref 153) _) _ _ _)); first | (k_unfold; (try dsimp only)) | walk1 | (dsimp only; walk1)
    refine Says.go (c_expand hl _) ⟨hm, hi⟩ ?_
    refine rt_list ?_
    intro D9 vs9 k9 h9 tk9 hi9 F9 N9 l9
    (try simp only [AllLt, and_true] at l9)
    (try dsimp only)
    (try k_fold)
    repeat (fail_if_success (with_reducible show wpAny _ _ (call (Value.ref 148) [Value.ref _]) _ _ _)); first | (k_unfold; (try dsimp only)) | walk1 | (dsimp only; walk1)
    (with_reducible rename IntsAre _ (_ ++ _) => hLast); k_dflt (refine' Says.go (c_poly _ _ _ _) ⟨?sayP, ?sayQ, ?sayR, ?sayS⟩ ?_; (case sayQ => exact hLast); (case sayP => k_mem); (case sayR => exact ver_len (by assumption) (by assumption)); (case sayS => exact ver_in (by assumption) (by assumption)); refine rt_int ?_; intro t8 h8 tk8 F8 N8; (try dsimp only); (with_reducible rename Nat.cast (polyW _) = _ => hPw); rw [hPw]; (try k_fold))
    k_steps)
  all_goals exact ret_int hret rfl (by k_asm) (by k_asm) (by kcj_all)
end

section
open PySem PySem.W PySem.Calls PyProof.Rows
set_option maxRecDepth 100000
variable {prog : Program} {w : World} {p : Program} {loose : List Str} {mean : ExcName → Option Value} {mg mb : Str → Option Value}

theorem fill14 : PySem.Challenge.rw_bd0008_01 = PySem.Challenge.rw_bd0008_01 ∧ hd.heap_39 = hd.heap_39 := by
  w_on
  k_fill
  exact ⟨rfl, rfl⟩



local macro_rules | `(tactic| walk_at "binaryOp Add ref ref") => `(tactic| (k_here; (with_reducible show wpAny _ _ (binaryOp _ (Value.ref _) (Value.ref _)) _ _ _); k_dflt (refine' kmk_add_ints ?F ?N ?a ?b ?i ?j ?_ ?z; (case F => k_asm); (case N => k_asm); (case a => kmk_list); (case b => kmk_list); (case i => l_ints); (case j => l_ints); (case z => (simp only [sizeLine_eq, nI_length, List.length_append, List.length_cons, List.length_nil, List.length_map, List.length_replicate, dig_length, createN_length]; omega)); intro D' ws' h' F' N' l1 hI'; (try k_lt l1); (try k_sweep))))

theorem add_one_le {hl : List Nat} (h : hl.length ≤ 10) : (sN hl).length + (Str.ofString "1").length ≤ 16777216 := by
  rw [sN_length]
  have : (Str.ofString "1").length = 1 := by decide +kernel
  omega
theorem add_one_sign (hl : List Nat) : sN hl ++ Str.ofString "1" = sN (hl ++ [49]) := by
  rw [← sN_append]; congr 1
theorem add_two_le {hl ct : List Nat} (h : hl.length ≤ 10) (hc : ct.length ≤ 76) : (sN (hl ++ [49])).length + (sN ct).length ≤ 16777216 := by
  rw [sN_length, sN_length, List.length_append, List.length_singleton]
  omega
local macro_rules | `(tactic| walk_at "binaryOp Add str str") => `(tactic| (refine KOpn.add (add_two_le (by with_reducible assumption) (by with_reducible assumption)) ?_; intro _ _ _; rw [sN_append]))
local macro_rules | `(tactic| walk_at "binaryOp Add str str") => `(tactic| (refine KOpn.add (add_one_le (by with_reducible assumption)) ?_; intro _ _ _; rw [add_one_sign]))

local macro_rules | `(tactic| walk_at "eval ListComp") => `(tactic| (k_here; k_dflt (refine LCg.ListComp_U (F₀ := by k_asm) (by with_unfolding_all rfl) (by decide) (by rfl) (by decide) (by rfl) ?_)))
local macro_rules | `(tactic| walk_at "CompSrc") => `(tactic| fail)
theorem carried_strs {α : Type} {g : α → Str} : ∀ {l : List α} {ys : List Value}, CarriedAll ys (l.map fun k => PyData.str (g k)) → StrsAre ys (l.map g)
  | [], _, .nil => .nil
  | _ :: _, _, .cons h r => by
    cases h
    exact .cons _ _ (carried_strs r)

theorem comb_lt {M : Nat} {hl ds : List Nat} {k : Int} (hdb : ∀ x ∈ ds, x < 32) (h : k ∈ nI ds ++ nI (createN M hl ds)) : 0 ≤ k ∧ k < 32 := by
  rw [nI_append] at h
  obtain ⟨c, hc, rfl⟩ := List.mem_map.mp h
  have : c < 32 := by
    rcases List.mem_append.mp hc with h | h
    · exact hdb c h
    · exact createN_lt _ _ _ c h
  exact ⟨by omega, by omega⟩
theorem cs_fit {k : Int} (h1 : 0 ≤ k) (h2 : k < 32) : fitsSsize k = true := fitsSsize_of (N := 9223372036854775808) (by omega) (by omega) (Int.le_refl _)
theorem cs_lo {k : Int} (h1 : 0 ≤ k) : -(((Str.ofString "qpzry9x8gf2tvdw0s3jn54khce6mua7l").length : Nat) : Int) ≤ k := by omega
theorem cs_hi {k : Int} (h2 : k < 32) : k < (((Str.ofString "qpzry9x8gf2tvdw0s3jn54khce6mua7l").length : Nat) : Int) := by
  have : (Str.ofString "qpzry9x8gf2tvdw0s3jn54khce6mua7l").length = 32 := by decide +kernel
  omega
local macro_rules | `(tactic| walk_at "subscriptTail Name Name str int") => `(tactic| (k_dflt (refine item_str (cs_fit (by with_reducible assumption) (by with_reducible assumption)) (cs_lo (by with_reducible assumption)) (cs_hi (by with_reducible assumption)) ?_; intro _)))
theorem item_cst : ∀ d : Nat, d < 32 → Txt.item (Str.ofString "qpzry9x8gf2tvdw0s3jn54khce6mua7l") (d : Int) = sN [cstN d] := by
  intro d hd
  rw [cstN_def]
  revert d
  decide +kernel
theorem join_map (f : Nat → Nat) : ∀ l : List Nat, Txt.join (Str.ofString "") (l.map fun d => sN [f d]) = sN (l.map f) := fun l => by
  rw [← join_ones, List.map_map]; rfl
theorem chs_map {M : Nat} {hl ds : List Nat} (hdb : ∀ x ∈ ds, x < 32) : (nI ds ++ nI (createN M hl ds)).map (fun k => Txt.item (Str.ofString "qpzry9x8gf2tvdw0s3jn54khce6mua7l") k) = (ds ++ createN M hl ds).map fun d => sN [cstN d] := by
  rw [nI_append, nI, List.map_map]
  refine List.map_congr_left fun d hd => item_cst d ?_
  rcases List.mem_append.mp hd with h | h
  · exact hdb d h
  · exact createN_lt _ _ _ d h
theorem chs_join {M : Nat} {hl ds : List Nat} (hdb : ∀ x ∈ ds, x < 32) : Txt.join (Str.ofString "") ((nI ds ++ nI (createN M hl ds)).map (fun k => Txt.item (Str.ofString "qpzry9x8gf2tvdw0s3jn54khce6mua7l") k)) = sN (combT M hl ds) := by
  rw [chs_map hdb, join_map, combT_def]
theorem chs_w {M : Nat} {hl ds : List Nat} (hdb : ∀ x ∈ ds, x < 32) (hds : ds.length ≤ 70) : (((nI ds ++ nI (createN M hl ds)).map (fun k => Txt.item (Str.ofString "qpzry9x8gf2tvdw0s3jn54khce6mua7l") k)).map (·.length)).sum + ((nI ds ++ nI (createN M hl ds)).map (fun k => Txt.item (Str.ofString "qpzry9x8gf2tvdw0s3jn54khce6mua7l") k)).length ≤ 1048576 := by
  rw [chs_map hdb, List.map_map]
  have e : (ds ++ createN M hl ds).map (((·.length) : Str → Nat) ∘ fun d => sN [cstN d]) = List.replicate (ds ++ createN M hl ds).length 1 := by
    rw [List.eq_replicate_iff]
    refine ⟨by simp, fun b hb => ?_⟩
    obtain ⟨d, _, rfl⟩ := List.mem_map.mp hb
    exact sN_length _
  rw [e, List.sum_replicate_nat, List.length_map, List.length_append, createN_length]
  omega
theorem ct_end {h₀ : Heap} {L I C D : Addr} {m : Str → Option Value} {s₁ : Shared} {oI oC oD : Obj} {S : List (Addr × Obj) → Prop} {r : Str} {t : Tok} {h' : Heap} {tk : Nat} {all news : List (Addr × Obj)}
    (F : Fr h₀ L h' m) (N : News h₀ L h' all) (sub : ∀ p ∈ (I, oI) :: (C, oC) :: (D, oD) :: news, p ∈ all) (off : LCg.Off3 I C D news) (hS : S news) :
    LCg.CompEnd h₀ L m s₁ I oI C oC D oD S (fun y news' => KCtEl news r y news') (.str r t) { s₁ with heap := h', toks := tk } := LCg.CompEnd.intro F N news sub off hS ⟨rfl, t, rfl⟩
theorem comb_len {M : Nat} {hl ds : List Nat} {vs : List Value} (h : IntsAre vs (nI ds ++ nI (createN M hl ds))) (hds : ds.length ≤ 70) : vs.toArray.size ≤ sizeLine := by
  rw [List.size_toArray, h.length, sizeLine_eq, List.length_append, nI_length, nI_length, createN_length]; omega

set_option maxHeartbeats 4000000 in
theorem c_b32enc (M : Nat) (hl ds : List Nat) (e : Int) (u t : Tok) (l : Addr) (vs : List Value) (n : Nat) : Says prog w p loose mean mg mb 80 500 170 [.int e t, .str (sN hl) u, .ref l] (fun _ news => ((e = 2 ∧ M = 734539939) ∨ (e = 1 ∧ M = 1)) ∧ hl.length ≤ 10 ∧ (∀ c ∈ hl, c < 128) ∧ (l, listOf vs.toArray n) ∈ news ∧ IntsAre vs (nI ds) ∧ ds.length ≤ 70 ∧ ∀ x ∈ ds, x < 32) (RStr (sN (hl ++ [49] ++ combT M hl ds))) := by
  unfold Says
  intro dp un gd cn cs a ccd cl outer A₀ base h₀ L m news s Q E B F X N T hk hpre hdp hu hret
  obtain ⟨he, hm, hi, hml, his, hds, hdb⟩ := hpre
  refine wpAny_call ?_
  w_strict (k_dflt cell_enter)
  refine PySem.wpAny_noRaise ?_
  k_with_none
  have hMk := kstMark
  repeat (fail_if_success (with_reducible show wpAny _ _ (call (Value.ref 165) [_, _, Value.ref _]) _ _ _)); first | (k_unfold; (try dsimp only)) | walk1 | (dsimp only; walk1)
  k_dflt (refine' SaysU.go (c_create _ _ _ _ _ _ _ _ _) ⟨?sayP, ?sayQ, ?sayR, ?sayS, ?sayT, ?sayU, ?sayV⟩ ?_; (case sayP => with_reducible assumption); (case sayQ => with_reducible assumption); (case sayR => with_reducible assumption); (case sayS => with_reducible assumption); (case sayT => with_reducible assumption); (case sayU => with_reducible assumption); (case sayV => with_reducible assumption); refine ru_list ?_; intro D8 vs8 k8 h8 tk8 hI8 F8 N8; (try dsimp only); (try k_fold))
  k_steps
  with_reducible rename IntsAre _ (_ ++ _) => hLast
  refine LCg.CompSrc.ledger (by rfl) (by k_asm) (by k_asm) (by k_mem) (comb_len hLast hds) ?_
  intro g'
  refine' kct_list (fun k => Txt.item (Str.ofString "qpzry9x8gf2tvdw0s3jn54khce6mua7l") k) hLast (fun k' t' I' oI' C' oC' D' m' ys' h' tk' E' hk' hC' hx' F' N' off' ne' hMark' => ?_) ?_
  · obtain ⟨hk1, hk2⟩ := comb_lt hdb hk'
    k_steps
    refine' ct_end (by assumption) (by assumption) ?cea ?ceb ?cec
    case cea => kcf_all
    case ceb => first | assumption | (simp only [LCg.Off3, and_true]; done) | (simp only [LCg.Off3, and_true]; assumption)
    case cec => first | lcg_src | assumption
  intro ys hys hln
  replace hys := carried_strs hys
  k_steps
  k_dflt (refine' join_listW (News.isList ?a ?b) hys ?c (chs_w hdb hds) ?_; (case a => k_asm); (case b => k_dflt (exact List.Mem.head _)); (case c => decide +kernel))
  intro _ _
  rw [chs_join hdb]
  have hct : (combT M hl ds).length ≤ 76 := by rw [combT_def, List.length_map, List.length_append, createN_length]; omega
  k_steps
  exact ret_str hret rfl (by k_asm) (by k_asm) (by kcj_all)
end

section
open PySem PySem.W PySem.Calls PyProof.Rows
set_option maxRecDepth 100000

/-! a generator expression over a text, read by any or all; the code table lies on the ledger -/
def tabO (ps : Array Value) : Obj := { cls := .none, data := .fields ps }
structure CodeHd (h : Heap) (c P : Addr) : Prop where
  fields : ∃ o vs file tf flags tg inF text tt, h.get? c = some o ∧ o.cls = .type "code" ∧ o.data = .fields vs ∧ vs[11]? = some (.ref P) ∧ vs.getD 18 .none = .str file tf ∧ vs.getD 7 .none = .int flags tg ∧ vs.getD 9 .none = .bool inF ∧ vs.getD 10 .none = .int text tt
  ne : c ≠ P
theorem CodeHd.isCode {h₀ h : Heap} {c P : Addr} {ps : Array Value} (X : CodeHd h₀ c P) (hk : ∀ b o, h₀.get? b = some o → h.get? b = some o) (hP : h.get? P = some (tabO ps)) (ht : TriplesOk ps.toList) : h.IsCode c P ps ∧ h.TableAt c P ps := by
  obtain ⟨⟨o, vs, file, tf, flags, tg, inF, text, tt, e, ec, ed, e11, e18, e7, e9, e10⟩, hne⟩ := X
  have e11' : vs.getD 11 .none = .ref P := by simp [Array.getD_eq_getD_getElem?, e11]
  exact ⟨⟨o, vs, file, tf, flags, tg, inF, text, tt, tabO ps, hk _ _ e, ed, e11', e18, e7, e9, e10, hP, rfl, ht, hne⟩, ⟨⟨o, vs, hk _ _ e, ec, ed, e11⟩, hP⟩⟩

section
variable {prog : Program} {w : World} {A : Around} {E : Value → Shared → Prop} {s : Shared} {h₀ : Heap} {c P L : Addr} {ps : Array Value} {m mg : Str → Option Value} {bm : Addr} {ob : Obj} {news : Led}

/-- the generator read from a text: each sign gives the bool q of it -/
def GenBits (prog : Program) (w : World) (A : Around) (K a : Addr) (l : List Nat) (q : Nat → Bool) (s : Shared) : Prop :=
  Gen prog w A K a l.length (fun j y => ∃ c, l[j]? = some c ∧ y = .bool (q c)) s

theorem keep_but {h h' : Heap} {b : Addr} {o : Obj} (hx : Heap.ExtBut P h h') (F : Fr h₀ L h m) (hP : h₀.get? P = none) (e : h₀.get? b = some o) : h'.get? b = some o :=
  hx b o (fun e' => by rw [e', hP] at e; cases e) (F.keep b o e)

theorem passing_all (n : Nat) : passing (fun _ => true) n 0 = List.range n := by simp [passing]

def GenTextAt (prog : Program) (w : World) (A : Around) (h₀ : Heap) (P L : Addr) (ps : Array Value) (m : Str → Option Value) (news : Led) (env : Env) (elt : PySem.Expr) (x : Str) (scope : Scope) (cl : List (Str × Addr)) (q : Nat → Bool) (Q : Value → Shared → Prop) (xv : Value) (s₁ : Shared) : Prop :=
  ∃ l t, xv = .str ⟨List.toArray l⟩ t ∧ Fr h₀ L s₁.heap m ∧ News h₀ L s₁.heap ((P, tabO ps) :: news) ∧ AllBare s₁.gens ∧
        (∀ (code : Value) (C : Addr) (A' : Around) E' (cc : Nat) (tk : Tok) (u : Shared) m₂, A'.handled = none → A'.depth ≤ A.depth + 1 → A'.units ≤ A.units + 8 → cc ∈ l → Fr h₀ C u.heap m₂ → m₂ x = some (.str ⟨#[cc]⟩ tk) → L < C →
          wpAny (model prog w) A' (eval elt (genEnv scope cl C code builtinsNs env)) (fun r s₃ => r = .bool (q cc) ∧ Keeps u s₃) E' u) ∧
        (∀ (K a : Addr) (s₅ : Shared) (ps' : Array Value), TriplesOk ps'.toList → Fr h₀ L s₅.heap m → News h₀ L s₅.heap ((P, tabO ps') :: news) → AllBare s₅.gens → s₅.os = s₁.os → L ≤ K → P ≤ K → (∀ p ∈ news, p.1 ≤ K) → K < a →
          GenBits prog w A K a l q s₅ → Q (.ref a) s₅)
theorem gen_text {env : Env} {elt iter : PySem.Expr} {x : Str} {px : Pos} {scope : Scope} {cl : List (Str × Addr)} {pos : Pos} {Q : Value → Shared → Prop} {q : Nat → Bool}
    (_F₀ : Fr h₀ L s.heap m) (C : CodeHd h₀ c P) (hP₀ : h₀.get? P = none) (M : BMod h₀ env.globals mg bm ob) (hlim : h₀.NoLimit) (hnP : ∀ p ∈ news, p.1 ≠ P) (hcode : env.code = .ref c) (ht : TriplesOk ps.toList)
    (hh : A.handled = none) (hco : scope.isCoroutine = false) (hclos : closureFor scope env = pure cl) (hcell : ∀ y ∈ scope.names, y.2 ≠ .cell) (h0 : scope.names.lookup (".0" : Str) = some NameKind.local)
    (hx : scope.names.lookup x = some .local) (hkind : scope.kind = .function) (hroom : A.depth < recursionLimit)
    (h : wpAny (model prog w) A (eval iter env) (GenTextAt prog w A h₀ P L ps m news env elt x scope cl q Q) E s)
    (hs : ∀ x, genFold iter env x = pure x) :
    wpAny (model prog w) A (eval (.GeneratorExp elt [⟨.Name x px, iter, [], 0⟩] scope pos) env) Q E s := by
  refine wpAny_GeneratorExp_walksQD hh hco hclos hcell h0 hx hkind hroom (wpAny_mono h (fun xv s₁ h₁ => ?_) fun _ _ e => e) hs
  obtain ⟨l, t, rfl, F₁, N₁, G₁, hel, hQ⟩ := h₁
  refine wpAny_pyIter_str fun o St W hst => ?_
  let H := s₁.heap.push o
  have F₂ : Fr h₀ L H m := F₁.keeps fun _ _ e => Heap.get?_push_of_some _ e
  have N₂ : News h₀ L H ((P, tabO ps) :: news) := N₁.grown fun _ _ e => Heap.get?_push_of_some _ e
  have hPH : H.get? P = some (tabO ps) := N₂.get (.head _)
  have hsH : H.objs.size = s₁.heap.objs.size + 1 := Heap.size_push ..
  have hLs : L < s₁.heap.objs.size := F₁.ns.lt
  have hlimH : H.NoLimit := hlim.keeps F₂.keep
  have hcP : cStatics ≠ P := fun e => by
    obtain ⟨_, hns, _⟩ := hlim
    obtain ⟨o, es, ep, ho, hd, _⟩ := hns
    rw [e, hP₀] at ho; cases ho
  refine ⟨hlimH, ?_⟩
  -- what is left behind the code's step
  have rest : ∀ (code : Value) (h₃ : Heap) (tk₃ : Nat) (ps' : Array Value), TriplesOk ps'.toList → Heap.ExtBut P H h₃ → H.objs.size ≤ h₃.objs.size → h₃.get? P = some (tabO ps') →
      wpAny (model prog w) A (builtinsFor env.globals env.builtins) (fun bi s₄ =>
        ∃ I fp wr n₀ Pi St₀ pz F, (Value.ref s₁.heap.objs.size : Value) = .ref I ∧ (∀ A' : Around, A'.handled = none → Walks prog w A' I fp wr n₀ Pi St₀) ∧ St₀ 0 s₄.heap ∧ (∀ b ∈ fp, b < s₄.heap.objs.size) ∧ s₄.heap.NoLimit ∧ cStatics ∉ wr ∧
          (∀ href : Heap, (∀ b o, s₄.heap.get? b = some o → href.get? b = some o) →
            QuietGenD prog w (genEnv scope cl s₄.heap.objs.size code bi env) x [] elt (List.range s₄.heap.objs.size) wr Pi pz F href (A.depth + 1) (A.units + 8)) ∧
          (∀ a h₅ tk gs, gs.bare = true → s₄.heap.objs.size < a → h₅.objs.size = a + 1 → (∀ b o, s₄.heap.get? b = some o → h₅.get? b = some o) →
            WalksS prog w A.in4 a (a :: s₄.heap.objs.size :: List.range s₄.heap.objs.size) (s₄.heap.objs.size :: wr) (GenOnlyQ s₄.gens.size) (passing pz n₀ 0).length
              (fun j y => ∃ i, (passing pz n₀ 0)[j]? = some i ∧ F i y) (GenAt prog w A.in4 a s₄.gens.size s₄.heap.objs.size (List.range s₄.heap.objs.size) wr pz n₀ F) →
            GenAt prog w A.in4 a s₄.gens.size s₄.heap.objs.size (List.range s₄.heap.objs.size) wr pz n₀ F 0 { s₄ with gens := s₄.gens.push gs, toks := tk, heap := h₅ } →
            Q (.ref a) { s₄ with gens := s₄.gens.push gs, toks := tk, heap := h₅ })) E { s₁ with heap := h₃, toks := tk₃ } := by
    intro code h₃ tk₃ ps' ht' hx₃ hsz hP₃
    have hsz' : s₁.heap.objs.size + 1 ≤ h₃.objs.size := hsH ▸ hsz
    have hk₃ : ∀ b o, h₀.get? b = some o → h₃.get? b = some o := fun b o e => keep_but hx₃ F₂ hP₀ e
    have M₃ : BMod h₃ env.globals mg bm ob := M.keeps hk₃
    have hl₃ : h₃.NoLimit := hlim.keeps hk₃
    have hLP : L ≠ P := (N₂ (P, tabO ps) (.head _)).2.1.symm
    have F₃ : Fr h₀ L h₃ m := ⟨F₂.ns.extBut hx₃ hLP, hk₃, F₂.above⟩
    refine wpAny_builtinsFor M₃.ns M₃.name M₃.ne M₃.obj M₃.cls M₃.dict M₃.data ?_
    have hcw : cStatics ∉ [s₁.heap.objs.size] := fun hm => by
      have h1 : cStatics = s₁.heap.objs.size := List.mem_singleton.mp hm
      obtain ⟨_, hns, _⟩ := hlim.keeps F₁.keep
      exact absurd hns.lt (by rw [h1]; exact Nat.lt_irrefl _)
    refine ⟨s₁.heap.objs.size, [s₁.heap.objs.size], [s₁.heap.objs.size], (⟨List.toArray l⟩ : Str).cps.size, SignAt ⟨List.toArray l⟩, St, fun _ => true, fun i y => ∃ cc, l[i]? = some cc ∧ y = .bool (q cc), rfl, W,
      (W A hh).frame _ _ _ hst (fun b hb o e => hx₃ b o (fun e' => ?_) e), (fun b hb => ?_), hl₃, hcw, (fun href hhref => ⟨?_, ?_⟩), fun a h₅ tk gs hgb hag hsz₅ hk₅ W' hat => ?_⟩
    · have h1 : b = s₁.heap.objs.size := List.mem_singleton.mp hb
      have h2 : P < s₁.heap.objs.size := Heap.lt_size (N₁ (P, tabO ps) (.head _)).1
      exact absurd (e' ▸ h1 ▸ h2) (Nat.lt_irrefl _)
    · rw [List.mem_singleton.mp hb]
      show s₁.heap.objs.size < h₃.objs.size
      omega
    · intro A' E' i v u m₂ hA hD hU hPi hn hm hkp
      exact wpAny_pure ⟨rfl, u.heap, u.toks, rfl, fun _ _ e => e⟩
    · intro A' E' i v u m₂ hA hD hU hPi hp hn hm hkp
      obtain ⟨cc, tk', hc, rfl⟩ := hPi
      have hc' : l[i]? = some cc := by simpa using hc
      have hFu : Fr h₀ h₃.objs.size u.heap m₂ := by
        refine ⟨hn, fun b o e => ?_, Nat.le_trans F₃.above (Nat.le_of_lt F₃.ns.lt)⟩
        have hb1 : b < h₀.objs.size := Heap.lt_size e
        have hb2 : h₀.objs.size ≤ L := F₁.above
        exact hkp b (List.mem_range.mpr (Heap.lt_size (hk₃ b o e))) (fun hmem => absurd (List.mem_singleton.mp hmem) (Nat.ne_of_lt (Nat.lt_trans (Nat.lt_of_lt_of_le hb1 hb2) hLs))) o (hhref b o (hk₃ b o e))
      exact wpAny_mono (hel code _ A' E' cc tk' u m₂ hA hD hU (List.mem_of_getElem? hc') hFu hm F₃.ns.lt) (fun r s₃ z => ⟨⟨cc, hc', z.1⟩, z.2⟩) fun _ _ e => e
    · have hn : (⟨List.toArray l⟩ : Str).cps.size = l.length := by simp
      replace hag : h₃.objs.size < a := hag
      rw [hn, passing_all, List.length_range] at W'
      rw [hn] at hat
      refine hQ (s₁.heap.objs.size - 1) a _ ps' ht' (F₃.keeps hk₅) (fun p hp => ?_) (G₁.push hgb) rfl (Nat.le_sub_one_of_lt hLs) (Nat.le_sub_one_of_lt (Heap.lt_size (N₁ (P, tabO ps) (.head _)).1)) (fun p hp => Nat.le_sub_one_of_lt (Heap.lt_size (N₁ p (.tail _ hp)).1)) (Nat.lt_of_le_of_lt (Nat.sub_le _ _) (Nat.lt_trans hsz' hag)) ⟨_, _, _, _, (W'.imp fun j y hy => ?_), hat, (fun i s' st => st.1.typeIs), List.mem_cons_self, ?_, ?_⟩
      · rcases List.mem_cons.mp hp with rfl | hp
        · exact ⟨hk₅ _ _ hP₃, (N₂ (P, tabO ps) (.head _)).2.1, hP₀⟩
        · have z := N₂ p (.tail _ hp)
          exact ⟨hk₅ _ _ (hx₃ _ _ (hnP p hp) z.1), z.2⟩
      · obtain ⟨i, hi, cc, hcc, e⟩ := hy
        have : i = j := by
          have h9 := hi
          rw [List.getElem?_eq_some_iff] at h9
          obtain ⟨hj, e9⟩ := h9
          simpa using e9.symm
        subst this
        exact ⟨cc, hcc, e⟩
      · intro b hb
        show b < h₅.objs.size
        rw [hsz₅]
        have hag' : h₃.objs.size < a := hag
        rcases List.mem_cons.mp hb with rfl | hb
        · exact Nat.lt_succ_self _
        · rcases List.mem_cons.mp hb with rfl | hb
          · exact Nat.lt_succ_of_lt hag
          · have := List.mem_range.mp hb
            exact Nat.lt_succ_of_lt (Nat.lt_trans this hag)
      · intro b hb
        rcases List.mem_cons.mp hb with rfl | hb
        · exact Nat.lt_of_le_of_lt (Nat.sub_le _ _) hsz'
        · rw [List.mem_singleton.mp hb]; exact Nat.sub_lt (Nat.lt_of_le_of_lt (Nat.zero_le _) hLs) Nat.one_pos
  -- the code's step, hit or miss
  obtain ⟨hIs, hTab⟩ := C.isCode F₂.keep hPH ht
  cases hnf : codeAmong pos ps.toList with
  | some c' => exact wpAny_genexprCode_hit hcode hIs hnf (rest c' H s₁.toks ps ht (Heap.ExtBut.refl _ _) (Nat.le_refl _) hPH)
  | none =>
    refine wpAny_genexprCodeX hcode hIs hTab hnf fun c' h₃ tk₃ hx₃ hge hlt hcode₃ _ htab₃ _ => ?_
    obtain ⟨_, _, _, _, _, _, _, _, _, _, _, _, _, _, _, _, _, _, _, htr, _⟩ := hcode₃
    exact rest _ h₃ tk₃ _ htr hx₃ (Nat.le_trans hge (Nat.le_of_lt hlt)) htab₃.2
theorem any_bits {K a : Addr} {l : List Nat} {q : Nat → Bool} {Q : Value → Shared → Prop} (Fh : Fr h₀ L s.heap m) (N : News h₀ L s.heap news) (hK : ∀ p ∈ news, p.1 ≤ K) (hLK : L ≤ K) (G : AllBare s.gens) (X : GenBits prog w A K a l q s)
    (hQ : ∀ s', Fr h₀ L s'.heap m → News h₀ L s'.heap news → AllBare s'.gens → s'.os = s.os → Q (.bool (l.any q)) s') : wpAny (model prog w) A (call (.builtin "any") [.ref a]) Q E s := by
  refine any_rowsK Fh G X hLK (fun j => match l[j]? with | some b => q b | none => false) (fun j v s Q E hv hQ => ?_) fun s' F' G' hos hk => ?_
  · obtain ⟨b, hb, rfl⟩ := hv
    simp only [hb] at hQ
    exact wpAny_truthy_bool hQ
  · have e : (List.range l.length).any (fun j => match l[j]? with | some b => q b | none => false) = l.any q := by
      rw [← any_rangeD l q]; congr 1; funext j; cases l[j]? <;> rfl
    rw [e]; exact hQ s' F' (fun p hp => ⟨hk _ _ (hK p hp) (N p hp).1, (N p hp).2⟩) G' hos
theorem all_bits {K a : Addr} {l : List Nat} {q : Nat → Bool} {Q : Value → Shared → Prop} (Fh : Fr h₀ L s.heap m) (N : News h₀ L s.heap news) (hK : ∀ p ∈ news, p.1 ≤ K) (hLK : L ≤ K) (G : AllBare s.gens) (X : GenBits prog w A K a l q s)
    (hQ : ∀ s', Fr h₀ L s'.heap m → News h₀ L s'.heap news → AllBare s'.gens → s'.os = s.os → Q (.bool (l.all q)) s') : wpAny (model prog w) A (call (.builtin "all") [.ref a]) Q E s := by
  refine all_rowsK Fh G X hLK (fun j => match l[j]? with | some b => q b | none => true) (fun j v s Q E hv hQ => ?_) fun s' F' G' hos hk => ?_
  · obtain ⟨b, hb, rfl⟩ := hv
    simp only [hb] at hQ
    exact wpAny_truthy_bool hQ
  · have e : (List.range l.length).all (fun j => match l[j]? with | some b => q b | none => true) = l.all q := by
      rw [← all_rangeD l q]; congr 1; funext j; cases l[j]? <;> rfl
    rw [e]; exact hQ s' F' (fun p hp => ⟨hk _ _ (hK p hp) (N p hp).1, (N p hp).2⟩) G' hos

theorem genE_B {M : Model} {K : Frag} {mb : Str → Option Value} {p : Program} {loose : List Str} {x : Str} {pos : Pos} {v : Value} {env : Env} {scope : Scope} {cl : List (Str × Addr)} {C : Addr} {code : Value} {Q : Value → Shared → Prop} (F : Fr h₀ L s.heap m) (X : K.In h₀) (T : TopRead p loose mg mb h₀)
    (e : nsIn K mainGlobals x = some none) (hv : bootBuiltins x = some v) (hn : x ≠ "__name__") (h : Q v s) (hg : env.globals = mainGlobals) (hk : scope.kind = .function) (hx : (genEnv scope cl C code builtinsNs env).kindOf x = some .globalImplicit) (hd : (x == ("__debug__" : Str)) = false) :
    wpAny M A (eval (.Name x pos) (genEnv scope cl C code builtinsNs env)) Q E s :=
  Name_function_global hk hx (loadGlobal_builtin (env := genEnv scope cl C code builtinsNs env) (show s.heap.Ns env.globals mg from hg ▸ T.g.keeps F.keep) (mg_none_of X T.g e) (T.b.keeps F.keep) ((T.builtins x hn).trans hv) h) hd
end
end

section
open PySem PySem.W PySem.Calls PyProof.Rows
set_option maxRecDepth 100000
open Builtin Builtin.Str

/-! texts: the last place of a sign, the place in the table -/
theorem last_fold (c : Nat → Bool) : ∀ (l : List Nat) (st : Option Nat),
    (forIn (m := Id) l st fun i s => if c i = true then pure (ForInStep.yield (some i)) else pure (ForInStep.yield s)).run = l.foldl (fun s i => if c i = true then some i else s) st
  | [], _ => rfl
  | a :: r, st => by
    rw [List.forIn_cons, List.foldl_cons]
    by_cases h : c a = true
    · rw [if_pos h, if_pos h]; exact last_fold c r _
    · rw [if_neg h, if_neg h]; exact last_fold c r _
theorem last_eq (s sub : Str) (lo hi : Nat) : lastOccurrence s sub lo hi = (List.range' lo (hi + 1 - lo)).foldl (fun last i => if (decide (i + sub.length ≤ hi) && subAt s sub i) = true then some i else last) none := by
  rw [← last_fold (fun i => decide (i + sub.length ≤ hi) && subAt s sub i)]
  unfold lastOccurrence
  simp
theorem fold_keep (c : Nat → Bool) : ∀ (l : List Nat) (st : Option Nat), (∀ i ∈ l, c i = false) → l.foldl (fun s i => if c i = true then some i else s) st = st
  | [], _, _ => rfl
  | a :: r, st, h => by
    rw [List.foldl_cons, if_neg (by rw [h a (.head _)]; decide)]
    exact fold_keep c r st fun i hi => h i (.tail _ hi)
theorem rfind_one {l r : List Nat} {k : Nat} (h : k ∉ r) : (Txt.rfind ⟨(l ++ [k] ++ r).toArray⟩ ⟨#[k]⟩ : Int) = (l.length : Int) := by
  have hs : (⟨(l ++ [k] ++ r).toArray⟩ : Str).length = l.length + 1 + r.length := by simp [PySem.Str.length]; omega
  have hc : ∀ i, (decide (i + (⟨#[k]⟩ : Str).length ≤ l.length + 1 + r.length) && subAt ⟨(l ++ [k] ++ r).toArray⟩ ⟨#[k]⟩ i) = true ↔ (l ++ [k] ++ r)[i]? = some k := by
    intro i
    have h1 := StrLaws.subAt_one ⟨(l ++ [k] ++ r).toArray⟩ k i
    rw [hs] at h1
    rw [Bool.and_eq_true, decide_eq_true_eq]
    exact h1
  have e : lastOccurrence ⟨(l ++ [k] ++ r).toArray⟩ ⟨#[k]⟩ 0 (⟨(l ++ [k] ++ r).toArray⟩ : Str).length = some l.length := by
    rw [last_eq, hs]
    have hr : List.range' 0 (l.length + 1 + r.length + 1 - 0) = List.range' 0 l.length ++ (l.length :: List.range' (l.length + 1) (r.length + 1)) := by
      have e2 : l.length + 1 + r.length + 1 - 0 = l.length + (r.length + 1 + 1) := by omega
      rw [e2, ← List.range'_append_1, Nat.zero_add]
      rfl
    rw [hr, List.foldl_append, List.foldl_cons, if_pos ((hc _).mpr (by simp))]
    refine fold_keep _ _ _ fun i hi => ?_
    rw [Bool.eq_false_iff]
    intro hx
    have h1 := (hc i).mp hx
    have h2 := (List.mem_range'_1.mp hi).1
    rw [List.getElem?_append_right (by simp; omega)] at h1
    exact h (List.mem_of_getElem? h1)
  unfold Txt.rfind
  rw [e]
theorem find_cst : ∀ d, d < 32 → (Txt.find (Str.ofString "qpzry9x8gf2tvdw0s3jn54khce6mua7l") ⟨#[cstN d]⟩ : Int) = (d : Int) := by
  intro d hd
  rw [cstN_def]
  revert d
  decide +kernel
theorem in_cst : ∀ d, d < 32 → (!(occurrences (Str.ofString "qpzry9x8gf2tvdw0s3jn54khce6mua7l") ⟨#[cstN d]⟩ 0 (Str.ofString "qpzry9x8gf2tvdw0s3jn54khce6mua7l").length 1).isEmpty) = true := by
  intro d hd
  rw [cstN_def]
  revert d
  decide +kernel
theorem cst_sign : ∀ d, d < 32 → 33 ≤ cstN d ∧ cstN d < 127 ∧ (cstN d < 65 ∨ 90 < cstN d) ∧ cstN d ≠ 49 := by
  intro d hd
  rw [cstN_def]
  revert d
  decide +kernel
end

section
open PySem PySem.W PySem.Calls PyProof.Rows
set_option maxRecDepth 100000
variable {prog : Program} {w : World} {p : Program} {loose : List Str} {mean : ExcName → Option Value} {mg mb : Str → Option Value}

theorem fill16 : PySem.Challenge.rw_bd0008_01 = PySem.Challenge.rw_bd0008_01 ∧ hd.heap_39 = hd.heap_39 := by
  w_on
  k_fill
  exact ⟨rfl, rfl⟩



local macro_rules | `(tactic| walk_at "eval Name") => `(tactic| ((with_reducible show wpAny _ _ (eval (Expr.Name _ _) (genEnv _ _ _ _ _ _)) _ _ _); (first
  | k_dflt (refine' ldVarG ?gF ?gV ?_ ?ga ?gb ?gc; (case ga => rfl); (case gb => rfl); (case gc => decide); (case gF => k_asm); (case gV => with_reducible assumption))
  | k_dflt (refine' nameG_K ?gF ?gX ?gT ?ge ?_ ?ga ?gb ?gc ?gd; (case ga => rfl); (case gb => rfl); (case gc => rfl); (case gd => decide); (case gF => k_asm); (case gX => k_asm); (case gT => k_asm); (case ge => k_is))
  | k_dflt (refine' genE_B ?gF ?gX ?gT ?ge ?gv ?gn ?_ ?ga ?gb ?gc ?gd; (case ga => rfl); (case gb => rfl); (case gc => rfl); (case gd => decide); (case gF => k_asm); (case gX => k_asm); (case gT => k_asm); (case ge => k_is); (case gv => boot_by_name); (case gn => decide)))))
theorem tx_in {M : Nat} {hl ds : List Nat} (hi : ∀ c ∈ hl, 97 ≤ c ∧ c < 123) (hdb : ∀ x ∈ ds, x < 32) : ∀ c ∈ hl ++ [49] ++ combT M hl ds, 33 ≤ c ∧ c < 127 ∧ (c < 65 ∨ 90 < c) := by
  intro c hc
  rcases List.mem_append.mp hc with h | h
  · rcases List.mem_append.mp h with h | h
    · have := hi c h; omega
    · have := List.mem_singleton.mp h; omega
  · rw [combT_def] at h
    obtain ⟨d, hd, rfl⟩ := List.mem_map.mp h
    have hd32 : d < 32 := by
      rcases List.mem_append.mp hd with h | h
      · exact hdb d h
      · exact createN_lt _ _ _ d h
    have := cst_sign d hd32
    omega
theorem tx_low {l : List Nat} (h : ∀ c ∈ l, 33 ≤ c ∧ c < 127 ∧ (c < 65 ∨ 90 < c)) : Txt.lower (sN l) = sN l := KXs.lower_still (fun c hc => h c (by simpa [sN] using hc))
theorem tx_low_len {l : List Nat} {n : Nat} (h : ∀ c ∈ l, 33 ≤ c ∧ c < 127 ∧ (c < 65 ∨ 90 < c)) (hn : (sN l).length = n) (h9 : n ≤ 1000) : Builtin.Str.tooLong (Txt.lower (sN l)).length = false := by
  rw [tx_low h, hn]
  exact decide_eq_false (by rw [sizeLine_eq]; omega)
theorem tx_rfind {M : Nat} {hl ds : List Nat} (hdb : ∀ x ∈ ds, x < 32) : (Txt.rfind (sN (hl ++ [49] ++ combT M hl ds)) (Str.ofString "1") : Int) = (hl.length : Int) := by
  have e : Str.ofString "1" = ⟨#[49]⟩ := by decide +kernel
  rw [e]
  refine rfind_one fun hm => ?_
  rw [combT_def] at hm
  obtain ⟨d, hd, he⟩ := List.mem_map.mp hm
  have hd32 : d < 32 := by
    rcases List.mem_append.mp hd with h | h
    · exact hdb d h
    · exact createN_lt _ _ _ d h
  exact (cst_sign d hd32).2.2.2 he
theorem tx_len (M : Nat) (hl ds : List Nat) : (sN (hl ++ [49] ++ combT M hl ds)).length = hl.length + ds.length + 7 := by
  rw [sN_length, combT_def, List.length_append, List.length_append, List.length_map, List.length_append, createN_length, List.length_singleton]; omega
local macro_rules | `(tactic| walk_at "call builtin:str.lower") => `(tactic| ((with_reducible show wpAny _ _ (call (Value.builtin "str.lower") [Value.str (sN _) _]) _ _ _); k_dflt (refine KXw.lower (tx_low (by with_reducible assumption)) (tx_low_len (by with_reducible assumption) (by with_reducible assumption) (by omega)) ?_); intro _ _))
local macro_rules | `(tactic| walk_at "call builtin:str.rfind") => `(tactic| ((with_reducible show wpAny _ _ (call (Value.builtin "str.rfind") [Value.str (sN _) _, Value.str _ _]) _ _ _); k_dflt (refine KXw.rfind (tx_rfind (by with_reducible assumption)) ?_); intro _ _))
theorem tx_cut {hl ct : List Nat} {i : Int} (h : i = (hl.length : Int)) : Txt.slice (sN (hl ++ [49] ++ ct)) (some (i + 1)) none = sN ct := by
  subst h
  rw [slice_sN]
  have e : clipAt (hl ++ [49] ++ ct).length ((hl.length : Int) + 1) = hl.length + 1 := by
    have := clipAt_cast (hl ++ [49] ++ ct).length ((hl.length : Int) + 1)
    rw [if_neg (by omega), List.length_append, List.length_append, List.length_singleton] at this
    rw [List.length_append, List.length_append, List.length_singleton]
    omega
  simp only [Option.elim, e]
  have e2 : hl.length + 1 = (hl ++ [49]).length := by simp
  rw [e2, List.drop_left, List.take_of_length_le]
  rw [List.length_append]; omega
theorem tx_hrp {hl ct : List Nat} {i : Int} (h : i = (hl.length : Int)) : Txt.slice (sN (hl ++ [49] ++ ct)) none (some i) = sN hl := by
  subst h
  rw [slice_sN]
  have e : clipAt (hl ++ [49] ++ ct).length (hl.length : Int) = hl.length := by
    have := clipAt_cast (hl ++ [49] ++ ct).length (hl.length : Int)
    rw [if_neg (by omega), List.length_append, List.length_append, List.length_singleton] at this
    rw [List.length_append, List.length_append, List.length_singleton]
    omega
  simp only [Option.elim, e, List.drop_zero, Nat.sub_zero]
  rw [List.append_assoc, List.take_left]
theorem comb_cst {M : Nat} {hl ds : List Nat} (hdb : ∀ x ∈ ds, x < 32) {c : Nat} (h : c ∈ combT M hl ds) : ∃ d, d < 32 ∧ c = cstN d ∧ d ∈ ds ++ createN M hl ds := by
  rw [combT_def] at h
  obtain ⟨d, hd, rfl⟩ := List.mem_map.mp h
  refine ⟨d, ?_, rfl, hd⟩
  rcases List.mem_append.mp hd with h | h
  · exact hdb d h
  · exact createN_lt _ _ _ d h
theorem find_map {M : Nat} {hl ds : List Nat} (hdb : ∀ x ∈ ds, x < 32) : (combT M hl ds).map (fun c => (Txt.find (Str.ofString "qpzry9x8gf2tvdw0s3jn54khce6mua7l") ⟨#[c]⟩ : Int)) = nI (ds ++ createN M hl ds) := by
  rw [combT_def, List.map_map, nI]
  refine List.map_congr_left fun d hd => find_cst d ?_
  rcases List.mem_append.mp hd with h | h
  · exact hdb d h
  · exact createN_lt _ _ _ d h
theorem comb_asc {M : Nat} {hl ds : List Nat} (hdb : ∀ x ∈ ds, x < 32) : ∀ c ∈ combT M hl ds, c < 128 := fun c hc => by
  obtain ⟨d, hd, rfl, _⟩ := comb_cst hdb hc
  have := cst_sign d hd
  omega
theorem ne_self {A : Around} {E : Value → Shared → Prop} {s : Shared} {x : Str} {t u : Tok} {Q : Value → Shared → Prop} (h : Q (.bool false) s) : wpAny (model prog w) A (compareOp .NotEq (.str x t) (.str x u)) Q E s := PyProof.Rows.ne_str (by rw [bne_self_eq_false]; exact h)
local macro_rules | `(tactic| walk_at "compareOp NotEq str str") => `(tactic| with_reducible refine ne_self ?_)
abbrev cB : Addr := 174
abbrev pB : Addr := 172
theorem codeHd {h : Heap} (X : (hd.heap_39 w.params).In h) : CodeHd h 174 172 :=
  ⟨⟨_, _, _, _, _, _, _, _, _, X 174 _ (by k_is), rfl, rfl, rfl, rfl, rfl, rfl, rfl⟩, by decide⟩
abbrev RetG (h₀ : Heap) (L : Addr) (m : Str → Option Value) (news : Led) (s : Shared) (Q : Value → Shared → Prop) (R : Value → Led → Prop) : Prop :=
  ∀ (v : Value) (tl : Led) (s' : Shared) (h' : Heap) (tk' : Nat) (ps' : Array Value), R v tl → Fr h₀ L h' m → News h₀ L h' (tl ++ (172, tabO ps') :: news) → TriplesOk ps'.toList → AllBare s'.gens → s'.os = s.os → (∀ x ∈ tl, ∀ q ∈ (172, tabO ps') :: news, q.1 < x.1) → Q v { s' with heap := h', toks := tk' }
/-- as Says, of a call that may read a generator: the code table is a letter of the ledger, the generators' list another one -/
def SaysG (prog : Program) (w : World) (p : Program) (loose : List Str) (mean : ExcName → Option Value) (mg mb : Str → Option Value)
    (D U : Nat) (f : Addr) (vs : List Value) (pre : Heap → Led → Prop) (R : Value → Led → Prop) : Prop :=
  ∀ (dp un : Nat) (gd : Option (List Code)) (cn : Str) (cs : Scope) (a : Addr) (ccd : Value) (cl : List (Str × Addr)) (outer : List Env) (A₀ : Around)
    (base h₀ : Heap) (L : Addr) (m : Str → Option Value) (news : Led) (s : Shared) (ps : Array Value) (Q E : Value → Shared → Prop),
    Below A₀ base outer h₀ → Fr h₀ L s.heap m → (hd.heap_39 w.params).In h₀ → News h₀ L s.heap ((172, tabO ps) :: news) → Top p loose mean mg mb h₀ → cs.kind = .function →
    TriplesOk ps.toList → AllBare s.gens → (∀ q ∈ news, q.1 ≠ 172) →
    pre base news → dp + D < recursionLimit → un + U < cLine → RetG h₀ L m news s Q R →
    wpAny (model prog w) (ktrTop dp un gd cn cs L a ccd cl outer) (call (.ref f) vs) Q E s

theorem rg_str {h₀ : Heap} {L : Addr} {m : Str → Option Value} {news : Led} {s : Shared} {Q : Value → Shared → Prop} {x : Str} (k : ∀ (t : Tok) (s' : Shared) (h' : Heap) (tk' : Nat) (ps' : Array Value), Fr h₀ L h' m → News h₀ L h' ((172, tabO ps') :: news) → TriplesOk ps'.toList → AllBare s'.gens → s'.os = s.os → Q (.str x t) { s' with heap := h', toks := tk' }) : RetG h₀ L m news s Q (RStr x) := by
  rintro v tl s' h' tk' ps' ⟨rfl, t, rfl⟩ F N a b c l
  exact k t s' h' tk' ps' F N a b c
def RDec (e : Int) (hl ds : List Nat) (v : Value) (tl : Led) : Prop := ∃ T D ws k t u, v = .ref T ∧ tl = [(T, { cls := .type "tuple", data := .seq #[.int e t, .str (sN hl) u, .ref D] }), (D, listOf (List.toArray ws) k)] ∧ IntsAre ws (nI ds)
theorem rg_dec {h₀ : Heap} {L : Addr} {m : Str → Option Value} {news : Led} {s : Shared} {Q : Value → Shared → Prop} {e : Int} {hl ds : List Nat} (k : ∀ (T D : Addr) (ws : List Value) (c : Nat) (t u : Tok) (s' : Shared) (h' : Heap) (tk' : Nat) (ps' : Array Value), IntsAre ws (nI ds) → Fr h₀ L h' m → News h₀ L h' ((T, { cls := .type "tuple", data := .seq #[.int e t, .str (sN hl) u, .ref D] }) :: (D, listOf (List.toArray ws) c) :: (172, tabO ps') :: news) → TriplesOk ps'.toList → AllBare s'.gens → s'.os = s.os → (∀ q ∈ (172, tabO ps') :: news, q.1 < T) → (∀ q ∈ (172, tabO ps') :: news, q.1 < D) → Q (.ref T) { s' with heap := h', toks := tk' }) : RetG h₀ L m news s Q (RDec e hl ds) := by
  rintro v tl s' h' tk' ps' ⟨T, D, ws, c, t, u, rfl, rfl, hi⟩ F N a b c9 l
  exact k T D ws c t u s' h' tk' ps' hi F N a b c9 (l _ (.head _)) (l _ (.tail _ (.head _)))
theorem cut_six (M : Nat) (hl ds : List Nat) : List.take ((nI (ds ++ createN M hl ds)).length - 6) (nI (ds ++ createN M hl ds)) = nI ds := by
  rw [nI_length, List.length_append, createN_length, nI_take, Nat.add_sub_cancel, List.take_left]
theorem two_above {a b : Addr} {oa ob oP : Obj} {news : Led} (ha : ∀ q ∈ (172, oP) :: news, q.1 < a) (hb : ∀ q ∈ (172, oP) :: news, q.1 < b) : ∀ x ∈ [(a, oa), (b, ob)], ∀ q ∈ (172, oP) :: news, q.1 < x.1 := by
  intro x hx q hq
  rcases List.mem_cons.mp hx with rfl | hx
  · exact ha q hq
  · rw [List.mem_singleton.mp hx]; exact hb q hq
theorem tab_lt {d : Addr} {oP : Obj} {news : Led} (h : 172 < d ∧ AllLt d news) : ∀ q ∈ (172, oP) :: news, q.1 < d := by
  intro q hq
  rcases List.mem_cons.mp hq with rfl | hq
  · exact h.1
  · exact ktn_ltOf h.2 q hq
set_option maxHeartbeats 4000000 in
theorem c_b32dec (M : Nat) (hl ds : List Nat) (e : Int) (u : Tok) : SaysG prog w p loose mean mg mb 80 600 175 [.str (sN (hl ++ [49] ++ combT M hl ds)) u] (fun _ _ => ((e = 2 ∧ M = 734539939) ∨ (e = 1 ∧ M = 1)) ∧ 0 < hl.length ∧ hl.length ≤ 10 ∧ (∀ c ∈ hl, 97 ≤ c ∧ c < 123) ∧ ds.length ≤ 70 ∧ ∀ x ∈ ds, x < 32) (RDec e hl ds) := by
  unfold SaysG
  intro dp un gd cn cs a ccd cl outer A₀ base h₀ L m news s ps Q E B F X N T hk hps hgens hnp hpre hdp hu hret
  obtain ⟨he, hm0, hm, hi, hds, hdb⟩ := hpre
  refine wpAny_call ?_
  w_strict (k_dflt cell_enter)
  refine PySem.wpAny_noRaise ?_
  k_with_none
  have hMk := kstMark
  repeat (fail_if_success (with_reducible show wpAny _ _ (eval (Expr.GeneratorExp _ _ _ _) _) _ _ _)); first | (k_unfold; (try dsimp only)) | walk1 | (dsimp only; walk1)

  have hCd := codeHd (by with_reducible assumption : (hd.heap_39 w.params).In _)
  obtain ⟨bm, ob, hBM⟩ := bmod_of_top (by with_reducible assumption : Top _ _ _ _ _ _)
  with_reducible rename Fr _ _ _ _ => hFr
  with_reducible rename News _ _ _ _ => hNw
  have hTx := tx_in (M := M) hi hdb
  have hTl := tx_len M hl ds
  have hRf := tx_rfind (M := M) (hl := hl) hdb
  refine gen_text (q := fun _ => false) hFr hCd (hNw (172, tabO ps) (.head _)).2.2 hBM (Top.nolimit (by k_asm)) hnp rfl hps rfl rfl rfl (by decide) rfl rfl rfl (by ktr_room) ?_ (by intro _; rfl)
  k_steps
  refine ⟨hl ++ [49] ++ combT M hl ds, u, rfl, by k_asm, by k_asm, hgens, ?_, ?_⟩
  · intro code C' A' E' cc tk u' m₂ hA hD hU hcc hFu hmx hLC
    have hc3 := hTx cc hcc
    clear hD hU hA
    k_steps
    · rw [decide_eq_false (by omega)]
    · exact ⟨_, _, rfl, fun _ _ e => e⟩
  intro K5 a5 s5 ps5 ht5 F5 N5 G5 ho5 hLK hPK hnK hKa X5
  (try clear hFr)
  (try clear hNw)
  repeat (fail_if_success (with_reducible show wpAny _ _ (call (Value.builtin "any") [Value.ref _]) _ _ _)); first | (k_unfold; (try dsimp only)) | walk1 | (dsimp only; walk1)

  refine any_bits F5 N5 (fun q hq => by rcases List.mem_cons.mp hq with rfl | hq; exact hPK; exact hnK q hq) hLK G5 X5 ?_
  clear F5 N5 G5 X5 hLK hPK hnK hKa
  intro s6 F6 N6 G6 ho6
  replace ho6 := ho6.trans ho5
  clear ho5
  have e6 : (hl ++ [49] ++ combT M hl ds).any (fun _ => false) = false := by rw [List.any_eq_false]; exact fun _ _ => Bool.false_ne_true
  rw [e6]
  repeat (fail_if_success (with_reducible show wpAny _ _ (eval (Expr.GeneratorExp _ _ _ _) _) _ _ _)); first | (k_unfold; (try dsimp only)) | walk1 | (dsimp only; walk1)

  with_reducible rename Fr _ _ _ _ => hFr
  with_reducible rename News _ _ _ _ => hNw
  refine gen_text (q := fun _ => true) hFr hCd (hNw (172, tabO ps5) (.head _)).2.2 hBM (Top.nolimit (by k_asm)) hnp rfl ht5 rfl rfl rfl (by decide) rfl rfl rfl (by ktr_room) ?_ (by intro _; rfl)
  k_steps
  rw [tx_cut hRf]
  refine ⟨combT M hl ds, _, rfl, by k_asm, by k_asm, G6, ?_, ?_⟩
  · intro code C' A' E' cc tk u' m₂ hA hD hU hcc hFu hmx hLC
    obtain ⟨d, hd32, hce, _⟩ := comb_cst hdb hcc
    clear hD hU hA
    k_steps
    · rw [hce, in_cst d hd32]
    · exact ⟨_, _, rfl, fun _ _ e => e⟩
  intro K7 a7 s7 ps7 ht7 F7 N7 G7 ho7 hLK hPK hnK hKa X7
  (try clear hFr)
  (try clear hNw)
  repeat (fail_if_success (with_reducible show wpAny _ _ (call (Value.builtin "all") [Value.ref _]) _ _ _)); first | (k_unfold; (try dsimp only)) | walk1 | (dsimp only; walk1)

  refine all_bits F7 N7 (fun q hq => by rcases List.mem_cons.mp hq with rfl | hq; exact hPK; exact hnK q hq) hLK G7 X7 ?_
  clear F7 N7 G7 X7 hLK hPK hnK hKa
  intro s8 F8 N8 G8 ho8
  replace ho8 := (ho8.trans ho7).trans ho6
  clear ho7 ho6
  have e8 : (combT M hl ds).all (fun _ => true) = true := by rw [List.all_eq_true]; exact fun _ _ => rfl
  rw [e8]
  repeat (fail_if_success (with_reducible show wpAny _ _ (exec (Stmt.Assign _ (Expr.ListComp _ _ _ _) _) _) _ _ _)); first | (k_unfold; (try dsimp only)) | walk1 | (dsimp only; walk1)

  k_dflt (refine comp_text_assign (_F₀ := by k_asm) rfl (by with_unfolding_all rfl) (by with_unfolding_all rfl) (by decide) (by rfl) (by decide) (by rfl) (by rfl) (by rfl) ?_)
  k_steps
  rw [tx_cut hRf]
  refine ⟨_, _, _, rfl, by rfl, by k_asm, by k_asm, asc_of (comb_asc hdb), (by rw [sizeLine_eq]; show (sN (combT M hl ds)).length ≤ _; rw [sN_length, combT_def, List.length_map, List.length_append, createN_length]; omega), fun g' => text_rest (combT M hl ds) (fun c => (Txt.find (Str.ofString "qpzry9x8gf2tvdw0s3jn54khce6mua7l") ⟨#[c]⟩ : Int)) (fun c' t' I' oI' C' oC' D' m' ys' h' tk' E' hm' hC' hx' F' N' off' ne' hMark' => ?_) (fun ys' hys' => ?_)⟩
  · k_steps
  · rw [find_map hdb] at hys'
    intro D1 h1 tk1 F1 N1 off1
    repeat (fail_if_success (with_reducible show wpAny _ _ (call (Value.ref 160) _) _ _ _)); first | (k_unfold; (try dsimp only)) | walk1 | (dsimp only; walk1)

    rw [tx_hrp hRf]
    refine Says.go (c_verify M hl (ds ++ createN M hl ds) e _ _ _ _) ⟨he, hm, fun c hc => by have := hi c hc; omega, List.Mem.head _, hys', by rw [List.length_append, createN_length]; omega, fun x hx => by rcases List.mem_append.mp hx with h | h; exact hdb x h; exact createN_lt _ _ _ x h, poly_check (by rcases he with h | h <;> rw [h.2] <;> decide) hl ds⟩ ?_
    first | refine rt_str ?_ | refine rt_int ?_
    intro t9 h9 tk9 F9 N9
    have hNl : (nI (ds ++ createN M hl ds)).length = ds.length + 6 := by rw [nI_length, List.length_append, createN_length]
    k_steps
    with_reducible rename News _ _ _ _ => kN9
    with_reducible rename (_ ∧ _ ∧ _ ∧ AllLt _ _) => lA
    with_reducible rename (_ ∧ _ ∧ AllLt _ _) => lB
    with_reducible rename IntsAre _ (List.take _ _) => hI9
    dsimp only at kN9
    rw [tx_hrp hRf] at kN9
    rw [cut_six] at hI9
    exact hret _ _ s8 _ _ ps7 ⟨_, _, _, _, _, _, rfl, rfl, hI9⟩ (by k_asm) (fun q hq => kN9 q (by
      rcases List.mem_cons.mp hq with rfl | hq
      · exact .head _
      · rcases List.mem_cons.mp hq with rfl | hq
        · exact .tail _ (.head _)
        · exact .tail _ (.tail _ (.tail _ hq)))) ht7 G8 ho8 (two_above (tab_lt lA.2.2) (tab_lt lB.2))
end

section
open PySem PySem.W PySem.Calls PyProof.Rows
set_option maxRecDepth 100000
variable {prog : Program} {w : World} {p : Program} {loose : List Str} {mean : ExcName → Option Value} {mg mb : Str → Option Value}

theorem fill17 : PySem.Challenge.rw_bd0008_01 = PySem.Challenge.rw_bd0008_01 ∧ hd.heap_39 = hd.heap_39 := by
  w_on
  k_fill
  exact ⟨rfl, rfl⟩



theorem SaysG.go {D U : Nat} {f : Addr} {vs : List Value} {pre : Heap → Led → Prop} {R : Value → Led → Prop} {dp un : Nat} {gd : Option (List Code)} {cn : Str} {cs : Scope} {a : Addr} {ccd : Value} {cl : List (Str × Addr)} {outer : List Env} {A₀ : Around}
    {base h₀ : Heap} {L : Addr} {m : Str → Option Value} {news : Led} {s : Shared} {ps : Array Value} {Q E : Value → Shared → Prop} (C : SaysG prog w p loose mean mg mb D U f vs pre R)
    (hp : pre base news) (ret : RetG h₀ L m news s Q R) (N : News h₀ L s.heap ((172, tabO ps) :: news)) (hps : TriplesOk ps.toList) (hg : AllBare s.gens) (hnp : ∀ q ∈ news, q.1 ≠ 172)
    (B : Below A₀ base outer h₀ := by k_asm) (F : Fr h₀ L s.heap m := by k_asm) (X : (hd.heap_39 w.params).In h₀ := by k_asm) (T : Top p loose mean mg mb h₀ := by k_asm)
    (hk : cs.kind = .function := by first | exact rfl | assumption) (hdp : dp + D < recursionLimit := by ktr_room) (hu : un + U < cLine := by ktr_units) :
    wpAny (model prog w) (ktrTop dp un gd cn cs L a ccd cl outer) (call (.ref f) vs) Q E s := C dp un gd cn cs a ccd cl outer A₀ base h₀ L m news s ps Q E B F X N T hk hps hg hnp hp hdp hu ret
local macro_rules | `(tactic| walk_at "compareOp NotEq str str") => `(tactic| with_reducible refine ne_self ?_)
theorem five_ver_lt {l : List Nat} {v : Nat} (hv : v ≤ 1) : ∀ x ∈ v :: fiveN l, x < 32 := by
  intro x hx
  rcases List.mem_cons.mp hx with rfl | hx
  · omega
  · exact fiveN_lt l x hx
def RPair (v0 : Int) (l : List Nat) (v : Value) (tl : Led) : Prop := ∃ T D ws k t, v = .ref T ∧ tl = [(T, { cls := .type "tuple", data := .seq #[.int v0 t, .ref D] }), (D, listOf (List.toArray ws) k)] ∧ IntsAre ws (nI l)
theorem rg_pair {h₀ : Heap} {L : Addr} {m : Str → Option Value} {news : Led} {s : Shared} {Q : Value → Shared → Prop} {v0 : Int} {l : List Nat} (k : ∀ (T D : Addr) (ws : List Value) (c : Nat) (t : Tok) (s' : Shared) (h' : Heap) (tk' : Nat) (ps' : Array Value), IntsAre ws (nI l) → Fr h₀ L h' m → News h₀ L h' ((T, { cls := .type "tuple", data := .seq #[.int v0 t, .ref D] }) :: (D, listOf (List.toArray ws) c) :: (172, tabO ps') :: news) → TriplesOk ps'.toList → AllBare s'.gens → s'.os = s.os → (∀ q ∈ (172, tabO ps') :: news, q.1 < T) → (∀ q ∈ (172, tabO ps') :: news, q.1 < D) → Q (.ref T) { s' with heap := h', toks := tk' }) : RetG h₀ L m news s Q (RPair v0 l) := by
  rintro v tl s' h' tk' ps' ⟨T, D, ws, c, t, rfl, rfl, hi⟩ F N a b c9 l
  exact k T D ws c t s' h' tk' ps' hi F N a b c9 (l _ (.head _)) (l _ (.tail _ (.head _)))
theorem bech_M {v : Nat} {M : Nat} (h : (v = 0 ∧ M = 1) ∨ (v = 1 ∧ M = 734539939)) : ∃ e : Int, (((v : Int) = 0 ∧ e = 1) ∨ ((v : Int) = 1 ∧ e = 2)) ∧ ((e = 2 ∧ M = 734539939) ∨ (e = 1 ∧ M = 1)) := by
  rcases h with ⟨rfl, rfl⟩ | ⟨rfl, rfl⟩
  · exact ⟨1, .inl ⟨rfl, rfl⟩, .inr ⟨rfl, rfl⟩⟩
  · exact ⟨2, .inr ⟨rfl, rfl⟩, .inl ⟨rfl, rfl⟩⟩

set_option maxHeartbeats 4000000 in
theorem c_dec (v0 M : Nat) (hl l : List Nat) (u1 u2 : Tok) : SaysG prog w p loose mean mg mb 120 900 190 [.str (sN hl) u1, .str (sN (hl ++ [49] ++ combT M hl (v0 :: fiveN l))) u2] (fun _ _ => ((v0 = 0 ∧ M = 1) ∨ (v0 = 1 ∧ M = 734539939)) ∧ 0 < hl.length ∧ hl.length ≤ 10 ∧ (∀ c ∈ hl, 97 ≤ c ∧ c < 123) ∧ (l.length = 20 ∨ l.length = 32) ∧ ∀ x ∈ l, x < 256) (RPair (v0 : Int) l) := by
  unfold SaysG
  intro dp un gd cn cs a ccd cl outer A₀ base h₀ L m news s ps Q E B F X N T hk hps hgens hnp hpre hdp hu hret
  obtain ⟨hv, hm0, hm, hi, hl2, hlb⟩ := hpre
  have hfl := fiveN_length hl2
  have hv1 : v0 ≤ 1 := by omega
  have hz : (nI (fiveN l)).length ≤ 60 := by rw [nI_length, hfl]; split <;> decide
  have hzl : (nI l).length ≤ 40 := by rw [nI_length]; omega
  have hzl2 : 2 ≤ (nI l).length := by rw [nI_length]; omega
  obtain ⟨e, hE, hM⟩ := bech_M hv
  have hg0 : ((v0 : Int) :: nI (fiveN l)).getD (Int.toNat 0) 0 = (v0 : Int) := rfl
  have hln : (nI l).length = l.length := nI_length l
  refine wpAny_call ?_
  w_strict (k_dflt cell_enter)
  refine PySem.wpAny_noRaise ?_
  k_with_none
  have hMk := kstMark
  repeat (fail_if_success (with_reducible show wpAny _ _ (call (Value.ref 175) _) _ _ _)); first | (k_unfold; (try dsimp only)) | walk1 | (dsimp only; walk1)

  with_reducible rename News _ _ _ _ => hNw
  refine SaysG.go (c_b32dec M hl (v0 :: fiveN l) e _) ⟨hM, hm0, hm, hi, by rw [List.length_cons, hfl]; split <;> decide, five_ver_lt hv1⟩ ?_ hNw hps hgens hnp
  refine rg_dec ?_
  intro T9 D9 ws9 k9 t9 u9 s9 h9 tk9 ps9 hI9 F9 N9 hps9 hgens9 hos9 l9x l9d
  clear hNw
  replace hI9 : IntsAre ws9 ((v0 : Int) :: nI (fiveN l)) := hI9
  repeat (fail_if_success (with_reducible show wpAny _ _ (call (Value.ref 183) _) _ _ _)); first | (k_unfold; (try dsimp only)) | walk1 | (dsimp only; walk1)

  with_reducible rename IntsAre _ (List.drop _ _) => hI7
  refine Says.go (c_cv58 l _ _ 0 _ _) ⟨List.Mem.head _, hI7, hl2, hlb⟩ ?_
  refine rt_list ?_
  intro D8 vs8 k8 h8 tk8 hI8 F8 N8 l8
  (try simp only [AllLt, and_true] at l8)
  (try dsimp only)
  (try k_fold)
  clear hv hM hnp
  have hfin : ∀ (s8 : Shared) (h' : Heap) (tk' : Nat) (T8 D8' : Addr) (ws : List Value) (k : Nat) (t : Tok) (nw : Led), True := fun _ _ _ _ _ _ _ _ _ => trivial
  clear hfin
  have dA : v0 = 0 → (((v0 : Int) :: nI (fiveN l)).getD (Int.toNat 0) 0 == 0) = true := fun h => by rw [hg0, h]; rfl
  have dB : v0 = 0 → ¬ (((v0 : Int) :: nI (fiveN l)).getD (Int.toNat 0) 0 != 0) = true := fun h => by rw [hg0, h]; decide
  have dC : v0 = 1 → ¬ (((v0 : Int) :: nI (fiveN l)).getD (Int.toNat 0) 0 == 0) = true := fun h => by rw [hg0, h]; decide
  have dD : v0 = 1 → (((v0 : Int) :: nI (fiveN l)).getD (Int.toNat 0) 0 != 0) = true := fun h => by rw [hg0, h]; decide
  have dE : l.length = 20 → ¬ (((nI l).length : Int) != 20) = true := fun h => by rw [hln, h]; decide
  have dF : l.length = 32 → (((nI l).length : Int) != 20) = true := fun h => by rw [hln, h]; decide
  have dG : l.length = 32 → ¬ (((nI l).length : Int) != 32) = true := fun h => by rw [hln, h]; decide
  clear hln
  rcases hE with ⟨hv0, he⟩ | ⟨hv0, he⟩
  · have gA := dA (by omega)
    have gB := dB (by omega)
    clear dA dB dC dD
    subst he
    rcases hl2 with h20 | h20
    · have gE := dE h20
      clear dE dF dG
      k_steps
      with_reducible rename News _ _ _ _ => kN9
      with_reducible rename (_ ∧ _ ∧ _ ∧ _ ∧ _ ∧ AllLt _ _) => lA
      dsimp only at kN9
      exact hret _ _ s9 _ _ ps9 ⟨_, D8, _, _, _, rfl, rfl, hI8⟩ (by k_asm) (fun q hq => kN9 q (by
        rcases List.mem_cons.mp hq with rfl | hq
        · exact .head _
        · rcases List.mem_cons.mp hq with rfl | hq
          · exact .tail _ (.head _)
          · exact .tail _ (.tail _ (.tail _ (.tail _ (.tail _ hq)))))) hps9 hgens9 hos9 (two_above (tab_lt lA.2.2.2.2) (tab_lt l8.2.2.2))
    · have gF := dF h20
      have gG := dG h20
      clear dE dF dG
      k_steps
      with_reducible rename News _ _ _ _ => kN9
      with_reducible rename (_ ∧ _ ∧ _ ∧ _ ∧ _ ∧ AllLt _ _) => lA
      dsimp only at kN9
      exact hret _ _ s9 _ _ ps9 ⟨_, D8, _, _, _, rfl, rfl, hI8⟩ (by k_asm) (fun q hq => kN9 q (by
        rcases List.mem_cons.mp hq with rfl | hq
        · exact .head _
        · rcases List.mem_cons.mp hq with rfl | hq
          · exact .tail _ (.head _)
          · exact .tail _ (.tail _ (.tail _ (.tail _ (.tail _ hq)))))) hps9 hgens9 hos9 (two_above (tab_lt lA.2.2.2.2) (tab_lt l8.2.2.2))
  · have gC := dC (by omega)
    have gD := dD (by omega)
    clear dA dB dC dD dE dF dG
    subst he
    k_steps
    with_reducible rename News _ _ _ _ => kN9
    with_reducible rename (_ ∧ _ ∧ _ ∧ _ ∧ _ ∧ AllLt _ _) => lA
    dsimp only at kN9
    exact hret _ _ s9 _ _ ps9 ⟨_, D8, _, _, _, rfl, rfl, hI8⟩ (by k_asm) (fun q hq => kN9 q (by
      rcases List.mem_cons.mp hq with rfl | hq
      · exact .head _
      · rcases List.mem_cons.mp hq with rfl | hq
        · exact .tail _ (.head _)
        · exact .tail _ (.tail _ (.tail _ (.tail _ (.tail _ hq)))))) hps9 hgens9 hos9 (two_above (tab_lt lA.2.2.2.2) (tab_lt l8.2.2.2))
end

section
open PySem PySem.W PySem.Calls PyProof.Rows
set_option maxRecDepth 100000
variable {prog : Program} {w : World} {p : Program} {loose : List Str} {mean : ExcName → Option Value} {mg mb : Str → Option Value}

theorem fill18 : PySem.Challenge.rw_bd0008_01 = PySem.Challenge.rw_bd0008_01 ∧ hd.heap_39 = hd.heap_39 := by
  w_on
  k_fill
  exact ⟨rfl, rfl⟩



theorem news_pull {h₀ h : Heap} {L : Addr} {x : Addr × Obj} (pre : Led) {post : Led} (N : News h₀ L h (pre ++ x :: post)) : News h₀ L h (x :: (pre ++ post)) := fun p hp => N p (by
  rcases List.mem_cons.mp hp with rfl | hp
  · exact List.mem_append.mpr (.inr (.head _))
  · rcases List.mem_append.mp hp with h | h
    · exact List.mem_append.mpr (.inl h)
    · exact List.mem_append.mpr (.inr (.tail _ h)))
theorem np_cons {a : Addr} {o : Obj} {news : Led} (h : 172 < a) (hn : ∀ q ∈ news, q.1 ≠ 172) : ∀ q ∈ (a, o) :: news, q.1 ≠ 172 := by
  intro q hq
  rcases List.mem_cons.mp hq with rfl | hq
  · exact Nat.ne_of_gt h
  · exact hn q hq
set_option maxHeartbeats 4000000 in
theorem c_enc (v0 M : Nat) (hl l : List Nat) (b : Array UInt8) (u1 u2 u3 : Tok) : SaysG prog w p loose mean mg mb 160 1300 197 [.str (sN hl) u1, .int (v0 : Int) u2, .bytes b u3] (fun _ _ => ((v0 = 0 ∧ M = 1) ∨ (v0 = 1 ∧ M = 734539939)) ∧ 0 < hl.length ∧ hl.length ≤ 10 ∧ (∀ c ∈ hl, 97 ≤ c ∧ c < 123) ∧ KBw.bInts b = nI l ∧ (l.length = 20 ∨ l.length = 32) ∧ ∀ x ∈ l, x < 256) (RStr (sN (hl ++ [49] ++ combT M hl (v0 :: fiveN l)))) := by
  unfold SaysG
  intro dp un gd cn cs a ccd cl outer A₀ base h₀ L m news s ps Q E B F X N T hk hps hgens hnp hpre hdp hu hret
  obtain ⟨hv, hm0, hm, hi, hb, hl2, hlb⟩ := hpre
  have hfl := fiveN_length hl2
  have hv1 : v0 ≤ 1 := by omega
  have hz : (nI (fiveN l)).length ≤ 60 := by rw [nI_length, hfl]; split <;> decide
  obtain ⟨e, hE, hM⟩ := bech_M hv
  refine wpAny_call ?_
  w_strict (k_dflt cell_enter)
  refine PySem.wpAny_noRaise ?_
  k_with_none
  have hMk := kstMark
  rcases hE with ⟨hv0, he⟩ | ⟨hv0, he⟩
  · have gA : ((v0 : Int) == 0) = true := by rw [hv0]; rfl
    subst he
    repeat (fail_if_success (with_reducible show wpAny _ _ (call (Value.ref 183) _) _ _ _)); first | (k_unfold; (try dsimp only)) | walk1 | (dsimp only; walk1)
    refine Says.go (c_cv85 l _ _ _ _) ⟨hb, hl2, hlb⟩ ?_
    refine rt_list ?_
    intro D8 vs8 k8 h8 tk8 hI8 F8 N8 l8
    (try simp only [AllLt, and_true] at l8)
    (try dsimp only)
    (try k_fold)
    repeat (fail_if_success (with_reducible show wpAny _ _ (call (Value.ref 170) _) _ _ _)); first | (k_unfold; (try dsimp only)) | walk1 | (dsimp only; walk1)
    with_reducible rename IntsAre _ (_ ++ _) => hI7
    refine Says.go (c_b32enc M hl (v0 :: fiveN l) _ _ _ _ _ 0) ⟨hM, hm, fun c hc => by have := hi c hc; omega, List.Mem.head _, hI7, by rw [List.length_cons, hfl]; split <;> decide, five_ver_lt hv1⟩ ?_
    first | refine rt_str ?_ | refine rt_int ?_
    intro t9 h9 tk9 F9 N9
    repeat (fail_if_success (with_reducible show wpAny _ _ (call (Value.ref 190) _) _ _ _)); first | (k_unfold; (try dsimp only)) | walk1 | (dsimp only; walk1)
    with_reducible rename News _ _ _ _ => hNw
    replace hNw := news_pull [_, _, _] hNw
    dsimp only [List.nil_append, List.cons_append] at hNw
    with_reducible rename (_ ∧ _ ∧ _ ∧ AllLt _ _) => lA
    refine SaysG.go (c_dec v0 M hl l _ _) ⟨hv, hm0, hm, hi, hl2, hlb⟩ ?_ hNw hps hgens (np_cons lA.2.2.1 (np_cons l8.2.1 (np_cons (by with_reducible rename (172 < _ ∧ AllLt _ _) => lC; exact lC.1) hnp)))
    refine rg_pair ?_
    intro T6 D6 ws6 k6 t6 s6 h6 tk6 ps6 hI6 F6 N6 hps6 hgens6 hos6 l6x l6d
    clear hNw
    k_steps
    with_reducible rename News _ _ _ _ => kN9
    dsimp only at kN9
    exact hret _ [] s6 _ _ ps6 ⟨rfl, t9, rfl⟩ (by k_asm) (fun q hq => kN9 q (by
      rcases List.mem_cons.mp hq with rfl | hq
      · repeat (first | exact List.Mem.head _ | refine List.Mem.tail _ ?_)
      · repeat (first | exact hq | refine List.Mem.tail _ ?_))) hps6 hgens6 hos6 (fun _ hx => nomatch hx)
  · have gA : ¬ ((v0 : Int) == 0) = true := by rw [hv0]; decide
    subst he
    repeat (fail_if_success (with_reducible show wpAny _ _ (call (Value.ref 183) _) _ _ _)); first | (k_unfold; (try dsimp only)) | walk1 | (dsimp only; walk1)
    refine Says.go (c_cv85 l _ _ _ _) ⟨hb, hl2, hlb⟩ ?_
    refine rt_list ?_
    intro D8 vs8 k8 h8 tk8 hI8 F8 N8 l8
    (try simp only [AllLt, and_true] at l8)
    (try dsimp only)
    (try k_fold)
    repeat (fail_if_success (with_reducible show wpAny _ _ (call (Value.ref 170) _) _ _ _)); first | (k_unfold; (try dsimp only)) | walk1 | (dsimp only; walk1)
    with_reducible rename IntsAre _ (_ ++ _) => hI7
    refine Says.go (c_b32enc M hl (v0 :: fiveN l) _ _ _ _ _ 0) ⟨hM, hm, fun c hc => by have := hi c hc; omega, List.Mem.head _, hI7, by rw [List.length_cons, hfl]; split <;> decide, five_ver_lt hv1⟩ ?_
    first | refine rt_str ?_ | refine rt_int ?_
    intro t9 h9 tk9 F9 N9
    repeat (fail_if_success (with_reducible show wpAny _ _ (call (Value.ref 190) _) _ _ _)); first | (k_unfold; (try dsimp only)) | walk1 | (dsimp only; walk1)
    with_reducible rename News _ _ _ _ => hNw
    replace hNw := news_pull [_, _, _] hNw
    dsimp only [List.nil_append, List.cons_append] at hNw
    with_reducible rename (_ ∧ _ ∧ _ ∧ AllLt _ _) => lA
    refine SaysG.go (c_dec v0 M hl l _ _) ⟨hv, hm0, hm, hi, hl2, hlb⟩ ?_ hNw hps hgens (np_cons lA.2.2.1 (np_cons l8.2.1 (np_cons (by with_reducible rename (172 < _ ∧ AllLt _ _) => lC; exact lC.1) hnp)))
    refine rg_pair ?_
    intro T6 D6 ws6 k6 t6 s6 h6 tk6 ps6 hI6 F6 N6 hps6 hgens6 hos6 l6x l6d
    clear hNw
    k_steps
    with_reducible rename News _ _ _ _ => kN9
    dsimp only at kN9
    exact hret _ [] s6 _ _ ps6 ⟨rfl, t9, rfl⟩ (by k_asm) (fun q hq => kN9 q (by
      rcases List.mem_cons.mp hq with rfl | hq
      · repeat (first | exact List.Mem.head _ | refine List.Mem.tail _ ?_)
      · repeat (first | exact hq | refine List.Mem.tail _ ?_))) hps6 hgens6 hos6 (fun _ hx => nomatch hx)
end

section
open PySem PySem.W PySem.Calls PyProof.Rows
set_option maxRecDepth 100000

/-! the kinds of a script -/
def kind0 (l : List Nat) : Nat :=
  if l.length = 25 ∧ l.take 3 = [118, 169, 20] ∧ l.drop 23 = [136, 172] then 0
  else if l.length = 23 ∧ l.take 2 = [169, 20] ∧ l.drop 22 = [135] then 1
  else if l.length = 22 ∧ l.take 2 = [0, 20] then 2
  else if l.length = 34 ∧ l.take 2 = [0, 32] then 3
  else if l.length = 34 ∧ l.take 2 = [81, 32] then 4 else 5
noncomputable def kindN : List Nat → Nat := Classical.choose (sealedT kind0)
theorem kindN_def (l : List Nat) : kindN l = kind0 l := congrFun (Classical.choose_spec (sealedT kind0)) l
theorem kind25 {l : List Nat} (h : l.length = 25) : kindN l = if l.take 3 = [118, 169, 20] ∧ l.drop 23 = [136, 172] then 0 else 5 := by
  rw [kindN_def]; unfold kind0; simp [h]
theorem kind23 {l : List Nat} (h : l.length = 23) : kindN l = if l.take 2 = [169, 20] ∧ l.drop 22 = [135] then 1 else 5 := by
  rw [kindN_def]; unfold kind0; simp [h]
theorem kind22 {l : List Nat} (h : l.length = 22) : kindN l = if l.take 2 = [0, 20] then 2 else 5 := by
  rw [kindN_def]; unfold kind0; simp [h]
theorem kind34 {l : List Nat} (h : l.length = 34) : kindN l = if l.take 2 = [0, 32] then 3 else if l.take 2 = [81, 32] then 4 else 5 := by
  rw [kindN_def]; unfold kind0; simp [h]
theorem kindX {l : List Nat} (h1 : l.length ≠ 25) (h2 : l.length ≠ 23) (h3 : l.length ≠ 22) (h4 : l.length ≠ 34) : kindN l = 5 := by
  rw [kindN_def]; unfold kind0; simp [h1, h2, h3, h4]
theorem kind_le (l : List Nat) : kindN l ≤ 5 := by
  rw [kindN_def]; unfold kind0
  repeat (first | decide | split)
def kname (k : Nat) : Str := if k = 0 then Str.ofString "p2pkh" else if k = 1 then Str.ofString "p2sh" else if k = 2 then Str.ofString "p2wpkh" else if k = 3 then Str.ofString "p2wsh" else Str.ofString "p2tr"
theorem kind_len {l : List Nat} (h : kindN l < 5) : (kindN l = 0 ∧ l.length = 25 ∧ l.take 3 = [118, 169, 20] ∧ l.drop 23 = [136, 172]) ∨ (kindN l = 1 ∧ l.length = 23 ∧ l.take 2 = [169, 20] ∧ l.drop 22 = [135]) ∨ (kindN l = 2 ∧ l.length = 22 ∧ l.take 2 = [0, 20]) ∨ (kindN l = 3 ∧ l.length = 34 ∧ l.take 2 = [0, 32]) ∨ (kindN l = 4 ∧ l.length = 34 ∧ l.take 2 = [81, 32]) := by
  rw [kindN_def] at h ⊢
  unfold kind0 at h ⊢
  split at h
  · rename_i h0; simp [h0]
  · rename_i h0
    rw [if_neg h0]
    split at h
    · rename_i h1; simp [h1]
    · rename_i h1
      rw [if_neg h1]
      split at h
      · rename_i h2; simp [h2]
      · rename_i h2
        rw [if_neg h2]
        split at h
        · rename_i h3; simp [h3]
        · rename_i h3
          rw [if_neg h3]
          split at h
          · rename_i h4; simp [h4]
          · omega

/-! the networks -/
def pkN (k : Nat) : Nat := if k = 0 then 0 else 111
def shN (k : Nat) : Nat := if k = 0 then 5 else 196
def hrpN (k : Nat) : List Nat := if k = 0 then [98, 99] else if k = 2 then [98, 99, 114, 116] else [116, 98]
theorem hrp_facts (k : Nat) : 0 < (hrpN k).length ∧ (hrpN k).length ≤ 10 ∧ ∀ c ∈ hrpN k, 97 ≤ c ∧ c < 123 := by
  unfold hrpN
  split
  · decide
  · split <;> decide
end

section
local macro_rules | `(tactic| walk_at "isTrue BoolOp") => `(tactic| dsimp only)
local macro_rules | `(tactic| walk_at "isTrue Compare") => `(tactic| dsimp only)
local macro_rules | `(tactic| walk_at "truthy bool") => `(tactic| dsimp only)
local macro_rules | `(tactic| walk_at "ite") => `(tactic| dsimp only)

section
open PySem PySem.W PySem.Calls PyProof.Rows
set_option maxRecDepth 100000
variable {prog : Program} {w : World} {p : Program} {loose : List Str} {mean : ExcName → Option Value} {mg mb : Str → Option Value}

theorem fill19 : PySem.Challenge.rw_bd0008_01 = PySem.Challenge.rw_bd0008_01 ∧ hd.heap_39 = hd.heap_39 := by
  w_on
  k_fill
  exact ⟨rfl, rfl⟩



abbrev datD (P : Params) (tk : Tok) (v : Value) : Obj := dictOf [{ hash := PyData.keyHash P (Str.ofString "data"), key := .str (Str.ofString "data") tk, val := v }] 1
theorem cut_eq {x : Array UInt8} {m : List Nat} {ys : List UInt8} (hx : KBw.bInts x = nI m) : (x.toList == ys) = decide (m = ys.map UInt8.toNat) := by
  rw [Bool.eq_iff_iff, beq_iff_eq, decide_eq_true_eq]
  constructor
  · intro h; rw [← bInts_nat hx, h]
  · intro h
    have h2 := bInts_nat hx
    rw [h] at h2
    have inj : ∀ a b : List UInt8, a.map UInt8.toNat = b.map UInt8.toNat → a = b := by
      intro a
      induction a with
      | nil => intro b hb; cases b with | nil => rfl | cons _ _ => cases hb
      | cons c r ih =>
        intro b hb
        cases b with
        | nil => cases hb
        | cons d q =>
          have h1 := List.cons.inj hb
          rw [UInt8.toNat_inj.mp h1.1, ih q h1.2]
    exact inj _ _ h2

def kv (k : Nat) (v : Value) : Prop := (k < 5 ∧ ∃ t, v = .str (kname k) t) ∨ (k = 5 ∧ v = .none)
def RKind (k : Nat) (v : Value) (tl : Led) : Prop := tl = [] ∧ kv k v
theorem rt_kind {h₀ : Heap} {L : Addr} {m : Str → Option Value} {news : Led} {s : Shared} {Q : Value → Shared → Prop} {j : Nat} (k : ∀ (v : Value) (h' : Heap) (tk' : Nat), kv j v → Fr h₀ L h' m → News h₀ L h' (news) → Q v { s with heap := h', toks := tk' }) : RetT h₀ L m news s Q (RKind j) := by
  rintro v tl h' tk' ⟨rfl, hv⟩ F N l
  exact k v h' tk' hv F N
theorem ret_kind {h₀ h' : Heap} {L : Addr} {m : Str → Option Value} {news news' : Led} {s : Shared} {Q : Value → Shared → Prop} {tk' : Nat} {k j : Nat} {v : Value} (hret : RetT h₀ L m news s Q (RKind k)) (hj : kv j v) (e : k = j) (F : Fr h₀ L h' m) (N : News h₀ L h' news') (hs : ∀ p ∈ news, p ∈ news') : Q v { s with heap := h', toks := tk' } := by
  subst e
  exact hret _ [] h' tk' ⟨rfl, hj⟩ F (fun p hp => N p (hs p hp)) (fun _ hx => nomatch hx)
theorem pick_take {b : Array UInt8} {l : List Nat} (hb : KBw.bInts b = nI l) (k : Nat) : KBw.bInts (KBy.picked b none (some (k : Int))) = nI (l.take k) := by
  rw [KBc.ints_picked hb]
  simp only [Option.elim, List.drop_zero, Nat.sub_zero, clipAt_nat]
  rw [kmk_take_min, nI_take]
theorem pick_last {b : Array UInt8} {l : List Nat} (hb : KBw.bInts b = nI l) (k : Nat) (hk : 0 < k) : KBw.bInts (KBy.picked b (some (-(k : Int))) none) = nI (l.drop (l.length - k)) := by
  rw [KBc.ints_picked hb]
  simp only [Option.elim, nI_length, clip_neg _ _ hk]
  rw [nI_drop, List.take_of_length_le (by rw [nI_length, List.length_drop]; omega)]
theorem pick_is {x : Array UInt8} {m : List Nat} {ys : List UInt8} (hx : KBw.bInts x = nI m) (h : m = ys.map UInt8.toNat) : (x.toList == ys) = true := by rw [cut_eq hx, h]; exact decide_eq_true rfl
theorem pick_not {x : Array UInt8} {m : List Nat} {ys : List UInt8} (hx : KBw.bInts x = nI m) (h : ¬ m = ys.map UInt8.toNat) : ¬ (x.toList == ys) = true := by rw [cut_eq hx]; simp [h]
theorem last_is {l : List Nat} (h : l.length = 23) (hd : l.drop 22 = [135]) : ((nI l).getD (-1 + ((nI l).length : Int)).toNat 0 == 135) = true := by
  rw [nI_length, h, nI_getD]
  have e : l.getD 22 0 = 135 := by
    have : (l.drop 22)[0]? = some 135 := by rw [hd]; rfl
    rw [List.getElem?_drop] at this
    rw [List.getD_eq_getElem?_getD, this]; rfl
  show (((l.getD 22 0 : Nat) : Int) == 135) = true
  rw [e]; rfl
theorem last_not {l : List Nat} (h : l.length = 23) (hd : ¬ l.drop 22 = [135]) : ¬ ((nI l).getD (-1 + ((nI l).length : Int)).toNat 0 == 135) = true := by
  rw [nI_length, h, nI_getD]
  intro h9
  apply hd
  have h9' : ((l.getD 22 0 : Nat) : Int) = 135 := by simpa using h9
  have e : l.getD 22 0 = 135 := by omega
  have h22 : 22 < l.length := by omega
  rw [List.drop_eq_getElem_cons h22, List.drop_of_length_le (by omega)]
  rw [List.getD_eq_getElem?_getD, List.getElem?_eq_getElem h22] at e
  have e2 : l[22] = 135 := e
  rw [e2]

noncomputable def esN (P : Params) (a : Addr) : Array DictEntry := match (hd.heap_39 P).lookup a with
  | some ⟨_, _, .dict es _, _⟩ => es
  | _ => #[]
theorem hlN22 (P : Params) : (hd.heap_39 P).lookup 22 = some ⟨.type "dict", none, .dict (esN P 22) 4, #[]⟩ := by kernel_rfl
theorem hkN22 (P : Params) : KeysLit P (esN P 22).toList := by
  k_keys
theorem hlN23 (P : Params) : (hd.heap_39 P).lookup 23 = some ⟨.type "dict", none, .dict (esN P 23) 15, #[]⟩ := by kernel_rfl
theorem hkN23 (P : Params) : KeysLit P (esN P 23).toList := by
  k_keys
theorem hlN24 (P : Params) : (hd.heap_39 P).lookup 24 = some ⟨.type "dict", none, .dict (esN P 24) 15, #[]⟩ := by kernel_rfl
theorem hkN24 (P : Params) : KeysLit P (esN P 24).toList := by
  k_keys
theorem hlN25 (P : Params) : (hd.heap_39 P).lookup 25 = some ⟨.type "dict", none, .dict (esN P 25) 15, #[]⟩ := by kernel_rfl
theorem hkN25 (P : Params) : KeysLit P (esN P 25).toList := by
  k_keys
theorem hlN26 (P : Params) : (hd.heap_39 P).lookup 26 = some ⟨.type "dict", none, .dict (esN P 26) 15, #[]⟩ := by kernel_rfl
theorem hkN26 (P : Params) : KeysLit P (esN P 26).toList := by
  k_keys
theorem kc0 (l : List Nat) : kindN l = 0 ↔ l.length = 25 ∧ l.take 3 = [118, 169, 20] ∧ l.drop 23 = [136, 172] := by
  constructor
  · intro h
    rcases kind_len (by omega : kindN l < 5) with ⟨e, h⟩ | ⟨e, h⟩ | ⟨e, h⟩ | ⟨e, h⟩ | ⟨e, h⟩ <;> first | exact h | omega
  · rintro ⟨h1, h2, h3⟩
    rw [kind25 h1, if_pos ⟨h2, h3⟩]
theorem kc1 (l : List Nat) : kindN l = 1 ↔ l.length = 23 ∧ l.take 2 = [169, 20] ∧ l.drop 22 = [135] := by
  constructor
  · intro h
    rcases kind_len (by omega : kindN l < 5) with ⟨e, h⟩ | ⟨e, h⟩ | ⟨e, h⟩ | ⟨e, h⟩ | ⟨e, h⟩ <;> first | exact h | omega
  · rintro ⟨h1, h2, h3⟩
    rw [kind23 h1, if_pos ⟨h2, h3⟩]
theorem kc2 (l : List Nat) : kindN l = 2 ↔ l.length = 22 ∧ l.take 2 = [0, 20] := by
  constructor
  · intro h
    rcases kind_len (by omega : kindN l < 5) with ⟨e, h⟩ | ⟨e, h⟩ | ⟨e, h⟩ | ⟨e, h⟩ | ⟨e, h⟩ <;> first | exact h | omega
  · rintro ⟨h1, h2⟩
    rw [kind22 h1, if_pos h2]
theorem kc3 (l : List Nat) : kindN l = 3 ↔ l.length = 34 ∧ l.take 2 = [0, 32] := by
  constructor
  · intro h
    rcases kind_len (by omega : kindN l < 5) with ⟨e, h⟩ | ⟨e, h⟩ | ⟨e, h⟩ | ⟨e, h⟩ | ⟨e, h⟩ <;> first | exact h | omega
  · rintro ⟨h1, h2⟩
    rw [kind34 h1, if_pos h2]
theorem kc4 (l : List Nat) : kindN l = 4 ↔ l.length = 34 ∧ l.take 2 = [81, 32] := by
  constructor
  · intro h
    rcases kind_len (by omega : kindN l < 5) with ⟨e, h⟩ | ⟨e, h⟩ | ⟨e, h⟩ | ⟨e, h⟩ | ⟨e, h⟩ <;> first | exact h | omega
  · rintro ⟨h1, h2⟩
    rw [kind34 h1, if_neg (by rw [h2]; decide), if_pos h2]
theorem join_c {M : Model} {A : Around} {t : Sem Bool} {E : Value → Shared → Prop} {h₀ h : Heap} {L : Addr} {m : Str → Option Value} {news : Led} {g : Array GenState} {d : Drawn} {n : Nat} {o : OsState} {Q : Bool → Shared → Prop} (F : Fr h₀ L h m) (N : News h₀ L h news) (c : Bool) (h1 : ∀ Q' : Bool → Shared → Prop, (∀ h' tk, Fr h₀ L h' m → News h₀ L h' news → Q' c ⟨h', g, d, tk, o⟩) → wpAny M A t Q' E ⟨h, g, d, n, o⟩) (h2 : ∀ h' tk, Fr h₀ L h' m → News h₀ L h' news → Q c ⟨h', g, d, tk, o⟩) : wpAny M A t Q E ⟨h, g, d, n, o⟩ := h1 Q h2
set_option maxHeartbeats 4000000 in
theorem c_stype (l : List Nat) (b : Array UInt8) (x d : Addr) (tk ub : Tok) : Says prog w p loose mean mg mb 20 100 890 [.ref x] (fun _ news => (x, instObj 941 d) ∈ news ∧ (d, datD w.params tk (.bytes b ub)) ∈ news ∧ KBw.bInts b = nI l ∧ l.length ≤ 70) (RKind (kindN l)) := by
  unfold Says
  intro dp un gd cn cs a ccd cl outer A₀ base h₀ L m news s Q E B F X N T hk hpre hdp hu hret
  obtain ⟨hmx, hmd, hb, hl⟩ := hpre
  have hz : (nI l).length ≤ 70 := by rw [nI_length]; exact hl
  have P3 := pick_take hb 3
  have P2 := pick_take hb 2
  have B2 := pick_last hb 2 (by decide)
  have hn : (nI l).length = l.length := nI_length l
  refine wpAny_call ?_
  w_strict (k_dflt cell_enter)
  refine PySem.wpAny_noRaise ?_
  refine gen_toks ?_
  intro tk0
  with_reducible rename Fr _ _ _ _ => Fe
  replace Fe : Fr _ _ _ (fun y => List.lookup y [(Str.ofString "self", _)]) := Fe
  k_with_none
  have hMk := kstMark
  repeat (fail_if_success (with_reducible show wpAny _ _ (isTrue (PySem.Expr.BoolOp _ _ _) _ _) _ _ _)); first | (k_unfold; (try dsimp only)) | walk1 | (dsimp only; walk1)
  with_reducible rename Fr _ _ _ _ => Fj
  with_reducible rename News _ _ _ _ => Nj
  refine join_c Fj Nj (decide (kindN l = 0)) ?_ ?_
  · intro Q' hQ'
    by_cases hlen : l.length = 25
    · have n25 : (((nI l).length : Int) == 25) = true := by rw [hn, hlen]; rfl
      by_cases ha : l.take 3 = [118, 169, 20]
      · have fa := pick_is (ys := [118, 169, 20]) P3 ha
        by_cases hb2 : l.drop 23 = [136, 172]
        · rw [hlen] at B2
          have fb := pick_is (ys := [136, 172]) B2 hb2
          rw [decide_eq_true ((kc0 l).mpr ⟨hlen, ha, hb2⟩)] at hQ'
          k_steps
          exact hQ' _ _ (by k_asm) (by k_asm)
        · rw [hlen] at B2
          have fb := pick_not (ys := [136, 172]) B2 hb2
          rw [decide_eq_false (fun h => hb2 ((kc0 l).mp h).2.2)] at hQ'
          k_steps
          exact hQ' _ _ (by k_asm) (by k_asm)
      · have fa := pick_not (ys := [118, 169, 20]) P3 ha
        rw [decide_eq_false (fun h => ha ((kc0 l).mp h).2.1)] at hQ'
        k_steps
        exact hQ' _ _ (by k_asm) (by k_asm)
    · have n25 : ¬ (((nI l).length : Int) == 25) = true := by rw [hn]; simp only [beq_iff_eq]; omega
      rw [decide_eq_false (fun h => hlen ((kc0 l).mp h).1)] at hQ'
      k_steps
      exact hQ' _ _ (by k_asm) (by k_asm)
  clear Fj Nj
  intro hj1 tk1 Fj1 Nj1
  by_cases hk0 : kindN l = 0
  · rw [decide_eq_true hk0]
    k_steps
    exact ret_kind hret (.inl ⟨by decide, _, rfl⟩) hk0 (by k_asm) (by k_asm) (by kcj_all)
  rw [decide_eq_false hk0]
  repeat (fail_if_success (with_reducible show wpAny _ _ (isTrue (PySem.Expr.BoolOp _ _ _) _ _) _ _ _)); first | (k_unfold; (try dsimp only)) | walk1 | (dsimp only; walk1)
  with_reducible rename Fr _ _ _ _ => Fj
  with_reducible rename News _ _ _ _ => Nj
  refine join_c Fj Nj (decide (kindN l = 1)) ?_ ?_
  · intro Q' hQ'
    by_cases hlen : l.length = 23
    · have n23 : (((nI l).length : Int) == 23) = true := by rw [hn, hlen]; rfl
      have hnl : (nI l).length = 23 := by rw [hn, hlen]
      by_cases ha : l.take 2 = [169, 20]
      · have fa := pick_is (ys := [169, 20]) P2 ha
        by_cases hb2 : l.drop 22 = [135]
        · have fb := last_is hlen hb2
          rw [decide_eq_true ((kc1 l).mpr ⟨hlen, ha, hb2⟩)] at hQ'
          k_steps
          exact hQ' _ _ (by k_asm) (by k_asm)
        · have fb := last_not hlen hb2
          rw [decide_eq_false (fun h => hb2 ((kc1 l).mp h).2.2)] at hQ'
          k_steps
          exact hQ' _ _ (by k_asm) (by k_asm)
      · have fa := pick_not (ys := [169, 20]) P2 ha
        rw [decide_eq_false (fun h => ha ((kc1 l).mp h).2.1)] at hQ'
        k_steps
        exact hQ' _ _ (by k_asm) (by k_asm)
    · have n23 : ¬ (((nI l).length : Int) == 23) = true := by rw [hn]; simp only [beq_iff_eq]; omega
      rw [decide_eq_false (fun h => hlen ((kc1 l).mp h).1)] at hQ'
      k_steps
      exact hQ' _ _ (by k_asm) (by k_asm)
  clear Fj Nj
  intro hj2 tk2 Fj2 Nj2
  by_cases hk1 : kindN l = 1
  · rw [decide_eq_true hk1]
    k_steps
    exact ret_kind hret (.inl ⟨by decide, _, rfl⟩) hk1 (by k_asm) (by k_asm) (by kcj_all)
  rw [decide_eq_false hk1]
  repeat (fail_if_success (with_reducible show wpAny _ _ (isTrue (PySem.Expr.BoolOp _ _ _) _ _) _ _ _)); first | (k_unfold; (try dsimp only)) | walk1 | (dsimp only; walk1)
  with_reducible rename Fr _ _ _ _ => Fj
  with_reducible rename News _ _ _ _ => Nj
  refine join_c Fj Nj (decide (kindN l = 2)) ?_ ?_
  · intro Q' hQ'
    by_cases hlen : l.length = 22
    · have n22 : (((nI l).length : Int) == 22) = true := by rw [hn, hlen]; rfl
      by_cases ha : l.take 2 = [0, 20]
      · have fa := pick_is (ys := [0, 20]) P2 ha
        rw [decide_eq_true ((kc2 l).mpr ⟨hlen, ha⟩)] at hQ'
        k_steps
        exact hQ' _ _ (by k_asm) (by k_asm)
      · have fa := pick_not (ys := [0, 20]) P2 ha
        rw [decide_eq_false (fun h => ha ((kc2 l).mp h).2)] at hQ'
        k_steps
        exact hQ' _ _ (by k_asm) (by k_asm)
    · have n22 : ¬ (((nI l).length : Int) == 22) = true := by rw [hn]; simp only [beq_iff_eq]; omega
      rw [decide_eq_false (fun h => hlen ((kc2 l).mp h).1)] at hQ'
      k_steps
      exact hQ' _ _ (by k_asm) (by k_asm)
  clear Fj Nj
  intro hj3 tk3 Fj3 Nj3
  by_cases hk2 : kindN l = 2
  · rw [decide_eq_true hk2]
    k_steps
    exact ret_kind hret (.inl ⟨by decide, _, rfl⟩) hk2 (by k_asm) (by k_asm) (by kcj_all)
  rw [decide_eq_false hk2]
  repeat (fail_if_success (with_reducible show wpAny _ _ (isTrue (PySem.Expr.BoolOp _ _ _) _ _) _ _ _)); first | (k_unfold; (try dsimp only)) | walk1 | (dsimp only; walk1)
  with_reducible rename Fr _ _ _ _ => Fj
  with_reducible rename News _ _ _ _ => Nj
  refine join_c Fj Nj (decide (kindN l = 3)) ?_ ?_
  · intro Q' hQ'
    by_cases hlen : l.length = 34
    · have n34 : (((nI l).length : Int) == 34) = true := by rw [hn, hlen]; rfl
      by_cases ha : l.take 2 = [0, 32]
      · have fa := pick_is (ys := [0, 32]) P2 ha
        rw [decide_eq_true ((kc3 l).mpr ⟨hlen, ha⟩)] at hQ'
        k_steps
        exact hQ' _ _ (by k_asm) (by k_asm)
      · have fa := pick_not (ys := [0, 32]) P2 ha
        rw [decide_eq_false (fun h => ha ((kc3 l).mp h).2)] at hQ'
        k_steps
        exact hQ' _ _ (by k_asm) (by k_asm)
    · have n34 : ¬ (((nI l).length : Int) == 34) = true := by rw [hn]; simp only [beq_iff_eq]; omega
      rw [decide_eq_false (fun h => hlen ((kc3 l).mp h).1)] at hQ'
      k_steps
      exact hQ' _ _ (by k_asm) (by k_asm)
  clear Fj Nj
  intro hj4 tk4 Fj4 Nj4
  by_cases hk3 : kindN l = 3
  · rw [decide_eq_true hk3]
    k_steps
    exact ret_kind hret (.inl ⟨by decide, _, rfl⟩) hk3 (by k_asm) (by k_asm) (by kcj_all)
  rw [decide_eq_false hk3]
  repeat (fail_if_success (with_reducible show wpAny _ _ (isTrue (PySem.Expr.BoolOp _ _ _) _ _) _ _ _)); first | (k_unfold; (try dsimp only)) | walk1 | (dsimp only; walk1)
  with_reducible rename Fr _ _ _ _ => Fj
  with_reducible rename News _ _ _ _ => Nj
  refine join_c Fj Nj (decide (kindN l = 4)) ?_ ?_
  · intro Q' hQ'
    by_cases hlen : l.length = 34
    · have n34 : (((nI l).length : Int) == 34) = true := by rw [hn, hlen]; rfl
      by_cases ha : l.take 2 = [81, 32]
      · have fa := pick_is (ys := [81, 32]) P2 ha
        rw [decide_eq_true ((kc4 l).mpr ⟨hlen, ha⟩)] at hQ'
        k_steps
        exact hQ' _ _ (by k_asm) (by k_asm)
      · have fa := pick_not (ys := [81, 32]) P2 ha
        rw [decide_eq_false (fun h => ha ((kc4 l).mp h).2)] at hQ'
        k_steps
        exact hQ' _ _ (by k_asm) (by k_asm)
    · have n34 : ¬ (((nI l).length : Int) == 34) = true := by rw [hn]; simp only [beq_iff_eq]; omega
      rw [decide_eq_false (fun h => hlen ((kc4 l).mp h).1)] at hQ'
      k_steps
      exact hQ' _ _ (by k_asm) (by k_asm)
  clear Fj Nj
  intro hj5 tk5 Fj5 Nj5
  by_cases hk4 : kindN l = 4
  · rw [decide_eq_true hk4]
    k_steps
    exact ret_kind hret (.inl ⟨by decide, _, rfl⟩) hk4 (by k_asm) (by k_asm) (by kcj_all)
  rw [decide_eq_false hk4]
  have hk5 : kindN l = 5 := by have := kind_le l; omega
  k_steps
  exact ret_kind hret (.inr ⟨rfl, rfl⟩) hk5 (by k_asm) (by k_asm) (by kcj_all)
end

section
open PySem PySem.W PySem.Calls PyProof.Rows
set_option maxRecDepth 100000
variable {prog : Program} {w : World} {p : Program} {loose : List Str} {mean : ExcName → Option Value} {mg mb : Str → Option Value}

theorem fill27 : PySem.Challenge.rw_bd0008_01 = PySem.Challenge.rw_bd0008_01 ∧ hd.heap_39 = hd.heap_39 := by
  w_on
  k_fill
  exact ⟨rfl, rfl⟩


section
variable {A : Around} {E : Value → Shared → Prop} {s : Shared} {h₀ : Heap} {L : Addr} {m : Str → Option Value} {news : Led} {value slice : PySem.Expr} {t : Tok} {k : Nat} {kI : Int} {Q : Value → Shared → Prop}
theorem nets_row (F : Fr h₀ L s.heap m) (X : (hd.heap_39 w.params).In h₀) (hk : kI = (k : Int) ∧ k < 4) (h : Q (.ref (958 + k)) s)
    (hs : subscripted slice false (.ref 962) (.int kI t) = operate [.ref 962, .int kI t] (getItem (.ref 962) (.int kI t))) :
    wpAny (model prog w) A (subscriptTail value slice (.ref 962) (.int kI t)) Q E s := by
  obtain ⟨rfl, hk⟩ := hk
  have hk4 : k = 0 ∨ k = 1 ∨ k = 2 ∨ k = 3 := by omega
  rcases hk4 with rfl | rfl | rfl | rfl
  · exact topList_K F X (by k_is) (by decide) (by decide) rfl h hs
  · exact topList_K F X (by k_is) (by decide) (by decide) rfl h hs
  · exact topList_K F X (by k_is) (by decide) (by decide) rfl h hs
  · exact topList_K F X (by k_is) (by decide) (by decide) rfl h hs
def vN (k : Nat) : Int := if k = 0 then 0 else 1
theorem nets_ver (F : Fr h₀ L s.heap m) (X : (hd.heap_39 w.params).In h₀) (hk : k < 4) (h : ∀ u, Q (.int (vN k) u) s)
    (hs : subscripted slice false (.ref (958 + k)) (.int 1 t) = operate [.ref (958 + k), .int 1 t] (getItem (.ref (958 + k)) (.int 1 t))) :
    wpAny (model prog w) A (subscriptTail value slice (.ref (958 + k)) (.int 1 t)) Q E s := by
  have hk4 : k = 0 ∨ k = 1 ∨ k = 2 ∨ k = 3 := by omega
  rcases hk4 with rfl | rfl | rfl | rfl
  · exact topTup_K (a := 958) F X (by k_is) (by decide) (by decide) rfl rfl (h _) hs
  · exact topTup_K (a := 959) F X (by k_is) (by decide) (by decide) rfl rfl (h _) hs
  · exact topTup_K (a := 960) F X (by k_is) (by decide) (by decide) rfl rfl (h _) hs
  · exact topTup_K (a := 961) F X (by k_is) (by decide) (by decide) rfl rfl (h _) hs
theorem nets_hrp (F : Fr h₀ L s.heap m) (X : (hd.heap_39 w.params).In h₀) (hk : k < 4) (h : ∀ u, Q (.str (sN (hrpN k)) u) s)
    (hs : subscripted slice false (.ref (958 + k)) (.int 2 t) = operate [.ref (958 + k), .int 2 t] (getItem (.ref (958 + k)) (.int 2 t))) :
    wpAny (model prog w) A (subscriptTail value slice (.ref (958 + k)) (.int 2 t)) Q E s := by
  have hk4 : k = 0 ∨ k = 1 ∨ k = 2 ∨ k = 3 := by omega
  rcases hk4 with rfl | rfl | rfl | rfl
  · exact topTup_K (a := 958) (v := .str (Str.ofString "bc") 1633) F X (by k_is) (by decide) (by decide) rfl rfl (by rw [show Str.ofString "bc" = sN (hrpN 0) by decide +kernel]; exact h _) hs
  · exact topTup_K (a := 959) (v := .str (Str.ofString "tb") 1636) F X (by k_is) (by decide) (by decide) rfl rfl (by rw [show Str.ofString "tb" = sN (hrpN 1) by decide +kernel]; exact h _) hs
  · exact topTup_K (a := 960) (v := .str (Str.ofString "bcrt") 1639) F X (by k_is) (by decide) (by decide) rfl rfl (by rw [show Str.ofString "bcrt" = sN (hrpN 2) by decide +kernel]; exact h _) hs
  · exact topTup_K (a := 961) (v := .str (Str.ofString "tb") 1642) F X (by k_is) (by decide) (by decide) rfl rfl (by rw [show Str.ofString "tb" = sN (hrpN 3) by decide +kernel]; exact h _) hs
end
section
variable {A : Around} {E : Value → Shared → Prop} {s : Shared} {h₀ : Heap} {L : Addr} {m : Str → Option Value} {news : Led} {Q : Value → Shared → Prop}
def kdat (k : Nat) : PyData := if k < 5 then .str (kname k) else .none
theorem kv_reads {h : Heap} {k : Nat} {v : Value} (H : kv k v) : Reads h v (kdat k) [] := by
  rcases H with ⟨hk, t, rfl⟩ | ⟨rfl, rfl⟩
  · unfold kdat; rw [if_pos hk]; exact .str _ _
  · exact .none
theorem kdat_shape (a b : Nat) : PySem.SeqAt.shaped (.list [kdat a, kdat b]) = true := by
  have e : ∀ k, PyData.canLay0 (kdat k) = true ∧ PyData.depth (kdat k) = 0 := fun k => by
    unfold kdat; split
    · rename_i hk
      have h5 : k = 0 ∨ k = 1 ∨ k = 2 ∨ k = 3 ∨ k = 4 := by omega
      refine ⟨?_, by simp [PyData.depth]⟩
      rcases h5 with rfl | rfl | rfl | rfl | rfl <;> decide +kernel
    · simp [PyData.canLay0, PyData.depth]
  simp [SeqAt.shaped, PyData.canLay0, PyData.canLayAll0, PyData.depth, PyData.depthAll, (e a).1, (e b).1, (e a).2, (e b).2]
theorem kdat_eqv (a b : Nat) : PyData.eqv (.list [kdat a, kdat b]) (.list [kdat a, kdat b]) = true := by
  unfold kdat; split <;> split <;> simp [PyData.eqv, PyData.eqvAll]
/-- the two lists of kinds are the same -/
theorem kinds_ne {x y : Addr} {i j : Nat} {v1 v2 v3 v4 : Value} {c c' : Nat} (N : News h₀ L s.heap news) (hx : (x, listOf (List.toArray [v1, v2]) c) ∈ news) (hy : (y, listOf (List.toArray [v3, v4]) c') ∈ news) (k1 : kv i v1) (k2 : kv j v2) (k3 : kv i v3) (k4 : kv j v4) (hu : A.units + 64 < cLine) (h : Q (.bool false) s) :
    wpAny (model prog w) A (compareOp .NotEq (.ref x) (.ref y)) Q E s := by
  refine ne_dataH (da := .list [kdat i, kdat j]) (db := .list [kdat i, kdat j]) (reads_list_at (News.get N hx) rfl rfl (.cons (kv_reads k1) (.cons (kv_reads k2) .nil))) (reads_list_at (News.get N hy) rfl rfl (.cons (kv_reads k3) (.cons (kv_reads k4) .nil))) (kdat_shape i j) (kdat_shape i j) hu ?_
  rw [kdat_eqv]; exact h
theorem kname_in {k : Nat} (hk : k < 5) : [Str.ofString "p2pkh", Str.ofString "p2sh"].any (· == kname k) = decide (k < 2) := by
  have h5 : k = 0 ∨ k = 1 ∨ k = 2 ∨ k = 3 ∨ k = 4 := by omega
  rcases h5 with rfl | rfl | rfl | rfl | rfl <;> decide +kernel
theorem kname_tr {k : Nat} (hk : k < 5) : (kname k == Str.ofString "p2tr") = decide (k = 4) := by
  have h5 : k = 0 ∨ k = 1 ∨ k = 2 ∨ k = 3 ∨ k = 4 := by omega
  rcases h5 with rfl | rfl | rfl | rfl | rfl <;> decide +kernel
/-- a kind is one of the two of base 58 -/
theorem kind_in {x : Addr} {k : Nat} {t u1 u2 : Tok} {c : Nat} (N : News h₀ L s.heap news) (hx : (x, listOf (List.toArray [.str (Str.ofString "p2pkh") u1, .str (Str.ofString "p2sh") u2]) c) ∈ news) (hk : k < 5) (h : Q (.bool (decide (k < 2))) s) :
    wpAny (model prog w) A (compareOp .In (.str (kname k) t) (.ref x)) Q E s :=
  in_list_strs (News.isList N hx) (.cons _ _ (.cons _ _ .nil)) (by rw [kname_in hk]; exact h)
theorem kind_tr {k : Nat} {t u : Tok} (hk : k < 5) (h : Q (.bool (decide (k = 4))) s) :
    wpAny (model prog w) A (compareOp .Eq (.str (kname k) t) (.str (Str.ofString "p2tr") u)) Q E s := PyProof.Rows.eq_str (by rw [kname_tr hk]; exact h)
end
end

section
open PySem PySem.W PySem.Calls PyProof.Rows
set_option maxRecDepth 100000
variable {prog : Program} {w : World} {p : Program} {loose : List Str} {mean : ExcName → Option Value} {mg mb : Str → Option Value}

theorem fill21 : PySem.Challenge.rw_bd0008_01 = PySem.Challenge.rw_bd0008_01 ∧ hd.heap_39 = hd.heap_39 := by
  w_on
  k_fill
  exact ⟨rfl, rfl⟩



noncomputable def addrS : Nat → List Nat → Str := Classical.choose (sealedT fun (k : Nat) (l : List Nat) => if kindN l = 0 then encT (chk (pkN k :: (l.drop 3).take 20)) else if kindN l = 1 then encT (chk (shN k :: (l.drop 2).take 20)) else if kindN l = 4 then sN (hrpN k ++ [49] ++ combT 734539939 (hrpN k) (1 :: fiveN (l.drop 2))) else sN (hrpN k ++ [49] ++ combT 1 (hrpN k) (0 :: fiveN (l.drop 2))))
theorem addrS_def (k : Nat) (l : List Nat) : addrS k l = if kindN l = 0 then encT (chk (pkN k :: (l.drop 3).take 20)) else if kindN l = 1 then encT (chk (shN k :: (l.drop 2).take 20)) else if kindN l = 4 then sN (hrpN k ++ [49] ++ combT 734539939 (hrpN k) (1 :: fiveN (l.drop 2))) else sN (hrpN k ++ [49] ++ combT 1 (hrpN k) (0 :: fiveN (l.drop 2))) := congrFun (congrFun (Classical.choose_spec (sealedT fun (k : Nat) (l : List Nat) => if kindN l = 0 then encT (chk (pkN k :: (l.drop 3).take 20)) else if kindN l = 1 then encT (chk (shN k :: (l.drop 2).take 20)) else if kindN l = 4 then sN (hrpN k ++ [49] ++ combT 734539939 (hrpN k) (1 :: fiveN (l.drop 2))) else sN (hrpN k ++ [49] ++ combT 1 (hrpN k) (0 :: fiveN (l.drop 2)))) ) k) l
section
variable {A : Around} {E : Value → Shared → Prop} {s : Shared} {h₀ : Heap} {L : Addr} {m : Str → Option Value} {value slice : PySem.Expr} {t : Tok} {k : Nat} {Q : Value → Shared → Prop}
theorem four {k : Nat} (h : k < 4) : k = 0 ∨ k = 1 ∨ k = 2 ∨ k = 3 := by omega
theorem net_pk (hk : k < 4) (F : Fr h₀ L s.heap m) (X : (hd.heap_39 w.params).In h₀) (h : ∀ b t' k', KBw.bInts b = nI [pkN k] → Q (.bytes b t') { s with toks := k' })
    (hs : subscripted slice false (.ref (23 + k)) (.str (Str.ofString "p2pkh") t) = operate [.ref (23 + k), .str (Str.ofString "p2pkh") t] (getItem (.ref (23 + k)) (.str (Str.ofString "p2pkh") t))) :
    wpAny (model prog w) A (subscriptTail value slice (.ref (23 + k)) (.str (Str.ofString "p2pkh") t)) Q E s := by
  rcases four hk with rfl | rfl | rfl | rfl
  · exact topItem_K (a := 23) F X (hlN23 _) (hkN23 _) (by k_is) (h _ _ _ rfl) hs
  · exact topItem_K (a := 24) F X (hlN24 _) (hkN24 _) (by k_is) (h _ _ _ rfl) hs
  · exact topItem_K (a := 25) F X (hlN25 _) (hkN25 _) (by k_is) (h _ _ _ rfl) hs
  · exact topItem_K (a := 26) F X (hlN26 _) (hkN26 _) (by k_is) (h _ _ _ rfl) hs
theorem net_sh (hk : k < 4) (F : Fr h₀ L s.heap m) (X : (hd.heap_39 w.params).In h₀) (h : ∀ b t' k', KBw.bInts b = nI [shN k] → Q (.bytes b t') { s with toks := k' })
    (hs : subscripted slice false (.ref (23 + k)) (.str (Str.ofString "p2sh") t) = operate [.ref (23 + k), .str (Str.ofString "p2sh") t] (getItem (.ref (23 + k)) (.str (Str.ofString "p2sh") t))) :
    wpAny (model prog w) A (subscriptTail value slice (.ref (23 + k)) (.str (Str.ofString "p2sh") t)) Q E s := by
  rcases four hk with rfl | rfl | rfl | rfl
  · exact topItem_K (a := 23) F X (hlN23 _) (hkN23 _) (by k_is) (h _ _ _ rfl) hs
  · exact topItem_K (a := 24) F X (hlN24 _) (hkN24 _) (by k_is) (h _ _ _ rfl) hs
  · exact topItem_K (a := 25) F X (hlN25 _) (hkN25 _) (by k_is) (h _ _ _ rfl) hs
  · exact topItem_K (a := 26) F X (hlN26 _) (hkN26 _) (by k_is) (h _ _ _ rfl) hs
theorem net_hrp (hk : k < 4) (F : Fr h₀ L s.heap m) (X : (hd.heap_39 w.params).In h₀) (h : ∀ t' k', Q (.str (sN (hrpN k)) t') { s with toks := k' })
    (hs : subscripted slice false (.ref (23 + k)) (.str (Str.ofString "bech32") t) = operate [.ref (23 + k), .str (Str.ofString "bech32") t] (getItem (.ref (23 + k)) (.str (Str.ofString "bech32") t))) :
    wpAny (model prog w) A (subscriptTail value slice (.ref (23 + k)) (.str (Str.ofString "bech32") t)) Q E s := by
  rcases four hk with rfl | rfl | rfl | rfl
  · exact topItem_K (a := 23) (v := .str (Str.ofString "bc") 204) F X (hlN23 _) (hkN23 _) (by k_is) (by rw [show Str.ofString "bc" = sN (hrpN 0) by decide +kernel]; exact h _ _) hs
  · exact topItem_K (a := 24) (v := .str (Str.ofString "tb") 250) F X (hlN24 _) (hkN24 _) (by k_is) (by rw [show Str.ofString "tb" = sN (hrpN 1) by decide +kernel]; exact h _ _) hs
  · exact topItem_K (a := 25) (v := .str (Str.ofString "bcrt") 296) F X (hlN25 _) (hkN25 _) (by k_is) (by rw [show Str.ofString "bcrt" = sN (hrpN 2) by decide +kernel]; exact h _ _) hs
  · exact topItem_K (a := 26) (v := .str (Str.ofString "tb") 342) F X (hlN26 _) (hkN26 _) (by k_is) (by rw [show Str.ofString "tb" = sN (hrpN 3) by decide +kernel]; exact h _ _) hs
end
theorem eq_closed {A : Around} {E : Value → Shared → Prop} {s : Shared} {x y : Str} {c : Bool} {t u : Tok} {Q : Value → Shared → Prop} (e : (x == y) = c) (h : Q (.bool c) s) : wpAny (model prog w) A (compareOp .Eq (.str x t) (.str y u)) Q E s := PyProof.Rows.eq_str (by rw [e]; exact h)
local macro_rules | `(tactic| walk_at "compareOp Eq str str") => `(tactic| first | (refine eq_closed (c := true) (by decide +kernel) ?_) | (refine eq_closed (c := false) (by decide +kernel) ?_))
local macro_rules | `(tactic| walk_at "subscriptTail") => `(tactic| ((with_reducible show wpAny _ _ (subscriptTail _ _ (Value.ref (23 + _)) (Value.str (Str.ofString "p2pkh") _)) _ _ _); k_dflt (refine net_pk (by with_reducible assumption) (by k_asm) (by k_asm) ?_ (by with_unfolding_all rfl))))
local macro_rules | `(tactic| walk_at "subscriptTail") => `(tactic| ((with_reducible show wpAny _ _ (subscriptTail _ _ (Value.ref (23 + _)) (Value.str (Str.ofString "p2sh") _)) _ _ _); k_dflt (refine net_sh (by with_reducible assumption) (by k_asm) (by k_asm) ?_ (by with_unfolding_all rfl))))
local macro_rules | `(tactic| walk_at "subscriptTail") => `(tactic| ((with_reducible show wpAny _ _ (subscriptTail _ _ (Value.ref (23 + _)) (Value.str (Str.ofString "bech32") _)) _ _ _); k_dflt (refine net_hrp (by with_reducible assumption) (by k_asm) (by k_asm) ?_ (by with_unfolding_all rfl))))

theorem app_cut {l : List Nat} {v i j : Nat} (hj : j ≤ l.length) (hi : i ≤ j) : nI [v] ++ List.take (clipAt (nI l).length (j : Int) - clipAt (nI l).length (i : Int)) (List.drop (clipAt (nI l).length (i : Int)) (nI l)) = nI (v :: (l.drop i).take (j - i)) := by
  rw [clipAt_nat, clipAt_nat, nI_length, Nat.min_eq_left hj, Nat.min_eq_left (Nat.le_trans hi hj), nI_drop, nI_take, nI_append]; rfl
theorem kv_str {k : Nat} {v : Value} (h : kv k v) (hk : k < 5) : ∃ t, v = .str (kname k) t := by
  rcases h with ⟨_, h⟩ | ⟨h5, _⟩
  · exact h
  · omega
theorem head_of {l : List Nat} {a c : Nat} (ht : l.take 2 = [a, c]) : (nI l).getD (Int.toNat 0) 0 = (a : Int) := by
  cases l with
  | nil => cases ht
  | cons x r => cases r with
    | nil => cases ht
    | cons y q =>
      have : x = a := (List.cons.inj ht).1
      subst this; rfl
theorem pick_from {b : Array UInt8} {l : List Nat} (hb : KBw.bInts b = nI l) (k : Nat) (hk : k ≤ l.length) : KBw.bInts (KBy.picked b (some (k : Int)) none) = nI (l.drop k) := by
  rw [KBc.ints_picked hb]
  simp only [Option.elim, clipAt_nat, nI_length, Nat.min_eq_left hk]
  rw [nI_drop, List.take_of_length_le (by rw [nI_length, List.length_drop]; omega)]
set_option maxHeartbeats 4000000 in
theorem c_address (k : Nat) (l : List Nat) (b : Array UInt8) (x d : Addr) (tk ub : Tok) : SaysG prog w p loose mean mg mb 220 2000 876 [.ref x, .ref (23 + k)] (fun _ news => k < 4 ∧ (x, instObj 941 d) ∈ news ∧ (d, datD w.params tk (.bytes b ub)) ∈ news ∧ KBw.bInts b = nI l ∧ kindN l < 5) (RStr (addrS k l)) := by
  unfold SaysG
  intro dp un gd cn cs a ccd cl outer A₀ base h₀ L m news s ps Q E B F X N T hk hps hgens hnp hpre hdp hu hret
  obtain ⟨hk4, hmx, hmd, hb, hkind⟩ := hpre
  have hbb := bytes_bound hb
  have hle : l.length ≤ 70 := by rcases kind_len hkind with h | h | h | h | h <;> omega
  have hn : (nI l).length = l.length := nI_length l
  refine wpAny_call ?_
  w_strict (k_dflt (refine' PySem.W.code_def ?k1 ?k2 ?k3 ?k4 ?k5 ?kA ?kF ?kK ?k6 ?k7 ?k8 ?k9 ?kB ?_ ?c2 ?c3 ?c4 ?c5; (case kA => exact rfl); (case kF => exact rfl); (case kK => assumption); (case k1 => k_asm); (case k2 => k_asm); (case k3 => k_asm); (case k4 => k_asm); (case k5 => k_asm); (case k6 => k_is); (case k7 => k_is); (case k8 => ktr_room); (case k9 => exact binds_K (X.keeps F.keep) rfl (by k_is) rfl rfl rfl); (case c5 => decide); (case kB => exact locs rfl); (case c2 => exact rfl); (case c3 => exact rfl); (case c4 => exact rfl); k_whole; intro g' L' h' FG' F' N' B' X' T'; (try dsimp only); (try k_lift B'); (try k_fold)))
  refine PySem.wpAny_noRaise ?_
  k_with_none
  have hMk := kstMark
  repeat (fail_if_success (with_reducible show wpAny _ _ (call (Value.ref 890) _) _ _ _)); first | (k_unfold; (try dsimp only)) | walk1 | (dsimp only; walk1)

  dsimp only [List.nil_append, List.cons_append, List.append_nil]
  refine Says.go (c_stype l b x d tk ub) ⟨?sayP, ?sayQ, hb, hle⟩ ?_
  case sayP => k_mem
  case sayQ => k_mem
  refine rt_kind ?_
  intro v9 h9 tk9 hv9 F9 N9
  obtain ⟨t9, rfl⟩ := kv_str hv9 hkind
  clear hv9
  rcases kind_len hkind with ⟨hK, hl, ht, hd⟩ | ⟨hK, hl, ht, hd⟩ | ⟨hK, hl, ht⟩ | ⟨hK, hl, ht⟩ | ⟨hK, hl, ht⟩
  · rw [hK, show kname 0 = Str.ofString "p2pkh" from rfl]
    repeat (fail_if_success (with_reducible show wpAny _ _ (call (Value.ref 120) _) _ _ _)); first | (k_unfold; (try dsimp only)) | walk1 | (dsimp only; walk1)

    with_reducible rename KBw.bInts (_ ++ _) = _ => hApp
    replace hApp := hApp.trans (app_cut (l := l) (v := pkN k) (i := 3) (j := 23) (by omega) (by decide))
    refine Says.go (c_encheck _ _ (pkN k :: (l.drop 3).take 20)) ⟨hApp, by rw [List.length_cons, List.length_take, List.length_drop]; omega⟩ ?_
    first | refine rt_str ?_ | refine rt_int ?_
    intro t6 h6 tk6 F6 N6
    have hAd : addrS k l = encT (chk (pkN k :: (l.drop 3).take 20)) := by rw [addrS_def, if_pos hK]
    rw [← hAd]
    k_steps
    exact hret _ [] s _ _ ps ⟨rfl, t6, rfl⟩ (by k_asm) (by k_asm) hps hgens rfl (fun _ hx => nomatch hx)
  · rw [hK, show kname 1 = Str.ofString "p2sh" from rfl]
    repeat (fail_if_success (with_reducible show wpAny _ _ (call (Value.ref 120) _) _ _ _)); first | (k_unfold; (try dsimp only)) | walk1 | (dsimp only; walk1)

    with_reducible rename KBw.bInts (_ ++ _) = _ => hApp
    replace hApp := hApp.trans (app_cut (l := l) (v := shN k) (i := 2) (j := 22) (by omega) (by decide))
    refine Says.go (c_encheck _ _ (shN k :: (l.drop 2).take 20)) ⟨hApp, by rw [List.length_cons, List.length_take, List.length_drop]; omega⟩ ?_
    first | refine rt_str ?_ | refine rt_int ?_
    intro t6 h6 tk6 F6 N6
    have hAd : addrS k l = encT (chk (shN k :: (l.drop 2).take 20)) := by rw [addrS_def, if_neg (by rw [hK]; decide), if_pos hK]
    rw [← hAd]
    k_steps
    exact hret _ [] s _ _ ps ⟨rfl, t6, rfl⟩ (by k_asm) (by k_asm) hps hgens rfl (fun _ hx => nomatch hx)
  · rw [hK, show kname 2 = Str.ofString "p2wpkh" from rfl]
    have gH := head_of ht
    have gP : ¬ (decide (0 < (nI l).getD (Int.toNat 0) 0) = true) := by rw [gH]; decide
    repeat (fail_if_success (with_reducible show wpAny _ _ (call (Value.ref 197) _) _ _ _)); first | (k_unfold; (try dsimp only)) | walk1 | (dsimp only; walk1)

    rw [gH]
    have hcut := pick_from hb 2 (by omega)
    with_reducible rename News _ _ _ _ => hNw
    replace hNw := news_pull [_] hNw
    dsimp only [List.nil_append, List.cons_append] at hNw
    have hh := hrp_facts k
    with_reducible rename (172 < _ ∧ AllLt _ _) => lC
    refine SaysG.go (c_enc 0 1 (hrpN k) (l.drop 2) _ _ _ _) ⟨.inl ⟨rfl, rfl⟩, hh.1, hh.2.1, hh.2.2, hcut, by rw [List.length_drop]; omega, fun y hy => hbb y (List.mem_of_mem_drop hy)⟩ ?_ hNw hps hgens (np_cons lC.1 hnp)
    refine rg_str ?_
    intro t6 s6 h6 tk6 ps6 F6 N6 hps6 hgens6 hos6
    clear hNw
    have hAd : addrS k l = sN (hrpN k ++ [49] ++ combT 1 (hrpN k) (0 :: fiveN (l.drop 2))) := by rw [addrS_def, if_neg (by rw [hK]; decide), if_neg (by rw [hK]; decide), if_neg (by rw [hK]; decide)]
    rw [← hAd]
    k_steps
    with_reducible rename News _ _ _ _ => kN9
    dsimp only at kN9
    exact hret _ [] s6 _ _ ps6 ⟨rfl, t6, rfl⟩ (by k_asm) (fun q hq => kN9 q (by
      rcases List.mem_cons.mp hq with rfl | hq
      · repeat (first | exact List.Mem.head _ | refine List.Mem.tail _ ?_)
      · repeat (first | exact hq | refine List.Mem.tail _ ?_))) hps6 hgens6 hos6 (fun _ hx => nomatch hx)
  · rw [hK, show kname 3 = Str.ofString "p2wsh" from rfl]
    have gH := head_of ht
    have gP : ¬ (decide (0 < (nI l).getD (Int.toNat 0) 0) = true) := by rw [gH]; decide
    repeat (fail_if_success (with_reducible show wpAny _ _ (call (Value.ref 197) _) _ _ _)); first | (k_unfold; (try dsimp only)) | walk1 | (dsimp only; walk1)

    rw [gH]
    have hcut := pick_from hb 2 (by omega)
    with_reducible rename News _ _ _ _ => hNw
    replace hNw := news_pull [_] hNw
    dsimp only [List.nil_append, List.cons_append] at hNw
    have hh := hrp_facts k
    with_reducible rename (172 < _ ∧ AllLt _ _) => lC
    refine SaysG.go (c_enc 0 1 (hrpN k) (l.drop 2) _ _ _ _) ⟨.inl ⟨rfl, rfl⟩, hh.1, hh.2.1, hh.2.2, hcut, by rw [List.length_drop]; omega, fun y hy => hbb y (List.mem_of_mem_drop hy)⟩ ?_ hNw hps hgens (np_cons lC.1 hnp)
    refine rg_str ?_
    intro t6 s6 h6 tk6 ps6 F6 N6 hps6 hgens6 hos6
    clear hNw
    have hAd : addrS k l = sN (hrpN k ++ [49] ++ combT 1 (hrpN k) (0 :: fiveN (l.drop 2))) := by rw [addrS_def, if_neg (by rw [hK]; decide), if_neg (by rw [hK]; decide), if_neg (by rw [hK]; decide)]
    rw [← hAd]
    k_steps
    with_reducible rename News _ _ _ _ => kN9
    dsimp only at kN9
    exact hret _ [] s6 _ _ ps6 ⟨rfl, t6, rfl⟩ (by k_asm) (fun q hq => kN9 q (by
      rcases List.mem_cons.mp hq with rfl | hq
      · repeat (first | exact List.Mem.head _ | refine List.Mem.tail _ ?_)
      · repeat (first | exact hq | refine List.Mem.tail _ ?_))) hps6 hgens6 hos6 (fun _ hx => nomatch hx)
  · rw [hK, show kname 4 = Str.ofString "p2tr" from rfl]
    have gH := head_of ht
    have gP : decide (0 < (nI l).getD (Int.toNat 0) 0) = true := by rw [gH]; decide
    repeat (fail_if_success (with_reducible show wpAny _ _ (call (Value.ref 197) _) _ _ _)); first | (k_unfold; (try dsimp only)) | walk1 | (dsimp only; walk1)

    rw [gH]
    rw [show Int.fmod ((81 : Nat) : Int) 80 = ((1 : Nat) : Int) by decide]
    have hcut := pick_from hb 2 (by omega)
    with_reducible rename News _ _ _ _ => hNw
    replace hNw := news_pull [_] hNw
    dsimp only [List.nil_append, List.cons_append] at hNw
    have hh := hrp_facts k
    with_reducible rename (172 < _ ∧ AllLt _ _) => lC
    refine SaysG.go (c_enc 1 734539939 (hrpN k) (l.drop 2) _ _ _ _) ⟨.inr ⟨rfl, rfl⟩, hh.1, hh.2.1, hh.2.2, hcut, by rw [List.length_drop]; omega, fun y hy => hbb y (List.mem_of_mem_drop hy)⟩ ?_ hNw hps hgens (np_cons lC.1 hnp)
    refine rg_str ?_
    intro t6 s6 h6 tk6 ps6 F6 N6 hps6 hgens6 hos6
    clear hNw
    have hAd : addrS k l = sN (hrpN k ++ [49] ++ combT 734539939 (hrpN k) (1 :: fiveN (l.drop 2))) := by rw [addrS_def, if_neg (by rw [hK]; decide), if_neg (by rw [hK]; decide), if_pos hK]
    rw [← hAd]
    k_steps
    with_reducible rename News _ _ _ _ => kN9
    dsimp only at kN9
    exact hret _ [] s6 _ _ ps6 ⟨rfl, t6, rfl⟩ (by k_asm) (fun q hq => kN9 q (by
      rcases List.mem_cons.mp hq with rfl | hq
      · repeat (first | exact List.Mem.head _ | refine List.Mem.tail _ ?_)
      · repeat (first | exact hq | refine List.Mem.tail _ ?_))) hps6 hgens6 hos6 (fun _ hx => nomatch hx)
end

section
local macro_rules | `(tactic| walk_at "subscriptTail") => `(tactic| ((with_reducible show wpAny _ _ (subscriptTail _ _ (Value.ref 962) (Value.int _ _)) _ _ _); k_dflt (refine' nets_row ?F ?X ?k ?_ ?h; (case F => with_reducible assumption); (case X => with_reducible assumption); (case k => with_reducible assumption); (case h => with_unfolding_all rfl))))

section
open PySem PySem.W PySem.Calls PyProof.Rows
set_option maxRecDepth 100000
variable {prog : Program} {w : World} {p : Program} {loose : List Str} {mean : ExcName → Option Value} {mg mb : Str → Option Value}

theorem fill20 : PySem.Challenge.rw_bd0008_01 = PySem.Challenge.rw_bd0008_01 ∧ hd.heap_39 = hd.heap_39 := by
  w_on
  k_fill
  exact ⟨rfl, rfl⟩



noncomputable def ladS : Nat → List Nat → Str := Classical.choose (sealedT fun (k : Nat) (l : List Nat) => if kindN l < 5 then addrS k l else Str.ofString "refused")
theorem ladS_def (k : Nat) (l : List Nat) : ladS k l = if kindN l < 5 then addrS k l else Str.ofString "refused" := congrFun (congrFun (Classical.choose_spec (sealedT fun (k : Nat) (l : List Nat) => if kindN l < 5 then addrS k l else Str.ofString "refused")) k) l

def nname (k : Nat) : Str := if k = 0 then Str.ofString "main" else if k = 1 then Str.ofString "test" else if k = 2 then Str.ofString "regtest" else Str.ofString "signet"
section
variable {A : Around} {E : Value → Shared → Prop} {s : Shared} {h₀ : Heap} {L : Addr} {m : Str → Option Value} {value slice : PySem.Expr} {t : Tok} {k : Nat} {Q : Value → Shared → Prop}
theorem nets_name (F : Fr h₀ L s.heap m) (X : (hd.heap_39 w.params).In h₀) (hk : k < 4) (h : ∀ u, Q (.str (nname k) u) s)
    (hs : subscripted slice false (.ref (958 + k)) (.int 0 t) = operate [.ref (958 + k), .int 0 t] (getItem (.ref (958 + k)) (.int 0 t))) :
    wpAny (model prog w) A (subscriptTail value slice (.ref (958 + k)) (.int 0 t)) Q E s := by
  rcases four hk with rfl | rfl | rfl | rfl
  · exact topTup_K (a := 958) F X (by k_is) (by decide) (by decide) rfl rfl (h _) hs
  · exact topTup_K (a := 959) F X (by k_is) (by decide) (by decide) rfl rfl (h _) hs
  · exact topTup_K (a := 960) F X (by k_is) (by decide) (by decide) rfl rfl (h _) hs
  · exact topTup_K (a := 961) F X (by k_is) (by decide) (by decide) rfl rfl (h _) hs
theorem nets_dict (F : Fr h₀ L s.heap m) (X : (hd.heap_39 w.params).In h₀) (hk : k < 4) (h : ∀ k', Q (.ref (23 + k)) { s with toks := k' })
    (hs : subscripted slice false (.ref 22) (.str (nname k) t) = operate [.ref 22, .str (nname k) t] (getItem (.ref 22) (.str (nname k) t))) :
    wpAny (model prog w) A (subscriptTail value slice (.ref 22) (.str (nname k) t)) Q E s := by
  rcases four hk with rfl | rfl | rfl | rfl
  · exact topItem_K (a := 22) (x := Str.ofString "main") F X (hlN22 _) (hkN22 _) (by k_is) (h _) hs
  · exact topItem_K (a := 22) (x := Str.ofString "test") F X (hlN22 _) (hkN22 _) (by k_is) (h _) hs
  · exact topItem_K (a := 22) (x := Str.ofString "regtest") F X (hlN22 _) (hkN22 _) (by k_is) (h _) hs
  · exact topItem_K (a := 22) (x := Str.ofString "signet") F X (hlN22 _) (hkN22 _) (by k_is) (h _) hs
end
local macro_rules | `(tactic| walk_at "subscriptTail") => `(tactic| ((with_reducible show wpAny _ _ (subscriptTail _ _ (Value.ref 22) (Value.str (nname _) _)) _ _ _); k_dflt (refine' nets_dict ?F ?X ?k ?_ ?h; (case F => with_reducible assumption); (case X => with_reducible assumption); (case k => with_reducible assumption); (case h => with_unfolding_all rfl)); intro _))
local macro_rules | `(tactic| walk_at "subscriptTail") => `(tactic| ((with_reducible show wpAny _ _ (subscriptTail _ _ (Value.ref (958 + _)) (Value.int 0 _)) _ _ _); k_dflt (refine' nets_name ?F ?X ?k ?_ ?h; (case F => with_reducible assumption); (case X => with_reducible assumption); (case k => with_reducible assumption); (case h => with_unfolding_all rfl)); intro _))
/-- as SaysG, of a call from the law's own frame -/
def SaysL (prog : Program) (w : World) (p : Program) (loose : List Str) (mean : ExcName → Option Value) (mg mb : Str → Option Value)
    (D U : Nat) (f : Addr) (vs : List Value) (pre : Heap → Led → Prop) (R : Value → Led → Prop) : Prop :=
  ∀ (dp un : Nat) (gd : Option (List Code)) (cn : Str) (cs : Scope) (a : Addr) (ccd : Value) (A₀ : Around)
    (h₀ : Heap) (L : Addr) (m : Str → Option Value) (news : Led) (s : Shared) (ps : Array Value) (Q E : Value → Shared → Prop),
    Below A₀ h₀ [] h₀ → Fr h₀ L s.heap m → (hd.heap_39 w.params).In h₀ → News h₀ L s.heap ((172, tabO ps) :: news) → Top p loose mean mg mb h₀ → cs.kind = .function →
    TriplesOk ps.toList → AllBare s.gens → (∀ q ∈ news, q.1 ≠ 172) →
    pre h₀ news → dp + D < recursionLimit → un + U < cLine → RetG h₀ L m news s Q R →
    wpAny (model prog w) (ktrTop dp un gd cn cs L a ccd [] []) (call (.ref f) vs) Q E s
set_option maxHeartbeats 4000000 in
theorem c_lad (kI : Int) (k : Nat) (l : List Nat) (b : Array UInt8) (u1 u2 : Tok) : SaysL prog w p loose mean mg mb 260 3000 997 [.bytes b u1, .int kI u2] (fun _ _ => ((kI = 0 ∧ k = 0) ∨ (kI = 1 ∧ k = 1) ∨ (kI = 2 ∧ k = 2) ∨ (kI = 3 ∧ k = 3)) ∧ KBw.bInts b = nI l ∧ l.length ≤ 70) (RStr (ladS k l)) := by
  unfold SaysL
  intro dp un gd cn cs a ccd A₀ h₀ L m news s ps Q E B F X N T hk hps hgens hnp hpre hdp hu hret
  obtain ⟨hkk, hb, hl2⟩ := hpre
  have hkI : kI = (k : Int) ∧ k < 4 := by omega
  have hk4 := hkI.2
  by_cases hkind : kindN l < 5
  · have hAd : ladS k l = addrS k l := by rw [ladS_def, if_pos hkind]
    all_goals (
      refine wpAny_call ?_
      w_strict (k_dflt (refine' code_defS0 ?k1 ?k2 ?k3 ?k4 ?k5 ?kA ?k6 ?k7 ?k8 ?k9 ?kB ?_ ?cK ?c2 ?c3 ?c4 ?c5; (case kA => exact rfl); (case k2 => k_asm); (case k1 => k_asm); (case k3 => k_asm); (case k4 => k_asm); (case k5 => k_asm); (case k6 => k_is); (case k7 => k_is); (case k8 => ktr_room); (case k9 => exact BindsTo.of_eq rfl); (case kB => exact locs rfl); (case cK => assumption); (case c2 => exact rfl); (case c3 => exact rfl); (case c4 => exact rfl); (case c5 => decide); k_whole; intro g' L' h' FG' F' N' B' X' T' D'; (try dsimp only); (try k_lift B'); (try k_fold)))
      k_with_none
      have hMk := kstMark
      repeat (fail_if_success (with_reducible show wpAny _ _ (call (Value.ref 876) _) _ _ _)); first | (k_unfold; (try dsimp only)) | walk1 | (dsimp only; walk1)
      with_reducible rename News _ _ _ _ => hNw
      replace hNw := news_pull [_, _] hNw
      dsimp only [List.nil_append, List.cons_append] at hNw
      with_reducible rename (172 < _ ∧ AllLt _ _) => lC
      with_reducible rename (_ < (_ : Addr)) => lD
      refine SaysG.go (c_address k l b _ _ _ _) ⟨hk4, .head _, .tail _ (.head _), hb, hkind⟩ ?_ hNw hps hgens (np_cons (Nat.lt_trans lC.1 lD) (np_cons lC.1 hnp))
      refine rg_str ?_
      intro t6 s6 h6 tk6 ps6 F6 N6 hps6 hgens6 hos6
      clear hNw
      k_steps
      with_reducible rename News _ _ _ _ => kN9
      dsimp only at kN9
      exact hret _ [] s6 _ _ ps6 ⟨rfl, t6, by rw [hAd]⟩ (by k_asm) (fun q hq => kN9 q (by
        rcases List.mem_cons.mp hq with rfl | hq
        · repeat (first | exact List.Mem.head _ | refine List.Mem.tail _ ?_)
        · repeat (first | exact hq | refine List.Mem.tail _ ?_))) hps6 hgens6 hos6 (fun _ hx => nomatch hx))
  · have hK5 : kindN l = 5 := by have := kind_le l; omega
    have hAd : ladS k l = Str.ofString "refused" := by rw [ladS_def, if_neg hkind]
    all_goals (
      refine wpAny_call ?_
      w_strict (k_dflt (refine' code_defS0 ?k1 ?k2 ?k3 ?k4 ?k5 ?kA ?k6 ?k7 ?k8 ?k9 ?kB ?_ ?cK ?c2 ?c3 ?c4 ?c5; (case kA => exact rfl); (case k2 => k_asm); (case k1 => k_asm); (case k3 => k_asm); (case k4 => k_asm); (case k5 => k_asm); (case k6 => k_is); (case k7 => k_is); (case k8 => ktr_room); (case k9 => exact BindsTo.of_eq rfl); (case kB => exact locs rfl); (case cK => assumption); (case c2 => exact rfl); (case c3 => exact rfl); (case c4 => exact rfl); (case c5 => decide); k_whole; intro g' L' h' FG' F' N' B' X' T' D'; (try dsimp only); (try k_lift B'); (try k_fold)))
      k_with_none
      have hMk := kstMark
      repeat (fail_if_success (with_reducible show wpAny _ _ (call (Value.ref 890) _) _ _ _)); first | (k_unfold; (try dsimp only)) | walk1 | (dsimp only; walk1)
      dsimp only [List.nil_append, List.cons_append, List.append_nil]
      refine Says.go (c_stype l b _ _ _ _) ⟨.head _, .tail _ (.head _), hb, hl2⟩ ?_
      refine rt_kind ?_
      intro v9 h9 tk9 hv9 F9 N9
      have hvn : v9 = .none := by
        rw [hK5] at hv9
        rcases hv9 with ⟨h5, _⟩ | ⟨_, h⟩
        · exact absurd h5 (by decide)
        · exact h
      subst hvn
      clear hv9
      k_steps
      with_reducible rename News _ _ _ _ => kN9
      dsimp only at kN9
      exact hret _ [] s _ _ ps ⟨rfl, _, by rw [hAd]⟩ (by k_asm) (fun q hq => kN9 q (by
        rcases List.mem_cons.mp hq with rfl | hq
        · repeat (first | exact List.Mem.head _ | refine List.Mem.tail _ ?_)
        · repeat (first | exact hq | refine List.Mem.tail _ ?_))) hps hgens rfl (fun _ hx => nomatch hx))
end

section
open PySem PySem.W PySem.Calls PyProof.Rows
set_option maxRecDepth 100000

/-! the plain law -/
abbrev Oct (l : List Nat) : Prop := ∀ x ∈ l, x < 256
theorem alpha_inj {a b : Nat} (ha : a < 58) (hb : b < 58) (e : alpha a = alpha b) : a = b := by
  have h1 := find_alpha ha
  have h2 := find_alpha hb
  rw [e, h2] at h1
  omega
theorem map_alpha_inj : ∀ {a b : List Nat}, (∀ x ∈ a, x < 58) → (∀ x ∈ b, x < 58) → a.map alpha = b.map alpha → a = b
  | [], [], _, _, _ => rfl
  | [], _ :: _, _, _, h => nomatch h
  | _ :: _, [], _, _, h => nomatch h
  | x :: a, y :: b, ha, hb, h => by
    have h1 := List.cons.inj h
    rw [alpha_inj (ha x (.head _)) (hb y (.head _)) h1.1, map_alpha_inj (fun z hz => ha z (.tail _ hz)) (fun z hz => hb z (.tail _ hz)) h1.2]
theorem chk_oct {l : List Nat} (h : Oct l) : Oct (chk l) := by
  intro y hy
  rw [chk_def] at hy
  rcases List.mem_append.mp hy with h9 | h9
  · exact h y h9
  · have h2 := List.mem_of_mem_take h9
    rw [dsha_def] at h2
    exact sha_bound _ y h2
theorem enc_inj {a b : List Nat} (ha : Oct a) (hb : Oct b) (h0 : 0 < a.length) (h1 : 0 < b.length) (e : encT a = encT b) : a = b := by
  rw [encT_D, encT_D] at e
  have e2 := map_alpha_inj (encD_lt a) (encD_lt b) (sN_inj e)
  rw [← decB_encD ha h0, ← decB_encD hb h1, e2]
theorem chk_inj {a b : List Nat} (ha : Oct a) (hb : Oct b) (e : encT (chk a) = encT (chk b)) : a = b := by
  have h := enc_inj (chk_oct ha) (chk_oct hb) (by rw [chk_length]; omega) (by rw [chk_length]; omega) e
  have hl : a.length = b.length := by have := congrArg List.length h; rw [chk_length, chk_length] at this; omega
  rw [chk_def, chk_def] at h
  exact List.append_inj_left h hl
/-- the first sign of a base 58 text, or its length -/
theorem enc_shape {l : List Nat} (hb : Oct l) (hl : l.length = 25) : (∃ r, encT l = sN (49 :: r)) ∨ ∃ r, encT l = sN r ∧ r.length ≤ 35 := by
  rcases Nat.eq_zero_or_pos (lz l) with h | h
  · refine .inr ⟨_, encT_D l, ?_⟩
    rw [List.length_map, encD_def, h, List.replicate_zero, List.nil_append, List.length_reverse]
    refine ldig_length_le (by decide) _ _ (Nat.lt_of_lt_of_le (val_lt l hb) ?_)
    rw [hl]; decide +kernel
  · obtain ⟨z, hz⟩ : ∃ z, lz l = z + 1 := ⟨lz l - 1, by omega⟩
    exact .inl ⟨((List.replicate z 0 ++ (ldig 58 (val 256 l)).reverse).map alpha), by rw [encT_D, encD_def, hz, List.replicate_succ, List.cons_append, List.map_cons, alpha_zero]⟩
theorem bech_shape (k M v : Nat) {l : List Nat} (h : l.length = 20 ∨ l.length = 32) : ∃ c r, hrpN k ++ [49] ++ combT M (hrpN k) (v :: fiveN l) = c :: r ∧ (c = 98 ∨ c = 116) ∧ 36 < (c :: r).length := by
  have hL : (combT M (hrpN k) (v :: fiveN l)).length = (if l.length = 20 then 32 else 52) + 7 := by
    rw [combT_def, List.length_map, List.length_append, createN_length, List.length_cons, fiveN_length h]
  have hL2 : 39 ≤ (combT M (hrpN k) (v :: fiveN l)).length := by rw [hL]; split <;> decide
  clear hL
  generalize combT M (hrpN k) (v :: fiveN l) = C at hL2
  unfold hrpN
  split
  · exact ⟨98, _, rfl, .inl rfl, by simp; omega⟩
  · split
    · exact ⟨98, _, rfl, .inl rfl, by simp; omega⟩
    · exact ⟨116, _, rfl, .inr rfl, by simp; omega⟩
theorem enc_ne_bech {a l : List Nat} {k M v : Nat} (hb : Oct a) (ha : a.length = 25) (hl : l.length = 20 ∨ l.length = 32) : encT a ≠ sN (hrpN k ++ [49] ++ combT M (hrpN k) (v :: fiveN l)) := by
  intro e
  obtain ⟨c, r, e1, hc, hr⟩ := bech_shape k M v hl
  rw [e1] at e
  rcases enc_shape hb ha with ⟨q, hq⟩ | ⟨q, hq, hq2⟩
  · rw [hq] at e
    have := (List.cons.inj (sN_inj e)).1
    omega
  · rw [hq] at e
    have := sN_inj e
    rw [this] at hq2
    omega
theorem refused_sN : Str.ofString "refused" = sN [114, 101, 102, 117, 115, 101, 100] := by decide +kernel
theorem enc_ne_refused {a : List Nat} (hb : Oct a) (ha : a.length = 25) : encT a ≠ Str.ofString "refused" := by
  intro e
  rw [refused_sN, encT_D] at e
  have h1 := sN_inj e
  have h2 : (encD a).length = 7 := by have := congrArg List.length h1; simpa using this
  have h3 : val 58 (encD a) < 58 ^ 7 := by rw [← h2]; exact val_lt _ (encD_lt a)
  have hz : lz a = 0 := by
    rcases Nat.eq_zero_or_pos (lz a) with h | h
    · exact h
    · obtain ⟨z, hz⟩ : ∃ z, lz a = z + 1 := ⟨lz a - 1, by omega⟩
      rw [encD_def, hz, List.replicate_succ, List.cons_append, List.map_cons, alpha_zero] at h1
      exact absurd (List.cons.inj h1).1 (by decide)
  rw [encD_def, hz, List.replicate_zero, List.nil_append, val_ldig (by decide)] at h3
  rw [lz_def] at hz
  cases a with
  | nil => exact absurd ha (by decide)
  | cons x r =>
    have hx : x ≠ 0 := by
      rintro rfl
      simp at hz
    have h4 := val_append 256 [x] r
    have h5 : val 256 [x] = x := by have := val_snoc 256 [] x; rw [val_nil] at this; simpa using this
    rw [List.singleton_append, h5] at h4
    have hr : r.length = 24 := by simpa using ha
    rw [hr] at h4
    have h6 : 1 * 256 ^ 24 ≤ x * 256 ^ 24 := Nat.mul_le_mul_right _ (by omega)
    have h7 : (58 : Nat) ^ 7 < 1 * 256 ^ 24 := by decide +kernel
    omega

theorem take_cons {l : List Nat} {n : Nat} {h : List Nat} (hl : l.take n = h) : l = h ++ l.drop n := by
  rw [← hl, List.take_append_drop]
theorem oct_sub {l : List Nat} (h : Oct l) (i j : Nat) : Oct ((l.drop i).take j) := fun x hx => h x (List.mem_of_mem_drop (List.mem_of_mem_take hx))
theorem oct_drop {l : List Nat} (h : Oct l) (i : Nat) : Oct (l.drop i) := fun x hx => h x (List.mem_of_mem_drop hx)
theorem oct_cons {l : List Nat} {v : Nat} (hv : v < 256) (h : Oct l) : Oct (v :: l) := fun x hx => by
  rcases List.mem_cons.mp hx with rfl | hx
  · exact hv
  · exact h x hx
theorem pk_lt (k : Nat) : pkN k < 256 := by unfold pkN; split <;> decide
theorem sh_lt (k : Nat) : shN k < 256 := by unfold shN; split <;> decide
/-- the two forms of an address -/
theorem addr_form {l : List Nat} (hb : Oct l) (h : kindN l < 5) :
    (∃ p : List Nat, Oct p ∧ p.length = 20 ∧ ((kindN l = 0 ∧ l = [118, 169, 20] ++ p ++ [136, 172] ∧ ∀ k, addrS k l = encT (chk (pkN k :: p))) ∨ (kindN l = 1 ∧ l = [169, 20] ++ p ++ [135] ∧ ∀ k, addrS k l = encT (chk (shN k :: p))))) ∨
    (∃ (p : List Nat) (v M b : Nat), Oct p ∧ (p.length = 20 ∨ p.length = 32) ∧ l.drop 2 = p ∧ l = [b, p.length] ++ p ∧ 2 ≤ kindN l ∧ ((kindN l ≠ 4 ∧ v = 0 ∧ M = 1 ∧ b = 0) ∨ (kindN l = 4 ∧ v = 1 ∧ M = 734539939 ∧ b = 81)) ∧ ∀ k, addrS k l = sN (hrpN k ++ [49] ++ combT M (hrpN k) (v :: fiveN p))) := by
  rcases kind_len h with ⟨hK, hl, ht, hd⟩ | ⟨hK, hl, ht, hd⟩ | ⟨hK, hl, ht⟩ | ⟨hK, hl, ht⟩ | ⟨hK, hl, ht⟩
  · refine .inl ⟨(l.drop 3).take 20, oct_sub hb _ _, by rw [List.length_take, List.length_drop]; omega, .inl ⟨hK, ?_, fun k => by rw [addrS_def, if_pos hK]⟩⟩
    have h1 := take_cons ht
    have h2 : l.drop 3 = (l.drop 3).take 20 ++ (l.drop 3).drop 20 := (List.take_append_drop _ _).symm
    rw [List.drop_drop] at h2
    rw [show 3 + 20 = 23 from rfl, hd] at h2
    rw [List.append_assoc, ← h2]; exact h1
  · refine .inl ⟨(l.drop 2).take 20, oct_sub hb _ _, by rw [List.length_take, List.length_drop]; omega, .inr ⟨hK, ?_, fun k => by rw [addrS_def, if_neg (by omega), if_pos hK]⟩⟩
    have h1 := take_cons ht
    have h2 : l.drop 2 = (l.drop 2).take 20 ++ (l.drop 2).drop 20 := (List.take_append_drop _ _).symm
    rw [List.drop_drop] at h2
    rw [show 2 + 20 = 22 from rfl, hd] at h2
    rw [List.append_assoc, ← h2]; exact h1
  · have hp : (l.drop 2).length = 20 := by rw [List.length_drop]; omega
    exact .inr ⟨l.drop 2, 0, 1, 0, oct_drop hb _, .inl hp, rfl, by rw [hp]; exact take_cons ht, by omega, .inl ⟨by omega, rfl, rfl, rfl⟩, fun k => by rw [addrS_def, if_neg (by omega), if_neg (by omega), if_neg (by omega)]⟩
  · have hp : (l.drop 2).length = 32 := by rw [List.length_drop]; omega
    exact .inr ⟨l.drop 2, 0, 1, 0, oct_drop hb _, .inr hp, rfl, by rw [hp]; exact take_cons ht, by omega, .inl ⟨by omega, rfl, rfl, rfl⟩, fun k => by rw [addrS_def, if_neg (by omega), if_neg (by omega), if_neg (by omega)]⟩
  · have hp : (l.drop 2).length = 32 := by rw [List.length_drop]; omega
    exact .inr ⟨l.drop 2, 1, 734539939, 81, oct_drop hb _, .inr hp, rfl, by rw [hp]; exact take_cons ht, by omega, .inr ⟨hK, rfl, rfl, rfl⟩, fun k => by rw [addrS_def, if_neg (by omega), if_neg (by omega), if_pos hK]⟩
theorem chk25 {v : Nat} {p : List Nat} (hp : p.length = 20) : (chk (v :: p)).length = 25 := by rw [chk_length, List.length_cons, hp]
theorem addr_ne_refused {k : Nat} {l : List Nat} (hb : Oct l) (h : kindN l < 5) : addrS k l ≠ Str.ofString "refused" := by
  rcases addr_form hb h with ⟨p, hp, hp2, ⟨_, _, e⟩ | ⟨_, _, e⟩⟩ | ⟨p, v, M, b, hp, hp2, _, _, _, _, e⟩
  · rw [e]; exact enc_ne_refused (chk_oct (oct_cons (pk_lt k) hp)) (chk25 hp2)
  · rw [e]; exact enc_ne_refused (chk_oct (oct_cons (sh_lt k) hp)) (chk25 hp2)
  · rw [e]
    obtain ⟨c, r, e1, hc, _⟩ := bech_shape k M v hp2
    rw [e1, refused_sN]
    intro e9
    have := (List.cons.inj (sN_inj e9)).1
    omega
theorem five_lt1 {v : Nat} (hv : v < 32) (p : List Nat) : ∀ x ∈ v :: fiveN p, x < 32 := by
  intro x hx
  rcases List.mem_cons.mp hx with rfl | hx
  · exact hv
  · exact fiveN_lt p x hx
theorem comb_inj {M M' : Nat} {hl ds es : List Nat} (hd : ∀ x ∈ ds, x < 32) (he : ∀ x ∈ es, x < 32) (e : combT M hl ds = combT M' hl es) : ds = es := by
  rw [combT_def, combT_def] at e
  have h1 := map_cst_inj (fun x hx => by
    rcases List.mem_append.mp hx with h | h
    · exact hd x h
    · exact createN_lt _ _ _ x h) (fun x hx => by
    rcases List.mem_append.mp hx with h | h
    · exact he x h
    · exact createN_lt _ _ _ x h) e
  have h2 : ds.length = es.length := by
    have := congrArg List.length h1
    rw [List.length_append, List.length_append, createN_length, createN_length] at this
    omega
  exact List.append_inj_left h1 h2
theorem addr_inj {k : Nat} {l m : List Nat} (hb : Oct l) (hm : Oct m) (h : kindN l < 5) (h' : kindN m < 5) (e : addrS k l = addrS k m) : l = m := by
  have hps : pkN k ≠ shN k := by unfold pkN shN; split <;> decide
  rcases addr_form hb h with ⟨p, hp, hp2, ⟨_, el, ea⟩ | ⟨_, el, ea⟩⟩ | ⟨p, v, M, b, hp, hp2, _, el, _, hv, ea⟩ <;> rcases addr_form hm h' with ⟨q, hq, hq2, ⟨_, em, eb⟩ | ⟨_, em, eb⟩⟩ | ⟨q, v', M', b', hq, hq2, _, em, _, hv', eb⟩ <;> rw [ea, eb] at e
  · have h9 := chk_inj (oct_cons (pk_lt k) hp) (oct_cons (pk_lt k) hq) e
    rw [el, em, (List.cons.inj h9).2]
  · exact absurd (List.cons.inj (chk_inj (oct_cons (pk_lt k) hp) (oct_cons (sh_lt k) hq) e)).1 hps
  · exact absurd e (enc_ne_bech (chk_oct (oct_cons (pk_lt k) hp)) (chk25 hp2) hq2)
  · exact absurd (List.cons.inj (chk_inj (oct_cons (sh_lt k) hp) (oct_cons (pk_lt k) hq) e)).1 (fun h => hps h.symm)
  · have h9 := chk_inj (oct_cons (sh_lt k) hp) (oct_cons (sh_lt k) hq) e
    rw [el, em, (List.cons.inj h9).2]
  · exact absurd e (enc_ne_bech (chk_oct (oct_cons (sh_lt k) hp)) (chk25 hp2) hq2)
  · exact absurd e.symm (enc_ne_bech (chk_oct (oct_cons (pk_lt k) hq)) (chk25 hq2) hp2)
  · exact absurd e.symm (enc_ne_bech (chk_oct (oct_cons (sh_lt k) hq)) (chk25 hq2) hp2)
  · have h9 := comb_inj (five_lt1 (by omega) p) (five_lt1 (by omega) q) (List.append_cancel_left (sN_inj e))
    have h10 := List.cons.inj h9
    have h11 := five_inj hp hq hp2 hq2 h10.2
    have h12 : b = b' := by omega
    rw [el, em, h11, h12]
theorem addr_pk {k j : Nat} {l : List Nat} (hb : Oct l) (h : kindN l < 2) : addrS k l = addrS j l ↔ (k = 0 ↔ j = 0) := by
  rcases addr_form hb (by omega) with ⟨p, hp, hp2, ⟨_, el, ea⟩ | ⟨_, el, ea⟩⟩ | ⟨p, v, M, b, hp, hp2, _, el, h2, hv, ea⟩
  · rw [ea, ea]
    constructor
    · intro e
      have := (List.cons.inj (chk_inj (oct_cons (pk_lt k) hp) (oct_cons (pk_lt j) hp) e)).1
      unfold pkN at this
      constructor
      · rintro rfl
        refine Classical.byContradiction fun hj => ?_
        rw [if_pos rfl, if_neg hj] at this
        exact absurd this (by decide)
      · rintro rfl
        refine Classical.byContradiction fun hk => ?_
        rw [if_pos rfl, if_neg hk] at this
        exact absurd this (by decide)
    · intro e
      have : pkN k = pkN j := by unfold pkN; by_cases hk : k = 0 <;> simp_all
      rw [this]
  · rw [ea, ea]
    constructor
    · intro e
      have := (List.cons.inj (chk_inj (oct_cons (sh_lt k) hp) (oct_cons (sh_lt j) hp) e)).1
      unfold shN at this
      constructor
      · rintro rfl
        refine Classical.byContradiction fun hj => ?_
        rw [if_pos rfl, if_neg hj] at this
        exact absurd this (by decide)
      · rintro rfl
        refine Classical.byContradiction fun hk => ?_
        rw [if_pos rfl, if_neg hk] at this
        exact absurd this (by decide)
    · intro e
      have : shN k = shN j := by unfold shN; by_cases hk : k = 0 <;> simp_all
      rw [this]
  · omega
theorem addr_hrp {k j : Nat} {l : List Nat} (hb : Oct l) (h : 2 ≤ kindN l) (h5 : kindN l < 5) : addrS k l = addrS j l ↔ hrpN k = hrpN j := by
  rcases addr_form hb h5 with ⟨p, hp, hp2, ⟨h9, el, ea⟩ | ⟨h9, el, ea⟩⟩ | ⟨p, v, M, b, hp, hp2, _, el, h2, hv, ea⟩
  · omega
  · omega
  · constructor
    · intro e
      rw [ea, ea] at e
      have h1 := congrArg (List.take 3) (sN_inj e)
      unfold hrpN at h1 ⊢
      by_cases k0 : k = 0 <;> by_cases k2 : k = 2 <;> by_cases j0 : j = 0 <;> by_cases j2 : j = 2 <;> simp [k0, k2, j0, j2] at h1 ⊢
    · intro e
      rw [ea, ea, e]
end

section
local macro_rules | `(tactic| walk_at "execs cons") => `(tactic| dsimp only)
local macro_rules | `(tactic| walk_at "execs nil") => `(tactic| dsimp only)

section
local macro_rules | `(tactic| walk_at "no such key of mine") => `(tactic| fail)
open PySem PySem.W PySem.Calls PyProof.Rows
set_option maxRecDepth 100000
variable {prog : Program} {w : World} {p : Program} {loose : List Str} {mean : ExcName → Option Value} {mg mb : Str → Option Value}

theorem fill26 : PySem.Challenge.rw_bd0008_01 = PySem.Challenge.rw_bd0008_01 ∧ hd.heap_39 = hd.heap_39 := by
  w_on
  k_fill
  exact ⟨rfl, rfl⟩



def RObj (b : Array UInt8) (K : Params) (v : Value) (tl : Led) : Prop := ∃ x d tk ub, v = .ref x ∧ tl = [(x, instObj 941 d), (d, datD K tk (.bytes b ub))] ∧ d < x
theorem rt_obj {h₀ : Heap} {L : Addr} {m : Str → Option Value} {news : Led} {s : Shared} {Q : Value → Shared → Prop} {b : Array UInt8} {K : Params} (k : ∀ (x d : Addr) (tk : Tok) (ub : Tok) (h' : Heap) (tk' : Nat), d < x → Fr h₀ L h' m → News h₀ L h' ((x, instObj 941 d) :: (d, datD K tk (.bytes b ub)) :: news) → AllLt x news → AllLt d news → Q (.ref x) { s with heap := h', toks := tk' }) : RetT h₀ L m news s Q (RObj b K) := by
  rintro v tl h' tk' ⟨x, d, tk, ub, rfl, rfl, hd⟩ F N l
  exact k x d tk ub h' tk' hd F N (allLt_of (l _ (.head _))) (allLt_of (l _ (.tail _ (.head _))))
set_option maxHeartbeats 4000000 in
theorem c_script (b : Array UInt8) (u : Tok) : Says prog w p loose mean mg mb 40 400 941 [.bytes b u] (fun _ _ => True) (RObj b w.params) := by
  unfold Says
  intro dp un gd cn cs a ccd cl outer A₀ base h₀ L m news s Q E B F X N T hk hpre hdp hu hret
  refine PySem.wpAny_noRaise ?_
  k_with_none
  have hMk := kstMark
  k_dflt (refine' call_cls ?k1 ?k2 ?k3 ?k4 ?k5 ?k6 ?_; (case k1 => k_asm); (case k2 => k_asm); (case k3 => k_asm); (case k4 => k_is); (case k5 => k_is); (case k6 => k_is); k_whole; intro x' d' h' F' N' l1 l2; (have l1' := l1); (have l2' := l2); (try k_lt l1); (try k_lt2 l2))
  clear N
  w_strict (k_dflt (refine' PySem.W.code_def ?k1 ?k2 ?k3 ?k4 ?k5 ?kA ?kF ?kK ?k6 ?k7 ?k8 ?k9 ?kB ?_ ?c2 ?c3 ?c4 ?c5; (case kA => exact rfl); (case kF => exact rfl); (case kK => assumption); (case k1 => k_asm); (case k2 => k_asm); (case k3 => k_asm); (case k4 => k_asm); (case k5 => k_asm); (case k6 => k_is); (case k7 => k_is); (case k8 => ktr_room); (case k9 => exact binds_K (X.keeps F'.keep) rfl (by k_is) rfl rfl rfl); (case c5 => decide); (case kB => exact locs rfl); (case c2 => exact rfl); (case c3 => exact rfl); (case c4 => exact rfl); k_whole; intro g' L' h'' FG' F'' N'' B' X' T'; (try dsimp only); (try k_lift B'); (try k_fold)))
  k_steps
  with_reducible rename News _ _ _ _ => kN9
  (try dsimp only at kN9)
  refine hret _ [_, _] _ _ ⟨x', d', _, u, rfl, rfl, l2'⟩ (by k_asm) kN9 ?_
  intro q hq p hp
  have h1 := l1' p hp
  rcases hq with _ | ⟨_, hq⟩
  · exact Nat.lt_trans h1 l2'
  rcases hq with _ | ⟨_, hq⟩
  · exact h1
  · exact nomatch hq
end

section
open PySem PySem.W PySem.Calls PyProof.Rows
set_option maxRecDepth 100000
variable {prog : Program} {w : World} {p : Program} {loose : List Str} {mean : ExcName → Option Value} {mg mb : Str → Option Value}

theorem fill24 : PySem.Challenge.rw_bd0008_01 = PySem.Challenge.rw_bd0008_01 ∧ hd.heap_39 = hd.heap_39 := by
  w_on
  k_fill
  exact ⟨rfl, rfl⟩



theorem two_over {a b : Addr} {oa ob : Obj} {news : Led} (ha : ∀ q ∈ news, q.1 < a) (hb : ∀ q ∈ news, q.1 < b) : ∀ x ∈ [(a, oa), (b, ob)], ∀ q ∈ news, q.1 < x.1 := by
  intro x hx q hq
  rcases List.mem_cons.mp hx with rfl | hx
  · exact ha q hq
  · rw [List.mem_singleton.mp hx]; exact hb q hq
def RScript (r : List Nat) (K : Params) (v : Value) (tl : Led) : Prop := ∃ x d tk ub b, v = .ref x ∧ tl = [(x, instObj 941 d), (d, datD K tk (.bytes b ub))] ∧ KBw.bInts b = nI r
theorem rt_scr {h₀ : Heap} {L : Addr} {m : Str → Option Value} {news : Led} {s : Shared} {Q : Value → Shared → Prop} {r : List Nat} {K : Params} (k : ∀ (x d : Addr) (tk : Tok) (ub : Tok) (b : Array UInt8) (h' : Heap) (tk' : Nat), KBw.bInts b = nI r → Fr h₀ L h' m → News h₀ L h' ((x, instObj 941 d) :: (d, datD K tk (.bytes b ub)) :: news) → (∀ q ∈ news, q.1 < x) → (∀ q ∈ news, q.1 < d) → Q (.ref x) { s with heap := h', toks := tk' }) : RetT h₀ L m news s Q (RScript r K) := by
  rintro v tl h' tk' ⟨x, d, tk, ub, b, rfl, rfl, hb⟩ F N l
  exact k x d tk ub b h' tk' hb F N (l _ (.head _)) (l _ (.tail _ (.head _)))
theorem dictK {h : Heap} {K : Frag} {a : Addr} {es : Array DictEntry} {n : Nat} {kvs : List (Str × Value)} (X : K.In h) (hl : K.lookup a = some ⟨.type "dict", none, .dict es n, #[]⟩) (hk : KeysLit w.params es.toList) (hp : Pairs (PySem.strKind prog w) es.toList kvs) (hn : (kvs.map (·.1)).Nodup) : h.DictOf (PySem.strKind prog w) a kvs :=
  ⟨_, es, n, X _ _ hl, ⟨rfl, rfl, rfl⟩, rfl, fun e he => by
    obtain ⟨x, t, e1, e2⟩ := hk.all e (Array.mem_toList_iff.mpr he)
    exact ⟨x, by rw [e1]; exact strKind_is prog w x t, e2⟩, hp, hn⟩
theorem net_dict {h : Heap} (X : (hd.heap_39 w.params).In h) : h.DictOf (PySem.strKind prog w) 22 [(Str.ofString "main", .ref 23), (Str.ofString "test", .ref 24), (Str.ofString "regtest", .ref 25), (Str.ofString "signet", .ref 26)] :=
by
  refine dictK X (by k_is) ?_ ?_ ?_
  · k_keys
  · exact .cons (by with_unfolding_all rfl) rfl (.cons (by with_unfolding_all rfl) rfl (.cons (by with_unfolding_all rfl) rfl (.cons (by with_unfolding_all rfl) rfl .nil)))
  · decide

section
variable {A : Around} {E : Value → Shared → Prop} {s : Shared} {h₀ : Heap} {env : Env} {target : Expr} {body : List Stmt} {Q : Flow → Shared → Prop}
/-- a loop over the values of a dict of the base heap -/
theorem base_vals {d vw : Addr} {kvs : List (Str × Value)} {m₀ : Str → Option Value} {news : Led}
    (hh : A.handled = none) (F : Fr h₀ env.locals s.heap m₀) (N : News h₀ env.locals s.heap news) (hv : s.heap.IsValuesView vw d) (hb : h₀.DictOf (PySem.strKind prog w) d kvs)
    (rest₀ : ∀ I : Addr, (∀ p ∈ news, p.1 < I) → ItemsRest prog w A E h₀ env target body Q s [(I, "dict_valueiterator")] [] (kvs.map fun p => Itm.val p.2) m₀ news) :
    wpAny (model prog w) A (pyIter (.ref vw)) (fun it s₂ => TurnsAt prog w A h₀ env target body Q E it s₂) E s := by
  have hD := hb.keep F.keep
  obtain ⟨ep, hat⟩ := hD.dictAt
  obtain ⟨od, _, _, hbd, _⟩ := hb
  have hne : d ≠ s.heap.objs.size := Nat.ne_of_lt hat.lt_size
  have hdL : env.locals ≠ d := fun e => absurd (Heap.lt_size hbd) (Nat.not_lt.mpr (e ▸ F.above))
  have hIL : env.locals ≠ s.heap.objs.size := fun e => absurd F.ns.lt (e ▸ Nat.lt_irrefl _)
  have hI0 : h₀.get? s.heap.objs.size = none := next_is_new F
  refine wpAny_pyIter_values hv hat ?_
  refine ⟨s.heap.objs.size, _, _, _, _, _, _, m₀, news, fun i m₁ news₁ => ItemsRest prog w A E h₀ env target body Q s [(s.heap.objs.size, "dict_valueiterator")] [] ((kvs.map fun p => Itm.val p.2).drop i) m₁ news₁, rfl,
    KTurns.ofWalks (Walks.dictValues (knd := PySem.strKind prog w) hh s.heap.objs.size d hne kvs ep) (fun i v s Q E st q => letGo_valiter st.1 q), ?_, ?_, ?_, ?_, F.push _, fun p hp => ⟨Heap.get?_push_of_some _ (N p hp).1, (N p hp).2⟩, by dsimp only; rw [List.drop_zero]; exact rest₀ _ fun p hp => Heap.lt_size (N p hp).1, ?_, ?_⟩
  · intro hI
    have : env.locals = s.heap.objs.size ∨ env.locals = d := by simpa using hI
    rcases this with e | e
    · exact hIL e
    · exact hdL e
  · intro b hb
    have : b = s.heap.objs.size := by simpa using hb
    rw [this]; exact hI0
  · intro p hp hI
    have : p.1 = s.heap.objs.size := by simpa using hI
    exact absurd (Heap.lt_size (N p hp).1) (this ▸ Nat.lt_irrefl _)
  · exact ⟨⟨_, Heap.get?_push_size _ rfl, rfl, rfl⟩, hat.push _⟩
  · intro i v m₁ news₁ h₁ tk₁ own hin hPi hJ hoff hown hget hall hst₁ F₁ N₁
    obtain ⟨k, hk⟩ := hPi
    have hd : (kvs.map fun p => Itm.val p.2).drop i = Itm.val v :: (kvs.map fun p => Itm.val p.2).drop (i + 1) := by
      have hlt : i < (kvs.map fun p => Itm.val p.2).length := by rw [List.length_map]; exact hin
      rw [List.drop_eq_getElem_cons hlt]
      congr 1
      rw [List.getElem_map]
      have h9 := (List.getElem?_eq_getElem (by simpa using hin : i < kvs.length)).symm.trans hk
      rw [Option.some.inj h9]
    rw [hd] at hJ
    obtain ⟨⟨it, hit, hic, _⟩, _⟩ := hst₁
    have hIo : (s.heap.objs.size, it) ∈ own := hall _ (by simp) hI0 it hit
    have N₂ : News h₀ env.locals h₁ ([(s.heap.objs.size, it)] ++ news₁) := fun p hp => by
      rcases List.mem_append.mp hp with hp | hp
      · rw [List.mem_singleton.mp hp]; exact N₁ _ (List.mem_append_left _ hIo)
      · exact N₁ _ (List.mem_append_right _ hp)
    have fin : ∀ s₃, UnrEndW h₀ env.locals { s with heap := h₁, toks := tk₁ } [(s.heap.objs.size, it)] (fun m' n' => SubL [] n' ∧ ItemsRest prog w A E h₀ env target body Q s [(s.heap.objs.size, "dict_valueiterator")] [] ((kvs.map fun p => Itm.val p.2).drop (i + 1)) m' n') s₃ →
        LoopStepU h₀ env.locals [s.heap.objs.size] own (fun m₁ news₁ => ItemsRest prog w A E h₀ env target body Q s [(s.heap.objs.size, "dict_valueiterator")] [] ((kvs.map fun p => Itm.val p.2).drop (i + 1)) m₁ news₁) { s with heap := h₁, toks := tk₁ } .next s₃ := by
      rintro s₃ ⟨h', tk, m', news', e, F', N', ho, _, r⟩
      refine ⟨rfl, h', tk, m', news', e, F', ?_, ?_, r⟩
      · rintro ⟨pa, po⟩ hp
        rcases List.mem_append.mp hp with hp | hp
        · have hpf : pa = s.heap.objs.size ∨ pa = d := by simpa using hown _ hp
          rcases hpf with rfl | rfl
          · have h2 : po = it := Option.some.inj ((hget _ hp).symm.trans hit)
            rw [h2]
            exact N' _ (List.mem_append_left _ (.head _))
          · have h2 := (N₁ _ (List.mem_append_left _ hp)).2.2
            dsimp only at h2
            rw [hbd] at h2
            cases h2
        · exact N' _ (List.mem_append_right _ hp)
      · intro p hp hI
        exact ho p hp _ (.head _) (by simpa using hI)
    refine wpAny_mono (hJ v h₁ tk₁ rfl F₁ it hic N₂) (fun _ s₂ h₂ => wpAny_mono h₂ (fun f s₃ p => ?_) fun _ _ e => e) fun _ _ e => e
    cases f with
    | ret v => exact .ret p
    | brk => exact .brk p
    | next => exact .next (fin _ p)
    | cont => exact .cont (fin _ p)
  · intro h' tk m' news' F' N' _ hJ
    have z : (kvs.map fun p => Itm.val p.2).drop kvs.length = [] := List.drop_eq_nil_of_le (by rw [List.length_map]; exact Nat.le_refl _)
    rw [z] at hJ
    exact hJ h' tk F' N'
theorem base_callValues {L d : Addr} {m : Str → Option Value} {news : Led} {kvs : List (Str × Value)} {R : Value → Shared → Prop} (F : Fr h₀ L s.heap m) (N : News h₀ L s.heap news) (hb : h₀.DictOf (PySem.strKind prog w) d kvs) (lo : (d == sysModules) = false)
    (h : ∀ h', h'.IsValuesView s.heap.objs.size d → Fr h₀ L h' m → News h₀ L h' news → R (.ref s.heap.objs.size) { s with heap := h' }) : wpAny (model prog w) A (call (.builtin "dict.values") [.ref d]) R E s :=
  have hD := hb.keep F.keep
  call_meetsIn PySem.F.slot_dict_values hD.typeIs PySem.F.entry_dict_values (PySem.F.args_dict_values_1 _) (meets_dict_values (PySem.strKind prog w) d lo) ⟨⟨kvs, hD⟩, h _ ⟨_, Heap.get?_push_size _ rfl, rfl, rfl⟩ (F.push _) fun p hp => ⟨Heap.get?_push_of_some _ (N p hp).1, (N p hp).2⟩⟩
theorem base_method {L d : Addr} {m : Str → Option Value} {kvs : List (Str × Value)} {pl : Sem Bool} {R : Value × List Value → Shared → Prop} (F : Fr h₀ L s.heap m) (hb : h₀.DictOf (PySem.strKind prog w) d kvs) (h : R (.builtin "dict.values", [.ref d]) s) : wpAny (model prog w) A (getMethod (.ref d) (Str.ofString "values") pl) R E s :=
  have hD := hb.keep F.keep
  getMethod_builtin hD.typeIs PySem.F.plainAttrs_dict PySem.F.slot_dict_values PySem.F.type_dict_values hD.mapOf.noDict h
end

theorem unr_end {h₀ h' : Heap} {L I : Addr} {o : Obj} {m' : Str → Option Value} {news : Led} {s₁ : Shared} {tk : Nat} {rest : (Str → Option Value) → Led → Prop} (F : Fr h₀ L h' m') (N : News h₀ L h' ((I, o) :: news)) (hlt : ∀ p ∈ news, p.1 < I) (r : rest m' news) : UnrEndW h₀ L s₁ [(I, o)] (fun m' n' => SubL [] n' ∧ rest m' n') { s₁ with heap := h', toks := tk } :=
  ⟨h', tk, m', news, rfl, F, N, fun p hp q hq => by rw [List.mem_singleton.mp hq]; exact Nat.ne_of_lt (hlt p hp), trivial, r⟩
local macro_rules | `(tactic| walk_at "exec Try") => `(tactic| (with_unfolding_all refine wpAny_Try_except (PySem.wpAny_noRaise ?_)))
local macro_rules | `(tactic| walk_at "UnrEndW") => `(tactic| (k_dflt (refine unr_end (by k_asm) (by k_asm) (by with_reducible assumption) ?_)))
local macro_rules | `(tactic| walk_at "exec For Name Call cons nil") => `(tactic| ((rename Fr _ _ _ _ => lF'); with_unfolding_all (refine' For_turns lF' ?_); k_whole; (with_unfolding_all refine MethodCall_ ?_)))
local macro_rules | `(tactic| walk_at "getMethod ref") => `(tactic| ((with_reducible show wpAny _ _ (getMethod (Value.ref 22) (Str.ofString "values") _) _ _ _); k_dflt (refine base_method (by k_asm) (net_dict (by k_asm)) ?_)))
local macro_rules | `(tactic| walk_at "call builtin:dict.values") => `(tactic| (k_dflt (refine base_callValues (by k_asm) (by k_asm) (net_dict (by k_asm)) (by decide) ?_); intro h' hv' F' N'))
local macro_rules | `(tactic| walk_at "pyIter ref") => `(tactic| ((with_reducible rename PySem.Heap.IsValuesView _ _ _ => hVV); k_dflt (refine base_vals (by rfl) (by k_asm) (by k_asm) hVV (net_dict (by k_asm)) ?_); clear hVV; intro i' l1; (try k_lt l1)))
theorem cut1 (v : Nat) (l : List Nat) : List.take ((nI (v :: l)).length - clipAt (nI (v :: l)).length 1) (List.drop (clipAt (nI (v :: l)).length 1) (nI (v :: l))) = nI l := by
  have h : clipAt (nI (v :: l)).length 1 = 1 := by
    unfold clipAt
    rw [nI_length, List.length_cons]
    omega
  rw [h]
  show List.take _ (nI l) = nI l
  refine List.take_of_length_le ?_
  rw [nI_length, nI_length, List.length_cons]
  omega
theorem rt_objA {h₀ : Heap} {L : Addr} {m : Str → Option Value} {news : Led} {s : Shared} {Q : Value → Shared → Prop} {b : Array UInt8} {K : Params} (k : ∀ (x d : Addr) (tk : Tok) (ub : Tok) (h' : Heap) (tk' : Nat), d < x → Fr h₀ L h' m → News h₀ L h' ((x, instObj 941 d) :: (d, datD K tk (.bytes b ub)) :: news) → (∀ q ∈ news, q.1 < x) → (∀ q ∈ news, q.1 < d) → Q (.ref x) { s with heap := h', toks := tk' }) : RetT h₀ L m news s Q (RObj b K) := by
  rintro v tl h' tk' ⟨x, d, tk, ub, rfl, rfl, hd⟩ F N l
  exact k x d tk ub h' tk' hd F N (l _ (.head _)) (l _ (.tail _ (.head _)))
theorem ret_scr2 {h₀ h' : Heap} {L x d : Addr} {m : Str → Option Value} {news : Led} {i : Addr × Obj} {s : Shared} {Q : Value → Shared → Prop} {tk ub : Tok} {tk' : Nat} {b : Array UInt8} {xs : List Int} {r : List Nat} {K : Params} (hret : RetT h₀ L m news s Q (RScript r K)) (hb : KBw.bInts b = xs) (N : News h₀ L h' ((x, instObj 941 d) :: (d, datD K tk (.bytes b ub)) :: i :: news))
    (l0 : ∀ q ∈ i :: news, q.1 < x) (l1 : ∀ q ∈ i :: news, q.1 < d) (hx : xs = nI r) (F : Fr h₀ L h' m) : Q (.ref x) { s with heap := h', toks := tk' } :=
  hret _ [_, _] h' tk' ⟨x, d, tk, ub, b, rfl, rfl, hb.trans hx⟩ F (fun p hp => N p (by
    rcases hp with _ | ⟨_, hp⟩
    · exact .head _
    rcases hp with _ | ⟨_, hp⟩
    · exact .tail _ (.head _)
    · exact .tail _ (.tail _ (.tail _ hp)))) (two_over (fun q hq => l0 q (.tail _ hq)) (fun q hq => l1 q (.tail _ hq)))
theorem eq_first {A : Around} {E : Value → Shared → Prop} {s : Shared} {Q : Value → Shared → Prop} {x : Array UInt8} {v : Nat} {l : List Nat} {c : UInt8} {t u : Tok} (hx : KBw.bInts x = nI ((v :: l).take 1)) (h1 : v = c.toNat → Q (.bool true) s) (h2 : v ≠ c.toNat → Q (.bool false) s) : wpAny (model prog w) A (compareOp .Eq (.bytes x t) (.bytes (List.toArray [c]) u)) Q E s := by
  refine PySem.W.eq_bytes ?_
  have e : (x.toList == [c]) = decide (v = c.toNat) := by
    rw [cut_eq (ys := [c]) hx]
    show decide ([v] = [c.toNat]) = _
    simp
  show Q (.bool (x.toList == [c])) s
  rw [e]
  by_cases h : v = c.toNat
  · rw [decide_eq_true h]; exact h1 h
  · rw [decide_eq_false h]; exact h2 h
set_option maxHeartbeats 4000000 in
theorem c_atsp (x : Str) (u : Tok) (v : Nat) (l r : List Nat) : Says prog w p loose mean mg mb 160 2000 950 [.str x u] (fun _ _ => x = encT (chk (v :: l)) ∧ (∀ y ∈ l, y < 256) ∧ l.length = 20 ∧ (((v = 0 ∨ v = 111) ∧ r = [118, 169, 20] ++ l ++ [136, 172]) ∨ ((v = 5 ∨ v = 196) ∧ r = [169, 20] ++ l ++ [135]))) (RScript r w.params) := by
  unfold Says
  intro dp un gd cn cs a ccd cl outer A₀ base h₀ L m news s Q E B F X N T hk hpre hdp hu hret
  obtain ⟨hx, hb, hl, hv⟩ := hpre
  refine wpAny_call ?_
  w_strict (k_dflt cell_enter)
  refine PySem.wpAny_noRaise ?_
  refine gen_toks ?_
  intro tk0
  with_reducible rename Fr _ _ _ _ => Fe
  replace Fe : Fr _ _ _ (fun y => List.lookup y [(Str.ofString "addr", _)]) := Fe
  k_with_none
  have hMk := kstMark
  repeat (fail_if_success (with_reducible show wpAny _ _ (call (Value.ref 127) _) _ _ _)); first | (k_unfold; (try dsimp only)) | walk1 | (dsimp only; walk1)
  refine Says.go (c_dcheck x u (v :: l)) ⟨hx, (by intro y hy; rcases List.mem_cons.1 hy with rfl | hy; · omega
                                                  · exact hb y hy), by simp [hl]⟩ ?_
  refine rt_bytes ?_
  intro b tb h9 tk9 hbb F9 N9
  have hz : (nI (v :: l)).length ≤ 70 := by rw [nI_length]; simp [hl]
  have P1 := pick_take hbb 1
  clear hx hb hl
  repeat (fail_if_success (with_reducible show wpAny _ _ (subscriptTail _ _ (Value.ref _) (Value.str _ _)) _ _ _)); first | (k_unfold; (try dsimp only)) | walk1 | (dsimp only; walk1)
  refine topItem_K (a := 23) (es := esN w.params 23) (by k_asm) (by k_asm) (hlN23 _) (hkN23 _) (by k_is) ?_ (by with_unfolding_all rfl)
  repeat (fail_if_success (with_reducible show wpAny _ _ (compareOp CmpOp.Eq (Value.bytes _ _) (Value.bytes _ _)) _ _ _)); first | (k_unfold; (try dsimp only)) | walk1 | (dsimp only; walk1)
  refine eq_first P1 ?_ ?_
  · intro hv0
    have hv1 : v = 0 := hv0
    have hr : r = [118, 169, 20] ++ l ++ [136, 172] := by rcases hv with ⟨_, h⟩ | ⟨h, _⟩ <;> first | exact h | omega
    repeat (fail_if_success (with_reducible show wpAny _ _ (call (Value.ref 941) _) _ _ _)); first | (k_unfold; (try dsimp only)) | walk1 | (dsimp only; walk1)
    refine Says.go (c_script _ _) trivial ?_
    refine rt_objA ?_
    intro xo xd tko ubo h9 tk9 lxd F9 N9 lx ld
    k_steps
    with_reducible rename News _ _ _ _ => kN9
    (try dsimp only at kN9)
    refine ret_scr2 hret (by with_reducible assumption) kN9 lx ld ?_ (by k_asm)
    rw [hr, cut1]
    simp [nI]
  intro hn0
  repeat (fail_if_success (with_reducible show wpAny _ _ (subscriptTail _ _ (Value.ref _) (Value.str _ _)) _ _ _)); first | (k_unfold; (try dsimp only)) | walk1 | (dsimp only; walk1)
  refine topItem_K (a := 23) (es := esN w.params 23) (by k_asm) (by k_asm) (hlN23 _) (hkN23 _) (by k_is) ?_ (by with_unfolding_all rfl)
  repeat (fail_if_success (with_reducible show wpAny _ _ (compareOp CmpOp.Eq (Value.bytes _ _) (Value.bytes _ _)) _ _ _)); first | (k_unfold; (try dsimp only)) | walk1 | (dsimp only; walk1)
  refine eq_first P1 ?_ ?_
  · intro hv0
    have hv1 : v = 5 := hv0
    have hr : r = [169, 20] ++ l ++ [135] := by rcases hv with ⟨h, _⟩ | ⟨_, h⟩ <;> first | exact h | omega
    repeat (fail_if_success (with_reducible show wpAny _ _ (call (Value.ref 941) _) _ _ _)); first | (k_unfold; (try dsimp only)) | walk1 | (dsimp only; walk1)
    refine Says.go (c_script _ _) trivial ?_
    refine rt_objA ?_
    intro xo xd tko ubo h9 tk9 lxd F9 N9 lx ld
    k_steps
    with_reducible rename News _ _ _ _ => kN9
    (try dsimp only at kN9)
    refine ret_scr2 hret (by with_reducible assumption) kN9 lx ld ?_ (by k_asm)
    rw [hr, cut1]
    simp [nI]
  intro hn5
  repeat (fail_if_success (with_reducible show wpAny _ _ (subscriptTail _ _ (Value.ref _) (Value.str _ _)) _ _ _)); first | (k_unfold; (try dsimp only)) | walk1 | (dsimp only; walk1)
  refine topItem_K (a := 24) (es := esN w.params 24) (by k_asm) (by k_asm) (hlN24 _) (hkN24 _) (by k_is) ?_ (by with_unfolding_all rfl)
  repeat (fail_if_success (with_reducible show wpAny _ _ (compareOp CmpOp.Eq (Value.bytes _ _) (Value.bytes _ _)) _ _ _)); first | (k_unfold; (try dsimp only)) | walk1 | (dsimp only; walk1)
  refine eq_first P1 ?_ ?_
  · intro hv0
    have hv1 : v = 111 := hv0
    have hr : r = [118, 169, 20] ++ l ++ [136, 172] := by rcases hv with ⟨_, h⟩ | ⟨h, _⟩ <;> first | exact h | omega
    repeat (fail_if_success (with_reducible show wpAny _ _ (call (Value.ref 941) _) _ _ _)); first | (k_unfold; (try dsimp only)) | walk1 | (dsimp only; walk1)
    refine Says.go (c_script _ _) trivial ?_
    refine rt_objA ?_
    intro xo xd tko ubo h9 tk9 lxd F9 N9 lx ld
    k_steps
    with_reducible rename News _ _ _ _ => kN9
    (try dsimp only at kN9)
    refine ret_scr2 hret (by with_reducible assumption) kN9 lx ld ?_ (by k_asm)
    rw [hr, cut1]
    simp [nI]
  intro hn111
  repeat (fail_if_success (with_reducible show wpAny _ _ (subscriptTail _ _ (Value.ref _) (Value.str _ _)) _ _ _)); first | (k_unfold; (try dsimp only)) | walk1 | (dsimp only; walk1)
  refine topItem_K (a := 24) (es := esN w.params 24) (by k_asm) (by k_asm) (hlN24 _) (hkN24 _) (by k_is) ?_ (by with_unfolding_all rfl)
  repeat (fail_if_success (with_reducible show wpAny _ _ (compareOp CmpOp.Eq (Value.bytes _ _) (Value.bytes _ _)) _ _ _)); first | (k_unfold; (try dsimp only)) | walk1 | (dsimp only; walk1)
  refine eq_first P1 ?_ ?_
  · intro hv0
    have hv1 : v = 196 := hv0
    have hr : r = [169, 20] ++ l ++ [135] := by rcases hv with ⟨h, _⟩ | ⟨_, h⟩ <;> first | exact h | omega
    repeat (fail_if_success (with_reducible show wpAny _ _ (call (Value.ref 941) _) _ _ _)); first | (k_unfold; (try dsimp only)) | walk1 | (dsimp only; walk1)
    refine Says.go (c_script _ _) trivial ?_
    refine rt_objA ?_
    intro xo xd tko ubo h9 tk9 lxd F9 N9 lx ld
    k_steps
    with_reducible rename News _ _ _ _ => kN9
    (try dsimp only at kN9)
    refine ret_scr2 hret (by with_reducible assumption) kN9 lx ld ?_ (by k_asm)
    rw [hr, cut1]
    simp [nI]
  intro hn196
  exact absurd (show v = 0 ∨ v = 5 ∨ v = 111 ∨ v = 196 by omega) (by rintro (h | h | h | h) <;> first | exact hn0 h | exact hn5 h | exact hn111 h | exact hn196 h)
set_option maxHeartbeats 4000000 in
theorem c_from (x : Str) (u : Tok) (v : Nat) (l r : List Nat) : Says prog w p loose mean mg mb 170 2100 914 [.ref 941, .str x u] (fun _ _ => x = encT (chk (v :: l)) ∧ (∀ y ∈ l, y < 256) ∧ l.length = 20 ∧ (((v = 0 ∨ v = 111) ∧ r = [118, 169, 20] ++ l ++ [136, 172]) ∨ ((v = 5 ∨ v = 196) ∧ r = [169, 20] ++ l ++ [135]))) (RScript r w.params) := by
  unfold Says
  intro dp un gd cn cs a ccd cl outer A₀ base h₀ L m news s Q E B F X N T hk hpre hdp hu hret
  refine wpAny_call ?_
  w_strict (k_dflt cell_enter)
  refine PySem.wpAny_noRaise ?_
  k_with_none
  have hMk := kstMark
  repeat (fail_if_success (with_reducible show wpAny _ _ (call (Value.ref 950) _) _ _ _)); first | (k_unfold; (try dsimp only)) | walk1 | (dsimp only; walk1)

  refine Says.go (c_atsp x u v l r) hpre ?_
  refine rt_scr ?_
  intro x9 d9 t9 ub9 b9 h9 tk9 hb9 F9 N9 l9x l9d
  k_steps
  with_reducible rename News _ _ _ _ => kN9
  dsimp only at kN9
  exact hret _ [_, _] _ _ ⟨x9, d9, t9, ub9, b9, rfl, rfl, hb9⟩ (by k_asm) kN9 (two_over l9x l9d)
end

section
open PySem PySem.W PySem.Calls PyProof.Rows
set_option maxRecDepth 100000
variable {prog : Program} {w : World} {p : Program} {loose : List Str} {mean : ExcName → Option Value} {mg mb : Str → Option Value}

theorem fill29 : PySem.Challenge.rw_bd0008_01 = PySem.Challenge.rw_bd0008_01 ∧ hd.heap_39 = hd.heap_39 := by
  w_on
  k_fill
  exact ⟨rfl, rfl⟩


abbrev tupF (f : Array UInt8) (n : Int) (bk : Array UInt8) (nm : Str) (t1 t2 t3 t4 : Tok) : Obj := { cls := .type "tuple", data := .seq #[.bytes f t1, .int n t2, .bytes bk t3, .str nm t4] }
def RFrames (v : Value) (tl : Led) : Prop := ∃ (l D0 D1 D2 D3 D4 : Addr) (c : Nat) (t0a t0b t0c t0d t1a t1b t1c t1d t2a t2b t2c t2d t3a t3b t3c t3d t4a t4b t4c t4d : Tok), v = .ref l ∧ tl = [(l, listOf (List.toArray [.ref D0, .ref D1, .ref D2, .ref D3, .ref D4]) c), (D4, tupF #[81, 32] 32 #[] (Str.ofString "p2tr") t4a t4b t4c t4d), (D3, tupF #[0, 32] 32 #[] (Str.ofString "p2wsh") t3a t3b t3c t3d), (D2, tupF #[0, 20] 20 #[] (Str.ofString "p2wpkh") t2a t2b t2c t2d), (D1, tupF #[169, 20] 20 #[135] (Str.ofString "p2sh") t1a t1b t1c t1d), (D0, tupF #[118, 169, 20] 20 #[136, 172] (Str.ofString "p2pkh") t0a t0b t0c t0d)]
set_option maxHeartbeats 4000000 in
theorem c_frames : SaysU prog w p loose mean mg mb 20 100 957 [] (fun _ _ => True) RFrames := by
  unfold SaysU
  intro dp un gd cn cs a ccd cl outer A₀ base h₀ L m news s Q E B F X N T hk hpre hdp hu hret
  refine wpAny_call ?_
  w_strict (k_dflt cell_enter)
  refine PySem.wpAny_noRaise ?_
  k_with_none
  have hMk := kstMark
  k_steps
  with_reducible rename News _ _ _ _ => kN9
  refine hret _ [_, _, _, _, _, _] _ _ ⟨_, _, _, _, _, _, _, _, _, _, _, _, _, _, _, _, _, _, _, _, _, _, _, _, _, _, _, rfl, rfl⟩ (by k_asm) kN9
end

section
open PySem PySem.W PySem.Calls PyProof.Rows
set_option maxRecDepth 100000
variable {prog : Program} {w : World} {p : Program} {loose : List Str} {mean : ExcName → Option Value} {mg mb : Str → Option Value}

theorem fill23 : PySem.Challenge.rw_bd0008_01 = PySem.Challenge.rw_bd0008_01 ∧ hd.heap_39 = hd.heap_39 := by
  w_on
  k_fill
  exact ⟨rfl, rfl⟩



theorem fm_in (x : Int) {n : Int} (h : 0 < n) : 0 ≤ x.fmod n ∧ x.fmod n < n := by
  rw [Int.fmod_eq_emod_of_nonneg _ (Int.le_of_lt h)]
  exact ⟨Int.emod_nonneg _ (Int.ne_of_gt h), Int.emod_lt_of_pos _ h⟩
theorem News.cons_of {h₀ h : Heap} {L D : Addr} {o : Obj} {news : Led} (N : News h₀ L h news) (hD : (D, o) ∈ news) : News h₀ L h ((D, o) :: news) := fun p hp => by
  rcases List.mem_cons.mp hp with rfl | hp
  · exact N _ hD
  · exact N p hp
def RSome (v : Value) (tl : Led) : Prop := tl = [] ∧ ∃ b t l, v = .bytes b t ∧ KBw.bInts b = nI l ∧ l.length ≤ 60
theorem rt_some {h₀ : Heap} {L : Addr} {m : Str → Option Value} {news : Led} {s : Shared} {Q : Value → Shared → Prop} (k : ∀ (b : Array UInt8) (t : Tok) (l : List Nat) (h' : Heap) (tk' : Nat), KBw.bInts b = nI l → l.length ≤ 60 → Fr h₀ L h' m → News h₀ L h' (news) → Q (.bytes b t) { s with heap := h', toks := tk' }) : RetT h₀ L m news s Q RSome := by
  rintro v tl h' tk' ⟨rfl, b, t, l, rfl, hb, hl⟩ F N _
  exact k b t l h' tk' hb hl F N
theorem ret_some {h₀ g h' : Heap} {L L' : Addr} {m m' : Str → Option Value} {news : Led} {s : Shared} {Q : Value → Shared → Prop} {tk' : Nat} {b : Array UInt8} {t : Tok} {xs : List Int} (hret : RetT h₀ L m news s Q RSome) (hN0 : News h₀ L g news) (F' : Fr g L' h' m') (hb : KBw.bInts b = xs) (hx : xs.length ≤ 60) (F : Fr h₀ L h' m) : Q (.bytes b t) { s with heap := h', toks := tk' } := by
  refine hret _ [] h' tk' ⟨rfl, b, t, b.toList.map UInt8.toNat, rfl, ?_, ?_⟩ F (fun p hp => ⟨F'.keep _ _ (hN0 p hp).1, (hN0 p hp).2⟩) (fun _ hx => nomatch hx)
  · unfold KBw.bInts nI
    rw [List.map_map]
    rfl
  · have h9 := KBw.ints_length b
    rw [hb] at h9
    rw [List.length_map, Array.length_toList]
    omega
def Span (xs : List Int) (a b : Int) : Prop := (xs.length : Int) = b - a ∧ ∀ x ∈ xs, a ≤ x ∧ x < b
theorem kll_range2 {A : Around} {E : Value → Shared → Prop} {s : Shared} {h₀ : Heap} {L r : Addr} {m : Str → Option Value} {news : Led} {Q : Value → Shared → Prop} {a b : Int} {t₀ u₀ v₀ : Tok} (hh : A.handled = none) (F : Fr h₀ L s.heap m) (N : News h₀ L s.heap news) (hr : IsRange s.heap r a b 1 t₀ u₀ v₀) (ha : 0 ≤ a) (hab : a ≤ b) (hb : b ≤ 1000)
    (h : ∀ D us c h' tk (xs : List Int), Fr h₀ L h' m → News h₀ L h' ((D, listOf (List.toArray us) c) :: news) → (∀ p ∈ news, p.1 < D) → IntsAre us xs → (xs.length : Int) = b - a → Span xs a b → Q (.ref D) { s with heap := h', toks := tk }) :
    wpAny (model prog w) A (call (.type "list") [.ref r]) Q E s := by
  refine kll_range hh F N hr (small_one (by omega) (by omega) (by omega) (by omega)) (rangeSize_nat a b) (by omega) fun D us c h' tk F' N' l1 hI => ?_
  refine h D us c h' tk _ F' N' l1 hI (by rw [rangeKs_length]; omega) ⟨by rw [rangeKs_length]; omega, fun x hx => ?_⟩
  unfold rangeKs at hx
  obtain ⟨i, hi, rfl⟩ := List.mem_map.1 hx
  have := List.mem_range.1 hi
  omega
theorem some_nats {b : Array UInt8} {xs : List Int} (h : KBw.bInts b = xs) : ∃ lo : List Nat, KBw.bInts b = nI lo ∧ lo.length = xs.length := by
  refine ⟨b.toList.map UInt8.toNat, by unfold KBw.bInts nI; rw [List.map_map]; rfl, ?_⟩
  rw [← h, KBw.ints_length, List.length_map, Array.length_toList]
theorem cut_len {n : Nat} {z : Int} (h : 0 ≤ z) : clipAt n z ≤ clipAt n (z + 1) := by
  unfold clipAt
  split <;> split <;> omega
def FrameO (o : Obj) : Prop := ∃ f n bk nm t1 t2 t3 t4 fl bl, o = { cls := .type "tuple", data := .seq #[.bytes f t1, .int n t2, .bytes bk t3, .str nm t4] } ∧ KBw.bInts f = nI fl ∧ KBw.bInts bk = nI bl ∧ 2 ≤ fl.length ∧ fl.length ≤ 3 ∧ bl.length ≤ 2 ∧ 20 ≤ n ∧ n ≤ 32
section
variable {A : Around} {E : Value → Shared → Prop} {s : Shared} {h₀ : Heap} {L l : Addr} {news : Led} {value slice : PySem.Expr} {c : Nat} {i : Int} {u : Tok} {D0 D1 D2 D3 D4 : Addr} {o0 o1 o2 o3 o4 : Obj} {Q : Value → Shared → Prop}
theorem frames_sub (N : News h₀ L s.heap news) (hm : (l, listOf (List.toArray [.ref D0, .ref D1, .ref D2, .ref D3, .ref D4]) c) ∈ news) (m0 : (D0, o0) ∈ news) (m1 : (D1, o1) ∈ news) (m2 : (D2, o2) ∈ news) (m3 : (D3, o3) ∈ news) (m4 : (D4, o4) ∈ news)
    (p0 : FrameO o0) (p1 : FrameO o1) (p2 : FrameO o2) (p3 : FrameO o3) (p4 : FrameO o4) (h0 : 0 ≤ i) (h5 : i < 5) (h : ∀ D o, (D, o) ∈ news → FrameO o → Q (.ref D) s)
    (hs : subscripted slice false (.ref l) (.int i u) = operate [.ref l, .int i u] (getItem (.ref l) (.int i u))) : wpAny (model prog w) A (subscriptTail value slice (.ref l) (.int i u)) Q E s := by
  have hl : s.heap.IsList l (List.toArray [.ref D0, .ref D1, .ref D2, .ref D3, .ref D4]) := News.isList N hm
  have hc : i = 0 ∨ i = 1 ∨ i = 2 ∨ i = 3 ∨ i = 4 := by omega
  rcases hc with rfl | rfl | rfl | rfl | rfl
  · exact tail_any hl.typeIs slot_list_getitem.lookup (wpAny_getItem_list hl (by decide) (by decide) rfl (h D0 o0 m0 p0)) hs
  · exact tail_any hl.typeIs slot_list_getitem.lookup (wpAny_getItem_list hl (by decide) (by decide) rfl (h D1 o1 m1 p1)) hs
  · exact tail_any hl.typeIs slot_list_getitem.lookup (wpAny_getItem_list hl (by decide) (by decide) rfl (h D2 o2 m2 p2)) hs
  · exact tail_any hl.typeIs slot_list_getitem.lookup (wpAny_getItem_list hl (by decide) (by decide) rfl (h D3 o3 m3 p3)) hs
  · exact tail_any hl.typeIs slot_list_getitem.lookup (wpAny_getItem_list hl (by decide) (by decide) rfl (h D4 o4 m4 p4)) hs
end
local macro_rules | `(tactic| walk_at "call type:list") => `(tactic| (k_here; (with_reducible show wpAny _ _ (call (Value.type _) [Value.ref _]) _ _ _); (rename IsRange _ _ _ _ _ _ _ _ => rgX); k_dflt (refine' kll_range2 ?k0 ?k1 ?k2 ?k3 ?k4 ?k5 ?k6 ?_; (case k0 => rfl); (case k1 => k_asm); (case k2 => k_asm); (case k3 => exact rgX); (case k4 => (first | exact Int.le_refl _ | omega)); (case k5 => omega); (case k6 => omega)); clear rgX; intro D' us' c' h' tk' xs' F' N' l1 hI' hlX hmX; (try k_lt l1); (try k_sweep)))
theorem places_sub {A : Around} {E : Value → Shared → Prop} {s : Shared} {h₀ : Heap} {L D : Addr} {o : Led} {c : Nat} {value slice : PySem.Expr} {u : Tok} {Q : Value → Shared → Prop} {ws : List Value} {xs ys : List Int} {K M : Int} (N : News h₀ L s.heap o) (hD : (D, listOf (List.toArray ws) c) ∈ o) (hi : IntsAre ws (xs ++ ys)) (hp : 2 ≤ xs.length) (hz : xs.length + ys.length ≤ 1000) (hP : ∀ x, x ∈ xs ++ ys → 0 ≤ x ∧ x < M)
    (h : ∀ z t, 0 ≤ z → z < M → Q (.int z t) s)
    (hs : subscripted slice false (.ref D) (.int (K.fmod ((xs.length + ys.length : Nat) : Int)) u) = operate [.ref D, .int (K.fmod ((xs.length + ys.length : Nat) : Int)) u] (getItem (.ref D) (.int (K.fmod ((xs.length + ys.length : Nat) : Int)) u))) :
    wpAny (model prog w) A (subscriptTail value slice (.ref D) (.int (K.fmod ((xs.length + ys.length : Nat) : Int)) u)) Q E s := by
  have hm := fm_in K (n := ((xs.length + ys.length : Nat) : Int)) (by omega)
  refine item_anyK (News.isList N hD) hi hm.1 (by rw [List.length_append]; exact hm.2) (by omega) (fun t => ?_) hs
  have hj : (K.fmod ((xs.length + ys.length : Nat) : Int)).toNat < (xs ++ ys).length := by rw [List.length_append]; omega
  have hz9 : (xs ++ ys).getD (K.fmod ((xs.length + ys.length : Nat) : Int)).toNat 0 ∈ xs ++ ys := by
    rw [List.getD_eq_getElem?_getD, List.getElem?_eq_getElem hj]
    exact List.getElem_mem hj
  exact h _ t (hP _ hz9).1 (hP _ hz9).2
theorem join_idx {M : Model} {A : Around} {α : Type} {t : Sem α} {E : Value → Shared → Prop} {s : Shared} {Q : α → Shared → Prop} {f : Int → Tok → α} (n : Int) (h1 : ∀ Q' : α → Shared → Prop, (∀ i u k, 0 ≤ i → i < n → Q' (f i u) { s with toks := k }) → wpAny M A t Q' E s) (h2 : ∀ i u k, 0 ≤ i → i < n → Q (f i u) { s with toks := k }) : wpAny M A t Q E s := h1 Q h2
theorem ru_frames {h₀ : Heap} {L : Addr} {m : Str → Option Value} {news : Led} {s : Shared} {Q : Value → Shared → Prop}
    (k : ∀ (l D0 D1 D2 D3 D4 : Addr) (o0 o1 o2 o3 o4 : Obj) (c : Nat) (h' : Heap) (tk' : Nat), FrameO o0 → FrameO o1 → FrameO o2 → FrameO o3 → FrameO o4 → Fr h₀ L h' m → News h₀ L h' ((l, listOf (List.toArray [.ref D0, .ref D1, .ref D2, .ref D3, .ref D4]) c) :: (D4, o4) :: (D3, o3) :: (D2, o2) :: (D1, o1) :: (D0, o0) :: news) → Q (.ref l) { s with heap := h', toks := tk' }) : RetU h₀ L m news s Q RFrames := by
  rintro v tl h' tk' ⟨l, D0, D1, D2, D3, D4, c, t0a, t0b, t0c, t0d, t1a, t1b, t1c, t1d, t2a, t2b, t2c, t2d, t3a, t3b, t3c, t3d, t4a, t4b, t4c, t4d, rfl, rfl⟩ F N
  exact k l D0 D1 D2 D3 D4 _ _ _ _ _ c h' tk' ⟨_, _, _, _, _, _, _, _, [118, 169, 20], [136, 172], rfl, rfl, rfl, by decide, by decide, by decide, by decide, by decide⟩ ⟨_, _, _, _, _, _, _, _, [169, 20], [135], rfl, rfl, rfl, by decide, by decide, by decide, by decide, by decide⟩ ⟨_, _, _, _, _, _, _, _, [0, 20], [], rfl, rfl, rfl, by decide, by decide, by decide, by decide, by decide⟩ ⟨_, _, _, _, _, _, _, _, [0, 32], [], rfl, rfl, rfl, by decide, by decide, by decide, by decide, by decide⟩ ⟨_, _, _, _, _, _, _, _, [81, 32], [], rfl, rfl, rfl, by decide, by decide, by decide, by decide, by decide⟩ F N
theorem frames_at {A : Around} {E : Value → Shared → Prop} {s : Shared} {h₀ : Heap} {L l : Addr} {news : Led} {value slice : PySem.Expr} {c : Nat} {i : Int} {u : Tok} {D0 D1 D2 D3 D4 : Addr} {o0 o1 o2 o3 o4 : Obj} {Q : Value → Shared → Prop}
    (N : News h₀ L s.heap ((l, listOf (List.toArray [.ref D0, .ref D1, .ref D2, .ref D3, .ref D4]) c) :: (D4, o4) :: (D3, o3) :: (D2, o2) :: (D1, o1) :: (D0, o0) :: news))
    (p0 : FrameO o0) (p1 : FrameO o1) (p2 : FrameO o2) (p3 : FrameO o3) (p4 : FrameO o4) (h0 : 0 ≤ i) (h5 : i < 5)
    (hs : subscripted slice false (.ref l) (.int i u) = operate [.ref l, .int i u] (getItem (.ref l) (.int i u)))
    (h : ∀ (D : Addr) (f : Array UInt8) (n : Int) (bk : Array UInt8) (nm : Str) (t1 t2 t3 t4 : Tok) (fl bl : List Nat), KBw.bInts f = nI fl → KBw.bInts bk = nI bl → 2 ≤ fl.length → fl.length ≤ 3 → bl.length ≤ 2 → 20 ≤ n → n ≤ 32 →
      News h₀ L s.heap [(D, { cls := .type "tuple", data := .seq #[.bytes f t1, .int n t2, .bytes bk t3, .str nm t4] })] → Q (.ref D) s) :
    wpAny (model prog w) A (subscriptTail value slice (.ref l) (.int i u)) Q E s := by
  refine frames_sub (l := l) N (.head _) (.tail _ (.tail _ (.tail _ (.tail _ (.tail _ (.head _)))))) (.tail _ (.tail _ (.tail _ (.tail _ (.head _))))) (.tail _ (.tail _ (.tail _ (.head _)))) (.tail _ (.tail _ (.head _))) (.tail _ (.head _)) p0 p1 p2 p3 p4 h0 h5 ?_ hs
  rintro D o hD ⟨f, n, bk, nm, t1, t2, t3, t4, fl, bl, rfl, hf, hbk, hf2, hf3, hb2, hn0, hn1⟩
  exact h D f n bk nm t1 t2 t3 t4 fl bl hf hbk hf2 hf3 hb2 hn0 hn1 (fun q hq => N q (by rw [List.mem_singleton.mp hq]; exact hD))
theorem news_none {h₀ h : Heap} {L : Addr} {news : Led} (_N : News h₀ L h news) : News h₀ L h [] := News.nil
theorem some_nats_k {b : Array UInt8} {xs : List Int} {P : Prop} (h : KBw.bInts b = xs) (k : ∀ lo : List Nat, KBw.bInts b = nI lo → lo.length = xs.length → P) : P := (some_nats h).elim fun lo h => k lo h.1 h.2
theorem made_len {fl bl l lo : List Nat} {n : Int} (hl : l.length = 20) (hn0 : 20 ≤ n) (hn1 : n ≤ 32) (hf2 : 2 ≤ fl.length) (hf3 : fl.length ≤ 3) (hb2 : bl.length ≤ 2) (h : lo.length = (nI fl ++ List.take (clipAt (nI l ++ nI l).length n) (nI l ++ nI l) ++ nI bl).length) : 22 ≤ lo.length ∧ lo.length ≤ 37 ∧ fl.length + bl.length ≤ lo.length := by
  have h9 : (nI l ++ nI l).length = 40 := by rw [List.length_append, nI_length, hl]
  have h3 : clipAt 40 n ≤ 32 ∧ 20 ≤ clipAt 40 n := by
    unfold clipAt
    rw [if_neg (by omega)]
    omega
  rw [h9, List.length_append, List.length_append, List.length_take, h9, nI_length, nI_length] at h
  generalize clipAt 40 n = c at h h3
  rw [Nat.min_eq_left (by omega)] at h
  omega
set_option maxHeartbeats 4000000 in
theorem c_made (l : List Nat) (b : Array UInt8) (k : Int) (u1 u2 : Tok) : Says prog w p loose mean mg mb 40 400 983 [.int k u1, .bytes b u2] (fun _ _ => Builtin.Int.intBits k ≤ 2000000 ∧ KBw.bInts b = nI l ∧ l.length = 20) RSome := by
  unfold Says
  intro dp un gd cn cs a ccd cl outer A₀ base h₀ L m news s Q E B F X N T hk hpre hdp hu hret
  obtain ⟨hkb, hb, hl⟩ := hpre
  have hz : (nI l).length = 20 := by rw [nI_length]; exact hl
  refine wpAny_call ?_
  w_strict (k_dflt (refine' code_defG ?k1 ?k2 ?k3 News.nil ?k5 ?kA ?kF ?kK ?k6 ?k7 ?k8 ?k9 ?kB ?_ ?c2 ?c3 ?c4 ?c5; (case kA => exact rfl); (case kF => exact rfl); (case kK => assumption); (case k1 => k_asm); (case k2 => k_asm); (case k3 => k_asm); (case k5 => k_asm); (case k6 => k_is); (case k7 => k_is); (case k8 => ktr_room); (case k9 => first | exact BindsTo.of_eq rfl | exact binds_K (X.keeps F.keep) rfl (by k_is) rfl rfl rfl); (case kB => exact locs rfl); (case c2 => exact rfl); (case c3 => exact rfl); (case c4 => exact rfl); (case c5 => decide); k_whole; intro g' L' h' FG' F' N' B' X' T' hG'; (try dsimp only); (try k_lift B'); (try k_fold)))
  have hN0 : News h₀ L g' news := fun q hq => ⟨hG' q.1 q.2 (N q hq).1 (fun hm => nomatch hm), (N q hq).2⟩
  clear hG'
  replace F' : Fr g' L' h' (fun y => List.lookup y [(Str.ofString "body", Value.bytes b u2), (Str.ofString "pick", Value.int k u1)]) := F'
  refine gen_toks ?_
  intro tk0
  refine PySem.wpAny_noRaise ?_
  k_with_none
  have hMk := kstMark
  have hi1 : 0 ≤ (k.fdiv 7).fmod 5 ∧ (k.fdiv 7).fmod 5 < 5 := fm_in _ (by decide)
  have hi2 : 0 ≤ k.fmod 7 ∧ k.fmod 7 < 7 := fm_in _ (by decide)
  repeat (fail_if_success (with_reducible show wpAny _ _ (call (Value.ref 957) _) _ _ _)); first | (k_unfold; (try dsimp only)) | walk1 | (dsimp only; walk1)
  refine SaysU.go c_frames trivial ?_
  refine ru_frames ?_
  intro fa D0 D1 D2 D3 D4 o0 o1 o2 o3 o4 fc h9 tk9 p0 p1 p2 p3 p4 F9 N9

  repeat (fail_if_success (with_reducible show wpAny _ _ (eval (PySem.Expr.IfExp _ _ _ _) _) _ _ _)); first | (k_unfold; (try dsimp only)) | walk1 | (dsimp only; walk1)
  refine join_idx (f := Value.int) 5 ?_ ?_
  · intro Q' hQ'
    k_steps
    · exact hQ' _ _ _ hi1.1 hi1.2
    · exact hQ' _ _ _ hi2.1 (by omega)
  intro ix tix kix hix0 hix5
  repeat (fail_if_success (with_reducible show wpAny _ _ (subscriptTail _ _ (Value.ref _) (Value.int _ _)) _ _ _)); first | (k_unfold; (try dsimp only)) | walk1 | (dsimp only; walk1)
  with_reducible rename News _ _ _ _ => hNw
  refine frames_at hNw p0 p1 p2 p3 p4 hix0 hix5 (by with_unfolding_all rfl) ?_
  clear hNw p0 p1 p2 p3 p4
  intro D f n bk nm t1 t2 t3 t4 fl bl hf hbk hf2 hf3 hb2 hn0 hn1 hN9
  have hFL : (nI fl).length = fl.length := nI_length fl
  have hBL : (nI bl).length = bl.length := nI_length bl
  have hz40 : (nI l ++ nI l).length = 40 := by rw [List.length_append, hz]
  repeat (fail_if_success (with_reducible show wpAny _ _ (exec (PySem.Stmt.If _ _ _ _) _) _ _ _)); first | (k_unfold; (try dsimp only)) | walk1 | (dsimp only; walk1)
  with_reducible rename (KBw.bInts (_ ++ KBy.picked _ _ _ ++ _) = _) => h2
  refine some_nats_k h2 ?_
  intro lo hlo hloE
  have hlen := made_len hl hn0 hn1 hf2 hf3 hb2 hloE
  with_reducible rename Fr _ _ _ _ => F9
  with_reducible rename News _ _ _ _ => N9
  replace N9 := news_none N9
  clear hloE hz40 hn0 hn1 hb hl hz hkb hix0 hix5 h2
  repeat (with_reducible rename (KBw.bInts _ = _ ++ _) => hh; clear hh)
  repeat (with_reducible rename (KBw.bInts _ = List.take _ _) => hh; clear hh)
  generalize (f ++ KBy.picked (b ++ b) none (some n) ++ bk) = oct at hlo F9 ⊢
  have hNlo : (nI lo).length = lo.length := nI_length lo
  repeat (fail_if_success (with_reducible show wpAny _ _ (subscriptTail _ _ (Value.ref _) (Value.int _ _)) _ _ _)); first | (k_unfold; (try dsimp only)) | walk1 | (dsimp only; walk1)
  · exact ret_some hret hN0 (by assumption) hlo (by rw [hNlo]; omega) (by k_asm)
  repeat (fail_if_success (with_reducible show wpAny _ _ (subscriptTail _ _ (Value.ref _) (Value.int _ _)) _ _ _)); first | (k_unfold; (try dsimp only)) | walk1 | (dsimp only; walk1)
  rename Span _ _ _ => sp2
  revert sp2
  rename Span _ _ _ => sp1
  intro sp2
  rename IntsAre _ (_ ++ _) => hIP
  with_reducible rename News _ _ _ _ => hNw
  have hP : ∀ x, x ∈ _ ++ _ → 0 ≤ x ∧ x < (lo.length : Int) := fun x hx => (List.mem_append.1 hx).elim (fun h => by have := sp1.2 x h; omega) (fun h => by have := sp2.2 x h; omega)
  have hPl := sp1.1
  refine places_sub hNw (.head _) hIP (by omega) (by have := sp2.1; omega) hP ?_ (by with_unfolding_all rfl)
  intro at' tat hat0 hat1
  clear hIP hP sp1 sp2 hPl
  have e1 := cut_len (n := lo.length) hat0
  have hm9 := fm_in (k.fdiv 70) (n := (lo.length : Int)) (by omega)
  have e2 := cut_len (n := lo.length) hm9.1

  k_steps

  all_goals exact ret_some hret hN0 (by assumption) (by with_reducible assumption) (by simp only [List.length_append, nI_length, List.length_take, List.length_drop, List.length_map, List.length_cons, List.length_nil]; omega) (by k_asm)
end

section
open PySem PySem.W PySem.Calls PyProof.Rows
set_option maxRecDepth 100000
variable {prog : Program} {w : World} {p : Program} {loose : List Str} {mean : ExcName → Option Value} {mg mb : Str → Option Value}

theorem fill22 : PySem.Challenge.rw_bd0008_01 = PySem.Challenge.rw_bd0008_01 ∧ hd.heap_39 = hd.heap_39 := by
  w_on
  k_fill
  exact ⟨rfl, rfl⟩


local macro_rules | `(tactic| walk_at "eval Name") => `(tactic| (k_dflt (refine' ld ?k1 ?k2 ?_; (case k1 => k_asm); (case k2 => exact rfl); k_whole)))

local macro_rules | `(tactic| walk_at "exec For Tuple Call cons nil") => `(tactic| (k_here; (rename Fr _ _ _ _ => lF'); (with_unfolding_all refine' For_turns lF' ?_; k_whole)))
theorem pick_takeI {b : Array UInt8} {l : List Nat} (hb : KBw.bInts b = nI l) (i : Int) (k : Nat) (h : i = (k : Int)) : KBw.bInts (KBy.picked b none (some i)) = nI (l.take k) := by subst h; exact pick_take hb k
theorem pick_fromI {b : Array UInt8} {l : List Nat} (hb : KBw.bInts b = nI l) (i : Int) (k : Nat) (h : i = (k : Int)) (hk : k ≤ l.length) : KBw.bInts (KBy.picked b (some i) none) = nI (l.drop k) := by subst h; exact pick_from hb k hk
theorem ret_kind2 {h₀ g h' : Heap} {L L' : Addr} {m m' : Str → Option Value} {news : Led} {s : Shared} {Q : Value → Shared → Prop} {tk' : Nat} {k j : Nat} {v : Value} (hret : RetT h₀ L m news s Q (RKind k)) (hN0 : News h₀ L g news) (F' : Fr g L' h' m') (hj : kv j v) (e : k = j) (F : Fr h₀ L h' m) : Q v { s with heap := h', toks := tk' } := by
  subst e
  exact hret _ [] h' tk' ⟨rfl, hj⟩ F (fun p hp => ⟨F'.keep _ _ (hN0 p hp).1, (hN0 p hp).2⟩) (fun _ hx => nomatch hx)

def MT (l fl bl : List Nat) (n : Int) : Prop := (l.length : Int) = (fl.length : Int) + n + (bl.length : Int) ∧ l.take fl.length = fl ∧ l.drop (l.length - bl.length) = bl
theorem mt0 (l : List Nat) : MT l [118, 169, 20] [136, 172] 20 ↔ kindN l = 0 := by
  unfold MT
  constructor
  · rintro ⟨h1, h2, h3⟩
    have hl : l.length = 25 := by simp at h1; omega
    rw [hl] at h3
    rw [kind25 hl, if_pos ⟨h2, h3⟩]
  · intro h
    rcases kind_len (l := l) (by omega) with ⟨_, hl, h2, h3⟩ | ⟨h', _⟩ | ⟨h', _⟩ | ⟨h', _⟩ | ⟨h', _⟩
    · exact ⟨by simp; omega, h2, by rw [hl]; exact h3⟩
    all_goals omega
theorem mt1 (l : List Nat) : MT l [169, 20] [135] 20 ↔ kindN l = 1 := by
  unfold MT
  constructor
  · rintro ⟨h1, h2, h3⟩
    have hl : l.length = 23 := by simp at h1; omega
    rw [hl] at h3
    rw [kind23 hl, if_pos ⟨h2, h3⟩]
  · intro h
    rcases kind_len (l := l) (by omega) with ⟨h', _⟩ | ⟨_, hl, h2, h3⟩ | ⟨h', _⟩ | ⟨h', _⟩ | ⟨h', _⟩
    · omega
    · exact ⟨by simp; omega, h2, by rw [hl]; exact h3⟩
    all_goals omega
theorem mt2 (l : List Nat) : MT l [0, 20] [] 20 ↔ kindN l = 2 := by
  unfold MT
  constructor
  · rintro ⟨h1, h2, h3⟩
    have hl : l.length = 22 := by simp at h1; omega
    have h2' : l.take 2 = [0, 20] := h2
    rw [kind22 hl, if_pos h2']
  · intro h
    rcases kind_len (l := l) (by omega) with ⟨h', _⟩ | ⟨h', _⟩ | ⟨_, hl, h2⟩ | ⟨h', _⟩ | ⟨h', _⟩
    · omega
    · omega
    · exact ⟨by simp; omega, h2, by simp⟩
    all_goals omega
theorem mt3 (l : List Nat) : MT l [0, 32] [] 32 ↔ kindN l = 3 := by
  unfold MT
  constructor
  · rintro ⟨h1, h2, h3⟩
    have hl : l.length = 34 := by simp at h1; omega
    have h2' : l.take 2 = [0, 32] := h2
    rw [kind34 hl, if_pos h2']
  · intro h
    rcases kind_len (l := l) (by omega) with ⟨h', _⟩ | ⟨h', _⟩ | ⟨h', _⟩ | ⟨_, hl, h2⟩ | ⟨h', _⟩
    · omega
    · omega
    · omega
    · exact ⟨by simp; omega, h2, by simp⟩
    · omega
theorem mt4 (l : List Nat) : MT l [81, 32] [] 32 ↔ kindN l = 4 := by
  unfold MT
  constructor
  · rintro ⟨h1, h2, h3⟩
    have hl : l.length = 34 := by simp at h1; omega
    have h2' : l.take 2 = [81, 32] := h2
    rw [kind34 hl, if_neg (by rw [h2']; decide), if_pos h2']
  · intro h
    rcases kind_len (l := l) (by omega) with ⟨h', _⟩ | ⟨h', _⟩ | ⟨h', _⟩ | ⟨h', _⟩ | ⟨_, hl, h2⟩
    · omega
    · omega
    · omega
    · omega
    · exact ⟨by simp; omega, h2, by simp⟩
def FrP (l : List Nat) (news : Led) (i : Nat) (v : Value) : Prop := ∃ (D : Addr) (f bk : Array UInt8) (n : Int) (t1 t2 t3 t4 : Tok) (fl bl : List Nat), v = .ref D ∧ (D, tupF f n bk (kname i) t1 t2 t3 t4) ∈ news ∧ KBw.bInts f = nI fl ∧ KBw.bInts bk = nI bl ∧ fl.length ≤ 3 ∧ bl.length ≤ 2 ∧ 20 ≤ n ∧ n ≤ 32 ∧ (MT l fl bl n ↔ kindN l = i)
section
variable {A : Around} {E : Value → Shared → Prop} {s : Shared} {h₀ : Heap} {env : Env} {target : PySem.Expr} {body : List Stmt} {Q : Flow → Shared → Prop} {ws : List (Addr × String)} {keep news : Led}
theorem items_all {n : Nat} (P : Nat → Value → Prop) (J : Nat → Prop) (Jm : (Str → Option Value) → Prop) (hkeep : SubL keep news)
    (turn : ∀ (i : Nat) (v : Value) (m₁ : Str → Option Value) (R : (Str → Option Value) → Led → Prop) (h : Heap) (tk : Nat), i < n → P i v → J i → Jm m₁ → (∀ m', Jm m' → J (i + 1) → R m' news) → Fr h₀ env.locals h m₁ →
      AllObj ws (fun its => News h₀ env.locals h (its ++ news) → wpAny (model prog w) A (assign target env v) (fun _ s₂ => wpAny (model prog w) A (execs body env) (UnrPostW h₀ env.locals { s with heap := h, toks := tk } its R Q) E s₂) E { s with heap := h, toks := tk }))
    (done : ∀ m h tk, J n → Jm m → Fr h₀ env.locals h m → News h₀ env.locals h news → Q .next { s with heap := h, toks := tk }) :
    ∀ (vs : List Value) (i : Nat), i + vs.length = n → (∀ j v, vs[j]? = some v → P (i + j) v) → J i → ∀ m, Jm m → ItemsRest prog w A E h₀ env target body Q s ws keep (vs.map Itm.val) m news
  | [], i, hn, _, hJ, m, hm => fun h tk F N => done m h tk (by rw [← hn]; exact hJ) hm F N
  | v :: r, i, hn, hP, hJ, m, hm => fun u h tk hu F => by
    have hu' : u = v := hu
    subst hu'
    refine turn i u m _ h tk (by rw [List.length_cons] at hn; omega) (hP 0 u rfl) hJ hm (fun m' hm' hJ' => ⟨hkeep, ?_⟩) F
    exact items_all P J Jm hkeep turn done r (i + 1) (by rw [List.length_cons] at hn; omega) (fun j v hj => by
      have := hP (j + 1) v hj
      rwa [show i + (j + 1) = i + 1 + j by omega] at this) hJ' m' hm'
end
theorem news_front {h₀ h : Heap} {L D : Addr} {o : Obj} {news : Led} (N : News h₀ L h news) (hD : (D, o) ∈ news) : News h₀ L h ((D, o) :: news) := fun p hp => by
  rcases List.mem_cons.mp hp with rfl | hp
  · exact N _ hD
  · exact N p hp
theorem mt_yes {l fl bl : List Nat} {b f bk : Array UInt8} {n : Int} (hb : KBw.bInts b = nI l) (hf : KBw.bInts f = nI fl) (hbk : KBw.bInts bk = nI bl) (hn : 20 ≤ n) (a1 : ((nI l).length : Int) = ((nI fl).length : Int) + n + ((nI bl).length : Int)) :
    MT l fl bl n ↔ ((KBy.picked b none (some ((nI fl).length : Int))).toList == f.toList) = true ∧ ((KBy.picked b (some (((nI l).length : Int) - ((nI bl).length : Int))) none).toList == bk.toList) = true := by
  simp only [nI_length] at a1 ⊢
  rw [cut_eq (pick_takeI hb (fl.length : Int) fl.length rfl), cut_eq (pick_fromI hb ((l.length : Int) - (bl.length : Int)) (l.length - bl.length) (by omega) (by omega)), bInts_nat hf, bInts_nat hbk, decide_eq_true_eq, decide_eq_true_eq]
  unfold MT
  exact ⟨fun h => h.2, fun h => ⟨a1, h⟩⟩
theorem mt_len {l fl bl : List Nat} {n : Int} (a1 : ((nI l).length : Int) ≠ ((nI fl).length : Int) + n + ((nI bl).length : Int)) : ¬ MT l fl bl n := fun h => by
  simp only [nI_length] at a1
  exact a1 h.1
theorem mt_next {l fl bl : List Nat} {n : Int} {i : Nat} (h : MT l fl bl n ↔ kindN l = i) (hJ : i ≤ kindN l) (hn : ¬ MT l fl bl n) : i + 1 ≤ kindN l := by
  have : kindN l ≠ i := fun e => hn (h.mpr e)
  omega
theorem kname_lt {k : Nat} (h : k < 5) (t : Tok) : kv k (.str (kname k) t) := .inl ⟨h, t, rfl⟩
set_option maxHeartbeats 4000000 in
theorem c_kind (l : List Nat) (b : Array UInt8) (u : Tok) : Says prog w p loose mean mg mb 40 300 990 [.bytes b u] (fun _ _ => KBw.bInts b = nI l ∧ l.length ≤ 70) (RKind (kindN l)) := by
  unfold Says
  intro dp un gd cn cs a ccd cl outer A₀ base h₀ L m news s Q E B F X N T hk hpre hdp hu hret
  obtain ⟨hb, hl⟩ := hpre
  have hz : (nI l).length ≤ 70 := by rw [nI_length]; exact hl
  refine wpAny_call ?_
  w_strict (k_dflt (refine' code_defG ?k1 ?k2 ?k3 News.nil ?k5 ?kA ?kF ?kK ?k6 ?k7 ?k8 ?k9 ?kB ?_ ?c2 ?c3 ?c4 ?c5; (case kA => exact rfl); (case kF => exact rfl); (case kK => assumption); (case k1 => k_asm); (case k2 => k_asm); (case k3 => k_asm); (case k5 => k_asm); (case k6 => k_is); (case k7 => k_is); (case k8 => ktr_room); (case k9 => first | exact BindsTo.of_eq rfl | exact binds_K (X.keeps F.keep) rfl (by k_is) rfl rfl rfl); (case kB => exact locs rfl); (case c2 => exact rfl); (case c3 => exact rfl); (case c4 => exact rfl); (case c5 => decide); k_whole; intro g' L' h' FG' F' N' B' X' T' hG'; (try dsimp only); (try k_lift B'); (try k_fold)))
  have hN0 : News h₀ L g' news := fun q hq => ⟨hG' q.1 q.2 (N q hq).1 (fun hm => nomatch hm), (N q hq).2⟩
  clear hG'
  refine PySem.wpAny_noRaise ?_
  k_with_none
  have hMk := kstMark
  repeat (fail_if_success (with_reducible show wpAny _ _ (call (Value.ref 957) _) _ _ _)); first | (k_unfold; (try dsimp only)) | walk1 | (dsimp only; walk1)
  refine SaysU.go c_frames trivial ?_
  rintro v9 tl9 h9 tk9 ⟨fa, D0, D1, D2, D3, D4, fc, t0a, t0b, t0c, t0d, t1a, t1b, t1c, t1d, t2a, t2b, t2c, t2d, t3a, t3b, t3c, t3d, t4a, t4b, t4c, t4d, rfl, rfl⟩ F9 N9
  dsimp only [List.cons_append, List.nil_append, List.append_nil] at N9
  have F' := Fr.recast (m' := fun y => if y = Str.ofString "octets" then some (.bytes b u) else none) F9 (fun y => by
    show List.lookup y [(Str.ofString "octets", Value.bytes b u)] = _
    by_cases h : y = Str.ofString "octets"
    · subst h; rfl
    · rw [if_neg h]; simp only [List.lookup]; rw [beq_false_of_ne h])
  clear F9
  repeat (fail_if_success (with_reducible show wpAny _ _ (pyIter (Value.ref _)) _ _ _)); first | (k_unfold; (try dsimp only)) | walk1 | (dsimp only; walk1)
  first | (k_unfold; (try dsimp only)) | walk1 | (dsimp only; walk1)
  have hn : (nI l).length = l.length := nI_length l
  refine' items_all (n := 5) (FrP l [(fa, listOf (List.toArray [.ref D0, .ref D1, .ref D2, .ref D3, .ref D4]) fc), (D4, tupF #[81, 32] 32 #[] (Str.ofString "p2tr") t4a t4b t4c t4d), (D3, tupF #[0, 32] 32 #[] (Str.ofString "p2wsh") t3a t3b t3c t3d), (D2, tupF #[0, 20] 20 #[] (Str.ofString "p2wpkh") t2a t2b t2c t2d), (D1, tupF #[169, 20] 20 #[135] (Str.ofString "p2sh") t1a t1b t1c t1d), (D0, tupF #[118, 169, 20] 20 #[136, 172] (Str.ofString "p2pkh") t0a t0b t0c t0d)]) (fun i => i ≤ kindN l) (fun m => m (Str.ofString "octets") = some (.bytes b u)) ?hk ?turn ?done [_, _, _, _, _] 0 rfl ?hP (Nat.zero_le _) _ rfl
  case hk => exact ⟨List.Mem.head _, trivial⟩
  case hP =>
    intro j v hj
    match j, hj with
    | 0, hj => cases hj; exact ⟨D0, #[118, 169, 20], #[136, 172], 20, _, _, _, _, [118, 169, 20], [136, 172], rfl, (.tail _ (.tail _ (.tail _ (.tail _ (.tail _ (.head _)))))), rfl, rfl, by decide, by decide, by decide, by decide, mt0 l⟩
    | 1, hj => cases hj; exact ⟨D1, #[169, 20], #[135], 20, _, _, _, _, [169, 20], [135], rfl, (.tail _ (.tail _ (.tail _ (.tail _ (.head _))))), rfl, rfl, by decide, by decide, by decide, by decide, mt1 l⟩
    | 2, hj => cases hj; exact ⟨D2, #[0, 20], #[], 20, _, _, _, _, [0, 20], [], rfl, (.tail _ (.tail _ (.tail _ (.head _)))), rfl, rfl, by decide, by decide, by decide, by decide, mt2 l⟩
    | 3, hj => cases hj; exact ⟨D3, #[0, 32], #[], 32, _, _, _, _, [0, 32], [], rfl, (.tail _ (.tail _ (.head _))), rfl, rfl, by decide, by decide, by decide, by decide, mt3 l⟩
    | 4, hj => cases hj; exact ⟨D4, #[81, 32], #[], 32, _, _, _, _, [81, 32], [], rfl, (.tail _ (.head _)), rfl, rfl, by decide, by decide, by decide, by decide, mt4 l⟩
    | j + 5, hj => simp at hj
  case done =>
    intro m h tk hJ hm F N
    have hK : kindN l = 5 := by have := kind_le l; omega
    k_steps
    exact ret_kind2 hret hN0 (by assumption) (.inr ⟨rfl, rfl⟩) hK (by k_asm)
  case turn =>
    rintro i v m₁ R h tk hi ⟨D, f, bk, n, t1, t2, t3, t4, fl, bl, rfl, hD, hf, hbk, hf3, hb2, hn0, hn1, hMT⟩ hJ hm hR F o ho N
    have F0 := Fr.recast (m' := fun y => if y = Str.ofString "octets" then some (.bytes b u) else m₁ y) F (fun y => by
      by_cases h : y = Str.ofString "octets"
      · subst h; rw [if_pos rfl]; exact hm
      · rw [if_neg h])
    clear F
    have N9 := news_front N (.tail _ hD)
    clear N
    have hFL : (nI fl).length = fl.length := nI_length fl
    have hBL : (nI bl).length = bl.length := nI_length bl
    k_steps
    all_goals first
    | exact ret_kind2 hret hN0 (by assumption) (kname_lt hi _) (hMT.mp ((mt_yes hb hf hbk hn0 (by with_reducible assumption)).mpr ⟨by with_reducible assumption, by with_reducible assumption⟩)) (by k_asm)
    | (with_reducible rename News _ _ _ _ => Ne
       refine UnrEndW.intro (by assumption) Ne [(fa, listOf (List.toArray [.ref D0, .ref D1, .ref D2, .ref D3, .ref D4]) fc), (D4, tupF #[81, 32] 32 #[] (Str.ofString "p2tr") t4a t4b t4c t4d), (D3, tupF #[0, 32] 32 #[] (Str.ofString "p2wsh") t3a t3b t3c t3d), (D2, tupF #[0, 20] 20 #[] (Str.ofString "p2wpkh") t2a t2b t2c t2d), (D1, tupF #[169, 20] 20 #[135] (Str.ofString "p2sh") t1a t1b t1c t1d), (D0, tupF #[118, 169, 20] 20 #[136, 172] (Str.ofString "p2pkh") t0a t0b t0c t0d)] (by k_subL) (by k_subL) (by ktu_offL) (hR _ rfl (mt_next hMT hJ ?_))
       first
       | exact mt_len (by with_reducible assumption)
       | (intro h9; have h8 := ((mt_yes hb hf hbk hn0 (by with_reducible assumption)).mp h9).1; with_reducible rename (_ = false) => h7; rw [h7] at h8; exact absurd h8 (by decide))
       | (intro h9; have h8 := ((mt_yes hb hf hbk hn0 (by with_reducible assumption)).mp h9).2; with_reducible rename (_ = false) => h7; rw [h7] at h8; exact absurd h8 (by decide)))
end

section
open PySem PySem.W PySem.Calls PyProof.Rows
set_option maxRecDepth 100000
variable {prog : Program} {w : World} {p : Program} {loose : List Str} {mean : ExcName → Option Value} {mg mb : Str → Option Value}

theorem fill28 : PySem.Challenge.rw_bd0008_01 = PySem.Challenge.rw_bd0008_01 ∧ hd.heap_39 = hd.heap_39 := by
  w_on
  k_fill
  exact ⟨rfl, rfl⟩



def BdEnd (s₁ : Shared) (r : Result) (s' : Shared) : Prop := r = .ok (.ret (.bool true)) ∧ (∀ b o, b ≠ 172 → s₁.heap.get? b = some o → s'.heap.get? b = some o) ∧ (∃ ps, s'.heap.get? 172 = some (tabObj ps)) ∧ s'.os = s₁.os ∧ AllBare s'.gens
theorem bd_post {M : Model} {A : Around} {cd : Code} {s s₁ : Shared} {cw : ClaimW} {cl : Str → Option Addr} {mn : ExcName → Option Value} {args : List WData} (hT : TabsAt [(174, 172)] s₁.heap) (hr : ∀ x, cw.raises args x = false) (hp : cw.post args (.bool true) args = true)
    (h : codeAny M A cd (BdEnd s₁) s) : codeAny M A cd (GoodWG cw cl mn args s₁) s := codeAny_mono h fun r s' ⟨h1, h2, ⟨ps, h3⟩, h4, h5⟩ => by
  obtain ⟨hc, ht⟩ := hT _ (List.Mem.head _)
  refine ⟨.inl ⟨_, .bool true, [], h1, hr, .bool _, hp, fun _ => ⟨List.nodup_nil, fun _ hx => nomatch hx⟩⟩, ⟨fun b o e => ?_, fun b o e => ?_⟩, h4, h5⟩
  · by_cases hb : b = 172
    · subst hb
      dsimp only at ht
      rw [ht] at e
      cases e
      exact .inr (.inl ⟨(hc.tab ht).isCodeTable, rfl, #[], ps, rfl, by rw [Array.empty_append]; exact h3⟩)
    · exact .inl (h2 b o hb e)
  · by_cases hb : b = 172
    · subst hb; exact ⟨_, h3⟩
    · exact ⟨o, h2 b o hb e⟩


theorem bits_lt {x : Int} {n : Nat} (h : x.natAbs < 2 ^ n) : Builtin.Int.intBits x ≤ n := by
  unfold Builtin.Int.intBits
  by_cases h0 : x = 0
  · subst h0; exact Nat.zero_le _
  · rw [if_neg (by simpa using h0)]
    exact (Nat.log2_lt (by omega)).mpr h
theorem bits_add {a j : Int} {k : Nat} (ha : Builtin.Int.intBits a ≤ k) (hj : j.natAbs < 128) (hk : 7 ≤ k) : Builtin.Int.intBits (a + j) ≤ k + 1 := by
  refine bits_lt ?_
  have h1 : a.natAbs < 2 ^ k := Nat.lt_of_lt_of_le (natAbs_lt_pow_bits a) (Nat.pow_le_pow_right (by decide) ha)
  have h2 : (128 : Nat) ≤ 2 ^ k := Nat.le_trans (show 128 ≤ 2 ^ 7 by decide) (Nat.pow_le_pow_right (by decide) hk)
  rw [Nat.pow_succ]
  generalize 2 ^ k = M at h1 h2 ⊢
  omega
theorem bits_third {x : Int} {k : Nat} (hx : Builtin.Int.intBits x ≤ k) : Builtin.Int.intBits (x.fdiv 3) ≤ k := by
  refine bits_lt (Nat.lt_of_le_of_lt ?_ (Nat.lt_of_lt_of_le (natAbs_lt_pow_bits x) (Nat.pow_le_pow_right (by decide) hx)))
  rw [Int.fdiv_eq_ediv_of_nonneg _ (by decide)]
  omega
def RNum (v : Value) (tl : Led) : Prop := tl = [] ∧ ∃ x t, v = .int x t ∧ Builtin.Int.intBits x ≤ 1100000
theorem rt_num {h₀ : Heap} {L : Addr} {m : Str → Option Value} {news : Led} {s : Shared} {Q : Value → Shared → Prop} (k : ∀ (x : Int) (t : Tok) (h' : Heap) (tk' : Nat), Builtin.Int.intBits x ≤ 1100000 → Fr h₀ L h' m → News h₀ L h' (news) → Q (.int x t) { s with heap := h', toks := tk' }) : RetT h₀ L m news s Q RNum := by
  rintro v tl h' tk' ⟨rfl, x, t, rfl, hx⟩ F N _
  exact k x t h' tk' hx F N
theorem c_num (l : Addr) (vs : List Value) (ns : List Int) (i : Int) (t : Tok) : Says prog w p loose mean mg mb 10 40 969 [.ref l, .int i t] (fun base _ => base.IsList l vs.toArray ∧ IntsAre vs ns ∧ ns.length ≤ 63 ∧ (∀ n ∈ ns, Builtin.Int.intBits n ≤ 1048576) ∧ 0 ≤ i ∧ i ≤ 10) RNum := by
  unfold Says
  intro dp un gd cn cs a ccd cl outer A₀ base h₀ L m news s Q E B F X N T hk hpre hdp hu hret
  obtain ⟨h1, h2, h3, h4, h5, h6⟩ := hpre
  refine Says.go (c_number l vs ns i t) ⟨h1, h2, by omega, h5⟩ ?_
  rintro v tl h' tk' ⟨rfl, t9, rfl⟩ F9 N9 l9
  refine hret _ [] h' tk' ⟨rfl, _, t9, rfl, ?_⟩ F9 N9 l9
  have hb : ∀ n : Int, Builtin.Int.intBits n ≤ 1048576 → Builtin.Int.intBits (n + 7 * i) ≤ 1100000 := fun n hn => Nat.le_trans (bits_add hn (by omega) (by decide)) (by decide)
  unfold numAt
  split
  · exact hb 0 (by decide)
  · refine hb _ ?_
    rw [List.getD_eq_getElem?_getD]
    cases e : ns[(i % (ns.length : Int)).toNat]? with
    | none => exact Nat.zero_le _
    | some x => exact h4 x (List.mem_of_getElem? e)
theorem turn_len {A M : List Int} {y : Int} (hA : A.length = 20) (hM : M.length = 1) : (List.take (clipAt A.length (y.fmod 20)) A ++ M ++ List.take (A.length - clipAt A.length (y.fmod 20 + 1)) (List.drop (clipAt A.length (y.fmod 20 + 1)) A)).length = 20 := by
  have h := fm_in y (n := 20) (by decide)
  generalize y.fmod 20 = z at h
  have e1 : clipAt A.length z = z.toNat := by unfold clipAt; rw [hA, if_neg (by omega)]; omega
  have e2 : clipAt A.length (z + 1) = z.toNat + 1 := by unfold clipAt; rw [hA, if_neg (by omega)]; omega
  rw [e1, e2]
  simp only [List.length_append, List.length_take, List.length_drop, hA, hM]
  omega
theorem ite_join {A : Around} {env : Env} {c : Prop} [Decidable c] {p q : Pos} {i j : Int} {a b : Tok} {s : Shared} {Q E : Value → Shared → Prop} (hi : 0 ≤ i ∧ i ≤ 10) (hj : 0 ≤ j ∧ j ≤ 10) (h : ∀ x : Int, 0 ≤ x → x ≤ 10 → ∀ t k, Q (.int x t) { s with toks := k }) :
    if c then wpAny (model prog w) A (eval (.Constant (.int i) a p) env) Q E s else wpAny (model prog w) A (eval (.Constant (.int j) b q) env) Q E s := by
  split
  · exact wpAny_Constant_int (h i hi.1 hi.2 _ _)
  · exact wpAny_Constant_int (h j hj.1 hj.2 _ _)
def RLen (n : Nat) (v : Value) (tl : Led) : Prop := tl = [] ∧ ∃ b t l, v = .bytes b t ∧ KBw.bInts b = nI l ∧ l.length = n
theorem rt_len {h₀ : Heap} {L : Addr} {m : Str → Option Value} {news : Led} {s : Shared} {Q : Value → Shared → Prop} {n : Nat} (k : ∀ (b : Array UInt8) (t : Tok) (l : List Nat) (h' : Heap) (tk' : Nat), KBw.bInts b = nI l → l.length = n → Fr h₀ L h' m → News h₀ L h' (news) → Q (.bytes b t) { s with heap := h', toks := tk' }) : RetT h₀ L m news s Q (RLen n) := by
  rintro v tl h' tk' ⟨rfl, b, t, l, rfl, hb, hl⟩ F N _
  exact k b t l h' tk' hb hl F N
theorem c_oct20 (x : Int) (t u : Tok) : Says prog w p loose mean mg mb 10 40 976 [.int x t, .int 20 u] (fun _ _ => Builtin.Int.intBits x ≤ 1100000) (RLen 20) := by
  unfold Says
  intro dp un gd cn cs a ccd cl outer A₀ base h₀ L m news s Q E B F X N T hk hpre hdp hu hret
  refine Says.go (c_octets x t u) (Nat.le_trans hpre (by decide)) ?_
  rintro v tl h' tk' ⟨rfl, b, t9, rfl, hb⟩ F9 N9 l9
  exact hret _ [] h' tk' ⟨rfl, b, t9, _, rfl, hb, by rw [List.length_reverse, dig_length]⟩ F9 N9 l9
theorem eq_known {A : Around} {E : Value → Shared → Prop} {s : Shared} {x y : Str} {c : Bool} {t u : Tok} {Q : Value → Shared → Prop} (e : (x == y) = c) (h : Q (.bool c) s) : wpAny (model prog w) A (compareOp .Eq (.str x t) (.str y u)) Q E s := PyProof.Rows.eq_str (by rw [e]; exact h)
theorem SaysL.go {D U : Nat} {f : Addr} {vs : List Value} {pre : Heap → Led → Prop} {R : Value → Led → Prop} {dp un : Nat} {gd : Option (List Code)} {cn : Str} {cs : Scope} {a : Addr} {ccd : Value} {A₀ : Around}
    {h₀ : Heap} {L : Addr} {m : Str → Option Value} {news : Led} {s : Shared} {ps : Array Value} {Q E : Value → Shared → Prop} (C : SaysL prog w p loose mean mg mb D U f vs pre R)
    (hp : pre h₀ news) (ret : RetG h₀ L m news s Q R) (N : News h₀ L s.heap ((172, tabO ps) :: news)) (hps : TriplesOk ps.toList) (hg : AllBare s.gens) (hnp : ∀ q ∈ news, q.1 ≠ 172)
    (B : Below A₀ h₀ [] h₀ := by k_asm) (F : Fr h₀ L s.heap m := by k_asm) (X : (hd.heap_39 w.params).In h₀ := by k_asm) (T : Top p loose mean mg mb h₀ := by k_asm)
    (hk : cs.kind = .function := by first | exact rfl | assumption) (hdp : dp + D < recursionLimit := by ktr_room) (hu : un + U < cLine := by ktr_units) :
    wpAny (model prog w) (ktrTop dp un gd cn cs L a ccd [] []) (call (.ref f) vs) Q E s := C dp un gd cn cs a ccd A₀ h₀ L m news s ps Q E B F X N T hk hps hg hnp hp hdp hu ret
local macro_rules | `(tactic| walk_at "eval Call") => `(tactic| k_dflt (refine Call_ ?_))
local macro_rules | `(tactic| walk_at "callWith ref") => `(tactic| ((with_reducible show wpAny _ _ (callWith _ (Value.ref 890) _ (backTo _ (starEach [] _)) []) _ _ _); k_dflt (refine' callWith_K0 ?k1 ?k2 ?_; (case k1 => exact Frag.In.keeps (by with_reducible assumption) (Fr.keep (by with_reducible assumption))); (case k2 => k_is); k_whole)))
local macro_rules | `(tactic| walk_at "call ref") => `(tactic| ((with_reducible show wpAny _ _ (call (Value.ref 969) _) _ _ _); k_dflt (refine Says.go (c_num _ _ _ _ _) ⟨by with_reducible assumption, by with_reducible assumption, by with_reducible assumption, by with_reducible assumption, by first | decide | with_reducible assumption, by first | decide | with_reducible assumption⟩ ?_); k_dflt (refine rt_num ?_; intro x9 t9 h9 tk9 hx9 F9 N9)))
local macro_rules | `(tactic| walk_at "call ref") => `(tactic| ((with_reducible show wpAny _ _ (call (Value.ref 976) _) _ _ _); k_dflt (refine Says.go (c_oct20 _ _ _) (by with_reducible assumption) ?_); k_dflt (refine rt_len ?_; intro b9 t9 lb9 h9 tk9 hb9 hl9 F9 N9); (have hz9 := (nI_length lb9).trans hl9)))
theorem eqb_known {A : Around} {E : Value → Shared → Prop} {s : Shared} {x y : Array UInt8} {c : Bool} {t u : Tok} {Q : Value → Shared → Prop} (e : (x.toList == y.toList) = c) (h : Q (.bool c) s) : wpAny (model prog w) A (compareOp .Eq (.bytes x t) (.bytes y u)) Q E s := PySem.W.eq_bytes (by rw [e]; exact h)
local macro_rules | `(tactic| walk_at "compareOp Eq bytes bytes") => `(tactic| k_dflt (refine' eqb_known ?e ?_; (case e => with_reducible assumption)))
theorem neb_same {A : Around} {E : Value → Shared → Prop} {s : Shared} {c : Bool} {Q : Value → Shared → Prop} (h : Q (.bool false) s) : wpAny (model prog w) A (compareOp .NotEq (.bool c) (.bool c)) Q E s := PyProof.Rows.ne_bool (by rw [bne_self_eq_false]; exact h)
local macro_rules | `(tactic| walk_at "compareOp NotEq bool bool") => `(tactic| with_reducible refine neb_same ?_)
section
variable {A : Around} {E : Value → Shared → Prop} {s : Shared} {h₀ : Heap} {L : Addr} {m : Str → Option Value} {news : Led} {Q : Value → Shared → Prop}
theorem kind_in2 {x : Addr} {k : Nat} {r : Bool} {t u1 u2 : Tok} {c : Nat} (N : News h₀ L s.heap news) (hx : (x, listOf (List.toArray [.str (Str.ofString "p2pkh") u1, .str (Str.ofString "p2sh") u2]) c) ∈ news) (hk : k < 5) (hr : decide (k < 2) = r) (h : Q (.bool r) s) :
    wpAny (model prog w) A (compareOp .In (.str (kname k) t) (.ref x)) Q E s := kind_in N hx hk (by rw [hr]; exact h)
theorem kind_tr2 {k : Nat} {r : Bool} {t u : Tok} (hk : k < 5) (hr : decide (k = 4) = r) (h : Q (.bool r) s) :
    wpAny (model prog w) A (compareOp .Eq (.str (kname k) t) (.str (Str.ofString "p2tr") u)) Q E s := kind_tr hk (by rw [hr]; exact h)
end
local macro_rules | `(tactic| walk_at "compareOp In str ref") => `(tactic| k_dflt (refine' kind_in2 ?N ?x ?k ?r ?_; (case N => with_reducible assumption); (case x => exact List.Mem.head _); (case k => with_reducible assumption); (case r => with_reducible assumption)))
local macro_rules | `(tactic| walk_at "subscriptTail") => `(tactic| ((with_reducible show wpAny _ _ (subscriptTail _ _ (Value.ref (958 + _)) (Value.int 1 _)) _ _ _); k_dflt (refine' nets_ver ?F ?X ?k ?_ ?h; (case F => with_reducible assumption); (case X => with_reducible assumption); (case k => with_reducible assumption); (case h => with_unfolding_all rfl)); intro _))
local macro_rules | `(tactic| walk_at "subscriptTail") => `(tactic| ((with_reducible show wpAny _ _ (subscriptTail _ _ (Value.ref (958 + _)) (Value.int 2 _)) _ _ _); k_dflt (refine' nets_hrp ?F ?X ?k ?_ ?h; (case F => with_reducible assumption); (case X => with_reducible assumption); (case k => with_reducible assumption); (case h => with_unfolding_all rfl)); intro _))
theorem addr_from {k : Nat} {l : List Nat} (hb : Oct l) (h : kindN l < 2) : ∃ v p, ladS k l = encT (chk (v :: p)) ∧ (∀ y ∈ p, y < 256) ∧ p.length = 20 ∧ (((v = 0 ∨ v = 111) ∧ l = [118, 169, 20] ++ p ++ [136, 172]) ∨ ((v = 5 ∨ v = 196) ∧ l = [169, 20] ++ p ++ [135])) := by
  have hL : ladS k l = addrS k l := by rw [ladS_def, if_pos (by omega)]
  rcases addr_form hb (by omega) with ⟨p, hp, hp2, ⟨_, el, ea⟩ | ⟨_, el, ea⟩⟩ | ⟨p, v, M, b, hp, hp2, _, el, h2, hv, ea⟩
  · exact ⟨_, p, hL.trans (ea k), hp, hp2, .inl ⟨by unfold pkN; split <;> simp, el⟩⟩
  · exact ⟨_, p, hL.trans (ea k), hp, hp2, .inr ⟨by unfold shN; split <;> simp, el⟩⟩
  · omega
theorem addr_dec {k : Nat} {l : List Nat} (hb : Oct l) (h : ¬ kindN l < 2) (h5 : kindN l < 5) : ∃ p v M, ladS k l = sN (hrpN k ++ [49] ++ combT M (hrpN k) (v :: fiveN p)) ∧ ((v = 0 ∧ M = 1) ∨ (v = 1 ∧ M = 734539939)) ∧ (p.length = 20 ∨ p.length = 32) ∧ (∀ y ∈ p, y < 256) ∧ p = l.drop 2 ∧ 2 ≤ l.length ∧ v = (if kindN l = 4 then 1 else 0) := by
  have hL : ladS k l = addrS k l := by rw [ladS_def, if_pos (by omega)]
  rcases addr_form hb h5 with ⟨p, hp, hp2, ⟨h9, el, ea⟩ | ⟨h9, el, ea⟩⟩ | ⟨p, v, M, b, hp, hp2, hd, el, h2, hv, ea⟩
  · omega
  · omega
  · refine ⟨p, v, M, hL.trans (ea k), ?_, hp2, hp, hd.symm, by rw [el]; simp, ?_⟩
    · rcases hv with ⟨_, h1, h2, _⟩ | ⟨_, h1, h2, _⟩
      · exact .inl ⟨h1, h2⟩
      · exact .inr ⟨h1, h2⟩
    · rcases hv with ⟨h0, h1, _, _⟩ | ⟨h0, h1, _, _⟩
      · rw [if_neg h0]; exact h1
      · rw [if_pos h0]; exact h1
theorem c_decA (x : Str) (v0 M : Nat) (hl l : List Nat) (u1 u2 : Tok) : SaysG prog w p loose mean mg mb 120 900 190 [.str (sN hl) u1, .str x u2] (fun _ _ => x = sN (hl ++ [49] ++ combT M hl (v0 :: fiveN l)) ∧ ((v0 = 0 ∧ M = 1) ∨ (v0 = 1 ∧ M = 734539939)) ∧ 0 < hl.length ∧ hl.length ≤ 10 ∧ (∀ c ∈ hl, 97 ≤ c ∧ c < 123) ∧ (l.length = 20 ∨ l.length = 32) ∧ ∀ x ∈ l, x < 256) (RPair (v0 : Int) l) := by
  unfold SaysG
  intro dp un gd cn cs a ccd cl outer A₀ base h₀ L m news s ps Q E B F X N T hk hps hgens hnp hpre hdp hu hret
  obtain ⟨rfl, h⟩ := hpre
  exact c_dec v0 M hl l u1 u2 dp un gd cn cs a ccd cl outer A₀ base h₀ L m news s ps Q E B F X N T hk hps hgens hnp h hdp hu hret
set_option maxHeartbeats 4000000 in
theorem c_fromM (q : Addr) (x : Str) (u : Tok) (v : Nat) (l r : List Nat) : Says prog w p loose mean mg mb 170 2100 q [.str x u] (fun _ news => (q, methodObj (.ref 914) (.ref 941)) ∈ news ∧ x = encT (chk (v :: l)) ∧ (∀ y ∈ l, y < 256) ∧ l.length = 20 ∧ (((v = 0 ∨ v = 111) ∧ r = [118, 169, 20] ++ l ++ [136, 172]) ∨ ((v = 5 ∨ v = 196) ∧ r = [169, 20] ++ l ++ [135]))) (RScript r w.params) := by
  unfold Says
  intro dp un gd cn cs a ccd cl outer A₀ base h₀ L m news s Q E B F X N T hk hpre hdp hu hret
  obtain ⟨hq, hpre⟩ := hpre
  refine call_meth N hq ?_
  w_strict (k_dflt cell_enter)
  refine PySem.wpAny_noRaise ?_
  k_with_none
  have hMk := kstMark
  repeat (fail_if_success (with_reducible show wpAny _ _ (call (Value.ref 950) _) _ _ _)); first | (k_unfold; (try dsimp only)) | walk1 | (dsimp only; walk1)
  refine Says.go (c_atsp x u v l r) hpre ?_
  refine rt_scr ?_
  intro x9 d9 t9 ub9 b9 h9 tk9 hb9 F9 N9 l9x l9d
  k_steps
  with_reducible rename News _ _ _ _ => kN9
  dsimp only at kN9
  exact hret _ [_, _] _ _ ⟨x9, d9, t9, ub9, b9, rfl, rfl, hb9⟩ (by k_asm) kN9 (two_over l9x l9d)
theorem net_same58 {kH kT : Nat} {l : List Nat} (hb : Oct l) (h : kindN l < 2) : ∃ c : Bool, (ladS kH l == ladS kT l) = c ∧ (vN kH == vN kT) = c := by
  have h5 : kindN l < 5 := by omega
  refine ⟨decide (kH = 0 ↔ kT = 0), ?_, ?_⟩
  · rw [ladS_def, ladS_def, if_pos h5, if_pos h5, Bool.eq_iff_iff, beq_iff_eq, decide_eq_true_eq]
    exact addr_pk hb h
  · unfold vN
    by_cases h1 : kH = 0 <;> by_cases h2 : kT = 0 <;> simp [h1, h2]
theorem net_same32 {kH kT : Nat} {l : List Nat} (hb : Oct l) (h : ¬ kindN l < 2) (h5 : kindN l < 5) : ∃ c : Bool, (ladS kH l == ladS kT l) = c ∧ (sN (hrpN kH) == sN (hrpN kT)) = c := by
  refine ⟨decide (hrpN kH = hrpN kT), ?_, ?_⟩
  · rw [ladS_def, ladS_def, if_pos h5, if_pos h5, Bool.eq_iff_iff, beq_iff_eq, decide_eq_true_eq]
    exact addr_hrp hb (by omega) h5
  · rw [Bool.eq_iff_iff, beq_iff_eq, decide_eq_true_eq]
    exact ⟨fun e => sN_inj e, fun e => by rw [e]⟩
theorem eqi_known {A : Around} {E : Value → Shared → Prop} {s : Shared} {x y : Int} {c : Bool} {t u : Tok} {Q : Value → Shared → Prop} (e : (x == y) = c) (h : Q (.bool c) s) : wpAny (model prog w) A (compareOp .Eq (.int x t) (.int y u)) Q E s := PyProof.Rows.eq_int (by rw [e]; exact h)
local macro_rules | `(tactic| walk_at "compareOp Eq int int") => `(tactic| ((with_reducible show wpAny _ _ (compareOp CmpOp.Eq (Value.int (vN _) _) _) _ _ _); k_dflt (refine' eqi_known ?e ?_; (case e => with_reducible assumption))))
theorem pair_eq {A : Around} {E : Value → Shared → Prop} {s : Shared} {Q : Value → Shared → Prop} {a b : Value} {as bs : List Addr} {v : Int} {ks : List Int} (ra : Reads s.heap a (.tuple [.int v, .list (ks.map PyData.int)]) as) (rb : Reads s.heap b (.tuple [.int v, .list (ks.map PyData.int)]) bs) (hu : A.units + 64 < cLine) (h : Q (.bool true) s) :
    wpAny (model prog w) A (compareOp .Eq a b) Q E s := by
  have hs : SeqAt.shaped (.tuple [.int v, .list (ks.map PyData.int)]) = true := by simp [SeqAt.shaped, PyData.canLay0, PyData.canLayAll0, PyData.depth, PyData.depthAll, ke_canLayAll0, ke_depthAll]
  have he : PyData.eqv (.tuple [.int v, .list (ks.map PyData.int)]) (.tuple [.int v, .list (ks.map PyData.int)]) = true := by simp [PyData.eqv, PyData.eqvAll, ked_eqvAll]
  exact eq_dataH ra rb hs hs hu (by rw [he]; exact h)
theorem same_b {b b1 : Array UInt8} {l : List Nat} (hb : KBw.bInts b = nI l) (hb1 : KBw.bInts b1 = nI l) : (b.toList == b1.toList) = true := by
  rw [cut_eq hb, bInts_nat hb1]; exact decide_eq_true rfl
local macro_rules | `(tactic| walk_at "compareOp Eq str str") => `(tactic| k_dflt (refine' eq_known ?e ?_; (case e => with_reducible assumption)))
local macro_rules | `(tactic| walk_at "compareOp NotEq ref ref") => `(tactic| k_dflt (refine' kinds_ne ?N ?x ?y ?a ?b ?c ?d ?u ?_; (case N => with_reducible assumption); (case x => k_mem); (case y => k_mem); (case a => with_reducible assumption); (case b => with_reducible assumption); (case c => with_reducible assumption); (case d => with_reducible assumption); (case u => ke_room)))
theorem four_or {i : Int} {k : Nat} (h : i = (k : Int) ∧ k < 4) : (i = 0 ∧ k = 0) ∨ (i = 1 ∧ k = 1) ∨ (i = 2 ∧ k = 2) ∨ (i = 3 ∧ k = 3) := by omega
theorem np_one {a : Addr} {o : Obj} (h : @LT.lt Nat _ 172 a) : ∀ q ∈ [(a, o)], q.1 ≠ 172 := fun q hq => by
  rw [List.mem_singleton.mp hq]; exact Nat.ne_of_gt h
theorem beq_f {x y : Str} (h : x ≠ y) : (x == y) = false := by rw [beq_eq_false_iff_ne]; exact h
theorem beq_t {x y : Str} (h : x = y) : (x == y) = true := by rw [beq_iff_eq]; exact h
theorem kv_none {k : Nat} {v : Value} (h : kv k v) (hk : k = 5) : v = .none := by
  rcases h with ⟨h5, _⟩ | ⟨_, h⟩
  · omega
  · exact h
theorem bd_end {G0 h : Heap} {L : Addr} {m : Str → Option Value} {news : Led} {s₁ sa : Shared} {tk : Nat} {ps : Array Value} (hOld : ∀ b o, b ≠ 172 → s₁.heap.get? b = some o → G0.get? b = some o) (F : Fr G0 L h m) (N : News G0 L h news) (hm : (172, tabO ps) ∈ news) (hos : sa.os = s₁.os) (hg : AllBare sa.gens) :
    BdEnd s₁ (.ok (.ret (.bool true))) { sa with heap := h, toks := tk } :=
  ⟨rfl, fun b o hb e => F.keep _ _ (hOld b o hb e), ⟨ps, (N _ hm).1⟩, hos, hg⟩
theorem eq_same {b1 b2 : Array UInt8} {l1 l2 : List Nat} (k : Nat) (hb1 : KBw.bInts b1 = nI l1) (hb2 : KBw.bInts b2 = nI l2) (hk1 : kindN l1 < 5) :
    ∃ c : Bool, (ladS k l1 == ladS k l2) = c ∧ (b1.toList == b2.toList) = c := by
  have o1 := bytes_bound hb1
  have o2 := bytes_bound hb2
  refine ⟨decide (l1 = l2), ?_, ?_⟩
  · rw [Bool.eq_iff_iff, beq_iff_eq, decide_eq_true_eq]
    constructor
    · intro e
      rw [ladS_def, ladS_def, if_pos hk1] at e
      by_cases hk2 : kindN l2 < 5
      · rw [if_pos hk2] at e
        exact addr_inj o1 o2 hk1 hk2 e
      · rw [if_neg hk2] at e
        exact absurd e (addr_ne_refused o1 hk1)
    · rintro rfl; rfl
  · rw [cut_eq hb1, bInts_nat hb2]
theorem mod4 (x : Int) : ∃ k : Nat, x.fmod 4 = (k : Int) ∧ k < 4 := by
  have h := fm_in x (n := 4) (by decide)
  exact ⟨(x.fmod 4).toNat, by omega, by omega⟩
theorem join_val {M : Model} {A : Around} {t : Sem Value} {E : Value → Shared → Prop} {s : Shared} {Q : Value → Shared → Prop} (x : Int) (h1 : ∀ Q' : Value → Shared → Prop, (∀ u k, Q' (.int x u) { s with toks := k }) → wpAny M A t Q' E s) (h2 : ∀ u k, Q (.int x u) { s with toks := k }) : wpAny M A t Q E s := h1 Q h2
theorem news_two {h₀ h : Heap} {L : Addr} {news : Led} {a b : Addr × Obj} (N : News h₀ L h news) (ha : a ∈ news) (hb : b ∈ news) : News h₀ L h [a, b] := fun q hq => N q (by
  rcases List.mem_cons.mp hq with rfl | hq
  · exact ha
  · rw [List.mem_singleton.mp hq]; exact hb)
theorem law_map {h₀ h : Heap} {L : Addr} {m : Str → Option Value} {v1 v2 v3 v4 : Value} (F : Fr h₀ L h m) (h1 : m (Str.ofString "kinds") = some v1) (h2 : m (Str.ofString "here") = some v2) (h3 : m (Str.ofString "one") = some v3) (h4 : m (Str.ofString "a") = some v4) :
    Fr h₀ L h (fun y => if y = Str.ofString "kinds" then some v1 else if y = Str.ofString "here" then some v2 else if y = Str.ofString "one" then some v3 else if y = Str.ofString "a" then some v4 else m y) := Fr.recast F fun y => by
  by_cases e1 : y = Str.ofString "kinds"
  · subst e1; exact h1
  by_cases e2 : y = Str.ofString "here"
  · subst e2; exact h2
  by_cases e3 : y = Str.ofString "one"
  · subst e3; exact h3
  by_cases e4 : y = Str.ofString "a"
  · subst e4; exact h4
  simp only [if_neg e1, if_neg e2, if_neg e3, if_neg e4]
theorem law_join {M : Model} {A : Around} {t : Sem Flow} {E : Value → Shared → Prop} {s s₁ : Shared} {Q : Flow → Shared → Prop} {G0 : Heap} {L kl sl : Addr} {ck : Nat} {v1 v2 : Value} {xi : Int} {b1 : Array UInt8} {a : Str} {th ta ab : Tok} {hx hy : Heap} {mx : Str → Option Value} {px : Array Value}
    (Fx : Fr G0 L hx mx) (x1 : mx (Str.ofString "kinds") = some (.ref kl)) (x2 : mx (Str.ofString "here") = some (.int xi th)) (x3 : mx (Str.ofString "one") = some (.bytes b1 ab)) (x4 : mx (Str.ofString "a") = some (.str a ta)) (x5 : mx (Str.ofString "script") = some (.ref sl)) (Nx : News G0 L hy [(172, tabO px), (kl, listOf (List.toArray [v1, v2]) ck)]) (hos : s.os = s₁.os)
    (h1 : ∀ Q' : Flow → Shared → Prop, (∀ (sb : Shared) (h : Heap) (tk : Nat) (ps : Array Value) (m : Str → Option Value), m (Str.ofString "kinds") = some (.ref kl) → m (Str.ofString "here") = some (.int xi th) → m (Str.ofString "one") = some (.bytes b1 ab) → m (Str.ofString "a") = some (.str a ta) → Fr G0 L h m → News G0 L h [(172, tabO ps), (kl, listOf (List.toArray [v1, v2]) ck)] → TriplesOk ps.toList → AllBare sb.gens → sb.os = s₁.os → Q' .next { sb with heap := h, toks := tk }) → wpAny M A t Q' E s)
    (h2 : ∀ (sb : Shared) (h : Heap) (tk : Nat) (ps : Array Value) (m : Str → Option Value), m (Str.ofString "kinds") = some (.ref kl) → m (Str.ofString "here") = some (.int xi th) → m (Str.ofString "one") = some (.bytes b1 ab) → m (Str.ofString "a") = some (.str a ta) → Fr G0 L h m → News G0 L h [(172, tabO ps), (kl, listOf (List.toArray [v1, v2]) ck)] → TriplesOk ps.toList → AllBare sb.gens → sb.os = s₁.os → Q .next { sb with heap := h, toks := tk }) : wpAny M A t Q E s := h1 Q h2
theorem law_cut {G0 h : Heap} {L kl sl : Addr} {ck : Nat} {m0 : Str → Option Value} {th tu ab1 ab2 : Tok} {xi yi : Int} {b1 b2 : Array UInt8} {v1 v2 : Value} {news : Led} {P : Prop}
    (F0 : Fr G0 L h (fun y => if y = Str.ofString "kinds" then some (.ref kl) else if y = Str.ofString "here" then some (.int (xi.fmod 4) th) else if y = Str.ofString "there" then some (.int (yi.fmod 4) tu) else if y = Str.ofString "two" then some (.bytes b2 ab2) else if y = Str.ofString "one" then some (.bytes b1 ab1) else m0 y))
    (hscr : m0 (Str.ofString "script") = some (.ref sl)) (N0 : News G0 L h news) (h1 : (172, tabO #[]) ∈ news) (h2 : (kl, listOf (List.toArray [v1, v2]) ck) ∈ news) (hlt : @LT.lt Nat _ 172 kl)
    (k : ∀ (kH kT : Nat) (kl : Addr) (ck : Nat) (m0 : Str → Option Value) (th tu ab1 ab2 : Tok), (xi.fmod 4 = (kH : Int) ∧ kH < 4) → (yi.fmod 4 = (kT : Int) ∧ kT < 4) → Fr G0 L h (fun y => if y = Str.ofString "kinds" then some (.ref kl) else if y = Str.ofString "here" then some (.int (xi.fmod 4) th) else if y = Str.ofString "there" then some (.int (yi.fmod 4) tu) else if y = Str.ofString "two" then some (.bytes b2 ab2) else if y = Str.ofString "one" then some (.bytes b1 ab1) else if y = Str.ofString "script" then some (.ref sl) else m0 y) →
      News G0 L h [(172, tabO #[]), (kl, listOf (List.toArray [v1, v2]) ck)] → @LT.lt Nat _ 172 kl → P) : P :=
  k _ _ kl ck m0 th tu ab1 ab2 (mod4 xi).choose_spec (mod4 yi).choose_spec (Fr.recast F0 (fun y => by
    by_cases h9 : y = Str.ofString "script"
    · subst h9; exact hscr
    · simp only [if_neg h9])) (fun q hq => N0 q (by
    rcases List.mem_cons.mp hq with rfl | hq
    · exact h1
    · rw [List.mem_singleton.mp hq]; exact h2)) hlt

set_option maxHeartbeats 8000000 in
theorem law_holds : PySem.Challenge.rw_bd0008_01.Holds := hd rfl rfl rfl (by
  w_strict (
  k_fill
  intro w s₀ s₁ mg mb G Y fa o pm cd doc dV kV ho hd hcd hD hmg hg args vals as hpre hlay hrd hwl hlo
  have KX := kIn_of Y
  have X := (Ground.X G).1
  have V := (Ground.X G).2
  refine Ground.open G ?_
  intro T B D TE TW
  try (refine guard_noD D (by decide +kernel) ?_; clear D)
  have hT9 : TabsAt [(174, 172)] _ := List.forall_mem_cons.mpr ⟨tab_of (x := PySem.Str.ofString "bech32_decode") (c := 174) (P := 172) T KX rfl (by kernel_rfl), fun _ h => nomatch h⟩
  clear hmg
  wrow_args hpre hlay hrd hwl hlo
  all_goals (
    first | refine callC_kw (enter_call ?_) | refine enter_call ?_
    w_top on
    refine bd_post hT9 (fun _ => rfl) (by with_unfolding_all rfl) ?_
    w_call any ho hd hcd hD T F
    clear hd
    kn_ghosts F T
    k_drop
    skip))
  have hOld : ∀ b o, b ≠ 172 → s₁.heap.get? b = some o → (ghostOf s₁.heap [(174, 172)]).get? b = some o := fun b o hb e => ghost_ne e (by simpa using hb)
  clear hT9
  generalize ghostOf s₁.heap [(174, 172)] = G0 at *
  rename (IntsAre _ _) => hI
  rename (Spec.Shape.int.list.has _ = true) => hs
  clear hs
  rename (PyData.layable0 _ = true) => hLay
  have hbits := fun n (hn : n ∈ _) => PyData.bits_item_of_ints hLay hn
  rename (¬ (63 : Int) < _) => h63
  have hn63 : _ ≤ 63 := Int.ofNat_le.mp (Int.not_lt.mp h63)
  replace hbits : ∀ n ∈ _, Builtin.Int.intBits n ≤ 1048576 := hbits
  clear G Y ho hcd X V B TE TW codeHd
  all_goals (try k_fold)
  k_with_none
  have hMk := kstMark
  repeat (fail_if_success (with_reducible show wpAny _ _ (call (Value.ref 983) _) _ _ _)); first | (k_unfold; (try dsimp only)) | walk1 | (dsimp only; walk1)
  with_reducible rename (KBw.bInts (_ ++ #[_] ++ _) = _) => hT
  obtain ⟨lt, hlt, hltl⟩ := some_nats hT
  have hlt20 : lt.length = 20 := hltl.trans (turn_len (by with_reducible assumption) rfl)
  clear hT hltl
  refine Says.go (c_made _ _ _ _ _) ⟨Nat.le_trans (bits_third (by with_reducible assumption)) (by decide), by with_reducible assumption, by with_reducible assumption⟩ ?_
  refine rt_some ?_
  intro b1 tb1 l1 h9 tk9 hb1 hl1 F9 N9
  repeat (fail_if_success (with_reducible show ite _ _ _)); (fail_if_success (with_reducible show wpAny _ _ (call (Value.ref 983) _) _ _ _)); first | (k_unfold; (try dsimp only)) | walk1 | (dsimp only; walk1)
  refine ite_join (by decide) (by decide) ?_
  intro i5 hi50 hi51 ti5 ki5
  repeat (fail_if_success (with_reducible show wpAny _ _ (call (Value.ref 983) _) _ _ _)); first | (k_unfold; (try dsimp only)) | walk1 | (dsimp only; walk1)
  refine Says.go (c_made _ _ _ _ _) ⟨Nat.le_trans (bits_third (by with_reducible assumption)) (by decide), by with_reducible assumption, by with_reducible assumption⟩ ?_
  refine rt_some ?_
  intro b2 tb2 l2 h9 tk9 hb2 hl2 F9 N9
  repeat (fail_if_success (with_reducible show wpAny _ _ (call (Value.ref 990) _) _ _ _)); first | (k_unfold; (try dsimp only)) | walk1 | (dsimp only; walk1)
  repeat (with_reducible rename (Builtin.Int.intBits _ ≤ _) => hh; clear hh)
  repeat (with_reducible rename (KBw.bInts _ = _ ++ _) => hh; clear hh)
  repeat (with_reducible rename (KBw.bInts _ = List.take _ _) => hh; clear hh)
  repeat (with_reducible rename ((0 : Int) ≤ List.getD _ _ _) => hh; clear hh)
  repeat (with_reducible rename (List.getD _ _ _ < (256 : Int)) => hh; clear hh)
  repeat (with_reducible rename (AllB _) => hh; clear hh)
  repeat (with_reducible rename (((UInt8.toNat _ : Nat) : Int) = _) => hh; clear hh)
  repeat (with_reducible rename (ReadsAll _ _ _ _) => hh; clear hh)
  repeat (with_reducible rename (ReadsAllW _ _ _ _ _ _) => hh; clear hh)
  repeat (with_reducible rename (Reads _ _ _ _) => hh; clear hh)
  repeat (with_reducible rename (Well _ _ _ _) => hh; clear hh)
  repeat (with_reducible rename (Dflts _ _ _ _ _ _) => hh; clear hh)
  repeat (with_reducible rename (WShape.hasAll _ _ _ = _) => hh; clear hh)
  repeat (with_reducible rename (WData.layableAll _ = _) => hh; clear hh)
  repeat (with_reducible rename (PyData.layableAll0 _ = _) => hh; clear hh)
  clear hLay h63
  refine Says.go (c_kind l1 _ _) ⟨hb1, by omega⟩ ?_
  refine rt_kind ?_
  intro v1 h9 tk9 hv1 F9 N9
  repeat (fail_if_success (with_reducible show wpAny _ _ (call (Value.ref 990) _) _ _ _)); first | (k_unfold; (try dsimp only)) | walk1 | (dsimp only; walk1)
  refine Says.go (c_kind l2 _ _) ⟨hb2, by omega⟩ ?_
  refine rt_kind ?_
  intro v2 h9 tk9 hv2 F9 N9
  repeat (fail_if_success (with_reducible show wpAny _ _ (call (Value.ref 941) _) _ _ _)); first | (k_unfold; (try dsimp only)) | walk1 | (dsimp only; walk1)
  refine Says.go (c_script _ _) trivial ?_
  refine rt_obj ?_
  intro x1 d1 tk1 ub1 h9 tk9 lx1 F9 N9 l8 l7
  (try simp only [AllLt, and_true] at l8)
  (try simp only [AllLt, and_true] at l7)
  (try dsimp only)
  (try k_fold)
  repeat (fail_if_success (with_reducible show wpAny _ _ (call (Value.ref 890) _) _ _ _)); first | (k_unfold; (try dsimp only)) | walk1 | (dsimp only; walk1)
  refine Says.go (N := N9) (c_stype l1 _ _ _ _ _) ⟨.head _, .tail _ (.head _), hb1, by omega⟩ ?_
  refine rt_kind ?_
  intro v3 h9 tk9 hv3 F9 N9
  repeat (fail_if_success (with_reducible show wpAny _ _ (call (Value.ref 941) _) _ _ _)); first | (k_unfold; (try dsimp only)) | walk1 | (dsimp only; walk1)
  refine Says.go (c_script _ _) trivial ?_
  refine rt_obj ?_
  intro x2 d2 tk2 ub2 h9 tk9 lx2 F9 N9 l6 l5
  (try simp only [AllLt, and_true] at l6)
  (try simp only [AllLt, and_true] at l5)
  (try dsimp only)
  (try k_fold)
  repeat (fail_if_success (with_reducible show wpAny _ _ (call (Value.ref 890) _) _ _ _)); first | (k_unfold; (try dsimp only)) | walk1 | (dsimp only; walk1)
  refine Says.go (N := N9) (c_stype l2 _ _ _ _ _) ⟨.head _, .tail _ (.head _), hb2, by omega⟩ ?_
  refine rt_kind ?_
  intro v4 h9 tk9 hv4 F9 N9
  repeat (fail_if_success (with_reducible show wpAny _ _ (call (Value.ref 997) _) _ _ _)); first | (k_unfold; (try dsimp only)) | walk1 | (dsimp only; walk1)
  with_reducible rename News _ _ _ _ => N0
  with_reducible rename Fr _ _ _ _ => F0
  refine' law_cut (v1 := v1) (v2 := v2) F0 ?g1 N0 ?g2 ?g3 ?g4 ?_
  case g1 => rfl
  case g2 => k_mem
  case g3 => k_mem
  case g4 => omega
  clear F0 N0
  intro kH kT kl ck m0 th tu ab1 ab2 hkH hkT F N lk
  have hkH4 := hkH.2
  have hkT4 := hkT.2
  have hz1 : (nI l1).length ≤ 60 := by rw [nI_length]; exact hl1
  clear hv3 hv4 lx1 lx2 l8 l7 l6 l5 hlt hlt20 hi50 hi51
  repeat (with_reducible rename (_ < (_ : Addr) ∧ _) => hh; clear hh)
  refine SaysL.go (c_lad _ kH l1 b1 _ _) ⟨four_or hkH, hb1, by omega⟩ ?_ N True.intro (AllBare.of_eq hg) (np_one lk)
  refine rg_str ?_
  intro ta sa ha tka psa Fa Na hpsa hgensa hosa
  clear F N
  have oct1 := bytes_bound hb1
  have oct2 := bytes_bound hb2
  by_cases hk1 : kindN l1 < 5
  · obtain ⟨t1, rfl⟩ := kv_str hv1 hk1
    have hr1 : (ladS kH l1 == Str.ofString "refused") = false := beq_f (by rw [ladS_def, if_pos hk1]; exact addr_ne_refused oct1 hk1)
    repeat (fail_if_success (with_reducible show wpAny _ _ (exec (PySem.Stmt.If (PySem.Expr.Compare (PySem.Expr.BinOp _ _ _ _) _ _ _) _ _ _) _) _ _ _)); first | (k_unfold; (try dsimp only)) | walk1 | (dsimp only; walk1)
    with_reducible rename Fr _ _ _ _ => Fw
    with_reducible rename News _ _ _ _ => Nw
    refine law_join (s₁ := s₁) Fw rfl rfl rfl rfl rfl Nw hosa ?_ ?_
    · intro Q' hQ'
      repeat (fail_if_success (with_reducible show wpAny _ _ (call (Value.ref 997) _) _ _ _)); first | (k_unfold; (try dsimp only)) | walk1 | (dsimp only; walk1)
      · with_reducible rename News _ _ _ _ => N
        refine SaysL.go (c_lad _ kH l2 b2 _ _) ⟨four_or hkH, hb2, by omega⟩ ?_ N hpsa hgensa (np_one lk)
        refine rg_str ?_
        intro tb sb hb tkb psb Fb Nb hpsb hgensb hosb
        clear N
        obtain ⟨c, hc1, hc2⟩ := eq_same kH hb1 hb2 hk1
        by_cases hk2 : kindN l2 < 5
        · obtain ⟨t2, rfl⟩ := kv_str hv2 hk2
          have hr2 : (ladS kH l2 == Str.ofString "refused") = false := beq_f (by rw [ladS_def, if_pos hk2]; exact addr_ne_refused oct2 hk2)
          k_steps
          with_reducible rename Fr _ _ _ _ => F9
          with_reducible rename News _ _ _ _ => N9
          exact hQ' _ _ _ _ _ rfl rfl rfl rfl F9 (news_two N9 (by repeat (first | exact List.Mem.head _ | refine List.Mem.tail _ ?_)) (by repeat (first | exact List.Mem.head _ | refine List.Mem.tail _ ?_))) hpsb hgensb (hosb.trans hosa)
        · have hk2 : kindN l2 = 5 := by have := kind_le l2; omega
          have hv := kv_none hv2 hk2
          subst hv
          have hr2 : (ladS kH l2 == Str.ofString "refused") = true := by rw [beq_iff_eq, ladS_def, if_neg (by omega)]
          k_steps
          with_reducible rename Fr _ _ _ _ => F9
          with_reducible rename News _ _ _ _ => N9
          exact hQ' _ _ _ _ _ rfl rfl rfl rfl F9 (news_two N9 (by repeat (first | exact List.Mem.head _ | refine List.Mem.tail _ ?_)) (by repeat (first | exact List.Mem.head _ | refine List.Mem.tail _ ?_))) hpsb hgensb (hosb.trans hosa)
      · by_cases hk : kindN l1 < 2
        · have hlt2 : decide (kindN l1 < 2) = true := decide_eq_true hk
          obtain ⟨c, hc1, hc2⟩ := net_same58 (kH := kH) (kT := kT) oct1 hk
          repeat (fail_if_success (with_reducible show wpAny _ _ (call (Value.ref 997) _) _ _ _)); first | (k_unfold; (try dsimp only)) | walk1 | (dsimp only; walk1)
          with_reducible rename News _ _ _ _ => N
          replace N := news_tail N
          refine SaysL.go (c_lad _ kT l1 b1 _ _) ⟨four_or hkT, hb1, by omega⟩ ?_ N hpsa hgensa (np_one lk)
          refine rg_str ?_
          intro tb sb hb tkb psb Fb Nb hpsb hgensb hosb
          clear N
          k_steps
          with_reducible rename Fr _ _ _ _ => F9
          with_reducible rename News _ _ _ _ => N9
          exact hQ' _ _ _ _ _ rfl rfl rfl rfl F9 (news_two N9 (by repeat (first | exact List.Mem.head _ | refine List.Mem.tail _ ?_)) (by repeat (first | exact List.Mem.head _ | refine List.Mem.tail _ ?_))) hpsb hgensb (hosb.trans hosa)
        · have hlt2 : decide (kindN l1 < 2) = false := decide_eq_false hk
          obtain ⟨c, hc1, hc2⟩ := net_same32 (kH := kH) (kT := kT) oct1 hk hk1
          repeat (fail_if_success (with_reducible show wpAny _ _ (call (Value.ref 997) _) _ _ _)); first | (k_unfold; (try dsimp only)) | walk1 | (dsimp only; walk1)
          with_reducible rename News _ _ _ _ => N
          replace N := news_tail N
          refine SaysL.go (c_lad _ kT l1 b1 _ _) ⟨four_or hkT, hb1, by omega⟩ ?_ N hpsa hgensa (np_one lk)
          refine rg_str ?_
          intro tb sb hb tkb psb Fb Nb hpsb hgensb hosb
          clear N
          k_steps
          with_reducible rename Fr _ _ _ _ => F9
          with_reducible rename News _ _ _ _ => N9
          exact hQ' _ _ _ _ _ rfl rfl rfl rfl F9 (news_two N9 (by repeat (first | exact List.Mem.head _ | refine List.Mem.tail _ ?_)) (by repeat (first | exact List.Mem.head _ | refine List.Mem.tail _ ?_))) hpsb hgensb (hosb.trans hosa)
    · intro sb hb tkb psb m9 m1 m2 m3 m4 Fb Nb hpsb hgensb hosb
      replace Fb := law_map Fb m1 m2 m3 m4
      clear Fw Nw m1 m2 m3 m4
      by_cases hk : kindN l1 < 2
      · have hlt2 : decide (kindN l1 < 2) = true := decide_eq_true hk
        repeat (fail_if_success (with_reducible show wpAny _ _ (getAttr (Value.ref 941) _) _ _ _)); first | (k_unfold; (try dsimp only)) | walk1 | (dsimp only; walk1)
        iterate 7 (first | (k_unfold; (try dsimp only)) | walk1 | (dsimp only; walk1))
        obtain ⟨v9, p9, ha1, ha2, ha3, ha4⟩ := addr_from (k := kH) oct1 hk
        with_reducible rename News _ _ _ _ => N
        dsimp only [List.nil_append]
        refine Says.go (N := N) (c_fromM _ _ _ v9 p9 l1) ⟨.head _, ha1, ha2, ha3, ha4⟩ ?_
        refine rt_scr ?_
        intro x9 d9 t9 ub9 b9 hc tkc hb9 Fc Nc lcx lcd
        clear N
        have hsb := same_b hb9 hb1
        k_steps
        exact bd_end hOld (by k_asm) Nc (by repeat (first | exact List.Mem.head _ | refine List.Mem.tail _ ?_)) hosb hgensb
      · have hlt2 : decide (kindN l1 < 2) = false := decide_eq_false hk
        repeat (fail_if_success (with_reducible show wpAny _ _ (call (Value.ref 190) _) _ _ _)); first | (k_unfold; (try dsimp only)) | walk1 | (dsimp only; walk1)
        obtain ⟨p9, v9, M9, ha1, ha2, ha3, ha4, ha5, ha6, ha7⟩ := addr_dec (k := kH) oct1 hk hk1
        have hf := hrp_facts kH
        with_reducible rename News _ _ _ _ => N
        replace N := news_tail N
        refine SaysG.go (c_decA _ v9 M9 (hrpN kH) p9 _ _) ⟨ha1, ha2, hf.1, hf.2.1, hf.2.2, ha3, ha4⟩ ?_ N hpsb hgensb (np_one lk)
        refine rg_pair ?_
        intro T9 D9 ws9 k9 t9 sd hd9 tkd psd hws Fd Nd hpsd hgensd hosd ldx ldd
        clear N
        have ld1 := allLt_of ldx
        have ld2 := allLt_of ldd
        (try simp only [AllLt, and_true] at ld1)
        (try simp only [AllLt, and_true] at ld2)
        clear hb2 ldx ldd
        have hpk : KBw.bInts (KBy.picked b1 (some 2) none) = nI p9 := by rw [ha5]; exact pick_from hb1 2 ha6
        have hp9 : (nI p9).length ≤ 100 := by rw [nI_length]; omega
        repeat (fail_if_success (with_reducible show wpAny _ _ (eval (PySem.Expr.IfExp _ _ _ _) _) _ _ _)); first | (k_unfold; (try dsimp only)) | walk1 | (dsimp only; walk1)
        refine join_val (v9 : Int) ?_ ?_
        · intro Q' hQ'
          by_cases hk4 : kindN l1 = 4
          · have htr : (kname (kindN l1) == Str.ofString "p2tr") = true := by rw [kname_tr hk1]; exact decide_eq_true hk4
            rw [if_pos hk4] at ha7
            subst ha7
            k_steps
            exact hQ' _ _
          · have htr : (kname (kindN l1) == Str.ofString "p2tr") = false := by rw [kname_tr hk1]; exact decide_eq_false hk4
            rw [if_neg hk4] at ha7
            subst ha7
            k_steps
            exact hQ' _ _
        intro tv9 kv9
        clear ha7
        repeat (fail_if_success (with_reducible show wpAny _ _ (call (Value.type "list") _) _ _ _)); first | (k_unfold; (try dsimp only)) | walk1 | (dsimp only; walk1)
        refine list_bytes rfl (by with_reducible assumption) (by with_reducible assumption) hpk (by omega) ?_
        intro D8 us8 c8 h8 tk8 F8 N8 l8 hI8
        replace l8 := allLt_of l8
        (try simp only [AllLt, and_true] at l8)
        repeat (fail_if_success (with_reducible show wpAny _ _ (compareOp CmpOp.Eq (Value.ref _) (Value.ref _)) _ _ _)); first | (k_unfold; (try dsimp only)) | walk1 | (dsimp only; walk1)
        with_reducible rename News _ _ _ _ => N
        refine pair_eq (ks := nI p9) (v := (v9 : Int)) (reads_tuple_at (News.get N (by repeat (first | exact List.Mem.head _ | refine List.Mem.tail _ ?_))) rfl rfl (.cons (.int _ _) (.cons (reads_newData (News.isList N (by repeat (first | exact List.Mem.head _ | refine List.Mem.tail _ ?_))) (ke_carried hws)) .nil))) (reads_tuple_at (News.get N (by repeat (first | exact List.Mem.head _ | refine List.Mem.tail _ ?_))) rfl rfl (.cons (.int _ _) (.cons (reads_newData (News.isList N (by repeat (first | exact List.Mem.head _ | refine List.Mem.tail _ ?_))) (ke_carried hI8)) .nil))) (by ke_room) ?_
        exact bd_end hOld (by k_asm) N (by repeat (first | exact List.Mem.head _ | refine List.Mem.tail _ ?_)) (hosd.trans hosb) hgensd
  · have hk1 : kindN l1 = 5 := by have := kind_le l1; omega
    have hv := kv_none hv1 hk1
    subst hv
    have hr1 : (ladS kH l1 == Str.ofString "refused") = true := by rw [beq_iff_eq, ladS_def, if_neg (by omega)]
    by_cases hk2 : kindN l2 < 5
    · obtain ⟨t2, rfl⟩ := kv_str hv2 hk2
      k_steps
      with_reducible rename News _ _ _ _ => N9
      with_reducible rename Fr _ _ _ _ => F9
      exact bd_end hOld F9 N9 (by k_mem) hosa hgensa
    · have hk2 : kindN l2 = 5 := by have := kind_le l2; omega
      have hv := kv_none hv2 hk2
      subst hv
      have hr2 : (ladS kH l2 == Str.ofString "refused") = true := by rw [beq_iff_eq, ladS_def, if_neg (by omega)]
      repeat (fail_if_success (with_reducible show wpAny _ _ (call (Value.ref 997) _) _ _ _)); first | (k_unfold; (try dsimp only)) | walk1 | (dsimp only; walk1)
      with_reducible rename News _ _ _ _ => N
      refine SaysL.go (c_lad _ kH l2 b2 _ _) ⟨four_or hkH, hb2, by omega⟩ ?_ N hpsa hgensa (np_one lk)
      refine rg_str ?_
      intro tb sb hb tkb psb Fb Nb hpsb hgensb hosb
      clear N
      k_steps
      with_reducible rename News _ _ _ _ => N9
      with_reducible rename Fr _ _ _ _ => F9
      exact bd_end hOld F9 N9 (by k_mem) (hosb.trans hosa) hgensb
  done)
end

end
end
end
end
end
end Mine
end

theorem PySem.Challenge.cw_bd0008_01_holds : PySem.Challenge.rw_bd0008_01.Holds :=
  Mine.law_holds
