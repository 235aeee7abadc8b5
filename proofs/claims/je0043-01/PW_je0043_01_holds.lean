import PyProof.Rows.All
import Wide.All
import OpenK.AllK
import Wide.FinOn
import PySem.Challenge.RW_je0043_01
open PySem PySem.W PyProof.Rows PySem.Calls PySem.Spec
set_option Elab.async false
set_option compiler.extract_closed false
set_option maxRecDepth 100000
set_option maxHeartbeats 8000000
namespace Mine
-- HdK
/-- the body of the i-th def of the text's top; of the j-th def in the i-th class -/
noncomputable def topB (i : Nat) : List Stmt := match PySem.Challenge.pw_je0043_01.main.body[i]? with
  | some (.FunctionDef _ _ b _ _ _ _ _ _ _) => b
  | _ => []
noncomputable def clsB (i j : Nat) : List Stmt := match PySem.Challenge.pw_je0043_01.main.body[i]? with
  | some (.ClassDef _ _ _ b _ _ _ _ _ _ _) => (match b[j]? with
    | some (.FunctionDef _ _ b' _ _ _ _ _ _ _) => b'
    | _ => [])
  | _ => []

noncomputable def K (P : Params) : Frag :=
  (nat_lit 2, ⟨.none, none, (.dict #[⟨PyData.keyHash P "type.__subclasses__.Exception.0", .str "type.__subclasses__.Exception.0" 212, .int 31 0⟩, ⟨PyData.keyHash P "type.__subclasses__.Exception.n", .str "type.__subclasses__.Exception.n" 213, .int 2 0⟩, ⟨PyData.keyHash P "type.__subclasses__.Exception.1", .str "type.__subclasses__.Exception.1" 250, .int 56 0⟩] 3), #[]⟩) ::
  (nat_lit 3, ⟨.type "dict", none, (.dict #[⟨PyData.keyHash P "__name__", .str "__name__" 165, .str "law_je0043_01" 1231⟩, ⟨PyData.keyHash P "__doc__", .str "__doc__" 166, .none⟩, ⟨PyData.keyHash P "__package__", .str "__package__" 167, .none⟩, ⟨PyData.keyHash P "__loader__", .str "__loader__" 168, .builtin "__main__.__loader__#opaque"⟩, ⟨PyData.keyHash P "__spec__", .str "__spec__" 169, .none⟩, ⟨PyData.keyHash P "__annotations__", .str "__annotations__" 170, .ref 6⟩, ⟨PyData.keyHash P "__builtins__", .str "__builtins__" 171, .ref 4⟩, ⟨PyData.keyHash P "__file__", .str "__file__" 173, .str "/claim/cut.py" 172⟩, ⟨PyData.keyHash P "__cached__", .str "__cached__" 174, .none⟩, ⟨PyData.keyHash P "_wall", .str "_wall" 193, .ref 21⟩, ⟨PyData.keyHash P "RepositoryError", .str "RepositoryError" 215, .ref 31⟩, ⟨PyData.keyHash P "UnsignedMetadataError", .str "UnsignedMetadataError" 231, .ref 44⟩, ⟨PyData.keyHash P "UnverifiedSignatureError", .str "UnverifiedSignatureError" 253, .ref 56⟩, ⟨PyData.keyHash P "Signature", .str "Signature" 322, .ref 101⟩, ⟨PyData.keyHash P "Key", .str "Key" 406, .ref 154⟩, ⟨PyData.keyHash P "SPECIFICATION_VERSION", .str "SPECIFICATION_VERSION" 410, .ref 159⟩, ⟨PyData.keyHash P "TOP_LEVEL_ROLE_NAMES", .str "TOP_LEVEL_ROLE_NAMES" 415, .ref 160⟩, ⟨PyData.keyHash P "Signed", .str "Signed" 505, .ref 216⟩, ⟨PyData.keyHash P "Role", .str "Role" 574, .ref 262⟩, ⟨PyData.keyHash P "VerificationResult", .str "VerificationResult" 623, .ref 299⟩, ⟨PyData.keyHash P "RootVerificationResult", .str "RootVerificationResult" 680, .ref 344⟩, ⟨PyData.keyHash P "_DelegatorMixin", .str "_DelegatorMixin" 723, .ref 372⟩, ⟨PyData.keyHash P "Root", .str "Root" 833, .ref 451⟩, ⟨PyData.keyHash P "DelegatedRole", .str "DelegatedRole" 935, .ref 514⟩, ⟨PyData.keyHash P "_hex", .str "_hex" 944, .ref 523⟩, ⟨PyData.keyHash P "SuccinctRoles", .str "SuccinctRoles" 1041, .ref 588⟩, ⟨PyData.keyHash P "Delegations", .str "Delegations" 1123, .ref 639⟩, ⟨PyData.keyHash P "Targets", .str "Targets" 1230, .ref 717⟩, ⟨PyData.keyHash P "_law_draws", .str "_law_draws" 1242, .ref 726⟩, ⟨PyData.keyHash P "_law_next", .str "_law_next" 1252, .ref 733⟩, ⟨PyData.keyHash P "_law_key", .str "_law_key" 1259, .ref 740⟩, ⟨PyData.keyHash P "_law_role", .str "_law_role" 1265, .ref 745⟩, ⟨PyData.keyHash P "_law_keys", .str "_law_keys" 1271, .ref 750⟩, ⟨PyData.keyHash P "_law_signatures", .str "_law_signatures" 1284, .ref 757⟩, ⟨PyData.keyHash P "_law_due", .str "_law_due" 1298, .ref 764⟩, ⟨PyData.keyHash P "_law_is", .str "_law_is" 1304, .ref 769⟩, ⟨PyData.keyHash P "_law_raised", .str "_law_raised" 1314, .ref 776⟩, ⟨PyData.keyHash P "_law_root", .str "_law_root" 1320, .ref 781⟩, ⟨PyData.keyHash P "_law_targets", .str "_law_targets" 1338, .ref 788⟩, ⟨PyData.keyHash P "law", .str "law" 1344, .ref 793⟩] 40), #[]⟩) ::
  (nat_lit 30, ⟨.type "dict", none, (.dict #[⟨PyData.keyHash P "__module__", .str "__module__" 203, .str "tuf.api.exceptions" 194⟩, ⟨PyData.keyHash P "__firstlineno__", .str "__firstlineno__" 207, .int 5 206⟩, ⟨PyData.keyHash P "__static_attributes__", .str "__static_attributes__" 208, .ref 29⟩, ⟨PyData.keyHash P "__weakref__", .str "__weakref__" 210, .ref 32⟩, ⟨PyData.keyHash P "__doc__", .str "__doc__" 211, .none⟩] 3), #[]⟩) ::
  (nat_lit 31, ⟨.type "type", none, (.cls ⟨"RepositoryError", [.type "Exception"], [.ref 31, .type "Exception", .type "BaseException", .type "object"], 30, "RepositoryError", true, [], [.ref 44], false, none, false⟩), #[some (.ref 22), none, some (.str "RepositoryError" 196), some (.str "RepositoryError" 204), some (.builtin "Exception.__new__"), some (.bool true)]⟩) ::
  (nat_lit 32, ⟨.type "getset_descriptor", none, (.fields #[.str "__weakref__" 209, .ref 31, .builtin "ExceptionGroup.__weakref__", .none]), #[]⟩) ::
  (nat_lit 43, ⟨.type "dict", none, (.dict #[⟨PyData.keyHash P "__module__", .str "__module__" 223, .str "tuf.api.exceptions" 194⟩, ⟨PyData.keyHash P "__firstlineno__", .str "__firstlineno__" 227, .int 7 226⟩, ⟨PyData.keyHash P "__static_attributes__", .str "__static_attributes__" 228, .ref 42⟩, ⟨PyData.keyHash P "__doc__", .str "__doc__" 229, .none⟩] 2), #[]⟩) ::
  (nat_lit 44, ⟨.type "type", none, (.cls ⟨"UnsignedMetadataError", [.ref 31], [.ref 44, .ref 31, .type "Exception", .type "BaseException", .type "object"], 43, "UnsignedMetadataError", true, [], [], false, none, false⟩), #[some (.ref 35), none, some (.str "UnsignedMetadataError" 216), some (.str "UnsignedMetadataError" 224), some (.builtin "Exception.__new__"), some (.bool true)]⟩) ::
  (nat_lit 55, ⟨.type "dict", none, (.dict #[⟨PyData.keyHash P "__module__", .str "__module__" 241, .str "tuf.api._payload" 232⟩, ⟨PyData.keyHash P "__firstlineno__", .str "__firstlineno__" 245, .int 10 244⟩, ⟨PyData.keyHash P "__static_attributes__", .str "__static_attributes__" 246, .ref 54⟩, ⟨PyData.keyHash P "__weakref__", .str "__weakref__" 248, .ref 57⟩, ⟨PyData.keyHash P "__doc__", .str "__doc__" 249, .none⟩] 3), #[]⟩) ::
  (nat_lit 56, ⟨.type "type", none, (.cls ⟨"UnverifiedSignatureError", [.type "Exception"], [.ref 56, .type "Exception", .type "BaseException", .type "object"], 55, "UnverifiedSignatureError", true, [], [], false, none, false⟩), #[some (.ref 47), none, some (.str "UnverifiedSignatureError" 234), some (.str "UnverifiedSignatureError" 242), some (.builtin "Exception.__new__"), some (.bool true)]⟩) ::
  (nat_lit 57, ⟨.type "getset_descriptor", none, (.fields #[.str "__weakref__" 247, .ref 56, .builtin "ExceptionGroup.__weakref__", .none]), #[]⟩) ::
  (nat_lit 67, ⟨.type "tuple", none, (.seq #[.none] 0), #[]⟩) ::
  (nat_lit 73, ⟨.type "code", none, (.fields #[.str "__init__" 266, .str "Signature.__init__" 267, .str "/claim/cut.py" 268, .int 14 0, .int 4 0, .int 0 0, .int 0 0, .int 3 0, .ref 68, .bool true, .int 181 0, .ref 69, .none, .ref 70, .ref 71, .ref 72, .int 273 0, .int 14 0, .str "/claim/cut.py" 274]), #[]⟩) ::
  (nat_lit 74, ⟨.type "function", none, (.func (fnOf "__init__" "Signature.__init__" ⟨[], [⟨"self", none, ⟨14, 17, 14, 21⟩⟩, ⟨"keyid", none, ⟨14, 23, 14, 28⟩⟩, ⟨"signature", none, ⟨14, 30, 14, 39⟩⟩, ⟨"unrecognized_fields", none, ⟨14, 41, 14, 60⟩⟩], none, [], [], none, [.Constant (.none) 0 ⟨14, 61, 14, 65⟩]⟩ (clsB 6 0) ⟨.function, (("self", .local) :: ("keyid", .local) :: ("signature", .local) :: ("unrecognized_fields", .local) :: []), false, false, []⟩ (.ref 67) (.none) (.none) (.str "tuf.api._payload" 232) none (.ref 73) (.none))), #[]⟩) ::
  (nat_lit 100, ⟨.type "dict", none, (.dict #[⟨PyData.keyHash P "__module__", .str "__module__" 261, .str "tuf.api._payload" 232⟩, ⟨PyData.keyHash P "__firstlineno__", .str "__firstlineno__" 265, .int 12 264⟩, ⟨PyData.keyHash P "__init__", .str "__init__" 275, .ref 74⟩, ⟨PyData.keyHash P "__eq__", .str "__eq__" 283, .ref 81⟩, ⟨PyData.keyHash P "from_dict", .str "from_dict" 303, .ref 90⟩, ⟨PyData.keyHash P "to_dict", .str "to_dict" 310, .ref 98⟩, ⟨PyData.keyHash P "__static_attributes__", .str "__static_attributes__" 314, .ref 99⟩, ⟨PyData.keyHash P "__dict__", .str "__dict__" 316, .ref 102⟩, ⟨PyData.keyHash P "__weakref__", .str "__weakref__" 318, .ref 103⟩, ⟨PyData.keyHash P "__doc__", .str "__doc__" 319, .none⟩, ⟨PyData.keyHash P "__hash__", .str "__hash__" 320, .none⟩] 5), #[]⟩) ::
  (nat_lit 101, ⟨.type "type", none, (.cls ⟨"Signature", [.type "object"], [.ref 101, .type "object"], 100, "Signature", true, [], [], false, none, false⟩), #[none, none, some (.str "Signature" 254), some (.str "Signature" 262), some (.builtin "object.__new__"), some (.bool true)]⟩) ::
  (nat_lit 102, ⟨.type "getset_descriptor", none, (.fields #[.str "__dict__" 315, .ref 101, .builtin "function.__dict__", .builtin "function.__dict__#set"]), #[]⟩) ::
  (nat_lit 103, ⟨.type "getset_descriptor", none, (.fields #[.str "__weakref__" 317, .ref 101, .builtin "ExceptionGroup.__weakref__", .none]), #[]⟩) ::
  (nat_lit 113, ⟨.type "tuple", none, (.seq #[.none] 0), #[]⟩) ::
  (nat_lit 119, ⟨.type "code", none, (.fields #[.str "__init__" 335, .str "Key.__init__" 336, .str "/claim/cut.py" 337, .int 34 0, .int 6 0, .int 0 0, .int 0 0, .int 3 0, .ref 114, .bool true, .int 181 0, .ref 115, .none, .ref 116, .ref 117, .ref 118, .int 344 0, .int 34 0, .str "/claim/cut.py" 345]), #[]⟩) ::
  (nat_lit 120, ⟨.type "function", none, (.func (fnOf "__init__" "Key.__init__" ⟨[], [⟨"self", none, ⟨34, 17, 34, 21⟩⟩, ⟨"keyid", none, ⟨34, 23, 34, 28⟩⟩, ⟨"keytype", none, ⟨34, 30, 34, 37⟩⟩, ⟨"scheme", none, ⟨34, 39, 34, 45⟩⟩, ⟨"keyval", none, ⟨34, 47, 34, 53⟩⟩, ⟨"unrecognized_fields", none, ⟨34, 55, 34, 74⟩⟩], none, [], [], none, [.Constant (.none) 0 ⟨34, 75, 34, 79⟩]⟩ (clsB 7 0) ⟨.function, (("self", .local) :: ("keyid", .local) :: ("keytype", .local) :: ("scheme", .local) :: ("keyval", .local) :: ("unrecognized_fields", .local) :: []), false, false, []⟩ (.ref 113) (.none) (.none) (.str "tuf.api._payload" 232) none (.ref 119) (.none))), #[]⟩) ::
  (nat_lit 126, ⟨.type "code", none, (.fields #[.str "__eq__" 347, .str "Key.__eq__" 348, .str "/claim/cut.py" 349, .int 43 0, .int 2 0, .int 0 0, .int 0 0, .int 3 0, .ref 121, .bool true, .int 181 0, .ref 122, .none, .ref 123, .ref 124, .ref 125, .int 352 0, .int 43 0, .str "/claim/cut.py" 353]), #[]⟩) ::
  (nat_lit 127, ⟨.type "function", none, (.func (fnOf "__eq__" "Key.__eq__" ⟨[], [⟨"self", none, ⟨43, 15, 43, 19⟩⟩, ⟨"other", none, ⟨43, 21, 43, 26⟩⟩], none, [], [], none, []⟩ (clsB 7 1) ⟨.function, (("self", .local) :: ("other", .local) :: ("isinstance", .globalImplicit) :: ("Key", .globalImplicit) :: []), false, false, []⟩ (.none) (.none) (.none) (.str "tuf.api._payload" 232) none (.ref 126) (.none))), #[]⟩) ::
  (nat_lit 150, ⟨.type "code", none, (.fields #[.str "verify_signature" 383, .str "Key.verify_signature" 384, .str "/claim/cut.py" 385, .int 55 0, .int 3 0, .int 0 0, .int 0 0, .int 3 0, .ref 145, .bool true, .int 181 0, .ref 146, .none, .ref 147, .ref 148, .ref 149, .int 390 0, .int 55 0, .str "/claim/cut.py" 391]), #[]⟩) ::
  (nat_lit 151, ⟨.type "function", none, (.func (fnOf "verify_signature" "Key.verify_signature" ⟨[], [⟨"self", none, ⟨55, 25, 55, 29⟩⟩, ⟨"signature", none, ⟨55, 31, 55, 40⟩⟩, ⟨"data", none, ⟨55, 42, 55, 46⟩⟩], none, [], [], none, []⟩ (clsB 7 4) ⟨.function, (("self", .local) :: ("signature", .local) :: ("data", .local) :: ("wanted", .local) :: ("UnverifiedSignatureError", .globalImplicit) :: []), false, false, []⟩ (.none) (.none) (.none) (.str "tuf.api._payload" 232) none (.ref 150) (.none))), #[]⟩) ::
  (nat_lit 153, ⟨.type "dict", none, (.dict #[⟨PyData.keyHash P "__module__", .str "__module__" 330, .str "tuf.api._payload" 232⟩, ⟨PyData.keyHash P "__firstlineno__", .str "__firstlineno__" 334, .int 32 333⟩, ⟨PyData.keyHash P "__init__", .str "__init__" 346, .ref 120⟩, ⟨PyData.keyHash P "__eq__", .str "__eq__" 354, .ref 127⟩, ⟨PyData.keyHash P "from_dict", .str "from_dict" 375, .ref 136⟩, ⟨PyData.keyHash P "to_dict", .str "to_dict" 382, .ref 144⟩, ⟨PyData.keyHash P "verify_signature", .str "verify_signature" 392, .ref 151⟩, ⟨PyData.keyHash P "__static_attributes__", .str "__static_attributes__" 398, .ref 152⟩, ⟨PyData.keyHash P "__dict__", .str "__dict__" 400, .ref 155⟩, ⟨PyData.keyHash P "__weakref__", .str "__weakref__" 402, .ref 156⟩, ⟨PyData.keyHash P "__doc__", .str "__doc__" 403, .none⟩, ⟨PyData.keyHash P "__hash__", .str "__hash__" 404, .none⟩] 5), #[]⟩) ::
  (nat_lit 154, ⟨.type "type", none, (.cls ⟨"Key", [.type "object"], [.ref 154, .type "object"], 153, "Key", true, [], [], false, none, false⟩), #[none, none, some (.str "Key" 323), some (.str "Key" 331), some (.builtin "object.__new__"), some (.bool true)]⟩) ::
  (nat_lit 155, ⟨.type "getset_descriptor", none, (.fields #[.str "__dict__" 399, .ref 154, .builtin "function.__dict__", .builtin "function.__dict__#set"]), #[]⟩) ::
  (nat_lit 156, ⟨.type "getset_descriptor", none, (.fields #[.str "__weakref__" 401, .ref 154, .builtin "ExceptionGroup.__weakref__", .none]), #[]⟩) ::
  (nat_lit 159, ⟨.type "list", none, (.seq #[.str "1" 407, .str "0" 408, .str "31" 409] 0), #[]⟩) ::
  (nat_lit 160, ⟨.type "tuple", none, (.seq #[.str "root" 411, .str "timestamp" 412, .str "snapshot" 413, .str "targets" 414] 0), #[]⟩) ::
  (nat_lit 181, ⟨.type "code", none, (.fields #[.str "__init__" 438, .str "Signed.__init__" 439, .str "/claim/cut.py" 440, .int 68 0, .int 5 0, .int 0 0, .int 0 0, .int 3 0, .ref 176, .bool true, .int 181 0, .ref 177, .none, .ref 178, .ref 179, .ref 180, .int 447 0, .int 68 0, .str "/claim/cut.py" 448]), #[]⟩) ::
  (nat_lit 182, ⟨.type "function", none, (.func (fnOf "__init__" "Signed.__init__" ⟨[], [⟨"self", none, ⟨68, 17, 68, 21⟩⟩, ⟨"version", none, ⟨68, 23, 68, 30⟩⟩, ⟨"spec_version", none, ⟨68, 32, 68, 44⟩⟩, ⟨"expires", none, ⟨68, 46, 68, 53⟩⟩, ⟨"unrecognized_fields", none, ⟨68, 55, 68, 74⟩⟩], none, [], [], none, []⟩ (clsB 10 2) ⟨.function, (("self", .local) :: ("version", .local) :: ("spec_version", .local) :: ("expires", .local) :: ("unrecognized_fields", .local) :: ("spec_list", .local) :: ("SPECIFICATION_VERSION", .globalImplicit) :: ("len", .globalImplicit) :: ("all", .globalImplicit) :: ("ValueError", .globalImplicit) :: []), false, false, []⟩ (.none) (.none) (.none) (.str "tuf.api._payload" 232) none (.ref 181) (.none))), #[]⟩) ::
  (nat_lit 215, ⟨.type "dict", none, (.dict #[⟨PyData.keyHash P "__module__", .str "__module__" 423, .str "tuf.api._payload" 232⟩, ⟨PyData.keyHash P "__firstlineno__", .str "__firstlineno__" 427, .int 61 426⟩, ⟨PyData.keyHash P "type", .str "type" 429, .str "signed" 428⟩, ⟨PyData.keyHash P "_type", .str "_type" 437, .ref 175⟩, ⟨PyData.keyHash P "__init__", .str "__init__" 449, .ref 182⟩, ⟨PyData.keyHash P "__eq__", .str "__eq__" 457, .ref 189⟩, ⟨PyData.keyHash P "_common_fields_from_dict", .str "_common_fields_from_dict" 477, .ref 198⟩, ⟨PyData.keyHash P "_common_fields_to_dict", .str "_common_fields_to_dict" 484, .ref 206⟩, ⟨PyData.keyHash P "is_expired", .str "is_expired" 492, .ref 213⟩, ⟨PyData.keyHash P "__static_attributes__", .str "__static_attributes__" 497, .ref 214⟩, ⟨PyData.keyHash P "__dict__", .str "__dict__" 499, .ref 217⟩, ⟨PyData.keyHash P "__weakref__", .str "__weakref__" 501, .ref 218⟩, ⟨PyData.keyHash P "__doc__", .str "__doc__" 502, .none⟩, ⟨PyData.keyHash P "__hash__", .str "__hash__" 503, .none⟩] 5), #[]⟩) ::
  (nat_lit 216, ⟨.type "type", none, (.cls ⟨"Signed", [.type "object"], [.ref 216, .type "object"], 215, "Signed", true, [], [.ref 372], false, none, false⟩), #[none, none, some (.str "Signed" 416), some (.str "Signed" 424), some (.builtin "object.__new__"), some (.bool true)]⟩) ::
  (nat_lit 217, ⟨.type "getset_descriptor", none, (.fields #[.str "__dict__" 498, .ref 216, .builtin "function.__dict__", .builtin "function.__dict__#set"]), #[]⟩) ::
  (nat_lit 218, ⟨.type "getset_descriptor", none, (.fields #[.str "__weakref__" 500, .ref 216, .builtin "ExceptionGroup.__weakref__", .none]), #[]⟩) ::
  (nat_lit 228, ⟨.type "tuple", none, (.seq #[.none] 0), #[]⟩) ::
  (nat_lit 234, ⟨.type "code", none, (.fields #[.str "__init__" 518, .str "Role.__init__" 519, .str "/claim/cut.py" 520, .int 103 0, .int 4 0, .int 0 0, .int 0 0, .int 3 0, .ref 229, .bool true, .int 181 0, .ref 230, .none, .ref 231, .ref 232, .ref 233, .int 525 0, .int 103 0, .str "/claim/cut.py" 526]), #[]⟩) ::
  (nat_lit 235, ⟨.type "function", none, (.func (fnOf "__init__" "Role.__init__" ⟨[], [⟨"self", none, ⟨103, 17, 103, 21⟩⟩, ⟨"keyids", none, ⟨103, 23, 103, 29⟩⟩, ⟨"threshold", none, ⟨103, 31, 103, 40⟩⟩, ⟨"unrecognized_fields", none, ⟨103, 42, 103, 61⟩⟩], none, [], [], none, [.Constant (.none) 0 ⟨103, 62, 103, 66⟩]⟩ (clsB 11 0) ⟨.function, (("self", .local) :: ("keyids", .local) :: ("threshold", .local) :: ("unrecognized_fields", .local) :: ("len", .globalImplicit) :: ("set", .globalImplicit) :: ("ValueError", .globalImplicit) :: []), false, false, []⟩ (.ref 228) (.none) (.none) (.str "tuf.api._payload" 232) none (.ref 234) (.none))), #[]⟩) ::
  (nat_lit 261, ⟨.type "dict", none, (.dict #[⟨PyData.keyHash P "__module__", .str "__module__" 513, .str "tuf.api._payload" 232⟩, ⟨PyData.keyHash P "__firstlineno__", .str "__firstlineno__" 517, .int 101 516⟩, ⟨PyData.keyHash P "__init__", .str "__init__" 527, .ref 235⟩, ⟨PyData.keyHash P "__eq__", .str "__eq__" 535, .ref 242⟩, ⟨PyData.keyHash P "from_dict", .str "from_dict" 555, .ref 251⟩, ⟨PyData.keyHash P "to_dict", .str "to_dict" 562, .ref 259⟩, ⟨PyData.keyHash P "__static_attributes__", .str "__static_attributes__" 566, .ref 260⟩, ⟨PyData.keyHash P "__dict__", .str "__dict__" 568, .ref 263⟩, ⟨PyData.keyHash P "__weakref__", .str "__weakref__" 570, .ref 264⟩, ⟨PyData.keyHash P "__doc__", .str "__doc__" 571, .none⟩, ⟨PyData.keyHash P "__hash__", .str "__hash__" 572, .none⟩] 5), #[]⟩) ::
  (nat_lit 262, ⟨.type "type", none, (.cls ⟨"Role", [.type "object"], [.ref 262, .type "object"], 261, "Role", true, [], [.ref 514, .ref 588], false, none, false⟩), #[none, none, some (.str "Role" 506), some (.str "Role" 514), some (.builtin "object.__new__"), some (.bool true)]⟩) ::
  (nat_lit 263, ⟨.type "getset_descriptor", none, (.fields #[.str "__dict__" 567, .ref 262, .builtin "function.__dict__", .builtin "function.__dict__#set"]), #[]⟩) ::
  (nat_lit 264, ⟨.type "getset_descriptor", none, (.fields #[.str "__weakref__" 569, .ref 262, .builtin "ExceptionGroup.__weakref__", .none]), #[]⟩) ::
  (nat_lit 279, ⟨.type "code", none, (.fields #[.str "__init__" 587, .str "VerificationResult.__init__" 588, .str "/claim/cut.py" 589, .int 127 0, .int 4 0, .int 0 0, .int 0 0, .int 3 0, .ref 274, .bool true, .int 181 0, .ref 275, .none, .ref 276, .ref 277, .ref 278, .int 594 0, .int 127 0, .str "/claim/cut.py" 595]), #[]⟩) ::
  (nat_lit 280, ⟨.type "function", none, (.func (fnOf "__init__" "VerificationResult.__init__" ⟨[], [⟨"self", none, ⟨127, 17, 127, 21⟩⟩, ⟨"threshold", none, ⟨127, 23, 127, 32⟩⟩, ⟨"signed", none, ⟨127, 34, 127, 40⟩⟩, ⟨"unsigned", none, ⟨127, 42, 127, 50⟩⟩], none, [], [], none, []⟩ (clsB 12 0) ⟨.function, (("self", .local) :: ("threshold", .local) :: ("signed", .local) :: ("unsigned", .local) :: []), false, false, []⟩ (.none) (.none) (.none) (.str "tuf.api._payload" 232) none (.ref 279) (.none))), #[]⟩) ::
  (nat_lit 286, ⟨.type "code", none, (.fields #[.str "verified" 597, .str "VerificationResult.verified" 598, .str "/claim/cut.py" 599, .int 132 0, .int 1 0, .int 0 0, .int 0 0, .int 3 0, .ref 281, .bool true, .int 181 0, .ref 282, .none, .ref 283, .ref 284, .ref 285, .int 601 0, .int 132 0, .str "/claim/cut.py" 602]), #[]⟩) ::
  (nat_lit 287, ⟨.type "function", none, (.func (fnOf "verified" "VerificationResult.verified" ⟨[], [⟨"self", none, ⟨133, 17, 133, 21⟩⟩], none, [], [], none, []⟩ (clsB 12 1) ⟨.function, (("self", .local) :: ("len", .globalImplicit) :: []), false, false, []⟩ (.none) (.none) (.none) (.str "tuf.api._payload" 232) none (.ref 286) (.none))), #[]⟩) ::
  (nat_lit 288, ⟨.type "property", none, (.fields #[.ref 287, .none, .none, .none, .str "verified" 604, .bool false]), #[]⟩) ::
  (nat_lit 294, ⟨.type "code", none, (.fields #[.str "missing" 605, .str "VerificationResult.missing" 606, .str "/claim/cut.py" 607, .int 136 0, .int 1 0, .int 0 0, .int 0 0, .int 3 0, .ref 289, .bool true, .int 181 0, .ref 290, .none, .ref 291, .ref 292, .ref 293, .int 609 0, .int 136 0, .str "/claim/cut.py" 610]), #[]⟩) ::
  (nat_lit 295, ⟨.type "function", none, (.func (fnOf "missing" "VerificationResult.missing" ⟨[], [⟨"self", none, ⟨137, 16, 137, 20⟩⟩], none, [], [], none, []⟩ (clsB 12 2) ⟨.function, (("self", .local) :: ("max", .globalImplicit) :: ("len", .globalImplicit) :: []), false, false, []⟩ (.none) (.none) (.none) (.str "tuf.api._payload" 232) none (.ref 294) (.none))), #[]⟩) ::
  (nat_lit 296, ⟨.type "property", none, (.fields #[.ref 295, .none, .none, .none, .str "missing" 612, .bool false]), #[]⟩) ::
  (nat_lit 298, ⟨.type "dict", none, (.dict #[⟨PyData.keyHash P "__module__", .str "__module__" 582, .str "tuf.api._payload" 232⟩, ⟨PyData.keyHash P "__firstlineno__", .str "__firstlineno__" 586, .int 125 585⟩, ⟨PyData.keyHash P "__init__", .str "__init__" 596, .ref 280⟩, ⟨PyData.keyHash P "verified", .str "verified" 604, .ref 288⟩, ⟨PyData.keyHash P "missing", .str "missing" 612, .ref 296⟩, ⟨PyData.keyHash P "__static_attributes__", .str "__static_attributes__" 616, .ref 297⟩, ⟨PyData.keyHash P "__dict__", .str "__dict__" 618, .ref 300⟩, ⟨PyData.keyHash P "__weakref__", .str "__weakref__" 620, .ref 301⟩, ⟨PyData.keyHash P "__doc__", .str "__doc__" 621, .none⟩] 4), #[]⟩) ::
  (nat_lit 299, ⟨.type "type", none, (.cls ⟨"VerificationResult", [.type "object"], [.ref 299, .type "object"], 298, "VerificationResult", true, [], [], false, none, false⟩), #[none, none, some (.str "VerificationResult" 575), some (.str "VerificationResult" 583), some (.builtin "object.__new__"), some (.bool true)]⟩) ::
  (nat_lit 300, ⟨.type "getset_descriptor", none, (.fields #[.str "__dict__" 617, .ref 299, .builtin "function.__dict__", .builtin "function.__dict__#set"]), #[]⟩) ::
  (nat_lit 301, ⟨.type "getset_descriptor", none, (.fields #[.str "__weakref__" 619, .ref 299, .builtin "ExceptionGroup.__weakref__", .none]), #[]⟩) ::
  (nat_lit 316, ⟨.type "code", none, (.fields #[.str "__init__" 636, .str "RootVerificationResult.__init__" 637, .str "/claim/cut.py" 638, .int 141 0, .int 3 0, .int 0 0, .int 0 0, .int 3 0, .ref 311, .bool true, .int 181 0, .ref 312, .none, .ref 313, .ref 314, .ref 315, .int 642 0, .int 141 0, .str "/claim/cut.py" 643]), #[]⟩) ::
  (nat_lit 317, ⟨.type "function", none, (.func (fnOf "__init__" "RootVerificationResult.__init__" ⟨[], [⟨"self", none, ⟨141, 17, 141, 21⟩⟩, ⟨"first", none, ⟨141, 23, 141, 28⟩⟩, ⟨"second", none, ⟨141, 30, 141, 36⟩⟩], none, [], [], none, []⟩ (clsB 13 0) ⟨.function, (("self", .local) :: ("first", .local) :: ("second", .local) :: []), false, false, []⟩ (.none) (.none) (.none) (.str "tuf.api._payload" 232) none (.ref 316) (.none))), #[]⟩) ::
  (nat_lit 323, ⟨.type "code", none, (.fields #[.str "verified" 645, .str "RootVerificationResult.verified" 646, .str "/claim/cut.py" 647, .int 145 0, .int 1 0, .int 0 0, .int 0 0, .int 3 0, .ref 318, .bool true, .int 181 0, .ref 319, .none, .ref 320, .ref 321, .ref 322, .int 649 0, .int 145 0, .str "/claim/cut.py" 650]), #[]⟩) ::
  (nat_lit 324, ⟨.type "function", none, (.func (fnOf "verified" "RootVerificationResult.verified" ⟨[], [⟨"self", none, ⟨146, 17, 146, 21⟩⟩], none, [], [], none, []⟩ (clsB 13 1) ⟨.function, (("self", .local) :: []), false, false, []⟩ (.none) (.none) (.none) (.str "tuf.api._payload" 232) none (.ref 323) (.none))), #[]⟩) ::
  (nat_lit 325, ⟨.type "property", none, (.fields #[.ref 324, .none, .none, .none, .str "verified" 652, .bool false]), #[]⟩) ::
  (nat_lit 331, ⟨.type "code", none, (.fields #[.str "signed" 653, .str "RootVerificationResult.signed" 654, .str "/claim/cut.py" 655, .int 149 0, .int 1 0, .int 0 0, .int 0 0, .int 3 0, .ref 326, .bool true, .int 181 0, .ref 327, .none, .ref 328, .ref 329, .ref 330, .int 658 0, .int 149 0, .str "/claim/cut.py" 659]), #[]⟩) ::
  (nat_lit 332, ⟨.type "function", none, (.func (fnOf "signed" "RootVerificationResult.signed" ⟨[], [⟨"self", none, ⟨150, 15, 150, 19⟩⟩], none, [], [], none, []⟩ (clsB 13 2) ⟨.function, (("self", .local) :: ("res_dict", .local) :: ("dict", .globalImplicit) :: []), false, false, []⟩ (.none) (.none) (.none) (.str "tuf.api._payload" 232) none (.ref 331) (.none))), #[]⟩) ::
  (nat_lit 333, ⟨.type "property", none, (.fields #[.ref 332, .none, .none, .none, .str "signed" 661, .bool false]), #[]⟩) ::
  (nat_lit 339, ⟨.type "code", none, (.fields #[.str "unsigned" 662, .str "RootVerificationResult.unsigned" 663, .str "/claim/cut.py" 664, .int 155 0, .int 1 0, .int 0 0, .int 0 0, .int 3 0, .ref 334, .bool true, .int 181 0, .ref 335, .none, .ref 336, .ref 337, .ref 338, .int 667 0, .int 155 0, .str "/claim/cut.py" 668]), #[]⟩) ::
  (nat_lit 340, ⟨.type "function", none, (.func (fnOf "unsigned" "RootVerificationResult.unsigned" ⟨[], [⟨"self", none, ⟨156, 17, 156, 21⟩⟩], none, [], [], none, []⟩ (clsB 13 3) ⟨.function, (("self", .local) :: ("res_dict", .local) :: ("dict", .globalImplicit) :: []), false, false, []⟩ (.none) (.none) (.none) (.str "tuf.api._payload" 232) none (.ref 339) (.none))), #[]⟩) ::
  (nat_lit 341, ⟨.type "property", none, (.fields #[.ref 340, .none, .none, .none, .str "unsigned" 670, .bool false]), #[]⟩) ::
  (nat_lit 343, ⟨.type "dict", none, (.dict #[⟨PyData.keyHash P "__module__", .str "__module__" 631, .str "tuf.api._payload" 232⟩, ⟨PyData.keyHash P "__firstlineno__", .str "__firstlineno__" 635, .int 139 634⟩, ⟨PyData.keyHash P "__init__", .str "__init__" 644, .ref 317⟩, ⟨PyData.keyHash P "verified", .str "verified" 652, .ref 325⟩, ⟨PyData.keyHash P "signed", .str "signed" 661, .ref 333⟩, ⟨PyData.keyHash P "unsigned", .str "unsigned" 670, .ref 341⟩, ⟨PyData.keyHash P "__static_attributes__", .str "__static_attributes__" 673, .ref 342⟩, ⟨PyData.keyHash P "__dict__", .str "__dict__" 675, .ref 345⟩, ⟨PyData.keyHash P "__weakref__", .str "__weakref__" 677, .ref 346⟩, ⟨PyData.keyHash P "__doc__", .str "__doc__" 678, .none⟩] 4), #[]⟩) ::
  (nat_lit 344, ⟨.type "type", none, (.cls ⟨"RootVerificationResult", [.type "object"], [.ref 344, .type "object"], 343, "RootVerificationResult", true, [], [], false, none, false⟩), #[none, none, some (.str "RootVerificationResult" 624), some (.str "RootVerificationResult" 632), some (.builtin "object.__new__"), some (.bool true)]⟩) ::
  (nat_lit 345, ⟨.type "getset_descriptor", none, (.fields #[.str "__dict__" 674, .ref 344, .builtin "function.__dict__", .builtin "function.__dict__#set"]), #[]⟩) ::
  (nat_lit 346, ⟨.type "getset_descriptor", none, (.fields #[.str "__weakref__" 676, .ref 344, .builtin "ExceptionGroup.__weakref__", .none]), #[]⟩) ::
  (nat_lit 361, ⟨.type "code", none, (.fields #[.str "get_verification_result" 693, .str "_DelegatorMixin.get_verification_result" 694, .str "/claim/cut.py" 695, .int 162 0, .int 4 0, .int 0 0, .int 0 0, .int 3 0, .ref 356, .bool true, .int 181 0, .ref 357, .none, .ref 358, .ref 359, .ref 360, .int 706 0, .int 162 0, .str "/claim/cut.py" 707]), #[]⟩) ::
  (nat_lit 362, ⟨.type "function", none, (.func (fnOf "get_verification_result" "_DelegatorMixin.get_verification_result" ⟨[], [⟨"self", none, ⟨162, 32, 162, 36⟩⟩, ⟨"delegated_role", none, ⟨162, 38, 162, 52⟩⟩, ⟨"payload", none, ⟨162, 54, 162, 61⟩⟩, ⟨"signatures", none, ⟨162, 63, 162, 73⟩⟩], none, [], [], none, []⟩ (clsB 14 0) ⟨.function, (("self", .local) :: ("delegated_role", .local) :: ("payload", .local) :: ("signatures", .local) :: ("role", .local) :: ("signed", .local) :: ("unsigned", .local) :: ("keyid", .local) :: ("key", .local) :: ("sig", .local) :: ("ValueError", .globalImplicit) :: ("UnverifiedSignatureError", .globalImplicit) :: ("VerificationResult", .globalImplicit) :: []), false, false, []⟩ (.none) (.none) (.none) (.str "tuf.api._payload" 232) none (.ref 361) (.none))), #[]⟩) ::
  (nat_lit 368, ⟨.type "code", none, (.fields #[.str "verify_delegate" 709, .str "_DelegatorMixin.verify_delegate" 710, .str "/claim/cut.py" 711, .int 182 0, .int 4 0, .int 0 0, .int 0 0, .int 3 0, .ref 363, .bool true, .int 181 0, .ref 364, .none, .ref 365, .ref 366, .ref 367, .int 717 0, .int 182 0, .str "/claim/cut.py" 718]), #[]⟩) ::
  (nat_lit 369, ⟨.type "function", none, (.func (fnOf "verify_delegate" "_DelegatorMixin.verify_delegate" ⟨[], [⟨"self", none, ⟨182, 24, 182, 28⟩⟩, ⟨"delegated_role", none, ⟨182, 30, 182, 44⟩⟩, ⟨"payload", none, ⟨182, 46, 182, 53⟩⟩, ⟨"signatures", none, ⟨182, 55, 182, 65⟩⟩], none, [], [], none, []⟩ (clsB 14 1) ⟨.function, (("self", .local) :: ("delegated_role", .local) :: ("payload", .local) :: ("signatures", .local) :: ("result", .local) :: ("UnsignedMetadataError", .globalImplicit) :: ("len", .globalImplicit) :: []), false, false, []⟩ (.none) (.none) (.none) (.str "tuf.api._payload" 232) none (.ref 368) (.none))), #[]⟩) ::
  (nat_lit 371, ⟨.type "dict", none, (.dict #[⟨PyData.keyHash P "__module__", .str "__module__" 688, .str "tuf.api._payload" 232⟩, ⟨PyData.keyHash P "__firstlineno__", .str "__firstlineno__" 692, .int 160 691⟩, ⟨PyData.keyHash P "get_verification_result", .str "get_verification_result" 708, .ref 362⟩, ⟨PyData.keyHash P "verify_delegate", .str "verify_delegate" 719, .ref 369⟩, ⟨PyData.keyHash P "__static_attributes__", .str "__static_attributes__" 720, .ref 370⟩, ⟨PyData.keyHash P "__doc__", .str "__doc__" 721, .none⟩] 2), #[]⟩) ::
  (nat_lit 372, ⟨.type "type", none, (.cls ⟨"_DelegatorMixin", [.ref 216], [.ref 372, .ref 216, .type "object"], 371, "_DelegatorMixin", true, [], [.ref 451, .ref 717], false, none, false⟩), #[some (.ref 349), none, some (.str "_DelegatorMixin" 681), some (.str "_DelegatorMixin" 689), some (.builtin "object.__new__"), some (.bool true)]⟩) ::
  (nat_lit 378, ⟨.type "cell", none, (.cell (some (.ref 451))), #[]⟩) ::
  (nat_lit 383, ⟨.type "tuple", none, (.seq #[.none, .none, .none, .none, .none, .bool true, .none] 0), #[]⟩) ::
  (nat_lit 388, ⟨.type "code", none, (.fields #[.str "__init__" 738, .str "Root.__init__" 739, .str "/claim/cut.py" 740, .int 189 0, .int 8 0, .int 0 0, .int 0 0, .int 3 0, .ref 385, .bool true, .int 181 0, .ref 386, .none, .none, .none, .ref 387, .int 742 0, .int 189 0, .str "/claim/cut.py" 743]), #[]⟩) ::
  (nat_lit 389, ⟨.type "function", none, (.func { fnOf "__init__" "Root.__init__" ⟨[], [⟨"self", none, ⟨189, 17, 189, 21⟩⟩, ⟨"version", none, ⟨189, 23, 189, 30⟩⟩, ⟨"spec_version", none, ⟨189, 37, 189, 49⟩⟩, ⟨"expires", none, ⟨189, 56, 189, 63⟩⟩, ⟨"keys", none, ⟨189, 70, 189, 74⟩⟩, ⟨"roles", none, ⟨189, 81, 189, 86⟩⟩, ⟨"consistent_snapshot", none, ⟨189, 93, 189, 112⟩⟩, ⟨"unrecognized_fields", none, ⟨189, 119, 189, 138⟩⟩], none, [], [], none, [.Constant (.none) 0 ⟨189, 31, 189, 35⟩, .Constant (.none) 0 ⟨189, 50, 189, 54⟩, .Constant (.none) 0 ⟨189, 64, 189, 68⟩, .Constant (.none) 0 ⟨189, 75, 189, 79⟩, .Constant (.none) 0 ⟨189, 87, 189, 91⟩, .Constant (.bool true) 0 ⟨189, 113, 189, 117⟩, .Constant (.none) 0 ⟨189, 139, 189, 143⟩]⟩ (clsB 15 1) ⟨.function, (("self", .local) :: ("version", .local) :: ("spec_version", .local) :: ("expires", .local) :: ("keys", .local) :: ("roles", .local) :: ("consistent_snapshot", .local) :: ("unrecognized_fields", .local) :: ("__class__", .free) :: ("super", .globalImplicit) :: ("TOP_LEVEL_ROLE_NAMES", .globalImplicit) :: ("sorted", .globalImplicit) :: ("ValueError", .globalImplicit) :: []), false, false, (("fast", .str "self") :: ("fast", .str "version") :: ("fast", .str "spec_version") :: ("fast", .str "expires") :: ("fast", .str "keys") :: ("fast", .str "roles") :: ("fast", .str "consistent_snapshot") :: ("fast", .str "unrecognized_fields") :: ("fast", .str "r") :: ("fast", .str "__class__") :: [])⟩ (.ref 383) (.none) (.none) (.str "tuf.api._payload" 232) none (.ref 388) (.ref 384) with closure := [("__class__", 378)] }), #[]⟩) ::
  (nat_lit 433, ⟨.type "code", none, (.fields #[.str "get_delegated_role" 798, .str "Root.get_delegated_role" 799, .str "/claim/cut.py" 800, .int 217 0, .int 2 0, .int 0 0, .int 0 0, .int 3 0, .ref 428, .bool true, .int 181 0, .ref 429, .none, .ref 430, .ref 431, .ref 432, .int 803 0, .int 217 0, .str "/claim/cut.py" 804]), #[]⟩) ::
  (nat_lit 434, ⟨.type "function", none, (.func (fnOf "get_delegated_role" "Root.get_delegated_role" ⟨[], [⟨"self", none, ⟨217, 27, 217, 31⟩⟩, ⟨"delegated_role", none, ⟨217, 33, 217, 47⟩⟩], none, [], [], none, []⟩ (clsB 15 7) ⟨.function, (("self", .local) :: ("delegated_role", .local) :: ("ValueError", .globalImplicit) :: []), false, false, []⟩ (.none) (.none) (.none) (.str "tuf.api._payload" 232) none (.ref 433) (.none))), #[]⟩) ::
  (nat_lit 440, ⟨.type "code", none, (.fields #[.str "get_key" 806, .str "Root.get_key" 807, .str "/claim/cut.py" 808, .int 222 0, .int 2 0, .int 0 0, .int 0 0, .int 3 0, .ref 435, .bool true, .int 181 0, .ref 436, .none, .ref 437, .ref 438, .ref 439, .int 811 0, .int 222 0, .str "/claim/cut.py" 812]), #[]⟩) ::
  (nat_lit 441, ⟨.type "function", none, (.func (fnOf "get_key" "Root.get_key" ⟨[], [⟨"self", none, ⟨222, 16, 222, 20⟩⟩, ⟨"keyid", none, ⟨222, 22, 222, 27⟩⟩], none, [], [], none, []⟩ (clsB 15 8) ⟨.function, (("self", .local) :: ("keyid", .local) :: ("ValueError", .globalImplicit) :: []), false, false, []⟩ (.none) (.none) (.none) (.str "tuf.api._payload" 232) none (.ref 440) (.none))), #[]⟩) ::
  (nat_lit 447, ⟨.type "code", none, (.fields #[.str "get_root_verification_result" 814, .str "Root.get_root_verification_result" 815, .str "/claim/cut.py" 816, .int 227 0, .int 4 0, .int 0 0, .int 0 0, .int 3 0, .ref 442, .bool true, .int 181 0, .ref 443, .none, .ref 444, .ref 445, .ref 446, .int 822 0, .int 227 0, .str "/claim/cut.py" 823]), #[]⟩) ::
  (nat_lit 448, ⟨.type "function", none, (.func (fnOf "get_root_verification_result" "Root.get_root_verification_result" ⟨[], [⟨"self", none, ⟨227, 37, 227, 41⟩⟩, ⟨"previous", none, ⟨227, 43, 227, 51⟩⟩, ⟨"payload", none, ⟨227, 53, 227, 60⟩⟩, ⟨"signatures", none, ⟨227, 62, 227, 72⟩⟩], none, [], [], none, []⟩ (clsB 15 9) ⟨.function, (("self", .local) :: ("previous", .local) :: ("payload", .local) :: ("signatures", .local) :: ("versions", .local) :: ("ValueError", .globalImplicit) :: ("RootVerificationResult", .globalImplicit) :: ("Root", .globalImplicit) :: []), false, false, []⟩ (.none) (.none) (.none) (.str "tuf.api._payload" 232) none (.ref 447) (.none))), #[]⟩) ::
  (nat_lit 450, ⟨.type "dict", none, (.dict #[⟨PyData.keyHash P "__module__", .str "__module__" 731, .str "tuf.api._payload" 232⟩, ⟨PyData.keyHash P "__firstlineno__", .str "__firstlineno__" 735, .int 186 734⟩, ⟨PyData.keyHash P "type", .str "type" 737, .str "root" 736⟩, ⟨PyData.keyHash P "__init__", .str "__init__" 744, .ref 389⟩, ⟨PyData.keyHash P "__eq__", .str "__eq__" 752, .ref 396⟩, ⟨PyData.keyHash P "from_dict", .str "from_dict" 772, .ref 405⟩, ⟨PyData.keyHash P "to_dict", .str "to_dict" 779, .ref 413⟩, ⟨PyData.keyHash P "add_key", .str "add_key" 788, .ref 420⟩, ⟨PyData.keyHash P "revoke_key", .str "revoke_key" 797, .ref 427⟩, ⟨PyData.keyHash P "get_delegated_role", .str "get_delegated_role" 805, .ref 434⟩, ⟨PyData.keyHash P "get_key", .str "get_key" 813, .ref 441⟩, ⟨PyData.keyHash P "get_root_verification_result", .str "get_root_verification_result" 824, .ref 448⟩, ⟨PyData.keyHash P "__static_attributes__", .str "__static_attributes__" 828, .ref 449⟩, ⟨PyData.keyHash P "__doc__", .str "__doc__" 830, .none⟩, ⟨PyData.keyHash P "__hash__", .str "__hash__" 831, .none⟩] 4), #[]⟩) ::
  (nat_lit 451, ⟨.type "type", none, (.cls ⟨"Root", [.ref 372], [.ref 451, .ref 372, .ref 216, .type "object"], 450, "Root", true, [], [], false, none, false⟩), #[some (.ref 375), none, some (.str "Root" 724), some (.str "Root" 732), some (.builtin "object.__new__"), some (.bool true)]⟩) ::
  (nat_lit 457, ⟨.type "cell", none, (.cell (some (.ref 514))), #[]⟩) ::
  (nat_lit 462, ⟨.type "tuple", none, (.seq #[.none, .none, .none] 0), #[]⟩) ::
  (nat_lit 469, ⟨.type "code", none, (.fields #[.str "__init__" 846, .str "DelegatedRole.__init__" 847, .str "/claim/cut.py" 848, .int 236 0, .int 8 0, .int 0 0, .int 0 0, .int 3 0, .ref 464, .bool true, .int 181 0, .ref 465, .none, .ref 466, .ref 467, .ref 468, .int 859 0, .int 236 0, .str "/claim/cut.py" 860]), #[]⟩) ::
  (nat_lit 470, ⟨.type "function", none, (.func { fnOf "__init__" "DelegatedRole.__init__" ⟨[], [⟨"self", none, ⟨236, 17, 236, 21⟩⟩, ⟨"name", none, ⟨236, 23, 236, 27⟩⟩, ⟨"keyids", none, ⟨236, 29, 236, 35⟩⟩, ⟨"threshold", none, ⟨236, 37, 236, 46⟩⟩, ⟨"terminating", none, ⟨236, 48, 236, 59⟩⟩, ⟨"paths", none, ⟨236, 61, 236, 66⟩⟩, ⟨"path_hash_prefixes", none, ⟨236, 73, 236, 91⟩⟩, ⟨"unrecognized_fields", none, ⟨236, 98, 236, 117⟩⟩], none, [], [], none, [.Constant (.none) 0 ⟨236, 67, 236, 71⟩, .Constant (.none) 0 ⟨236, 92, 236, 96⟩, .Constant (.none) 0 ⟨236, 118, 236, 122⟩]⟩ (clsB 16 0) ⟨.function, (("self", .local) :: ("name", .local) :: ("keyids", .local) :: ("threshold", .local) :: ("terminating", .local) :: ("paths", .local) :: ("path_hash_prefixes", .local) :: ("unrecognized_fields", .local) :: ("exclusive_vars", .local) :: ("__class__", .free) :: ("super", .globalImplicit) :: ("sum", .globalImplicit) :: ("ValueError", .globalImplicit) :: ("any", .globalImplicit) :: []), false, false, []⟩ (.ref 462) (.none) (.none) (.str "tuf.api._payload" 232) none (.ref 469) (.ref 463) with closure := [("__class__", 457)] }), #[]⟩) ::
  (nat_lit 513, ⟨.type "dict", none, (.dict #[⟨PyData.keyHash P "__module__", .str "__module__" 841, .str "tuf.api._payload" 232⟩, ⟨PyData.keyHash P "__firstlineno__", .str "__firstlineno__" 845, .int 234 844⟩, ⟨PyData.keyHash P "__init__", .str "__init__" 861, .ref 470⟩, ⟨PyData.keyHash P "__eq__", .str "__eq__" 869, .ref 477⟩, ⟨PyData.keyHash P "from_dict", .str "from_dict" 889, .ref 486⟩, ⟨PyData.keyHash P "to_dict", .str "to_dict" 896, .ref 494⟩, ⟨PyData.keyHash P "_is_target_in_pathpattern", .str "_is_target_in_pathpattern" 916, .ref 503⟩, ⟨PyData.keyHash P "is_delegated_path", .str "is_delegated_path" 925, .ref 511⟩, ⟨PyData.keyHash P "__static_attributes__", .str "__static_attributes__" 930, .ref 512⟩, ⟨PyData.keyHash P "__doc__", .str "__doc__" 932, .none⟩, ⟨PyData.keyHash P "__hash__", .str "__hash__" 933, .none⟩] 4), #[]⟩) ::
  (nat_lit 514, ⟨.type "type", none, (.cls ⟨"DelegatedRole", [.ref 262], [.ref 514, .ref 262, .type "object"], 513, "DelegatedRole", true, [], [], false, none, false⟩), #[some (.ref 454), none, some (.str "DelegatedRole" 834), some (.str "DelegatedRole" 842), some (.builtin "object.__new__"), some (.bool true)]⟩) ::
  (nat_lit 522, ⟨.type "code", none, (.fields #[.str "_hex" 936, .str "_hex" 937, .str "/claim/cut.py" 938, .int 268 0, .int 2 0, .int 0 0, .int 0 0, .int 3 0, .ref 517, .bool true, .int 181 0, .ref 518, .none, .ref 519, .ref 520, .ref 521, .int 942 0, .int 268 0, .str "/claim/cut.py" 943]), #[]⟩) ::
  (nat_lit 523, ⟨.type "function", none, (.func (fnOf "_hex" "_hex" ⟨[], [⟨"number", none, ⟨268, 9, 268, 15⟩⟩, ⟨"length", none, ⟨268, 17, 268, 23⟩⟩], none, [], [], none, []⟩ (topB 17) ⟨.function, (("number", .local) :: ("length", .local) :: ("signs", .local) :: ("len", .globalImplicit) :: []), false, false, []⟩ (.none) (.none) (.none) (.str "tuf.api._payload" 232) none (.ref 522) (.none))), #[]⟩) ::
  (nat_lit 527, ⟨.type "cell", none, (.cell (some (.ref 588))), #[]⟩) ::
  (nat_lit 532, ⟨.type "tuple", none, (.seq #[.none] 0), #[]⟩) ::
  (nat_lit 539, ⟨.type "code", none, (.fields #[.str "__init__" 957, .str "SuccinctRoles.__init__" 958, .str "/claim/cut.py" 959, .int 276 0, .int 6 0, .int 0 0, .int 0 0, .int 3 0, .ref 534, .bool true, .int 181 0, .ref 535, .none, .ref 536, .ref 537, .ref 538, .int 967 0, .int 276 0, .str "/claim/cut.py" 968]), #[]⟩) ::
  (nat_lit 540, ⟨.type "function", none, (.func { fnOf "__init__" "SuccinctRoles.__init__" ⟨[], [⟨"self", none, ⟨276, 17, 276, 21⟩⟩, ⟨"keyids", none, ⟨276, 23, 276, 29⟩⟩, ⟨"threshold", none, ⟨276, 31, 276, 40⟩⟩, ⟨"bit_length", none, ⟨276, 42, 276, 52⟩⟩, ⟨"name_prefix", none, ⟨276, 54, 276, 65⟩⟩, ⟨"unrecognized_fields", none, ⟨276, 67, 276, 86⟩⟩], none, [], [], none, [.Constant (.none) 0 ⟨276, 87, 276, 91⟩]⟩ (clsB 18 0) ⟨.function, (("self", .local) :: ("keyids", .local) :: ("threshold", .local) :: ("bit_length", .local) :: ("name_prefix", .local) :: ("unrecognized_fields", .local) :: ("__class__", .free) :: ("super", .globalImplicit) :: ("ValueError", .globalImplicit) :: ("isinstance", .globalImplicit) :: ("str", .globalImplicit) :: ("len", .globalImplicit) :: ("_hex", .globalImplicit) :: []), false, false, []⟩ (.ref 532) (.none) (.none) (.str "tuf.api._payload" 232) none (.ref 539) (.ref 533) with closure := [("__class__", 527)] }), #[]⟩) ::
  (nat_lit 584, ⟨.type "code", none, (.fields #[.str "is_delegated_role" 1021, .str "SuccinctRoles.is_delegated_role" 1022, .str "/claim/cut.py" 1023, .int 305 0, .int 2 0, .int 0 0, .int 0 0, .int 3 0, .ref 579, .bool true, .int 181 0, .ref 580, .none, .ref 581, .ref 582, .ref 583, .int 1029 0, .int 305 0, .str "/claim/cut.py" 1030]), #[]⟩) ::
  (nat_lit 585, ⟨.type "function", none, (.func (fnOf "is_delegated_role" "SuccinctRoles.is_delegated_role" ⟨[], [⟨"self", none, ⟨305, 26, 305, 30⟩⟩, ⟨"role_name", none, ⟨305, 32, 305, 41⟩⟩], none, [], [], none, []⟩ (clsB 18 6) ⟨.function, (("self", .local) :: ("role_name", .local) :: ("desired_prefix", .local) :: ("suffix", .local) :: ("num", .local) :: ("len", .globalImplicit) :: ("int", .globalImplicit) :: ("ValueError", .globalImplicit) :: []), false, false, []⟩ (.none) (.none) (.none) (.str "tuf.api._payload" 232) none (.ref 584) (.none))), #[]⟩) ::
  (nat_lit 587, ⟨.type "dict", none, (.dict #[⟨PyData.keyHash P "__module__", .str "__module__" 952, .str "tuf.api._payload" 232⟩, ⟨PyData.keyHash P "__firstlineno__", .str "__firstlineno__" 956, .int 274 955⟩, ⟨PyData.keyHash P "__init__", .str "__init__" 969, .ref 540⟩, ⟨PyData.keyHash P "__eq__", .str "__eq__" 977, .ref 547⟩, ⟨PyData.keyHash P "from_dict", .str "from_dict" 997, .ref 556⟩, ⟨PyData.keyHash P "to_dict", .str "to_dict" 1004, .ref 564⟩, ⟨PyData.keyHash P "get_role_for_target", .str "get_role_for_target" 1013, .ref 571⟩, ⟨PyData.keyHash P "get_roles", .str "get_roles" 1020, .ref 578⟩, ⟨PyData.keyHash P "is_delegated_role", .str "is_delegated_role" 1031, .ref 585⟩, ⟨PyData.keyHash P "__static_attributes__", .str "__static_attributes__" 1036, .ref 586⟩, ⟨PyData.keyHash P "__doc__", .str "__doc__" 1038, .none⟩, ⟨PyData.keyHash P "__hash__", .str "__hash__" 1039, .none⟩] 4), #[]⟩) ::
  (nat_lit 588, ⟨.type "type", none, (.cls ⟨"SuccinctRoles", [.ref 262], [.ref 588, .ref 262, .type "object"], 587, "SuccinctRoles", true, [], [], false, none, false⟩), #[some (.ref 524), none, some (.str "SuccinctRoles" 945), some (.str "SuccinctRoles" 953), some (.builtin "object.__new__"), some (.bool true)]⟩) ::
  (nat_lit 598, ⟨.type "tuple", none, (.seq #[.none, .none, .none] 0), #[]⟩) ::
  (nat_lit 604, ⟨.type "code", none, (.fields #[.str "__init__" 1054, .str "Delegations.__init__" 1055, .str "/claim/cut.py" 1056, .int 319 0, .int 5 0, .int 0 0, .int 0 0, .int 3 0, .ref 599, .bool true, .int 181 0, .ref 600, .none, .ref 601, .ref 602, .ref 603, .int 1063 0, .int 319 0, .str "/claim/cut.py" 1064]), #[]⟩) ::
  (nat_lit 605, ⟨.type "function", none, (.func (fnOf "__init__" "Delegations.__init__" ⟨[], [⟨"self", none, ⟨319, 17, 319, 21⟩⟩, ⟨"keys", none, ⟨319, 23, 319, 27⟩⟩, ⟨"roles", none, ⟨319, 29, 319, 34⟩⟩, ⟨"succinct_roles", none, ⟨319, 41, 319, 55⟩⟩, ⟨"unrecognized_fields", none, ⟨319, 62, 319, 81⟩⟩], none, [], [], none, [.Constant (.none) 0 ⟨319, 35, 319, 39⟩, .Constant (.none) 0 ⟨319, 56, 319, 60⟩, .Constant (.none) 0 ⟨319, 82, 319, 86⟩]⟩ (clsB 19 0) ⟨.function, (("self", .local) :: ("keys", .local) :: ("roles", .local) :: ("succinct_roles", .local) :: ("unrecognized_fields", .local) :: ("role", .local) :: ("sum", .globalImplicit) :: ("ValueError", .globalImplicit) :: ("TOP_LEVEL_ROLE_NAMES", .globalImplicit) :: []), false, false, []⟩ (.ref 598) (.none) (.none) (.str "tuf.api._payload" 232) none (.ref 604) (.none))), #[]⟩) ::
  (nat_lit 638, ⟨.type "dict", none, (.dict #[⟨PyData.keyHash P "__module__", .str "__module__" 1049, .str "tuf.api._payload" 232⟩, ⟨PyData.keyHash P "__firstlineno__", .str "__firstlineno__" 1053, .int 317 1052⟩, ⟨PyData.keyHash P "__init__", .str "__init__" 1065, .ref 605⟩, ⟨PyData.keyHash P "__eq__", .str "__eq__" 1074, .ref 612⟩, ⟨PyData.keyHash P "from_dict", .str "from_dict" 1094, .ref 621⟩, ⟨PyData.keyHash P "to_dict", .str "to_dict" 1101, .ref 629⟩, ⟨PyData.keyHash P "get_roles_for_target", .str "get_roles_for_target" 1110, .ref 636⟩, ⟨PyData.keyHash P "__static_attributes__", .str "__static_attributes__" 1115, .ref 637⟩, ⟨PyData.keyHash P "__dict__", .str "__dict__" 1117, .ref 640⟩, ⟨PyData.keyHash P "__weakref__", .str "__weakref__" 1119, .ref 641⟩, ⟨PyData.keyHash P "__doc__", .str "__doc__" 1120, .none⟩, ⟨PyData.keyHash P "__hash__", .str "__hash__" 1121, .none⟩] 5), #[]⟩) ::
  (nat_lit 639, ⟨.type "type", none, (.cls ⟨"Delegations", [.type "object"], [.ref 639, .type "object"], 638, "Delegations", true, [], [], false, none, false⟩), #[none, none, some (.str "Delegations" 1042), some (.str "Delegations" 1050), some (.builtin "object.__new__"), some (.bool true)]⟩) ::
  (nat_lit 640, ⟨.type "getset_descriptor", none, (.fields #[.str "__dict__" 1116, .ref 639, .builtin "function.__dict__", .builtin "function.__dict__#set"]), #[]⟩) ::
  (nat_lit 641, ⟨.type "getset_descriptor", none, (.fields #[.str "__weakref__" 1118, .ref 639, .builtin "ExceptionGroup.__weakref__", .none]), #[]⟩) ::
  (nat_lit 647, ⟨.type "cell", none, (.cell (some (.ref 717))), #[]⟩) ::
  (nat_lit 652, ⟨.type "tuple", none, (.seq #[.none, .none, .none, .none, .none, .none] 0), #[]⟩) ::
  (nat_lit 659, ⟨.type "code", none, (.fields #[.str "__init__" 1138, .str "Targets.__init__" 1139, .str "/claim/cut.py" 1140, .int 353 0, .int 7 0, .int 0 0, .int 0 0, .int 3 0, .ref 654, .bool true, .int 181 0, .ref 655, .none, .ref 656, .ref 657, .ref 658, .int 1149 0, .int 353 0, .str "/claim/cut.py" 1150]), #[]⟩) ::
  (nat_lit 660, ⟨.type "function", none, (.func { fnOf "__init__" "Targets.__init__" ⟨[], [⟨"self", none, ⟨353, 17, 353, 21⟩⟩, ⟨"version", none, ⟨353, 23, 353, 30⟩⟩, ⟨"spec_version", none, ⟨353, 37, 353, 49⟩⟩, ⟨"expires", none, ⟨353, 56, 353, 63⟩⟩, ⟨"targets", none, ⟨353, 70, 353, 77⟩⟩, ⟨"delegations", none, ⟨353, 84, 353, 95⟩⟩, ⟨"unrecognized_fields", none, ⟨353, 102, 353, 121⟩⟩], none, [], [], none, [.Constant (.none) 0 ⟨353, 31, 353, 35⟩, .Constant (.none) 0 ⟨353, 50, 353, 54⟩, .Constant (.none) 0 ⟨353, 64, 353, 68⟩, .Constant (.none) 0 ⟨353, 78, 353, 82⟩, .Constant (.none) 0 ⟨353, 96, 353, 100⟩, .Constant (.none) 0 ⟨353, 122, 353, 126⟩]⟩ (clsB 20 1) ⟨.function, (("self", .local) :: ("version", .local) :: ("spec_version", .local) :: ("expires", .local) :: ("targets", .local) :: ("delegations", .local) :: ("unrecognized_fields", .local) :: ("__class__", .free) :: ("super", .globalImplicit) :: []), false, false, []⟩ (.ref 652) (.none) (.none) (.str "tuf.api._payload" 232) none (.ref 659) (.ref 653) with closure := [("__class__", 647)] }), #[]⟩) ::
  (nat_lit 706, ⟨.type "code", none, (.fields #[.str "get_delegated_role" 1205, .str "Targets.get_delegated_role" 1206, .str "/claim/cut.py" 1207, .int 376 0, .int 2 0, .int 0 0, .int 0 0, .int 3 0, .ref 701, .bool true, .int 181 0, .ref 702, .none, .ref 703, .ref 704, .ref 705, .int 1212 0, .int 376 0, .str "/claim/cut.py" 1213]), #[]⟩) ::
  (nat_lit 707, ⟨.type "function", none, (.func (fnOf "get_delegated_role" "Targets.get_delegated_role" ⟨[], [⟨"self", none, ⟨376, 27, 376, 31⟩⟩, ⟨"delegated_role", none, ⟨376, 33, 376, 47⟩⟩], none, [], [], none, []⟩ (clsB 20 7) ⟨.function, (("self", .local) :: ("delegated_role", .local) :: ("role", .local) :: ("succinct", .local) :: ("ValueError", .globalImplicit) :: []), false, false, []⟩ (.none) (.none) (.none) (.str "tuf.api._payload" 232) none (.ref 706) (.none))), #[]⟩) ::
  (nat_lit 713, ⟨.type "code", none, (.fields #[.str "get_key" 1215, .str "Targets.get_key" 1216, .str "/claim/cut.py" 1217, .int 390 0, .int 2 0, .int 0 0, .int 0 0, .int 3 0, .ref 708, .bool true, .int 181 0, .ref 709, .none, .ref 710, .ref 711, .ref 712, .int 1220 0, .int 390 0, .str "/claim/cut.py" 1221]), #[]⟩) ::
  (nat_lit 714, ⟨.type "function", none, (.func (fnOf "get_key" "Targets.get_key" ⟨[], [⟨"self", none, ⟨390, 16, 390, 20⟩⟩, ⟨"keyid", none, ⟨390, 22, 390, 27⟩⟩], none, [], [], none, []⟩ (clsB 20 8) ⟨.function, (("self", .local) :: ("keyid", .local) :: ("ValueError", .globalImplicit) :: []), false, false, []⟩ (.none) (.none) (.none) (.str "tuf.api._payload" 232) none (.ref 713) (.none))), #[]⟩) ::
  (nat_lit 716, ⟨.type "dict", none, (.dict #[⟨PyData.keyHash P "__module__", .str "__module__" 1131, .str "tuf.api._payload" 232⟩, ⟨PyData.keyHash P "__firstlineno__", .str "__firstlineno__" 1135, .int 350 1134⟩, ⟨PyData.keyHash P "type", .str "type" 1137, .str "targets" 1136⟩, ⟨PyData.keyHash P "__init__", .str "__init__" 1151, .ref 660⟩, ⟨PyData.keyHash P "__eq__", .str "__eq__" 1159, .ref 667⟩, ⟨PyData.keyHash P "from_dict", .str "from_dict" 1179, .ref 676⟩, ⟨PyData.keyHash P "to_dict", .str "to_dict" 1186, .ref 684⟩, ⟨PyData.keyHash P "add_key", .str "add_key" 1195, .ref 692⟩, ⟨PyData.keyHash P "revoke_key", .str "revoke_key" 1204, .ref 700⟩, ⟨PyData.keyHash P "get_delegated_role", .str "get_delegated_role" 1214, .ref 707⟩, ⟨PyData.keyHash P "get_key", .str "get_key" 1222, .ref 714⟩, ⟨PyData.keyHash P "__static_attributes__", .str "__static_attributes__" 1225, .ref 715⟩, ⟨PyData.keyHash P "__doc__", .str "__doc__" 1227, .none⟩, ⟨PyData.keyHash P "__hash__", .str "__hash__" 1228, .none⟩] 4), #[]⟩) ::
  (nat_lit 717, ⟨.type "type", none, (.cls ⟨"Targets", [.ref 372], [.ref 717, .ref 372, .ref 216, .type "object"], 716, "Targets", true, [], [], false, none, false⟩), #[some (.ref 644), none, some (.str "Targets" 1124), some (.str "Targets" 1132), some (.builtin "object.__new__"), some (.bool true)]⟩) ::
  (nat_lit 725, ⟨.type "code", none, (.fields #[.str "_law_draws" 1233, .str "_law_draws" 1234, .str "/claim/cut.py" 1235, .int 397 0, .int 1 0, .int 0 0, .int 0 0, .int 3 0, .ref 720, .bool true, .int 181 0, .ref 721, .none, .ref 722, .ref 723, .ref 724, .int 1240 0, .int 397 0, .str "/claim/cut.py" 1241]), #[]⟩) ::
  (nat_lit 726, ⟨.type "function", none, (.func (fnOf "_law_draws" "_law_draws" ⟨[], [⟨"script", none, ⟨397, 15, 397, 21⟩⟩], none, [], [], none, []⟩ (topB 22) ⟨.function, (("script", .local) :: ("row", .local) :: ("cell", .local) :: ("turn", .local) :: ("abs", .globalImplicit) :: ("range", .globalImplicit) :: []), false, false, []⟩ (.none) (.none) (.none) (.str "law_je0043_01" 1231) none (.ref 725) (.none))), #[]⟩) ::
  (nat_lit 732, ⟨.type "code", none, (.fields #[.str "_law_next" 1243, .str "_law_next" 1244, .str "/claim/cut.py" 1245, .int 405 0, .int 2 0, .int 0 0, .int 0 0, .int 3 0, .ref 727, .bool true, .int 181 0, .ref 728, .none, .ref 729, .ref 730, .ref 731, .int 1250 0, .int 405 0, .str "/claim/cut.py" 1251]), #[]⟩) ::
  (nat_lit 733, ⟨.type "function", none, (.func (fnOf "_law_next" "_law_next" ⟨[], [⟨"w", none, ⟨405, 14, 405, 15⟩⟩, ⟨"many", none, ⟨405, 17, 405, 21⟩⟩], none, [], [], none, []⟩ (topB 23) ⟨.function, (("w", .local) :: ("many", .local) :: ("at", .local) :: ("value", .local) :: ("len", .globalImplicit) :: []), false, false, []⟩ (.none) (.none) (.none) (.str "law_je0043_01" 1231) none (.ref 732) (.none))), #[]⟩) ::
  (nat_lit 739, ⟨.type "code", none, (.fields #[.str "_law_key" 1253, .str "_law_key" 1254, .str "/claim/cut.py" 1255, .int 412 0, .int 1 0, .int 0 0, .int 0 0, .int 3 0, .ref 734, .bool true, .int 181 0, .ref 735, .none, .ref 736, .ref 737, .ref 738, .int 1257 0, .int 412 0, .str "/claim/cut.py" 1258]), #[]⟩) ::
  (nat_lit 740, ⟨.type "function", none, (.func (fnOf "_law_key" "_law_key" ⟨[], [⟨"k", none, ⟨412, 13, 412, 14⟩⟩], none, [], [], none, []⟩ (topB 24) ⟨.function, (("k", .local) :: ("Key", .globalImplicit) :: ("str", .globalImplicit) :: []), false, false, []⟩ (.none) (.none) (.none) (.str "law_je0043_01" 1231) none (.ref 739) (.none))), #[]⟩) ::
  (nat_lit 744, ⟨.type "code", none, (.fields #[.str "_law_role" 1260, .str "_law_role" 1261, .str "/claim/cut.py" 1262, .int 414 0, .int 1 0, .int 0 0, .int 0 0, .int 3 0, .ref 741, .bool true, .int 181 0, .ref 742, .none, .none, .none, .ref 743, .int 1263 0, .int 414 0, .str "/claim/cut.py" 1264]), #[]⟩) ::
  (nat_lit 745, ⟨.type "function", none, (.func (fnOf "_law_role" "_law_role" ⟨[], [⟨"w", none, ⟨414, 14, 414, 15⟩⟩], none, [], [], none, []⟩ (topB 25) ⟨.function, (("w", .local) :: ("order", .local) :: ("turn", .local) :: ("_law_next", .globalImplicit) :: []), false, false, (("fast", .str "w") :: ("fast", .str "order") :: ("fast", .str "turn") :: ("fast", .str "k") :: [])⟩ (.none) (.none) (.none) (.str "law_je0043_01" 1231) none (.ref 744) (.none))), #[]⟩) ::
  (nat_lit 749, ⟨.type "code", none, (.fields #[.str "_law_keys" 1266, .str "_law_keys" 1267, .str "/claim/cut.py" 1268, .int 419 0, .int 1 0, .int 0 0, .int 0 0, .int 3 0, .ref 746, .bool true, .int 181 0, .ref 747, .none, .none, .none, .ref 748, .int 1269 0, .int 419 0, .str "/claim/cut.py" 1270]), #[]⟩) ::
  (nat_lit 750, ⟨.type "function", none, (.func (fnOf "_law_keys" "_law_keys" ⟨[], [⟨"w", none, ⟨419, 14, 419, 15⟩⟩], none, [], [], none, []⟩ (topB 26) ⟨.function, (("w", .cell) :: ("dict", .globalImplicit) :: ("range", .globalImplicit) :: []), false, false, (("fast", .str "w") :: ("fast", .str "k") :: [])⟩ (.none) (.none) (.none) (.str "law_je0043_01" 1231) none (.ref 749) (.none))), #[]⟩) ::
  (nat_lit 756, ⟨.type "code", none, (.fields #[.str "_law_signatures" 1272, .str "_law_signatures" 1273, .str "/claim/cut.py" 1274, .int 421 0, .int 2 0, .int 0 0, .int 0 0, .int 3 0, .ref 751, .bool true, .int 181 0, .ref 752, .none, .ref 753, .ref 754, .ref 755, .int 1282 0, .int 421 0, .str "/claim/cut.py" 1283]), #[]⟩) ::
  (nat_lit 757, ⟨.type "function", none, (.func (fnOf "_law_signatures" "_law_signatures" ⟨[], [⟨"w", none, ⟨421, 20, 421, 21⟩⟩, ⟨"payload", none, ⟨421, 23, 421, 30⟩⟩], none, [], [], none, []⟩ (topB 27) ⟨.function, (("w", .local) :: ("payload", .local) :: ("found", .local) :: ("k", .local) :: ("name", .local) :: ("pick", .local) :: ("right", .local) :: ("range", .globalImplicit) :: ("str", .globalImplicit) :: ("_law_next", .globalImplicit) :: ("Signature", .globalImplicit) :: []), false, false, []⟩ (.none) (.none) (.none) (.str "law_je0043_01" 1231) none (.ref 756) (.none))), #[]⟩) ::
  (nat_lit 763, ⟨.type "code", none, (.fields #[.str "_law_due" 1285, .str "_law_due" 1286, .str "/claim/cut.py" 1287, .int 434 0, .int 4 0, .int 0 0, .int 0 0, .int 3 0, .ref 758, .bool true, .int 181 0, .ref 759, .none, .ref 760, .ref 761, .ref 762, .int 1296 0, .int 434 0, .str "/claim/cut.py" 1297]), #[]⟩) ::
  (nat_lit 764, ⟨.type "function", none, (.func (fnOf "_law_due" "_law_due" ⟨[], [⟨"role", none, ⟨434, 13, 434, 17⟩⟩, ⟨"keys", none, ⟨434, 19, 434, 23⟩⟩, ⟨"signatures", none, ⟨434, 25, 434, 35⟩⟩, ⟨"payload", none, ⟨434, 37, 434, 44⟩⟩], none, [], [], none, []⟩ (topB 28) ⟨.function, (("role", .local) :: ("keys", .local) :: ("signatures", .local) :: ("payload", .local) :: ("signed", .local) :: ("unsigned", .local) :: ("name", .local) :: ("right", .local) :: []), false, false, []⟩ (.none) (.none) (.none) (.str "law_je0043_01" 1231) none (.ref 763) (.none))), #[]⟩) ::
  (nat_lit 768, ⟨.type "code", none, (.fields #[.str "_law_is" 1299, .str "_law_is" 1300, .str "/claim/cut.py" 1301, .int 445 0, .int 6 0, .int 0 0, .int 0 0, .int 3 0, .ref 765, .bool true, .int 181 0, .ref 766, .none, .none, .none, .ref 767, .int 1302 0, .int 445 0, .str "/claim/cut.py" 1303]), #[]⟩) ::
  (nat_lit 769, ⟨.type "function", none, (.func (fnOf "_law_is" "_law_is" ⟨[], [⟨"result", none, ⟨445, 12, 445, 18⟩⟩, ⟨"role", none, ⟨445, 20, 445, 24⟩⟩, ⟨"keys", none, ⟨445, 26, 445, 30⟩⟩, ⟨"signatures", none, ⟨445, 32, 445, 42⟩⟩, ⟨"payload", none, ⟨445, 44, 445, 51⟩⟩, ⟨"threshold", none, ⟨445, 53, 445, 62⟩⟩], none, [], [], none, []⟩ (topB 29) ⟨.function, (("result", .cell) :: ("role", .local) :: ("keys", .cell) :: ("signatures", .local) :: ("payload", .local) :: ("threshold", .local) :: ("signed", .local) :: ("unsigned", .local) :: ("_law_due", .globalImplicit) :: ("list", .globalImplicit) :: ("len", .globalImplicit) :: ("max", .globalImplicit) :: []), false, false, (("fast", .str "result") :: ("fast", .str "role") :: ("fast", .str "keys") :: ("fast", .str "signatures") :: ("fast", .str "payload") :: ("fast", .str "threshold") :: ("fast", .str "signed") :: ("fast", .str "unsigned") :: ("fast", .str "name") :: [])⟩ (.none) (.none) (.none) (.str "law_je0043_01" 1231) none (.ref 768) (.none))), #[]⟩) ::
  (nat_lit 775, ⟨.type "code", none, (.fields #[.str "_law_raised" 1305, .str "_law_raised" 1306, .str "/claim/cut.py" 1307, .int 452 0, .int 4 0, .int 0 0, .int 0 0, .int 3 0, .ref 770, .bool true, .int 181 0, .ref 771, .none, .ref 772, .ref 773, .ref 774, .int 1312 0, .int 452 0, .str "/claim/cut.py" 1313]), #[]⟩) ::
  (nat_lit 776, ⟨.type "function", none, (.func (fnOf "_law_raised" "_law_raised" ⟨[], [⟨"delegator", none, ⟨452, 16, 452, 25⟩⟩, ⟨"name", none, ⟨452, 27, 452, 31⟩⟩, ⟨"payload", none, ⟨452, 33, 452, 40⟩⟩, ⟨"signatures", none, ⟨452, 42, 452, 52⟩⟩], none, [], [], none, []⟩ (topB 30) ⟨.function, (("delegator", .local) :: ("name", .local) :: ("payload", .local) :: ("signatures", .local) :: ("UnsignedMetadataError", .globalImplicit) :: ("ValueError", .globalImplicit) :: []), false, false, []⟩ (.none) (.none) (.none) (.str "law_je0043_01" 1231) none (.ref 775) (.none))), #[]⟩) ::
  (nat_lit 780, ⟨.type "code", none, (.fields #[.str "_law_root" 1315, .str "_law_root" 1316, .str "/claim/cut.py" 1317, .int 460 0, .int 1 0, .int 0 0, .int 0 0, .int 3 0, .ref 777, .bool true, .int 181 0, .ref 778, .none, .none, .none, .ref 779, .int 1318 0, .int 460 0, .str "/claim/cut.py" 1319]), #[]⟩) ::
  (nat_lit 781, ⟨.type "function", none, (.func (fnOf "_law_root" "_law_root" ⟨[], [⟨"w", none, ⟨460, 14, 460, 15⟩⟩], none, [], [], none, []⟩ (topB 31) ⟨.function, (("w", .local) :: ("role", .local) :: ("threshold", .local) :: ("keys", .local) :: ("version", .local) :: ("roles", .local) :: ("_law_role", .globalImplicit) :: ("_law_next", .globalImplicit) :: ("_law_keys", .globalImplicit) :: ("dict", .globalImplicit) :: ("Role", .globalImplicit) :: ("list", .globalImplicit) :: ("Root", .globalImplicit) :: []), false, false, (("fast", .str "w") :: ("fast", .str "role") :: ("fast", .str "threshold") :: ("fast", .str "keys") :: ("fast", .str "version") :: ("fast", .str "name") :: ("fast", .str "roles") :: [])⟩ (.none) (.none) (.none) (.str "law_je0043_01" 1231) none (.ref 780) (.none))), #[]⟩) ::
  (nat_lit 787, ⟨.type "code", none, (.fields #[.str "_law_targets" 1321, .str "_law_targets" 1322, .str "/claim/cut.py" 1323, .int 465 0, .int 3 0, .int 0 0, .int 0 0, .int 3 0, .ref 782, .bool true, .int 181 0, .ref 783, .none, .ref 784, .ref 785, .ref 786, .int 1336 0, .int 465 0, .str "/claim/cut.py" 1337]), #[]⟩) ::
  (nat_lit 788, ⟨.type "function", none, (.func (fnOf "_law_targets" "_law_targets" ⟨[], [⟨"w", none, ⟨465, 17, 465, 18⟩⟩, ⟨"payload", none, ⟨465, 20, 465, 27⟩⟩, ⟨"signatures", none, ⟨465, 29, 465, 39⟩⟩], none, [], [], none, []⟩ (topB 32) ⟨.function, (("w", .local) :: ("payload", .local) :: ("signatures", .local) :: ("role", .local) :: ("threshold", .local) :: ("keys", .local) :: ("roles", .local) :: ("targets", .local) :: ("names", .local) :: ("other", .local) :: ("due", .local) :: ("name", .local) :: ("_law_role", .globalImplicit) :: ("_law_next", .globalImplicit) :: ("_law_keys", .globalImplicit) :: ("DelegatedRole", .globalImplicit) :: ("list", .globalImplicit) :: ("Targets", .globalImplicit) :: ("Delegations", .globalImplicit) :: ("dict", .globalImplicit) :: ("SuccinctRoles", .globalImplicit) :: ("str", .globalImplicit) :: ("len", .globalImplicit) :: ("_law_due", .globalImplicit) :: ("_law_is", .globalImplicit) :: ("_law_raised", .globalImplicit) :: []), false, false, []⟩ (.none) (.none) (.none) (.str "law_je0043_01" 1231) none (.ref 787) (.none))), #[]⟩) ::
  (nat_lit 792, ⟨.type "code", none, (.fields #[.str "law" 1339, .str "law" 1340, .str "/claim/cut.py" 1341, .int 481 0, .int 1 0, .int 0 0, .int 0 0, .int 3 0, .ref 789, .bool true, .int 181 0, .ref 790, .none, .none, .none, .ref 791, .int 1342 0, .int 481 0, .str "/claim/cut.py" 1343]), #[]⟩) ::
  (nat_lit 793, ⟨.type "function", none, (.func (fnOf "law" "law" ⟨[], [⟨"script", none, ⟨481, 8, 481, 14⟩⟩], none, [], [], none, []⟩ (topB 33) ⟨.function, (("script", .local) :: ("w", .cell) :: ("payload", .local) :: ("signatures", .local) :: ("one", .local) :: ("role", .local) :: ("threshold", .local) :: ("keys", .local) :: ("version", .local) :: ("other", .local) :: ("role2", .local) :: ("threshold2", .local) :: ("keys2", .local) :: ("version2", .local) :: ("root", .local) :: ("names", .local) :: ("least", .local) :: ("known", .local) :: ("due", .local) :: ("told", .local) :: ("first", .local) :: ("second", .local) :: ("alone", .local) :: ("_law_draws", .globalImplicit) :: ("range", .globalImplicit) :: ("_law_next", .globalImplicit) :: ("_law_signatures", .globalImplicit) :: ("_law_root", .globalImplicit) :: ("_law_is", .globalImplicit) :: ("len", .globalImplicit) :: ("_law_due", .globalImplicit) :: ("_law_raised", .globalImplicit) :: ("sorted", .globalImplicit) :: ("set", .globalImplicit) :: ("ValueError", .globalImplicit) :: ("_law_targets", .globalImplicit) :: []), false, false, (("fast", .str "script") :: ("fast", .str "w") :: ("fast", .str "k") :: ("fast", .str "payload") :: ("fast", .str "signatures") :: ("fast", .str "one") :: ("fast", .str "role") :: ("fast", .str "threshold") :: ("fast", .str "keys") :: ("fast", .str "version") :: ("fast", .str "other") :: ("fast", .str "role2") :: ("fast", .str "threshold2") :: ("fast", .str "keys2") :: ("fast", .str "version2") :: ("fast", .str "root") :: ("fast", .str "names") :: ("fast", .str "least") :: ("fast", .str "known") :: ("fast", .str "due") :: ("fast", .str "told") :: ("fast", .str "first") :: ("fast", .str "second") :: ("fast", .str "alone") :: [])⟩ (.none) (.none) (.none) (.str "law_je0043_01" 1231) none (.ref 792) (.none))), #[]⟩) ::
  []

def Kas : List Addr := [2, 3, 30, 31, 32, 43, 44, 55, 56, 57, 67, 73, 74, 100, 101, 102, 103, 113, 119, 120, 126, 127, 150, 151, 153, 154, 155, 156, 159, 160, 181, 182, 215, 216, 217, 218, 228, 234, 235, 261, 262, 263, 264, 279, 280, 286, 287, 288, 294, 295, 296, 298, 299, 300, 301, 316, 317, 323, 324, 325, 331, 332, 333, 339, 340, 341, 343, 344, 345, 346, 361, 362, 368, 369, 371, 372, 378, 383, 388, 389, 433, 434, 440, 441, 447, 448, 450, 451, 457, 462, 469, 470, 513, 514, 522, 523, 527, 532, 539, 540, 584, 585, 587, 588, 598, 604, 605, 638, 639, 640, 641, 647, 652, 659, 660, 706, 707, 713, 714, 716, 717, 725, 726, 732, 733, 739, 740, 744, 745, 749, 750, 756, 757, 763, 764, 768, 769, 775, 776, 780, 781, 787, 788, 792, 793]
def sb11 : Obj := ⟨.type "tuple", none, (.seq #[] 0), #[]⟩
def sb12 : Obj := ⟨.none, none, (.fields #[]), #[]⟩
def sb13 : Obj := ⟨.type "code", none, (.fields #[.str "<module>" 182, .str "<module>" 183, .str "/claim/cut.py" 184, .int 1 0, .int 0 0, .int 0 0, .int 0 0, .int 0 0, .ref 11, .bool false, .int 181 0, .ref 12, .none, .none, .none, .none, .int 185 0, .int 1 0, .str "/claim/cut.py" 186]), #[]⟩
def sb14 : Obj := ⟨.type "frame", none, .plain, #[some (.ref 13), some (.ref 3), some (.ref 3), none, some (.str "__main__" 164), none, some (.ref 0)]⟩
noncomputable def T15 (P : Params) : BT := (.node (boot_o_0 P) (.node (boot_o_1 P) (.node (boot_o_3 P) (.node (boot_o_7 P) .nil .nil) (.node (sb11) .nil .nil)) (.node (boot_o_5 P) (.node (boot_o_9 P) .nil .nil) (.node (sb13) .nil .nil))) (.node (boot_o_2 P) (.node (boot_o_4 P) (.node (boot_o_8 P) .nil .nil) (.node (sb12) .nil .nil)) (.node (boot_o_6 P) (.node (boot_o_10 P) .nil .nil) (.node (sb14) .nil .nil))))
noncomputable def env0 : Env := { scope := PySem.Challenge.pw_je0043_01.main.scope, locals := mainNs, globals := mainNs, cells := [], code := .ref 13, frame := some 14 }
noncomputable def cE : Code := .body (behindTheImports PySem.Challenge.pw_je0043_01) env0
def p0 : Pos := ⟨0, 0, 0, 0⟩
def pE : Pos := ⟨481, 0, 508, 47⟩
noncomputable def q1 : Program := view PySem.Challenge.pw_je0043_01 [33]
def loose1 : List Str := ["_wall", "RepositoryError", "UnsignedMetadataError", "UnverifiedSignatureError", "Signature", "Key", "SPECIFICATION_VERSION", "TOP_LEVEL_ROLE_NAMES", "Signed", "Role", "VerificationResult", "RootVerificationResult", "_DelegatorMixin", "Root", "DelegatedRole", "_hex", "SuccinctRoles", "Delegations", "Targets", "_law_draws", "_law_next", "_law_key", "_law_role", "_law_keys", "_law_signatures", "_law_due", "_law_is", "_law_raised", "_law_root", "_law_targets"]
abbrev rr : OpenRow := PySem.Challenge.rw_je0043_01.row
noncomputable def Xt1 (s : Shared) : Bool := xlAt q1 [] s && recOk (RowW.records rr.toRowW) s
noncomputable def Sb (w : World) (os : OsState) : SharedT := ⟨T15 w.params, 15, {}, #[], {}, 187, os⟩
noncomputable def S0 (w : World) (os : OsState) : Shared := ⟨boot_heap w.params, #[], boot_drawn, boot_toks, os⟩
noncomputable def obsG {β : Type} (OS : Program → List Str → List Str → (Shared → Bool) → Bool → Shared → β) (IM : List Stmt → List Str) (P : Params) (s : Shared) :=
  ((staticsOk (IM PySem.Challenge.pw_je0043_01.main.body) (boot_heap P) s.heap && namesBound PySem.Challenge.pw_je0043_01 s.heap && gensDone s && laidKept (boot_heap P) s.heap),
   (OS q1 loose1 (IM PySem.Challenge.pw_je0043_01.main.body) Xt1 true s : β), (Kas.map s.heap.get?, ([177, 465, 600] : List Addr).map s.heap.get?))
noncomputable def chkG {β : Type} (SR : (String → Option Builtin) → Program → World → Nat → Option Value → Nat → Nat → SharedT → Thread → Option (Flow × SharedT × Code × Pos)) (TT : String → Option Builtin) (OS : Program → List Str → List Str → (Shared → Bool) → Bool → Shared → β) (IM : List Stmt → List Str) (w : World) (os : OsState) :=
  (SR TT PySem.Challenge.pw_je0043_01 w 11 (some (Value.ref 6)) 1 7500 (Sb w os) (piecesOf (behindTheImports PySem.Challenge.pw_je0043_01) env0 cE p0 [topFrame p0])).map fun r => (r.1, r.2.2.1, r.2.2.2, obsG OS IM w.params r.2.1.abs)
theorem run_chk (w : World) (os : OsState) : chkG segRunT treeTable openSeen importedModules w os = some (.next, cE, pE, true, openGood q1 loose1, (K w.params).map (fun p => some p.2), ([177, 465, 600] : List Addr).map fun _ => some (tabObj #[])) := by
  rw [PySem.W.Fast.te10110043849684766642, PySem.W.Fast.te14364793385576792824, PySem.W.Fast.te4187177175401517315, PySem.W.Fast.te5923862056798008813]
  kernel_rfl
-- HdL
theorem pre_ok (w : World) (os : OsState) : topGo treeTable PySem.Challenge.pw_je0043_01 w 11 (some (Value.ref 6)) 12 (S0 w os) (topStub PySem.Challenge.pw_je0043_01) = some ((Sb w os).abs, ⟨denote treeTable cE, cE, p0, [topFrame p0]⟩) := by
  kernel_rfl
theorem block_ok (w : World) (os : OsState) : segRun treeTable PySem.Challenge.pw_je0043_01 w 11 (some (Value.ref 6)) 1 1 (Sb w os).abs (blockOf (behindTheImports PySem.Challenge.pw_je0043_01) env0 cE p0 [topFrame p0]) = some (.next, (Sb w os).abs, cE, p0) := by
  kernel_rfl
theorem last_ok (w : World) (s : Shared) (c : Code) (p : Pos) : topRun treeTable PySem.Challenge.pw_je0043_01 w 11 (some (Value.ref 6)) 2 s ⟨doneF .next, c, p, [topFrame p0]⟩ = some s := by
  cases s; rfl
def NN : Nat := 12 + (1 + (7500 + 2))
theorem top_ok (w : World) (os : OsState) : ∃ s₁, topRun treeTable PySem.Challenge.pw_je0043_01 w 11 (some (Value.ref 6)) NN (S0 w os) (topStub PySem.Challenge.pw_je0043_01) = some s₁ ∧ obsG openSeen importedModules w.params s₁ = (true, openGood q1 loose1, (K w.params).map (fun p => some p.2), ([177, 465, 600] : List Addr).map fun _ => some (tabObj #[])) := by
  obtain ⟨⟨f, S, c, p⟩, h1, h2⟩ := Option.map_eq_some_iff.mp (run_chk w os)
  simp only [Prod.mk.injEq] at h2
  obtain ⟨rfl, rfl, rfl, h2⟩ := h2
  refine ⟨S.abs, go_top (pre_ok w os) (piece_block (block_ok w os) ?_), h2⟩
  have := piece_app (rest := []) (segRun_of h1) (piece_nil (last_ok w S.abs cE pE))
  rw [List.append_nil] at this
  exact this
theorem open_ok : ∀ w : World, (fencedOpening treeTable PySem.Challenge.pw_je0043_01 w NN).map (fun s => (s.heap, s.gens, s.drawn, s.toks)) = some (boot_heap w.params, Array.mk [], boot_drawn, boot_toks) :=
  boot_open (p := PySem.Challenge.pw_je0043_01) (N := NN) rfl (by decide) (fun _ => rfl)
theorem size_ok : ∀ w : World, ((boot_heap w.params).isNs mainGlobals && (#[] : Array GenState).size == 0, (boot_heap w.params).objs.size, (boot_heap w.params).nsMap mainGlobals "__annotations__") = (true, 11, some (Value.ref 6)) := by
  intro w; kernel_rfl
/-- the head's last step, over any text -/
theorem left_ex {p q : Program} {loose : List Str} {Xt : Shared → Bool} {α : Type} {Yf : Shared → α} {Ya : World → α} {N : Nat} {H₀ : Params → Heap} {gs₀ : Array GenState} {d₀ : Drawn} {k₀ : Nat} {m₀ : Nat} {ann : Option Value}
    (open_ : ∀ w : World, (fencedOpening treeTable p w N).map (fun s => (s.heap, s.gens, s.drawn, s.toks)) = some (H₀ w.params, gs₀, d₀, k₀))
    (size : ∀ w : World, ((H₀ w.params).isNs mainGlobals && gs₀.size == 0, (H₀ w.params).objs.size, (H₀ w.params).nsMap mainGlobals "__annotations__") = (true, m₀, ann))
    (run : ∀ (w : World) (os : OsState), ∃ s₁, topRun treeTable p w m₀ ann N ⟨H₀ w.params, gs₀, d₀, k₀, os⟩ (topStub p) = some s₁ ∧
      ((staticsOk (importedModules p.main.body) (H₀ w.params) s₁.heap && namesBound p s₁.heap && gensDone s₁ && laidKept (H₀ w.params) s₁.heap), openSeen q loose (importedModules p.main.body) Xt true s₁, Yf s₁) = (true, openGood q loose, Ya w)) :
    LeftO p q loose Xt Yf Ya N := fun w => by
  obtain ⟨⟨h, gs, d, k, os⟩, e, e'⟩ := Option.map_eq_some_iff.mp (open_ w)
  obtain ⟨rfl, rfl, rfl, rfl⟩ : h = H₀ w.params ∧ gs = gs₀ ∧ d = d₀ ∧ k = k₀ := by simpa using e'
  obtain ⟨z1, z2, z3⟩ : _ ∧ _ ∧ _ := by simpa only [Prod.mk.injEq] using size w
  obtain ⟨s₁, r, o⟩ := run w os
  obtain ⟨l1, l2, l3⟩ : _ ∧ _ ∧ _ := by simpa only [Prod.mk.injEq] using o
  have t : topFrom treeTable p w N ⟨H₀ w.params, gs, d, k, os⟩ = some s₁ := by
    unfold topFrom
    dsimp only
    rw [z1, z2, z3, r]
    show (match staticsOk (importedModules p.main.body) (H₀ w.params) s₁.heap && namesBound p s₁.heap && gensDone s₁ && laidKept (H₀ w.params) s₁.heap with | true => _ | false => _) = _
    rw [l1]
  unfold openEnds
  rw [e]
  show (topFrom treeTable p w N _).map _ = _
  rw [t]
  exact congrArg some (Prod.ext l2 l3)
theorem kas_ok : ∀ P, Kas = (K P).map (·.1) := fun P => by kernel_rfl
noncomputable abbrev H1 : Hook := kmHook K Kas kas_ok [177, 465, 600]
theorem left_ok : LeftO PySem.Challenge.pw_je0043_01 q1 loose1 Xt1 H1.obs H1.val NN :=
  left_ex (p := PySem.Challenge.pw_je0043_01) (q := q1) (Xt := Xt1) open_ok size_ok top_ok
-- HdW
theorem well_said : PySem.Challenge.rw_je0043_01.wellSaid = true := by
  rw [PySem.W.Fast.te9446332074065402090]
  kernel_rfl
section
-- MyA
abbrev PM : Program := PySem.Challenge.rw_je0043_01.row.toRowW.1
abbrev Led := List (Addr × Obj)
abbrev frs (outer : List Env) : List Addr := outer.filterMap (·.frame)
/-- a program without a text: what the walks ask of the top -/
noncomputable def q0 : Program := { q1 with main := { q1.main with body := [] } }
noncomputable def loose0 : List Str := Str.ofString "law" :: looseW q1 loose1
abbrev TopM (mean : ExcName → Option Value) (mg mb : Str → Option Value) (h : Heap) : Prop := Top q0 loose0 mean mg mb h
/-- what a call does, from any frame: dn the depth it needs -/
def Does (w : World) (dn : Nat) (f : Addr) (args : List Value) (news : Led) (Post : Value → Led → Prop) : Prop :=
  ∀ (dp un : Nat) (gd : Option (List Code)) (cn : Str) (nm : List (Str × NameKind)) (ig ic : Bool) (mo : List (Str × Const)) (a : Addr) (ccd : Value) (cl : List (Str × Addr)) (outer : List Env) (A₀ : Around) (base h₀ : Heap) (L : Addr) (m : Str → Option Value) (s : Shared)
    (mean : ExcName → Option Value) (mg mb : Str → Option Value) (Q E : Value → Shared → Prop),
    Below A₀ base outer h₀ → Fr h₀ L s.heap m → (K w.params).In h₀ → News h₀ L s.heap news → TopM mean mg mb h₀ →
    (K w.params).In base → TopM mean mg mb base → KtsDicts (frs outer) h₀ →
    dp + dn < recursionLimit → un + 20 * dn < cLine →
    (∀ r h' g' tk' news', KtsTurn (frs outer) h₀ g' → Below A₀ base outer g' → Fr g' L h' m → (K w.params).In g' → TopM mean mg mb g' → KtsDicts (frs outer) g' → News g' L h' news' → Post r news' →
      Q r { s with heap := h', toks := tk' }) →
    wpAny (model PySem.Challenge.rw_je0043_01.row.toRowW.1 w) (ktrTop dp un gd cn ⟨.function, nm, ig, ic, mo⟩ L a ccd cl outer) (call (.ref f) args) Q E s
abbrev hsh (w : World) (x : PySem.Str) : Int := PyData.keyHash w.params x
abbrev cTop0 (dp un : Nat) (gd : Option (List Code)) (outer : List Env) : Around := { handled := none, depth := dp, frames := some outer, guards := gd, units := un }
/-- how a body may end -/
def Ends (outer : List Env) (g : Heap) (L : Addr) (s : Shared) (Post : Value → Led → Prop) (fl : Flow) (s' : Shared) : Prop :=
  ∃ g' h' tk' m' led', s' = { s with heap := h', toks := tk' } ∧ KtsTurn (frs outer) g g' ∧ Fr g' L h' m' ∧ News g' L h' led' ∧ Post (match fl with | .ret v => v | _ => .none) led'
/-- what a body does -/
def Body (w : World) (dn : Nat) (qual : Str) (scope : Scope) (f : Addr) (cdv : Value) (body : List Stmt) (m : Str → Option Value) (news : Led) (Post : Value → Led → Prop) : Prop :=
  ∀ (dp un : Nat) (gd : Option (List Code)) (outer : List Env) (base g : Heap) (L : Addr) (s : Shared) (mean : ExcName → Option Value) (mg mb : Str → Option Value),
    Below (cTop0 dp un gd outer) base outer g → Fr g L s.heap m → (K w.params).In g → News g L s.heap news → TopM mean mg mb g →
    (K w.params).In base → TopM mean mg mb base → KtsDicts (frs outer) g → (∀ p ∈ news, p.1 < L) → dp + dn < recursionLimit → un + 20 * dn < cLine →
    wpAny (model PySem.Challenge.rw_je0043_01.row.toRowW.1 w) ((cTop0 dp un gd outer).deeper (envOf qual scope L f cdv)) (execs body (envOf qual scope L f cdv))
      (Ends outer g L s Post) (fun _ _ => False) s
theorem does_of {w : World} {dn : Nat} {f : Addr} {args : List Value} {news : Led} {Post : Value → Led → Prop} {name qual : Str} {params : Arguments} {body : List Stmt} {scope : Scope} {dV kV doc pm cdv ct oc : Value} {an od : Option Addr} {osl : Array (Option Value)} {binds : List (Str × Value)}
    (ho : (K w.params).lookup f = some ⟨oc, od, .func (fnOf name qual params body scope dV kV doc pm an cdv ct), osl⟩) (hcd : codeIn (K w.params) cdv qual = true)
    (hbind : ∀ s, BindsTo s (fnOf name qual params body scope dV kV doc pm an cdv ct) ⟨args, []⟩ binds) (hloc : ∀ y ∈ binds, scope.names.lookup y.1 = some .local)
    (hco : scope.isCoroutine = false) (hgen : scope.isGenerator = false) (hk : scope.kind = .function) (hcell : ∀ x ∈ scope.names, x.2 ≠ .cell)
    (hdn : 0 < dn)
    (h : Body w dn qual scope f cdv body (fun y => binds.reverse.lookup y) news Post) : Does w dn f args news Post := by
  intro dp un gd cn nm ig ic mo a ccd cl outer A₀ base h₀ L m s mean mg mb Q E B F X₀ N T XB TB D hdp hun hret
  refine wpAny_call ?_
  have X := X₀.keeps F.keep
  obtain ⟨oL, es, ep, hL, hLd, hLk, hLf⟩ := F.ns
  have hN : ∀ (sl : Array (Option Value)) h', h'.get? L = some { oL with slots := sl } → Heap.Ns h' L m := fun sl h' e => ⟨_, es, ep, e, hLd, hLk, hLf⟩
  have nL : L ∉ news.map (·.1) := fun q => by
    obtain ⟨p, hp, e⟩ := List.mem_map.mp q
    exact (N p hp).2.1 e
  have hLg := hideAll_get (news.map (·.1)) hL nL
  obtain ⟨FG, BG, st, _⟩ := groundX (A := ktrTop dp un gd cn ⟨.function, nm, ig, ic, mo⟩ L a ccd cl outer) (R := fun _ _ => True) B F N rfl rfl rfl
  refine codeAny_call_def (fd := fnOf name qual params body scope dV kV doc pm an cdv ct) (body := body) (binds := binds) (by show dp < recursionLimit; omega) (X _ _ ho) rfl (T.nolimit.keeps F.keep) (codeRec_of X hcd) rfl (hbind s) hcell hloc (fun h₁ hns hk₁ => ?_) hco hgen hk
  refine wpAny_mono (h dp un gd (envX cn ⟨.function, nm, ig, ic, mo⟩ L a ccd cl :: outer) base (hideAll s.heap (news.map (·.1))) s.heap.objs.size { s with heap := h₁, toks := s.toks + binds.length } mean mg mb BG
    ⟨hns, fun b o e => hk₁ b o (of_hideAll _ e), Nat.le_of_eq (hideAll_size _ _)⟩ (X₀.keeps (fun b o e => st b o e))
    (fun p hp => ⟨hk₁ _ _ (N p hp).1, Nat.ne_of_lt (Heap.lt_size (N p hp).1), hideAll_none _ (List.mem_map_of_mem hp)⟩) (T.keeps (fun b o e => st b o e)) XB TB (fun b hb => by
      rcases List.mem_filterMap.mp hb with ⟨env, he, hf⟩
      rcases List.mem_cons.mp he with rfl | he
      · exact (Option.some.inj hf : L = b) ▸ ⟨oL, es, ep, hLg, hLd⟩
      · obtain ⟨o, es', n', ho', hd'⟩ := D b (List.mem_filterMap.mpr ⟨env, he, hf⟩)
        exact ⟨o, es', n', st b o ho', hd'⟩) (fun p hp => Heap.lt_size (N p hp).1) hdp hun) (fun fl s' hl => ?_) fun _ _ y => y.elim
  obtain ⟨g', h', tk', m', led', rfl, T', F', N', hp⟩ := hl
  have nL₀ : h₀.get? L = none := kts_self F
  obtain ⟨sl, hs⟩ := T'.up hLg
  have mem : ∀ b, b ∈ frs (envX cn ⟨.function, nm, ig, ic, mo⟩ L a ccd cl :: outer) → b = L ∨ b ∈ frs outer := fun b hb => by
    obtain ⟨env, he, hf⟩ := List.mem_filterMap.mp hb
    rcases List.mem_cons.mp he with rfl | he
    · exact .inl (Option.some.inj hf).symm
    · exact .inr (List.mem_filterMap.mpr ⟨env, he, hf⟩)
  obtain ⟨T₁, S₁⟩ := kts_turn_at (h := h') (fs := frs outer) (g := h₀)
    (fun b hb => by
      obtain ⟨_, o, ho', _⟩ := B.frames.mem hb
      exact ⟨o, ho'⟩)
    (fun b o e nmem => F'.keep b o (T'.other b o (st b o e) (fun q => by
      rcases mem b q with z | z
      · rw [z, nL₀] at e
        cases e
      · exact nmem z)))
    (fun b o e hm => by
      obtain ⟨sl', hs'⟩ := T'.up (st b o e)
      exact ⟨sl', F'.keep _ _ hs'⟩)
  have B₃ : Below A₀ base outer (ktsHeap h' (frs outer) h₀) := ⟨B.stack, fun b o e => T₁.other b o (B.stays b o e) (fun hm => by
    rw [(B.frames.mem hm).1] at e
    cases e), B.frames.of_keeps fun b o e _ => by
    obtain ⟨sl', hs'⟩ := T₁.up e
    exact ⟨_, hs', rfl⟩⟩
  refine hret _ _ _ _ led' T₁ B₃ ⟨hN sl _ (F'.keep _ _ hs), S₁, by rw [T₁.size]; exact F.above⟩ (XB.keeps B₃.stays) (TB.keeps B₃.stays) (D.turn T₁) (fun p hp => ⟨(N' p hp).1, fun q => ?_, ?_⟩) hp
  · have := (N' p hp).2.2; rw [q, hs] at this; cases this
  · refine T₁.none_ _ ?_
    cases q : h₀.get? p.1 with
    | none => rfl
    | some o =>
      obtain ⟨sl', hs'⟩ := T'.up (st _ _ q)
      have := (N' p hp).2.2
      rw [hs'] at this
      cases this
/-- the same, where the ground stays -/
def DoesP (w : World) (dn : Nat) (f : Addr) (args : List Value) (news : Led) (Post : Value → Led → Prop) : Prop :=
  ∀ (dp un : Nat) (gd : Option (List Code)) (cn : Str) (nm : List (Str × NameKind)) (ig ic : Bool) (mo : List (Str × Const)) (a : Addr) (ccd : Value) (cl : List (Str × Addr)) (outer : List Env) (A₀ : Around) (base h₀ : Heap) (L : Addr) (m : Str → Option Value) (s : Shared)
    (mean : ExcName → Option Value) (mg mb : Str → Option Value) (Q E : Value → Shared → Prop),
    Below A₀ base outer h₀ → Fr h₀ L s.heap m → (K w.params).In h₀ → News h₀ L s.heap news → TopM mean mg mb h₀ →
    dp + dn < recursionLimit → un + 20 * dn < cLine →
    (∀ r h' tk' news', Fr h₀ L h' m → News h₀ L h' news' → Post r news' → Q r { s with heap := h', toks := tk' }) →
    wpAny (model PySem.Challenge.rw_je0043_01.row.toRowW.1 w) (ktrTop dp un gd cn ⟨.function, nm, ig, ic, mo⟩ L a ccd cl outer) (call (.ref f) args) Q E s
def EndsP (g : Heap) (L : Addr) (s : Shared) (Post : Value → Led → Prop) (fl : Flow) (s' : Shared) : Prop :=
  ∃ h' tk' m' led', s' = { s with heap := h', toks := tk' } ∧ Fr g L h' m' ∧ News g L h' led' ∧ Post (match fl with | .ret v => v | _ => .none) led'
def BodyP (w : World) (dn : Nat) (qual : Str) (scope : Scope) (f : Addr) (cdv : Value) (body : List Stmt) (m : Str → Option Value) (news : Led) (Post : Value → Led → Prop) : Prop :=
  ∀ (dp un : Nat) (gd : Option (List Code)) (outer : List Env) (base g : Heap) (L : Addr) (s : Shared) (mean : ExcName → Option Value) (mg mb : Str → Option Value),
    Below (cTop0 dp un gd outer) base outer g → Fr g L s.heap m → (K w.params).In g → News g L s.heap news → TopM mean mg mb g →
    (∀ p ∈ news, p.1 < L) → dp + dn < recursionLimit → un + 20 * dn < cLine →
    wpAny (model PySem.Challenge.rw_je0043_01.row.toRowW.1 w) ((cTop0 dp un gd outer).deeper (envOf qual scope L f cdv)) (execs body (envOf qual scope L f cdv))
      (EndsP g L s Post) (fun _ _ => False) s
theorem doesP_of {w : World} {dn : Nat} {f : Addr} {args : List Value} {news : Led} {Post : Value → Led → Prop} {name qual : Str} {params : Arguments} {body : List Stmt} {scope : Scope} {dV kV doc pm cdv ct oc : Value} {an od : Option Addr} {osl : Array (Option Value)} {binds : List (Str × Value)}
    (ho : (K w.params).lookup f = some ⟨oc, od, .func (fnOf name qual params body scope dV kV doc pm an cdv ct), osl⟩) (hcd : codeIn (K w.params) cdv qual = true)
    (hbind : ∀ s, BindsTo s (fnOf name qual params body scope dV kV doc pm an cdv ct) ⟨args, []⟩ binds) (hloc : ∀ y ∈ binds, scope.names.lookup y.1 = some .local)
    (hco : scope.isCoroutine = false) (hgen : scope.isGenerator = false) (hk : scope.kind = .function) (hcell : ∀ x ∈ scope.names, x.2 ≠ .cell)
    (hdn : 0 < dn)
    (h : BodyP w dn qual scope f cdv body (fun y => binds.reverse.lookup y) news Post) : DoesP w dn f args news Post := by
  intro dp un gd cn nm ig ic mo a ccd cl outer A₀ base h₀ L m s mean mg mb Q E B F X₀ N T hdp hun hret
  refine wpAny_call ?_
  have X := X₀.keeps F.keep
  obtain ⟨FG, BG, st, lv⟩ := groundX (A := ktrTop dp un gd cn ⟨.function, nm, ig, ic, mo⟩ L a ccd cl outer) (R := fun r s' => match r with | .ok (.ret v) => Q v s' | .ok _ => False | .error e => E e s') B F N rfl rfl rfl
  refine codeAny_call_def (fd := fnOf name qual params body scope dV kV doc pm an cdv ct) (body := body) (binds := binds) (by show dp < recursionLimit; omega) (X _ _ ho) rfl (T.nolimit.keeps F.keep) (codeRec_of X hcd) rfl (hbind s) hcell hloc (fun h₁ hns hk₁ => ?_) hco hgen hk
  refine wpAny_mono (h dp un gd (envX cn ⟨.function, nm, ig, ic, mo⟩ L a ccd cl :: outer) base (hideAll s.heap (news.map (·.1))) s.heap.objs.size { s with heap := h₁, toks := s.toks + binds.length } mean mg mb BG
    ⟨hns, fun b o e => hk₁ b o (of_hideAll _ e), Nat.le_of_eq (hideAll_size _ _)⟩ (X₀.keeps (fun b o e => st b o e))
    (fun p hp => ⟨hk₁ _ _ (N p hp).1, Nat.ne_of_lt (Heap.lt_size (N p hp).1), hideAll_none _ (List.mem_map_of_mem hp)⟩) (T.keeps (fun b o e => st b o e)) (fun p hp => Heap.lt_size (N p hp).1) hdp hun) (fun fl s' hl => ?_) fun _ _ y => y.elim
  obtain ⟨h', tk', m', led', rfl, F', N', hp⟩ := hl
  exact lv _ _ (leaveK_ F' N' fun F'' N'' => hret _ _ _ _ F'' N'' hp)
/-- a table of the ledger: names and what they mean -/
abbrev SDict (o : Obj) (kvs : List (Str × Value)) : Prop := ∃ w : World, o.IsDictOf (PySem.strKind PM w) kvs
/-- the drawing table -/
abbrev wKvs (r : Addr) (i : Int) (t : Tok) : List (Str × Value) := [("row", .ref r), ("at", .int i t)]
/-- the drawing table: its object -/
def WD (w : World) (o : Obj) (r : Addr) : Prop := ∃ i t, 0 ≤ i ∧ o.IsDictOf (PySem.strKind PM w) (wKvs r i t)
/-- the drawn row stands in the ledger -/
def RowIn (news : Led) (r : Addr) : Prop := ∃ (vs : List Value) (n : Nat), (r, listOf vs.toArray n) ∈ news ∧ (∀ v ∈ vs, ∃ k t, v = .int k t) ∧ vs.length ≤ 100
theorem RowIn.cons {news : Led} {r : Addr} {p : Addr × Obj} (h : RowIn news r) : RowIn (p :: news) r := let ⟨vs, n, a, b⟩ := h; ⟨vs, n, List.mem_cons_of_mem _ a, b⟩
theorem RowIn.mono {news news' : Led} {r : Addr} (h : RowIn news r) (hs : ∀ p ∈ news, p ∈ news') : RowIn news' r := let ⟨vs, n, a, b⟩ := h; ⟨vs, n, hs _ a, b⟩
/-- one entry taken out of a ledger -/
inductive Take (x : Addr × Obj) : Led → Led → Prop
  | head {l} : Take x (x :: l) l
  | tail {y l l'} : Take x l l' → Take x (y :: l) (y :: l')
theorem Take.mem {x : Addr × Obj} {l l' : Led} (h : Take x l l') : ∀ p ∈ x :: l', p ∈ l := by
  induction h with
  | head => exact fun _ h => h
  | tail _ ih =>
    intro p hp
    rcases List.mem_cons.mp hp with e | hp
    · exact List.mem_cons_of_mem _ (ih _ (e ▸ List.mem_cons_self))
    · rcases List.mem_cons.mp hp with e | hp
      · exact e ▸ List.mem_cons_self
      · exact List.mem_cons_of_mem _ (ih _ (List.mem_cons_of_mem _ hp))
theorem newsSub {h₀ h : Heap} {L : Addr} {news news' : Led} (N : News h₀ L h news) (hs : ∀ p ∈ news', p ∈ news) : News h₀ L h news' := fun p hp => N p (hs p hp)
theorem led_list {h₀ h : Heap} {L l : Addr} {news : Led} {its : Array Value} {n : Nat} (N : News h₀ L h news) (hm : (l, listOf its n) ∈ news) : h.IsList l its := ⟨_, N.get hm, rfl, n, rfl⟩
theorem allLt_ne {d : Addr} {l : Led} (h : AllLt d l) : ∀ p ∈ l, p.1 ≠ d := by
  induction l with
  | nil => exact fun p hp => nomatch hp
  | cons q r ih =>
    intro p hp
    unfold AllLt at h
    cases hp with
    | head => exact Nat.ne_of_lt h.1
    | tail _ hp => exact ih h.2 p hp
section
variable {prog : Program} {w : World} {A : Around} {E : Value → Shared → Prop} {s : Shared} {h₀ : Heap} {L l : Addr} {m : Str → Option Value} {news : Led} {its : Array Value} {n : Nat}
theorem len_led {Q : Value → Shared → Prop} (N : News h₀ L s.heap news) (hm : (l, listOf its n) ∈ news) (hz : its.size ≤ 1000000) (h : Q (.int its.size (s.toks + 1)) { s with toks := s.toks + 1 + 1 }) :
    wpAny (model prog w) A (call (.builtin "len") [.ref l]) Q E s := call_len_list (led_list N hm) (by omega) h
theorem item_led {value slice : PySem.Expr} {k : Int} {u : Tok} {Q : Value → Shared → Prop} (N : News h₀ L s.heap news) (hm : (l, listOf its n) ∈ news)
    (h0 : 0 ≤ k) (h1 : k < its.size) (hfit : k < 2 ^ 63) (h : ∀ v, its[k.toNat]? = some v → Q v s)
    (hs : subscripted slice false (.ref l) (.int k u) = operate [.ref l, .int k u] (getItem (.ref l) (.int k u)) := by with_unfolding_all rfl) :
    wpAny (model prog w) A (subscriptTail value slice (.ref l) (.int k u)) Q E s := by
  have hk : k.toNat < its.size := by omega
  have e : its[k.toNat]? = some its[k.toNat] := Array.getElem?_eq_getElem hk
  exact tail_any (led_list N hm).typeIs slot_list_getitem.lookup (wpAny_getItem_list (led_list N hm) h0 hfit e (h _ e)) hs
theorem item_int {value slice : PySem.Expr} {vs : List Value} {k : Int} {u : Tok} {Q : Value → Shared → Prop} (N : News h₀ L s.heap news) (hm : (l, listOf vs.toArray n) ∈ news) (hv : ∀ v ∈ vs, ∃ k t, v = .int k t)
    (h0 : 0 ≤ k) (h1 : k < (vs.length : Int)) (hz : vs.length ≤ 1000000) (h : ∀ j t, Q (.int j t) s)
    (hs : subscripted slice false (.ref l) (.int k u) = operate [.ref l, .int k u] (getItem (.ref l) (.int k u)) := by with_unfolding_all rfl) :
    wpAny (model prog w) A (subscriptTail value slice (.ref l) (.int k u)) Q E s :=
  item_led N hm h0 (by simpa using h1) (by omega) (fun v hv' => by
    obtain ⟨j, t, rfl⟩ := hv v (by
      have := List.mem_of_getElem? (l := vs) (i := k.toNat) (a := v) (by simpa using hv')
      exact this)
    exact h j t) hs
end
section
variable {prog : Program} {w : World} {A : Around} {h₀ : Heap} {L : Addr} {m : Str → Option Value} {env : Env} {elt : PySem.Expr} {x : Str} {scope : Scope} {cl : List (Str × Addr)} {s : Shared} {S : Led → Prop} {P : Nat → Value → Prop} {Fin : List Value → Led → Prop} {news : Led}
theorem comp_inv {n : Nat} (R : Nat → List Value → Led → Prop) (r0 : R 0 [] news)
    (turn : ∀ i v ys news I oI C oC D m₂ h tk (E' : Value → Shared → Prop), i < n → P i v → R i ys news → LCg.NsObj oC m₂ → m₂ x = some v → Fr h₀ L h m → News h₀ L h ((I, oI) :: (C, oC) :: (D, LCg.lst ys) :: news) → LCg.Off3 I C D news → ((@Ne Nat I C) ∧ (@Ne Nat I D) ∧ (@Ne Nat C D)) →
      wpAny (model prog w) A (eval elt (compEnvC scope cl C env)) (LCg.CompEnd h₀ L m { s with heap := h, toks := tk } I oI C oC D (LCg.lst ys) S (fun y news' => R (i + 1) (ys ++ [y]) news')) E' { s with heap := h, toks := tk })
    (fin : ∀ ys news, R n ys news → Fin ys news) : LCg.CompRest prog w A h₀ L m env elt x scope cl s S P Fin n 0 [] news := by
  have key : ∀ (j i : Nat) (ys : List Value) (news : Led), i + j = n → R i ys news → LCg.CompRest prog w A h₀ L m env elt x scope cl s S P Fin j i ys news := by
    intro j
    induction j with
    | zero => intro i ys news hi hr; obtain rfl : i = n := by omega
              exact LCg.CompRest.zero (fin ys news hr)
    | succ j ih =>
      intro i ys news hi hr
      refine LCg.CompRest.succ ?_
      intro v I oI C oC D m₂ h tk E' hv hC hx F N off ne
      refine wpAny_mono (turn i v ys news I oI C oC D m₂ h tk E' (by omega) hv hr hC hx F N off ne) (fun y s₂ hq => ?_) fun _ _ e => e
      obtain ⟨h', tk', nw, e, F', N', off', hS, hr'⟩ := hq
      exact ⟨h', tk', nw, e, F', N', off', hS, ih (i + 1) _ nw (by omega) hr'⟩
  exact key n 0 [] news (by omega) r0
end
/-- the names -/
def kN (k : Int) : PySem.Str := Str.ofString "k" ++ Str.ofString (toString k)
def pN (k : Int) : PySem.Str := Str.ofString "p" ++ Str.ofString (toString k)
/-- a role's names, by number -/
structure Good5 (ks : List Int) : Prop where
  nodup : ks.Nodup
  len : ks.length ≤ 5
  bound : ∀ k ∈ ks, 0 ≤ k ∧ k < 5
theorem role_good (v v2 : Int) (h0 : 0 ≤ v) (h1 : v < 5) : Good5 (List.take v2.toNat (List.drop v.toNat [0, 1, 2, 3, 4] ++ List.take v.toNat [0, 1, 2, 3, 4])) := by
  have key : ∀ j : Nat, j < 5 → (List.drop j [(0 : Int), 1, 2, 3, 4] ++ List.take j [0, 1, 2, 3, 4]).Nodup ∧ (List.drop j [(0 : Int), 1, 2, 3, 4] ++ List.take j [0, 1, 2, 3, 4]).length = 5 ∧ ∀ k ∈ List.drop j [(0 : Int), 1, 2, 3, 4] ++ List.take j [0, 1, 2, 3, 4], 0 ≤ k ∧ k < 5 := by decide
  obtain ⟨a, b, c⟩ := key v.toNat (by omega)
  exact ⟨a.sublist (List.take_sublist _ _), by have := (List.take_sublist v2.toNat (List.drop v.toNat [(0 : Int), 1, 2, 3, 4] ++ List.take v.toNat [0, 1, 2, 3, 4])).length_le; omega, fun k hk => c k (List.mem_of_mem_take hk)⟩
/-- a list of the ledger that says some names -/
def NamesIn (news : Led) (l : Addr) (ks : List Int) : Prop := ∃ (vs : List Value) (n : Nat), (l, listOf vs.toArray n) ∈ news ∧ StrsAre vs (ks.map kN)
theorem endsP {g : Heap} {L : Addr} {s : Shared} {Post : Value → Led → Prop} {v : Value} {h' : Heap} {tk' : Nat} {m' : Str → Option Value} (led : Led) (F : Fr g L h' m') (N : News g L h' led) (hp : Post v led) :
    EndsP g L s Post (.ret v) { s with heap := h', toks := tk' } := ⟨_, _, _, _, rfl, F, N, hp⟩
theorem off1_mem {D : Addr} {l : Led} (h : LCg.Off1 D l) : ∀ p ∈ l, p.1 ≠ D := by
  induction l with
  | nil => exact fun p hp => nomatch hp
  | cons q r ih =>
    intro p hp
    cases hp with
    | head => exact h.1
    | tail _ hp => exact ih h.2 p hp
theorem kN_carried {vs : List Value} {ks : List Int} (h : StrsAre vs (ks.map kN)) : vs.length = ks.length := by rw [h.length, List.length_map]
section
variable {prog : Program} {w : World} {A : Around} {E : Value → Shared → Prop} {s : Shared} {env : Env} {L : Addr}
/-- how a turn of a loop ends -/
def TurnEndG (G : Heap → Prop) (L I : Addr) (oI : Obj) (J : (Str → Option Value) → Led → Prop) (R : Result → Shared → Prop) (s : Shared) (f : Flow) (s₃ : Shared) : Prop :=
  match f with
  | .next | .cont => ∃ g' h' tk' m' led', s₃ = { s with heap := h', toks := tk' } ∧ G g' ∧ Fr g' L h' m' ∧ News g' L h' ((I, oI) :: led') ∧ (∀ p ∈ led', p.1 ≠ I) ∧ J m' led'
  | .brk => R (.ok .next) s₃
  | .ret v => R (.ok (.ret v)) s₃
theorem turnEnd {G : Heap → Prop} {L I : Addr} {oI : Obj} {J : (Str → Option Value) → Led → Prop} {R : Result → Shared → Prop} {s : Shared} {g' h' : Heap} {tk' : Nat} {m' : Str → Option Value} {all : Led} (led' : Led) (hG : G g') (F : Fr g' L h' m') (N : News g' L h' all)
    (hs : ∀ p ∈ (I, oI) :: led', p ∈ all) (hne : ∀ p ∈ led', p.1 ≠ I) (hJ : J m' led') {f : Flow} (hf : f = .next ∨ f = .cont) : TurnEndG G L I oI J R s f { s with heap := h', toks := tk' } := by
  rcases hf with rfl | rfl
  · exact ⟨_, _, _, _, led', rfl, hG, F, newsSub N hs, hne, hJ⟩
  · exact ⟨_, _, _, _, led', rfl, hG, F, newsSub N hs, hne, hJ⟩
/-- a state of a loop -/
inductive LoopSt (G : Heap → Prop) (St : Nat → Heap → Prop) (J : Nat → (Str → Option Value) → Led → Prop) (s : Shared) (L I : Addr) (n k : Nat) (s' : Shared) : Prop
  | mk (g h' : Heap) (tk : Nat) (m' : Str → Option Value) (led : Led) (i : Nat) (_ : s' = { s with heap := h', toks := tk }) (_ : G g) (_ : St i h') (_ : Fr g L h' m') (_ : News g L h' led) (_ : ∀ p ∈ led, p.1 ≠ I) (_ : J i m' led) (_ : i ≤ n) (_ : k = n + 1 - i) : LoopSt G St J s L I n k s'
/-- the loop over any walk, with any target; its turn begins at the assignment -/
theorem forA {I : Addr} {fp : List Addr} {n : Nat} {P : Nat → Value → Prop} {St : Nat → Heap → Prop} {target : Expr} {body : List Stmt} {R : Result → Shared → Prop} {g₀ : Heap} {m₀ : Str → Option Value} {led₀ : Led}
    (W : Walks prog w A I fp [I] n P St) (hgo : ∀ i v (s' : Shared) (Q : Unit → Shared → Prop) (E' : Value → Shared → Prop), St (i + 1) s'.heap → Q () s' → wpAny (model prog w) A (letOwnedTupleGo target (.ref I) v) Q E' s')
    (src : Led) (hfp : ∀ b ∈ fp, b = I ∨ ∃ o, (b, o) ∈ src) (hIo : ∀ i h, St i h → ∃ o, h.get? I = some o ∧ o.isFreed = false)
    (G : Heap → Prop) (J : Nat → (Str → Option Value) → Led → Prop) (hL : env.locals = L)
    (hst : St 0 s.heap) (hG : G g₀) (F : Fr g₀ L s.heap m₀) (N : News g₀ L s.heap led₀) (hI : ∀ p ∈ led₀, p.1 ≠ I) (hI₀ : ∀ g, G g → g.get? I = none) (hLI : L ≠ I) (hJ : J 0 m₀ led₀)
    (hsrc : ∀ i m led, J i m led → ∀ p ∈ src, p ∈ led)
    (turn : ∀ i v g m₁ led oI h tk, i < n → P i v → G g → J i m₁ led → (∀ p ∈ led, p.1 ≠ I) → Fr g L h m₁ → News g L h ((I, oI) :: led) →
      wpAny (model prog w) A (assign target env v) (fun _ s₂ => wpAny (model prog w) A (execs body env) (TurnEndG G L I oI (J (i + 1)) R { s with heap := h, toks := tk }) (notedBy (model prog w) A env fun e s' => R (.error e) s') s₂) (notedBy (model prog w) A env fun e s' => R (.error e) s') { s with heap := h, toks := tk })
    (done : ∀ g m led h tk, G g → J n m led → Fr g L h m → News g L h led → R (.ok .next) { s with heap := h, toks := tk }) :
    codeAny (model prog w) A (.forLoop target (.ref I) body [] env) R s := by
  subst hL
  refine codeAny_forLoop_any (LoopSt G St J s env.locals I n) ?_ (n + 1) ⟨g₀, s.heap, s.toks, m₀, led₀, 0, rfl, hG, hst, F, N, hI, hJ, Nat.zero_le _, rfl⟩
  rintro k s' ⟨g, h', tk, m', led, i, rfl, hG', hst', F', N', hI', hJ', hi, rfl⟩
  have next : ∀ h₁ : Heap, (∀ b o, b ∉ [I] → h'.get? b = some o → h₁.get? b = some o) → Fr g env.locals h₁ m' ∧ News g env.locals h₁ led := fun h₁ hk₁ =>
    ⟨⟨F'.ns.at' fun o e => hk₁ _ o (by simpa using hLI) e, fun b o e => hk₁ b o (fun q => by rw [List.mem_singleton.mp q, hI₀ g hG'] at e; cases e) (F'.keep b o e), F'.above⟩, fun p hp => ⟨hk₁ _ _ (by simpa using hI' p hp) (N' p hp).1, (N' p hp).2⟩⟩
  by_cases hlt : i < n
  · refine W.item i _ _ _ hlt hst' fun v h₁ tk₁ hP hst₁ hk₁ => ?_
    obtain ⟨F₁, N₁⟩ := next h₁ hk₁
    obtain ⟨oI, hoI, _⟩ := hIo _ _ hst₁
    have NI : News g env.locals h₁ ((I, oI) :: led) := fun p hp => by
      rcases List.mem_cons.mp hp with rfl | hp
      · exact ⟨hoI, Ne.symm hLI, hI₀ g hG'⟩
      · exact N₁ p hp
    refine hgo i v _ _ _ hst₁ ?_
    have fin : ∀ s₃, (∃ g' h'' tk' m'' led', s₃ = { s with heap := h'', toks := tk' } ∧ G g' ∧ Fr g' env.locals h'' m'' ∧ News g' env.locals h'' ((I, oI) :: led') ∧ (∀ p ∈ led', p.1 ≠ I) ∧ J (i + 1) m'' led') → ∃ m, m < n + 1 - i ∧ LoopSt G St J s env.locals I n m s₃ := by
      rintro _ ⟨g', h'', tk', m'', led', rfl, hG'', F'', N'', hI'', hJ''⟩
      refine ⟨n + 1 - (i + 1), by omega, g', h'', tk', m'', led', i + 1, rfl, hG'', ?_, F'', fun p hp => N'' p (List.mem_cons_of_mem _ hp), hI'', hJ'', hlt, rfl⟩
      refine W.frame _ _ _ hst₁ fun b hb o e => ?_
      rcases hfp b hb with rfl | ⟨o', ho'⟩
      · rw [hoI] at e
        exact (Option.some.inj e) ▸ (N'' _ List.mem_cons_self).1
      · have e1 := (N₁ _ (hsrc _ _ _ hJ' _ ho')).1
        rw [e] at e1
        exact (Option.some.inj e1) ▸ (N'' _ (List.mem_cons_of_mem _ (hsrc _ _ _ hJ'' _ ho'))).1
    refine wpAny_mono (turn i v g m' led oI h₁ tk₁ hlt hP hG' hJ' hI' F₁ NI) (fun _ s₂ h₂ => wpAny_mono h₂ (fun f s₃ h₃ => ?_) fun _ _ e => e) fun _ _ e => e
    cases f with
    | ret v => exact h₃
    | brk => exact h₃
    | next => exact fin s₃ h₃
    | cont => exact fin s₃ h₃
  · have hin : i = n := by omega
    subst hin
    refine W.done _ _ _ hst' fun h₁ tk₁ hk₁ => wpAny_execs_nil ?_
    obtain ⟨F₁, N₁⟩ := next h₁ hk₁
    exact done g m' led h₁ tk₁ hG' hJ' F₁ N₁
theorem forG {I : Addr} {fp : List Addr} {n : Nat} {P : Nat → Value → Prop} {St : Nat → Heap → Prop} {x : Str} {px : Pos} {body : List Stmt} {R : Result → Shared → Prop} {g₀ : Heap} {m₀ : Str → Option Value} {led₀ : Led}
    (W : Walks prog w A I fp [I] n P St) (src : Led) (hfp : ∀ b ∈ fp, b = I ∨ ∃ o, (b, o) ∈ src) (hIo : ∀ i h, St i h → ∃ o, h.get? I = some o ∧ o.isFreed = false)
    (G : Heap → Prop) (J : Nat → (Str → Option Value) → Led → Prop) (hx : env.kindOf x = some .local) (hk : env.scope.kind = .function) (hL : env.locals = L)
    (hst : St 0 s.heap) (hG : G g₀) (F : Fr g₀ L s.heap m₀) (N : News g₀ L s.heap led₀) (hI : ∀ p ∈ led₀, p.1 ≠ I) (hI₀ : ∀ g, G g → g.get? I = none) (hLI : L ≠ I) (hJ : J 0 m₀ led₀)
    (hsrc : ∀ i m led, J i m led → ∀ p ∈ src, p ∈ led)
    (turn : ∀ i v g m₁ led oI h tk, i < n → P i v → G g → J i m₁ led → (∀ p ∈ led, p.1 ≠ I) → Fr g L h (fun y => if y = x then some v else m₁ y) → News g L h ((I, oI) :: led) →
      wpAny (model prog w) A (execs body env) (TurnEndG G L I oI (J (i + 1)) R { s with heap := h, toks := tk }) (notedBy (model prog w) A env fun e s' => R (.error e) s') { s with heap := h, toks := tk })
    (done : ∀ g m led h tk, G g → J n m led → Fr g L h m → News g L h led → R (.ok .next) { s with heap := h, toks := tk }) :
    codeAny (model prog w) A (.forLoop (.Name x px) (.ref I) body [] env) R s := by
  refine forA W (fun i v s' Q E' _ h => wpAny_pure h) src hfp hIo G J hL hst hG F N hI hI₀ hLI hJ hsrc (fun i v g m₁ led oI h tk hi hP hG' hJ' hne F' N' => ?_) done
  subst hL
  exact wpAny_assign_Name (wpAny_storeName_local hx F'.ns (fun h₂ hn hs => turn i v g m₁ led oI h₂ _ hi hP hG' hJ' hne (F'.set hn hs) (N'.set hs)) (by rw [hk]; rfl))
end
section
variable {prog : Program} {w : World} {A : Around} {E : Value → Shared → Prop} {s : Shared} {env : Env} {L : Addr}
theorem iterG_list {l : Addr} {vs : List Value} {nn : Nat} {x : Str} {px : Pos} {body : List Stmt} {R : Result → Shared → Prop} {g₀ : Heap} {m₀ : Str → Option Value} {led₀ : Led}
    (hh : A.handled = none) (F : Fr g₀ L s.heap m₀) (N : News g₀ L s.heap led₀) (hm : (l, listOf vs.toArray nn) ∈ led₀)
    (hx : env.kindOf x = some .local) (hk : env.scope.kind = .function) (hL : env.locals = L)
    (G : Heap → Prop) (J : Nat → (Str → Option Value) → Led → Prop) (hG : G g₀) (hGn : ∀ g, G g → ∀ a, g₀.get? a = none → g.get? a = none) (hJ : J 0 m₀ led₀)
    (hsrc : ∀ i m led, J i m led → (l, listOf vs.toArray nn) ∈ led)
    (turn : ∀ i v g m₁ led I oI h tk, vs[i]? = some v → G g → J i m₁ led → (∀ p ∈ led, p.1 ≠ I) → Fr g L h (fun y => if y = x then some v else m₁ y) → News g L h ((I, oI) :: led) →
      wpAny (model prog w) A (execs body env) (TurnEndG G L I oI (J (i + 1)) R { s with heap := h, toks := tk }) (notedBy (model prog w) A env fun e s' => R (.error e) s') { s with heap := h, toks := tk })
    (done : ∀ g m led h tk, G g → J vs.length m led → Fr g L h m → News g L h led → R (.ok .next) { s with heap := h, toks := tk }) :
    wpAny (model prog w) A (pyIter (.ref l)) (fun it s₂ => codeAny (model prog w) A (.forLoop (.Name x px) it body [] env) R s₂) E s := by
  have hl := led_list N hm
  have hne : l ≠ s.heap.objs.size := Nat.ne_of_lt (by obtain ⟨_, e, _⟩ := hl; exact Heap.lt_size e)
  refine wpAny_pyIter_list hl ?_
  have W := Walks.list (prog := prog) (w := w) hh s.heap.objs.size l hne vs.toArray
  have hup : ∀ b o, s.heap.get? b = some o → (s.heap.push { cls := .type "list_iterator", data := .fields #[.ref l, .int 0 0] }).get? b = some o := fun b o e => Heap.get?_push_of_some _ e
  refine forG (n := vs.length) (g₀ := g₀) (m₀ := m₀) (led₀ := led₀) (by rw [List.size_toArray] at W; exact W) [(l, listOf vs.toArray nn)] (fun b hb => ?_) (fun i h st => ?_) G J hx hk hL ?_ hG (F.keeps hup) (N.grown hup) (fun p hp => Nat.ne_of_lt (Heap.lt_size (N p hp).1)) ?_ (Nat.ne_of_lt F.ns.lt) hJ ?_ ?_ ?_
  · rcases List.mem_cons.mp hb with rfl | hb
    · exact .inl rfl
    · rw [List.mem_singleton.mp hb]
      exact .inr ⟨_, List.mem_singleton.mpr rfl⟩
  · obtain ⟨⟨o, ho, hc, hd⟩, _⟩ := st
    exact ⟨o, ho, (Heap.get?_some_iff.mp ho).2⟩
  · exact ⟨⟨_, Heap.get?_push_size _ rfl, rfl, rfl⟩, hl.at fun o e => hup _ o e⟩
  · exact fun g hg => hGn g hg _ (next_is_new F)
  · intro i m led hj p hp
    rw [List.mem_singleton.mp hp]
    exact hsrc i m led hj
  · intro i v g m₁ led oI h tk hi hv hg hj hne' F' N'
    exact turn i v g m₁ led _ oI h tk (by simpa using hv) hg hj hne' F' N'
  · intro g m led h tk hg hj F' N'
    exact done g m led h tk hg hj F' N'
theorem iterG_range {r : Addr} {a b : Int} {t u v : Tok} {n : Nat} {x : Str} {px : Pos} {body : List Stmt} {R : Result → Shared → Prop} {g₀ : Heap} {m₀ : Str → Option Value} {led₀ : Led}
    (hh : A.handled = none) (F : Fr g₀ L s.heap m₀) (N : News g₀ L s.heap led₀) (hr : IsRange s.heap r a b 1 t u v) (hsm : Builtin.Range.small a b 1 = true) (hn : Builtin.Range.rangeSize a b 1 = ((n : Nat) : Int))
    (hx : env.kindOf x = some .local) (hk : env.scope.kind = .function) (hL : env.locals = L)
    (G : Heap → Prop) (J : Nat → (Str → Option Value) → Led → Prop) (hG : G g₀) (hGn : ∀ g, G g → ∀ a, g₀.get? a = none → g.get? a = none) (hJ : J 0 m₀ led₀)
    (turn : ∀ i v g m₁ led I oI h tk, i < n → (∃ t, v = .int (a + (i : Int)) t) → G g → J i m₁ led → (∀ p ∈ led, p.1 ≠ I) → Fr g L h (fun y => if y = x then some v else m₁ y) → News g L h ((I, oI) :: led) →
      wpAny (model prog w) A (execs body env) (TurnEndG G L I oI (J (i + 1)) R { s with heap := h, toks := tk }) (notedBy (model prog w) A env fun e s' => R (.error e) s') { s with heap := h, toks := tk })
    (done : ∀ g m led h tk, G g → J n m led → Fr g L h m → News g L h led → R (.ok .next) { s with heap := h, toks := tk }) :
    wpAny (model prog w) A (pyIter (.ref r)) (fun it s₂ => codeAny (model prog w) A (.forLoop (.Name x px) it body [] env) R s₂) E s := by
  refine wpAny_pyIter_range hr hsm ?_
  refine forG (n := n) (g₀ := g₀) (m₀ := m₀) (led₀ := led₀) (LCg.range_walks hh a n) [] (fun b hb => ?_) (fun i h st => ⟨_, st, rfl⟩) G J hx hk hL ?_ hG (F.keeps fun _ _ e => Heap.get?_push_of_some _ e) (N.grown fun _ _ e => Heap.get?_push_of_some _ e) (fun p hp => Nat.ne_of_lt (Heap.lt_size (N p hp).1)) ?_ (Nat.ne_of_lt F.ns.lt) hJ ?_ ?_ ?_
  · exact .inl (List.mem_singleton.mp hb)
  · show IsRangeIter _ _ _ _ _
    rw [hn]; simpa using Heap.get?_push_size _ rfl
  · exact fun g hg => hGn g hg _ (next_is_new F)
  · exact fun i m led hj p hp => nomatch hp
  · intro i v g m₁ led oI h tk hi hv hg hj hne' F' N'
    exact turn i v g m₁ led _ oI h tk hi hv hg hj hne' F' N'
  · intro g m led h tk hg hj F' N'
    exact done g m led h tk hg hj F' N'
end
/-- a body with cells -/
def BodyC (w : World) (dn : Nat) (qual : Str) (scope : Scope) (f : Addr) (cdv : Value) (body : List Stmt) (binds : List (Str × Value)) (news : Led) (Post : Value → Led → Prop) : Prop :=
  ∀ (dp un : Nat) (gd : Option (List Code)) (outer : List Env) (base g : Heap) (L : Addr) (s : Shared) (mean : ExcName → Option Value) (mg mb : Str → Option Value) (cells : Led),
    Below (cTop0 dp un gd outer) base outer g → Fr g L s.heap (bindL (envOfC qual scope L f cdv).kindOf binds fun _ => none) → (K w.params).In g → News g L s.heap (cells ++ news) → TopM mean mg mb g →
    CellsAre (bindC (envOfC qual scope L f cdv).kindOf binds fun _ => none) (cellsFrom (L + 1) scope.names []) cells →
    (∀ p ∈ news, p.1 < L) → dp + dn < recursionLimit → un + 20 * dn < cLine →
    wpAny (model PySem.Challenge.rw_je0043_01.row.toRowW.1 w) ((cTop0 dp un gd outer).deeper (envOfC qual scope L f cdv)) (execs body (envOfC qual scope L f cdv))
      (EndsP g L s Post) (fun _ _ => False) s
theorem doesP_ofC {w : World} {dn : Nat} {f : Addr} {args : List Value} {news : Led} {Post : Value → Led → Prop} {name qual : Str} {params : Arguments} {body : List Stmt} {scope : Scope} {dV kV doc pm cdv ct oc : Value} {an od : Option Addr} {osl : Array (Option Value)} {binds : List (Str × Value)}
    (ho : (K w.params).lookup f = some ⟨oc, od, .func (fnOf name qual params body scope dV kV doc pm an cdv ct), osl⟩) (hcd : codeIn (K w.params) cdv qual = true)
    (hbind : ∀ s, BindsTo s (fnOf name qual params body scope dV kV doc pm an cdv ct) ⟨args, []⟩ binds)
    (hkind : ∀ n, ∀ x ∈ binds, scope.names.lookup x.1 = some .local ∨ (scope.names.lookup x.1 = some .cell ∧ ((cellsFrom n scope.names []).lookup x.1).isSome = true))
    (hnd : ((cellsFrom 0 scope.names []).map (·.1)).Nodup)
    (hco : scope.isCoroutine = false) (hgen : scope.isGenerator = false) (hk : scope.kind = .function)
    (hdn : 0 < dn)
    (h : BodyC w dn qual scope f cdv body binds news Post) : DoesP w dn f args news Post := by
  intro dp un gd cn nm ig ic mo a ccd cl outer A₀ base h₀ L m s mean mg mb Q E B F X₀ N T hdp hun hret
  refine wpAny_call ?_
  have X := X₀.keeps F.keep
  refine callX_cells (A := ktrTop dp un gd cn ⟨.function, nm, ig, ic, mo⟩ L a ccd cl outer) (env := envX cn ⟨.function, nm, ig, ic, mo⟩ L a ccd cl) B F N T.nolimit rfl rfl rfl (X _ _ ho) rfl (codeRec_of X hcd) (by show dp < recursionLimit; omega) (hbind s) hkind hnd (fun g L' h₁ tk cells FG F' N' Y B' st hlt => ?_) hco hgen hk
  refine wpAny_mono (h dp un gd (envX cn ⟨.function, nm, ig, ic, mo⟩ L a ccd cl :: outer) base g L' { s with heap := h₁, toks := tk } mean mg mb cells B' F' (X₀.keeps fun b o e => st b o e) N' (T.keeps fun b o e => st b o e) Y hlt hdp hun) (fun fl s' hl => ?_) fun _ _ y => y.elim
  obtain ⟨h', tk', m', led', rfl, F'', N'', hp⟩ := hl
  exact leaveK_ F'' N'' fun F3 N3 => hret _ _ _ _ F3 N3 hp
/-- a payload says a text -/
def DecOk (b : Array UInt8) (P : PySem.Str) : Prop :=
  ∀ (prog : Program) (w : World) (A : Around) (E : Value → Shared → Prop) (s : Shared) (t u : Tok) (Q : Value → Shared → Prop), (∀ t' k, Q (.str P t') { s with toks := k }) → wpAny (model prog w) A (call (.builtin "bytes.decode") [.bytes b t, .str "utf-8" u]) Q E s
/-- a signature object of the ledger -/
inductive IsSig (w : World) (news : Led) (x : Addr) (k : Int) (tx : PySem.Str) : Prop
  | mk (dx ud : Addr) (ou : Obj) (n : Nat) (t1 t2 t3 t4 t5 : Tok) (_ : (x, instObj 101 dx) ∈ news) (_ : (dx, dictOf [⟨hsh w "keyid", .str "keyid" t1, .str (kN k) t2⟩, ⟨hsh w "signature", .str "signature" t3, .str tx t4⟩, ⟨hsh w "unrecognized_fields", .str "unrecognized_fields" t5, .ref ud⟩] n) ∈ news) (_ : (ud, ou) ∈ news) (_ : ou.IsDictOf (PySem.strKind PM w) []) : IsSig w news x k tx
/-- the signatures: what each number's text is -/
def SigsIn (w : World) (news : Led) (sd : Addr) (sg : Int → Option PySem.Str) : Prop :=
  ∃ (o : Obj) (kvs : List (PySem.Str × Value)), (sd, o) ∈ news ∧ o.IsDictOf (PySem.strKind PM w) kvs ∧ (sd == sysModules) = false ∧
    ∀ k, 0 ≤ k → k < 5 → (sg k = none ∧ valueAt kvs (kN k) = none) ∨ ∃ tx x, sg k = some tx ∧ valueAt kvs (kN k) = some (.ref x) ∧ IsSig w news x k tx
/-- a key object of the ledger -/
inductive IsKey (w : World) (news : Led) (x : Addr) (k : Int) : Prop
  | mk (dx kv ud : Addr) (ok ou : Obj) (n : Nat) (t1 t2 t3 t4 t5 t6 t7 t8 t9 : Tok) (_ : (x, instObj 154 dx) ∈ news) (_ : (dx, dictOf [⟨hsh w "keyid", .str "keyid" t1, .str (kN k) t2⟩, ⟨hsh w "keytype", .str "keytype" t3, .str "t" t4⟩, ⟨hsh w "scheme", .str "scheme" t5, .str "s" t6⟩, ⟨hsh w "keyval", .str "keyval" t7, .ref kv⟩, ⟨hsh w "unrecognized_fields", .str "unrecognized_fields" t8, .ref ud⟩] n) ∈ news) (_ : (kv, ok) ∈ news) (_ : ok.IsDictOf (PySem.strKind PM w) [("public", .str (pN k) t9)]) (_ : (kv == sysModules) = false) (_ : (ud, ou) ∈ news) (_ : ou.IsDictOf (PySem.strKind PM w) []) (_ : (ud == sysModules) = false) : IsKey w news x k
def KeysIn (w : World) (news : Led) (kd : Addr) (kn : Int → Option Addr) : Prop :=
  ∃ (o : Obj) (kvs : List (PySem.Str × Value)), (kd, o) ∈ news ∧ o.IsDictOf (PySem.strKind PM w) kvs ∧ (kd == sysModules) = false ∧
    ∀ k, 0 ≤ k → k < 5 → valueAt kvs (kN k) = (kn k).map Value.ref ∧ ∀ x, kn k = some x → IsKey w news x k
/-- the right text -/
def rT (P : PySem.Str) (k : Int) : PySem.Str := Str.ofString "p" ++ Str.ofString (toString k) ++ Str.ofString ":" ++ P
abbrev Sh2 (n1 n2 : PySem.Str) (a b : Option Value) (m : PySem.Str → Option Value) : PySem.Str → Option Value := fun y => if y = n1 then a else if y = n2 then b else m y
theorem sh2_start (n1 n2 : PySem.Str) (m : PySem.Str → Option Value) : m = Sh2 n1 n2 (m n1) (m n2) m := by
  funext y
  unfold Sh2
  split
  · rename_i h; rw [h]
  · split
    · rename_i h; rw [h]
    · rfl
theorem sh2_set1 (n1 n2 : PySem.Str) (a b : Option Value) (v : Value) (m : PySem.Str → Option Value) : (fun y => if y = n1 then some v else Sh2 n1 n2 a b m y) = Sh2 n1 n2 (some v) b m := by
  funext y; by_cases h1 : y = n1
  · simp [Sh2, h1]
  · simp [Sh2, h1]
theorem sh2_set2 {n1 n2 : PySem.Str} (hn : n2 ≠ n1) (a b : Option Value) (v : Value) (m : PySem.Str → Option Value) : (fun y => if y = n2 then some v else Sh2 n1 n2 a b m y) = Sh2 n1 n2 a (some v) m := by
  funext y; by_cases h2 : y = n2
  · simp [Sh2, h2, hn]
  · simp [Sh2, h2]
theorem strs_at {vs : List Value} {xs : List PySem.Str} (h : StrsAre vs xs) : ∀ {i : Nat} {v : Value}, vs[i]? = some v → ∃ x t, v = .str x t ∧ xs[i]? = some x := by
  induction h with
  | nil => intro i v hv; simp at hv
  | cons x t _ ih =>
    intro i v hv
    cases i with
    | zero => exact ⟨x, t, by simpa using hv.symm, by simp⟩
    | succ i => simpa using ih (by simpa using hv)
theorem names_at {vs : List Value} {ks : List Int} (h : StrsAre vs (ks.map kN)) {i : Nat} {v : Value} (hv : vs[i]? = some v) : ∃ k t, v = .str (kN k) t ∧ ks[i]? = some k := by
  obtain ⟨x, t, e, hx⟩ := strs_at h hv
  rw [List.getElem?_map] at hx
  cases hk : ks[i]? with
  | none => rw [hk] at hx; cases hx
  | some k => rw [hk] at hx; exact ⟨k, t, by rw [e]; congr 1; exact (Option.some.inj hx).symm, rfl⟩
theorem isSome_of {o : Option Value} {v : Value} (h : o = some v) : o.isSome = true := by rw [h]; rfl
theorem isNone_of {o : Option Value} (h : o = none) : o.isSome = false := by rw [h]; rfl
theorem five {P : Int → Prop} (h : P 0 ∧ P 1 ∧ P 2 ∧ P 3 ∧ P 4 ∧ P 5) : ∀ k : Int, 0 ≤ k → k < 6 → P k := by
  intro k h0 h1
  obtain ⟨a, b, c, d, e, f⟩ := h
  have : k = 0 ∨ k = 1 ∨ k = 2 ∨ k = 3 ∨ k = 4 ∨ k = 5 := by omega
  rcases this with rfl | rfl | rfl | rfl | rfl | rfl <;> assumption
theorem kN_tail : ∀ k : Int, 0 ≤ k → k < 6 → Txt.slice (kN k) (some 1) none = Str.ofString (toString k) := five (by decide +kernel)
theorem kN_len : ∀ k : Int, 0 ≤ k → k < 6 → (kN k).length ≤ sizeLine := five (by rw [sizeLine_eq]; decide +kernel)
section
variable {prog : Program} {w : World} {A : Around} {E : Value → Shared → Prop} {s : Shared} {h₀ : Heap} {L : Addr} {m : Str → Option Value} {news : Led} {t : Tok}
theorem name_tail {value slice : PySem.Expr} {k : Int} {Q : Value → Shared → Prop} {ui : Tok} (hF : Fr h₀ L s.heap m) (hN : News h₀ L s.heap news) (h0 : 0 ≤ k) (h1 : k < 6) (h : ∀ h' t' j, Fr h₀ L h' m → News h₀ L h' news → Q (.str (Str.ofString (toString k)) t') { s with heap := h', toks := j })
    (hs : subscripted slice false (.str (kN k) t) (.ref s.heap.objs.size) = operate [.ref s.heap.objs.size, .str (kN k) t] (getItem (.str (kN k) t) (.ref s.heap.objs.size)) := by with_unfolding_all rfl)
    (ht : ∀ r, letTemporaryGo value (.str (kN k) t) r = pure () := by intro _; with_unfolding_all rfl) :
    wpAny (model prog w) A (subscriptTail value slice (.str (kN k) t) (.ref s.heap.objs.size)) Q E { s with heap := s.heap.push { cls := .type "slice", data := .fields #[.int 1 ui, .none, .none] } } :=
  slice_strN_sn hF hN (fun h' t' j a b => by rw [kN_tail k h0 h1]; exact h h' t' j a b) hs ht (kN_len k h0 h1)
end
theorem filter_len {ys : List Value} {ks : List Int} {f : Int → Bool} {i : Nat} (h : StrsAre ys (((ks.take i).filter f).map kN)) (h5 : Good5 ks) : ys.length ≤ 5 := by
  have a := h.length
  rw [List.length_map] at a
  have b := (List.filter_sublist (p := f) (l := ks.take i)).length_le
  have c := (List.take_sublist i ks).length_le
  have d := h5.len
  omega
theorem filter_step {ys : List Value} {ks : List Int} {f : Int → Bool} {i : Nat} {k : Int} {t : Tok} (h : StrsAre ys (((ks.take i).filter f).map kN)) (hk : ks[i]? = some k) (hf : f k = true) : StrsAre (ys ++ [.str (kN k) t]) (((ks.take (i + 1)).filter f).map kN) := by
  rw [List.take_add_one, hk, List.filter_append, List.map_append]
  have : List.filter f (some k).toList = [k] := by simp [hf]
  rw [this]
  exact kct_snoc h
theorem filter_skip {ys : List Value} {ks : List Int} {f : Int → Bool} {i : Nat} {k : Int} (h : StrsAre ys (((ks.take i).filter f).map kN)) (hk : ks[i]? = some k) (hf : f k = false) : StrsAre ys (((ks.take (i + 1)).filter f).map kN) := by
  rw [List.take_add_one, hk, List.filter_append, List.map_append]
  have : List.filter f (some k).toList = [] := by simp [hf]
  rw [this]
  simpa using h
theorem sh2_both {n1 n2 : PySem.Str} (hn : n2 ≠ n1) (a b : Option Value) (r v : Value) (m : PySem.Str → Option Value) : (fun y => if y = n2 then some r else if y = n1 then some v else Sh2 n1 n2 a b m y) = Sh2 n1 n2 (some v) (some r) m := by
  funext y; by_cases h2 : y = n2
  · simp [Sh2, h2, hn]
  · by_cases h1 : y = n1
    · simp [Sh2, h1, Ne.symm hn]
    · simp [Sh2, h1, h2]
/-- is it known, and is it signed -/
def isS (kn : Int → Option Addr) (sg : Int → Option PySem.Str) (P : PySem.Str) (k : Int) : Bool := (kn k).isSome && (sg k == some (rT P k))
def isU (kn : Int → Option Addr) (sg : Int → Option PySem.Str) (P : PySem.Str) (k : Int) : Bool := (kn k).isSome && !(sg k == some (rT P k))
section
variable {kn : Int → Option Addr} {sg : Int → Option PySem.Str} {P tx : PySem.Str} {k : Int} {x : Addr}
theorem isS_no (h : kn k = none) : isS kn sg P k = false := by simp [isS, h]
theorem isU_no (h : kn k = none) : isU kn sg P k = false := by simp [isU, h]
theorem isS_none (h : sg k = none) : isS kn sg P k = false := by simp [isS, h]
theorem isU_none (hx : kn k = some x) (h : sg k = none) : isU kn sg P k = true := by simp [isU, h, hx]
theorem isS_yes (hx : kn k = some x) (h : sg k = some tx) (e : (tx == rT P k) = true) : isS kn sg P k = true := by
  have := beq_iff_eq.mp e; subst this; simp [isS, h, hx]
theorem isU_yes (h : sg k = some tx) (e : (tx == rT P k) = true) : isU kn sg P k = false := by
  have := beq_iff_eq.mp e; subst this; simp [isU, h]
theorem isS_not (h : sg k = some tx) (e : (tx == rT P k) = false) : isS kn sg P k = false := by
  have := beq_eq_false_iff_ne.mp e; simp [isS, h, this]
theorem isU_not (hx : kn k = some x) (h : sg k = some tx) (e : (tx == rT P k) = false) : isU kn sg P k = true := by
  have := beq_eq_false_iff_ne.mp e; simp [isU, h, hx, this]
end
theorem turnEndI {G : Heap → Prop} {L I : Addr} {oI : Obj} {J : (Str → Option Value) → Led → Prop} {R : Result → Shared → Prop} {s : Shared} {g' h' : Heap} {tk' : Nat} {m' : Str → Option Value} {led' : Led} {f : Flow} (hG : G g') (F : Fr g' L h' m') (N : News g' L h' ((I, oI) :: led'))
    (hne : ∀ p ∈ led', p.1 ≠ I) (hJ : J m' led') (hf : f = .next ∨ f = .cont) : TurnEndG G L I oI J R s f { s with heap := h', toks := tk' } :=
  turnEnd led' hG F N (fun _ h => h) hne hJ hf
def DoesX (Pre : Heap → Prop) (w : World) (dn : Nat) (f : Addr) (args : List Value) (news : Led) (Post : Value → Led → Prop) : Prop :=
  ∀ (dp un : Nat) (gd : Option (List Code)) (cn : Str) (nm : List (Str × NameKind)) (ig ic : Bool) (mo : List (Str × Const)) (a : Addr) (ccd : Value) (cl : List (Str × Addr)) (outer : List Env) (A₀ : Around) (base h₀ : Heap) (L : Addr) (m : Str → Option Value) (s : Shared)
    (mean : ExcName → Option Value) (mg mb : Str → Option Value) (Q E : Value → Shared → Prop),
    Below A₀ base outer h₀ → Fr h₀ L s.heap m → (K w.params).In h₀ → News h₀ L s.heap news → TopM mean mg mb h₀ → Pre h₀ →
    dp + dn < recursionLimit → un + 20 * dn < cLine →
    (∀ r h' tk' news', Fr h₀ L h' m → News h₀ L h' news' → Post r news' → Q r { s with heap := h', toks := tk' }) →
    wpAny (model PySem.Challenge.rw_je0043_01.row.toRowW.1 w) (ktrTop dp un gd cn ⟨.function, nm, ig, ic, mo⟩ L a ccd cl outer) (call (.ref f) args) Q E s
def BodyX (Pre : Heap → Prop) (w : World) (dn : Nat) (qual : Str) (scope : Scope) (f : Addr) (cdv : Value) (body : List Stmt) (m : Str → Option Value) (news : Led) (Post : Value → Led → Prop) : Prop :=
  ∀ (dp un : Nat) (gd : Option (List Code)) (outer : List Env) (base g : Heap) (L : Addr) (s : Shared) (mean : ExcName → Option Value) (mg mb : Str → Option Value),
    Below (cTop0 dp un gd outer) base outer g → Fr g L s.heap m → (K w.params).In g → News g L s.heap news → TopM mean mg mb g → Pre g →
    (∀ p ∈ news, p.1 < L) → dp + dn < recursionLimit → un + 20 * dn < cLine →
    wpAny (model PySem.Challenge.rw_je0043_01.row.toRowW.1 w) ((cTop0 dp un gd outer).deeper (envOf qual scope L f cdv)) (execs body (envOf qual scope L f cdv))
      (EndsP g L s Post) (fun _ _ => False) s
theorem doesX_of {Pre : Heap → Prop} (hpre : ∀ g g', g.StaysIn g' → Pre g → Pre g') {w : World} {dn : Nat} {f : Addr} {args : List Value} {news : Led} {Post : Value → Led → Prop} {name qual : Str} {params : Arguments} {body : List Stmt} {scope : Scope} {dV kV doc pm cdv ct oc : Value} {an od : Option Addr} {osl : Array (Option Value)} {binds : List (Str × Value)}
    (ho : (K w.params).lookup f = some ⟨oc, od, .func (fnOf name qual params body scope dV kV doc pm an cdv ct), osl⟩) (hcd : codeIn (K w.params) cdv qual = true)
    (hbind : ∀ s, BindsTo s (fnOf name qual params body scope dV kV doc pm an cdv ct) ⟨args, []⟩ binds) (hloc : ∀ y ∈ binds, scope.names.lookup y.1 = some .local)
    (hco : scope.isCoroutine = false) (hgen : scope.isGenerator = false) (hk : scope.kind = .function) (hcell : ∀ x ∈ scope.names, x.2 ≠ .cell)
    (hdn : 0 < dn)
    (h : BodyX Pre w dn qual scope f cdv body (fun y => binds.reverse.lookup y) news Post) : DoesX Pre w dn f args news Post := by
  intro dp un gd cn nm ig ic mo a ccd cl outer A₀ base h₀ L m s mean mg mb Q E B F X₀ N T hP hdp hun hret
  refine wpAny_call ?_
  have X := X₀.keeps F.keep
  obtain ⟨FG, BG, st, lv⟩ := groundX (A := ktrTop dp un gd cn ⟨.function, nm, ig, ic, mo⟩ L a ccd cl outer) (R := fun r s' => match r with | .ok (.ret v) => Q v s' | .ok _ => False | .error e => E e s') B F N rfl rfl rfl
  refine codeAny_call_def (fd := fnOf name qual params body scope dV kV doc pm an cdv ct) (body := body) (binds := binds) (by show dp < recursionLimit; omega) (X _ _ ho) rfl (T.nolimit.keeps F.keep) (codeRec_of X hcd) rfl (hbind s) hcell hloc (fun h₁ hns hk₁ => ?_) hco hgen hk
  refine wpAny_mono (h dp un gd (envX cn ⟨.function, nm, ig, ic, mo⟩ L a ccd cl :: outer) base (hideAll s.heap (news.map (·.1))) s.heap.objs.size { s with heap := h₁, toks := s.toks + binds.length } mean mg mb BG
    ⟨hns, fun b o e => hk₁ b o (of_hideAll _ e), Nat.le_of_eq (hideAll_size _ _)⟩ (X₀.keeps (fun b o e => st b o e))
    (fun p hp => ⟨hk₁ _ _ (N p hp).1, Nat.ne_of_lt (Heap.lt_size (N p hp).1), hideAll_none _ (List.mem_map_of_mem hp)⟩) (T.keeps (fun b o e => st b o e)) (hpre _ _ st hP) (fun p hp => Heap.lt_size (N p hp).1) hdp hun) (fun fl s' hl => ?_) fun _ _ y => y.elim
  obtain ⟨h', tk', m', led', rfl, F', N', hp⟩ := hl
  exact lv _ _ (leaveK_ F' N' fun F'' N'' => hret _ _ _ _ F'' N'' hp)
theorem sh2_set11 (n1 n2 : PySem.Str) (a b : Option Value) (v v' : Value) (m : PySem.Str → Option Value) : (fun y => if y = n1 then some v else if y = n1 then some v' else Sh2 n1 n2 a b m y) = Sh2 n1 n2 (some v) b m := by
  funext y; by_cases h1 : y = n1
  · simp [Sh2, h1]
  · simp [Sh2, h1]
theorem sh2_both' (n1 n2 : PySem.Str) (a b : Option Value) (r v : Value) (m : PySem.Str → Option Value) : (fun y => if y = n1 then some r else if y = n2 then some v else Sh2 n1 n2 a b m y) = Sh2 n1 n2 (some r) (some v) m := by
  funext y; by_cases h1 : y = n1
  · simp [Sh2, h1]
  · by_cases h2 : y = n2
    · simp [Sh2, h2]
    · simp [Sh2, h1, h2]
theorem ints_snoc {ys : List Value} {c : Int} {t : Tok} (h : ∀ v ∈ ys, ∃ k t, v = Value.int k t) : ∀ v ∈ ys ++ [.int c t], ∃ k t, v = Value.int k t := by
  intro v hv
  rcases List.mem_append.mp hv with hv | hv
  · exact h v hv
  · exact ⟨c, t, List.mem_singleton.mp hv⟩
theorem kinds_of {scope : Scope} {binds : List (PySem.Str × Value)} (h : (binds.all fun y => scope.names.lookup y.1 == some .local || scope.names.lookup y.1 == some .cell) = true) :
    ∀ n, ∀ x ∈ binds, scope.names.lookup x.1 = some .local ∨ (scope.names.lookup x.1 = some .cell ∧ ((cellsFrom n scope.names []).lookup x.1).isSome = true) := by
  intro n x hx
  have := List.all_eq_true.mp h x hx
  rcases Bool.or_eq_true_iff.mp this with e | e
  · exact .inl (beq_iff_eq.mp e)
  · exact .inr ⟨beq_iff_eq.mp e, cellsFrom_some _ _ _ (.inl (beq_iff_eq.mp e))⟩
section
open LCg LCt
variable {prog : Program} {w : World} {A : Around} {h₀ : Heap} {L : Addr} {m : PySem.Str → Option Value} {env : Env} {ct elt : PySem.Expr} {x : PySem.Str} {scope : Scope} {cl : List (PySem.Str × Addr)} {s : Shared} {S : Led → Prop} {P : Nat → Value → Prop} {Fin : List Value → Led → Prop} {news : Led}
theorem comp_invT {n : Nat} (R : Nat → List Value → Led → Prop) (r0 : R 0 [] news)
    (turn : ∀ i v ys news I oI C oC D m₂ h tk (E' : Value → Shared → Prop), i < n → P i v → R i ys news → NsObj oC m₂ → m₂ x = some v → Fr h₀ L h m → News h₀ L h ((I, oI) :: (C, oC) :: (D, lst ys) :: news) → Off3 I C D news → ((@Ne Nat I C) ∧ (@Ne Nat I D) ∧ (@Ne Nat C D)) →
      wpAny (model prog w) A (isTrue ct (compEnvC scope cl C env) (eval ct (compEnvC scope cl C env))) (fun ok s' => if ok = true then
        wpAny (model prog w) A (eval elt (compEnvC scope cl C env)) (CompEnd h₀ L m { s with heap := h, toks := tk } I oI C oC D (lst ys) S (fun y news' => R (i + 1) (ys ++ [y]) news')) E' s'
        else CompEnd h₀ L m { s with heap := h, toks := tk } I oI C oC D (lst ys) S (fun _ news' => R (i + 1) ys news') Value.none s') E' { s with heap := h, toks := tk })
    (fin : ∀ ys news, R n ys news → Fin ys news) : CompRestT prog w A h₀ L m env ct elt x scope cl s S P Fin n 0 [] news := by
  have key : ∀ (j i : Nat) (ys : List Value) (news : Led), i + j = n → R i ys news → CompRestT prog w A h₀ L m env ct elt x scope cl s S P Fin j i ys news := by
    intro j
    induction j with
    | zero => intro i ys news hi hr; obtain rfl : i = n := by omega
              exact CompRestT.zero (fin ys news hr)
    | succ j ih =>
      intro i ys news hi hr
      refine CompRestT.succ ?_
      intro v I oI C oC D m₂ h tk E' hv hC hx F N off ne
      refine wpAny_mono (turn i v ys news I oI C oC D m₂ h tk E' (by omega) hv hr hC hx F N off ne) (fun ok s' hq => ?_) fun _ _ e => e
      cases ok with
      | true =>
        rw [if_pos rfl] at hq ⊢
        refine wpAny_mono hq (fun y s₂ hq => ?_) fun _ _ e => e
        obtain ⟨h', tk', nw, e, F', N', off', hS, hr'⟩ := hq
        exact ⟨h', tk', nw, e, F', N', off', hS, ih (i + 1) _ nw (by omega) hr'⟩
      | false =>
        rw [if_neg (by decide)] at hq ⊢
        obtain ⟨h', tk', nw, e, F', N', off', hS, hr'⟩ := hq
        exact ⟨h', tk', nw, e, F', N', off', hS, ih (i + 1) _ nw (by omega) hr'⟩
  exact key n 0 [] news (by omega) r0
end
/-- texts of signs below 128 -/
def Ascii (x : PySem.Str) : Prop := (∀ c ∈ x.cps.toList, c < 128) ∧ x.length ≤ 100
def bytesOf (x : PySem.Str) : Array UInt8 := (x.cps.toList.map fun c => c.toUInt8).toArray
def EncOk (x : PySem.Str) : Prop :=
  ∀ (prog : Program) (w : World) (A : Around) (E : Value → Shared → Prop) (s : Shared) (t u : Tok) (Q : Value → Shared → Prop), (∀ t' k, Q (.bytes (bytesOf x) t') { s with toks := k }) → wpAny (model prog w) A (call (.builtin "str.encode") [.str x t, .str "utf-8" u]) Q E s
/-- a role object of the ledger -/
inductive IsRole (w : World) (news : Led) (r l : Addr) (th : Int) : Prop
  | mk (dr ud : Addr) (ou : Obj) (n : Nat) (t1 t2 t3 t4 : Tok) (_ : (r, instObj 262 dr) ∈ news) (_ : (dr, dictOf [⟨hsh w "keyids", .str "keyids" t1, .ref l⟩, ⟨hsh w "threshold", .str "threshold" t2, .int th t3⟩, ⟨hsh w "unrecognized_fields", .str "unrecognized_fields" t4, .ref ud⟩] n) ∈ news) (_ : (ud, ou) ∈ news) (_ : ou.IsDictOf (PySem.strKind PM w) []) : IsRole w news r l th
/-- a root object of the ledger -/
inductive IsRoot (w : World) (news : Led) (x kd rr : Addr) (v : Int) : Prop
  | mk (dx rd ud r1 r2 r3 : Addr) (ord : Obj) (n : Nat) (sv : PySem.Str) (t1 t2 t3 t4 t5 t6 t7 t8 t9 t10 t11 : Tok) (_ : (x, instObj 451 dx) ∈ news) (_ : (dx, dictOf [⟨hsh w "spec_version", .str "spec_version" t1, .str sv t2⟩, ⟨hsh w "expires", .str "expires" t3, .int 9 t4⟩, ⟨hsh w "version", .str "version" t5, .int v t6⟩, ⟨hsh w "unrecognized_fields", .str "unrecognized_fields" t7, .ref ud⟩, ⟨hsh w "consistent_snapshot", .str "consistent_snapshot" t8, .bool true⟩, ⟨hsh w "keys", .str "keys" t9, .ref kd⟩, ⟨hsh w "roles", .str "roles" t10, .ref rd⟩] n) ∈ news) (_ : (rd, ord) ∈ news) (_ : ord.IsDictOf (PySem.strKind PM w) [("timestamp", .ref r1), ("snapshot", .ref r2), ("targets", .ref r3), ("root", .ref rr)]) (_ : (rd == sysModules) = false) : IsRoot w news x kd rr v
def kvOf (kn : Int → Option Addr) (ks : List Int) : List (PySem.Str × Value) := ks.map fun k => (kN k, Value.ref ((kn k).getD 0))
/-- a result object of the ledger -/
inductive IsVR (w : World) (news : Led) (v : Addr) (th : Int) (kn : Int → Option Addr) (ss us : List Int) : Prop
  | mk (dv S U : Addr) (oS oU : Obj) (n : Nat) (t1 t2 t3 t4 : Tok) (_ : (v, instObj 299 dv) ∈ news) (_ : (dv, dictOf [⟨hsh w "threshold", .str "threshold" t1, .int th t2⟩, ⟨hsh w "signed", .str "signed" t3, .ref S⟩, ⟨hsh w "unsigned", .str "unsigned" t4, .ref U⟩] n) ∈ news) (_ : (S, oS) ∈ news) (_ : oS.IsDictOf (PySem.strKind PM w) (kvOf kn ss)) (_ : (S == sysModules) = false) (_ : (U, oU) ∈ news) (_ : oU.IsDictOf (PySem.strKind PM w) (kvOf kn us)) (_ : (U == sysModules) = false) : IsVR w news v th kn ss us
abbrev ShL (ns : List PySem.Str) (f m : PySem.Str → Option Value) : PySem.Str → Option Value := fun y => if ns.contains y = true then f y else m y
def ExSh (ns : List PySem.Str) (m₀ m : PySem.Str → Option Value) : Prop := ∃ f, m = ShL ns f m₀
theorem exsh_refl (ns : List PySem.Str) (m : PySem.Str → Option Value) : ExSh ns m m := ⟨m, by funext y; unfold ShL; split <;> rfl⟩
theorem exsh_f (ns : List PySem.Str) (f m : PySem.Str → Option Value) : ExSh ns m (ShL ns f m) := ⟨f, rfl⟩
theorem exsh_upd {ns : List PySem.Str} {m₀ m : PySem.Str → Option Value} {n : PySem.Str} {v : Value} (hn : ns.contains n = true) (h : ExSh ns m₀ m) : ExSh ns m₀ (fun y => if y = n then some v else m y) := by
  obtain ⟨f, rfl⟩ := h
  refine ⟨fun y => if y = n then some v else f y, ?_⟩
  funext y
  by_cases hy : y = n
  · subst hy; simp only [ShL, hn, if_true]
  · simp only [ShL, hy, if_false]
theorem exsh_none {ns : List PySem.Str} {m₀ m : PySem.Str → Option Value} {n : PySem.Str} (hn : ns.contains n = true) (h : ExSh ns m₀ m) : ExSh ns m₀ (fun y => if y = n then none else m y) := by
  obtain ⟨f, rfl⟩ := h
  refine ⟨fun y => if y = n then none else f y, ?_⟩
  funext y
  by_cases hy : y = n
  · subst hy; simp only [ShL, hn, if_true]
  · simp only [ShL, hy, if_false]
/-- what the ground may become -/
structure Turned (w : World) (A : Around) (base : Heap) (outer : List Env) (mean : ExcName → Option Value) (mg mb : PySem.Str → Option Value) (g g' : Heap) : Prop where
  T0 : KtsTurn (frs outer) g g'
  B : Below A base outer g'
  X : (K w.params).In g'
  T : TopM mean mg mb g'
  D : KtsDicts (frs outer) g'
theorem kvOf_skip {kn : Int → Option Addr} {ks : List Int} {f : Int → Bool} {i : Nat} {k : Int} {w : World} {o : Obj} (hk : ks[i]? = some k) (hf : f k = false)
    (h : o.IsDictOf (PySem.strKind PM w) (kvOf kn ((ks.take i).filter f))) : o.IsDictOf (PySem.strKind PM w) (kvOf kn ((ks.take (i + 1)).filter f)) := by
  have : List.filter f (ks.take (i + 1)) = List.filter f (ks.take i) := by
    rw [List.take_add_one, hk, List.filter_append]
    simp [hf]
  rw [this]; exact h
theorem kvOf_len {kn : Int → Option Addr} {ks : List Int} {f : Int → Bool} {i : Nat} (h5 : Good5 ks) : (kvOf kn ((ks.take i).filter f)).length ≤ 5 := by
  unfold kvOf
  rw [List.length_map]
  have b := (List.filter_sublist (p := f) (l := ks.take i)).length_le
  have c := (List.take_sublist i ks).length_le
  have d := h5.len
  omega
theorem fmt_any {prog : Program} {w : World} {A : Around} {E : Value → Shared → Prop} {s : Shared} {x : PySem.Str} {t : Tok} {Q : Value → Shared → Prop} (hz : x.length ≤ sizeLine) (h : ∀ t' k, Q (.str x t') { s with toks := k }) :
    wpAny (model prog w) A (formatField (.str x t) Str.empty) Q E s := wpAny_formatField_str (h t s.toks) (h _ _) (hx := hz)
theorem kN_len10 {k : Int} (h0 : 0 ≤ k) (h1 : k < 6) : (kN k).length ≤ 10 := by
  have : ∀ k : Int, 0 ≤ k → k < 6 → (kN k).length ≤ 10 := five (by decide +kernel)
  exact this k h0 h1
theorem joinParts_any {M : Model} {A : Around} {E : Value → Shared → Prop} {s : Shared} {out : PySem.Str} {Q : Value → Shared → Prop} (hz : out.length ≤ sizeLine) (h : ∀ x t' k, x.length ≤ sizeLine → Q (.str x t') { s with toks := k }) : wpAny M A (joinParts out []) Q E s :=
  joinParts_nil (h _ _ _ hz) hz
theorem rm1 {dp n a R : Nat} (h : dp + n < R) (hk : a ≤ n) : dp + a < R := Nat.lt_of_le_of_lt (Nat.add_le_add_left hk dp) h
theorem rm2 {dp n a b R : Nat} (h : dp + n < R) (hk : a + b ≤ n) : dp + a + b < R := Nat.add_assoc dp a b ▸ rm1 h hk
theorem rm3 {dp n a b c R : Nat} (h : dp + n < R) (hk : a + b + c ≤ n) : dp + a + b + c < R := by omega
theorem rm4 {dp n a b c d R : Nat} (h : dp + n < R) (hk : a + b + c + d ≤ n) : dp + a + b + c + d < R := by omega
end
section
-- MyP
theorem kN_inj : ∀ a : Int, 0 ≤ a → a < 6 → ∀ b : Int, 0 ≤ b → b < 6 → kN a = kN b → a = b :=
  five ⟨five (by decide +kernel), five (by decide +kernel), five (by decide +kernel), five (by decide +kernel), five (by decide +kernel), five (by decide +kernel)⟩
theorem kvOf_stored {kn : Int → Option Addr} {ks : List Int} {f : Int → Bool} {i : Nat} {k : Int} {x : Addr} (h5 : Good5 ks) (hk : ks[i]? = some k) (hf : f k = true) (hx : kn k = some x) :
    stored (kvOf kn ((ks.take i).filter f)) (kN k) (.ref x) = kvOf kn ((ks.take (i + 1)).filter f) := by
  have hkm := h5.bound k (List.mem_of_getElem? hk)
  have hnk : k ∉ ks.take i := fun hm => by
    obtain ⟨j, hj⟩ := List.getElem?_of_mem hm
    rw [List.getElem?_take] at hj
    split at hj
    · obtain ⟨h1, h2⟩ := List.getElem?_eq_some_iff.mp hj
      obtain ⟨h3, h4⟩ := List.getElem?_eq_some_iff.mp hk
      have := (List.getElem_inj h5.nodup).mp (h2.trans h4.symm)
      omega
    · cases hj
  have hno : (kvOf kn ((ks.take i).filter f)).any (fun kv => kv.1 = kN k) = false := by
    rw [List.any_eq_false]
    intro kv hkv
    obtain ⟨j, hj, e⟩ := List.mem_map.mp hkv
    have hj1 := (List.mem_filter.mp hj).1
    have hjb := h5.bound j (List.mem_of_mem_take hj1)
    subst e
    intro h
    have := kN_inj j hjb.1 (by omega) k hkm.1 (by omega) (of_decide_eq_true h)
    exact hnk (this ▸ hj1)
  unfold stored
  rw [hno, if_neg (by decide), List.take_add_one, hk, List.filter_append]
  have : List.filter f (some k).toList = [k] := by simp [hf]
  rw [this]
  unfold kvOf
  rw [List.map_append, List.map_cons, List.map_nil, hx]
  rfl
theorem kvOf_step {kn : Int → Option Addr} {ks : List Int} {f : Int → Bool} {i : Nat} {k : Int} {x : Addr} {w : World} {o : Obj} (h5 : Good5 ks) (hk : ks[i]? = some k) (hf : f k = true) (hx : kn k = some x)
    (h : o.IsDictOf (PySem.strKind PM w) (stored (kvOf kn ((ks.take i).filter f)) (kN k) (.ref x))) : o.IsDictOf (PySem.strKind PM w) (kvOf kn ((ks.take (i + 1)).filter f)) := by
  rw [← kvOf_stored h5 hk hf hx]; exact h
theorem gm_encode {M : Model} {A : Around} {E : Value → Shared → Prop} {s : Shared} {x : Str} {t : Tok} {pl : Sem Bool} {Q : Value × List Value → Shared → Prop} (h : Q (.builtin "str.encode", [.str x t]) s) : wpAny M A (getMethod (.str x t) "encode" pl) Q E s := by
  with_reducible exact GM.of (.str x t) (typeIs_str _ _ _) F.slot_str_encode F.type_str_encode GM.noRef h
theorem ascii_pN : ∀ k : Int, 0 ≤ k → k < 6 → Ascii (pN k) := five (by unfold Ascii; decide +kernel)
theorem bytesOf_size (x : Str) : (bytesOf x).size = x.length := by
  unfold bytesOf Str.length; simp
theorem pN_len10 : ∀ k : Int, 0 ≤ k → k < 6 → (pN k).length ≤ 10 := five (by decide +kernel)
section
open PySem.Builtin PySem.Builtin._codecs
theorem encode_tree2 (x : Str) (t u : Tok) : «str.encode» ⟨[.str x t, .str (Str.ofString "utf-8") u], []⟩ = (do ret (← encodeRoad "str.encode" (.str x t) x (Str.ofString "utf-8") none)) := by kernel_rfl
theorem forIn_twice {β : Type} (n : Nat) (init st1 : β) (f : Nat → β → Sem (ForInStep β)) (h0 : n ≠ 0 → f 0 init = pure (.yield st1)) (h1 : ∀ j, f j st1 = pure (.done st1)) : forIn [:n] init f = pure (if n = 0 then init else st1) := by
  rw [Std.Legacy.Range.forIn_eq_forIn_range']
  cases n with
  | zero => rfl
  | succ n =>
    have e : List.range' ({ start := 0, stop := n + 1, step := 1, step_pos := by decide } : Std.Legacy.Range).start ({ start := 0, stop := n + 1, step := 1, step_pos := by decide } : Std.Legacy.Range).size 1 = 0 :: List.range' 1 n 1 := by
      simp [Std.Legacy.Range.size, List.range'_succ]
    show forIn (List.range' _ _ _) init f = _
    rw [show List.range' ([:n + 1] : Std.Legacy.Range).start ([:n + 1] : Std.Legacy.Range).size ([:n + 1] : Std.Legacy.Range).step = 0 :: List.range' 1 n 1 from e, List.forIn_cons, h0 (by omega)]
    show forIn (List.range' 1 n 1) st1 f = _
    rw [if_neg (by omega)]
    cases n with
    | zero => rfl
    | succ n =>
      rw [List.range'_succ, List.forIn_cons, h1]
      rfl
theorem bad_no {c : Nat} (h : c < 128) : utf8Codec.bad c = false := by
  show Str.isSurrogate c = false
  unfold Str.isSurrogate
  simp; omega
theorem fold_ascii : ∀ (l : List Nat) (acc : Array UInt8), (∀ c ∈ l, c < 128) → l.foldl (fun acc y => acc ++ (utf8Codec.bytesOf y).toArray) acc = acc ++ (l.map fun c => c.toUInt8).toArray
  | [], acc, _ => by simp
  | c :: l, acc, h => by
    have hc : utf8Codec.bytesOf c = [c.toUInt8] := by
      show Str.utf8Of c = _
      unfold Str.utf8Of
      rw [if_pos (h c List.mem_cons_self)]
    rw [List.foldl_cons, hc, fold_ascii l _ fun d hd => h d (List.mem_cons_of_mem _ hd)]
    simp
theorem narrow_ascii (id : String) (self : Value) (x : Str) (h : ∀ c ∈ x.cps.toList, c < 128) (hl : x.length ≤ 100) : encodeNarrow id utf8Codec none self x = pure (bytesOf x) := by
  have hno : Array.findIdx? utf8Codec.bad x.cps = none := by
    rw [Array.findIdx?_eq_none_iff]
    intro c hc
    exact bad_no (h c (Array.mem_toList_iff.mpr hc))
  have hex : x.cps.extract 0 x.cps.size = x.cps := by simp
  have hfold : Array.foldl (fun acc y => acc ++ (utf8Codec.bytesOf y).toArray) #[] x.cps = bytesOf x := by
    rw [← Array.foldl_toList, fold_ascii _ _ h]
    unfold bytesOf
    simp
  unfold encodeNarrow
  dsimp only
  rw [forIn_twice x.length (0, #[], ({} : Faults)) (x.length, bytesOf x, ({} : Faults)) _ ?h0 ?h1]
  · by_cases e : x.length = 0
    · have : bytesOf x = #[] := by
        apply Array.eq_empty_of_size_eq_zero
        rw [bytesOf_size]; exact e
      rw [if_pos e, this]; rfl
    · rw [if_neg e]; rfl
  case h0 =>
    intro hn
    have hn' : 0 < x.cps.size := by unfold Str.length at hn; omega
    dsimp only
    rw [if_neg (by simp)]
    have hg : x.cps[0]? = some x.cps[0] := by simp [hn']
    rw [hg]
    dsimp only
    rw [if_pos (by rw [bad_no (h _ (Array.mem_toList_iff.mpr (Array.getElem_mem hn')))]; rfl)]
    rw [hex, hno]
    dsimp only [Option.getD]
    rw [hex, hfold]
    have e0 : 0 + x.cps.size = x.length := by unfold Str.length; omega
    rw [e0]
  case h1 =>
    intro j
    dsimp only
    have e1 : ¬ (bytesOf x).size > sizeLine := by rw [bytesOf_size, sizeLine_eq]; omega
    rw [if_neg e1]
    have e2 : x.cps[x.length]? = none := by unfold Str.length; simp
    rw [e2]
theorem encOk_of {x : Str} (h : Ascii x) : EncOk x := by
  intro prog w A E s t u Q hq
  refine wpAny_call_entry PySem.F.slot_str_encode (typeIs_str _ _ _) PySem.F.entry_str_encode ?_ (PySem.F.args_str_encode_2 _ _)
  rw [encode_tree2, encodeRoad_utf8, narrow_ascii _ _ _ h.1 h.2]
  refine wpAny_bind (wpAny_bind (wpAny_pure ?_))
  unfold mkBytes
  rw [if_neg (by rw [bytesOf_size, sizeLine_eq]; have := h.2; omega)]
  exact wpAny_bind (wpAny_fresh (wpAny_pure (wpAny_pure ⟨_, rfl, hq _ _⟩)))
end
theorem bytesOf_inj {x y : Str} (hx : Ascii x) (hy : Ascii y) (h : (bytesOf x).toList = (bytesOf y).toList) : x = y := by
  have key : ∀ l m : List Nat, (∀ c ∈ l, c < 128) → (∀ c ∈ m, c < 128) → l.map (fun c => c.toUInt8) = m.map (fun c => c.toUInt8) → l = m := by
    intro l
    induction l with
    | nil => intro m _ _ h; cases m with
      | nil => rfl
      | cons _ _ => cases h
    | cons a l ih => intro m h1 h2 h; cases m with
      | nil => cases h
      | cons b m =>
        simp only [List.map_cons, List.cons.injEq] at h
        have ha := h1 a List.mem_cons_self
        have hb := h2 b List.mem_cons_self
        have e := congrArg UInt8.toNat h.1
        simp only [Nat.toUInt8, UInt8.toNat_ofNat'] at e
        rw [ih m (fun c hc => h1 c (List.mem_cons_of_mem _ hc)) (fun c hc => h2 c (List.mem_cons_of_mem _ hc)) h.2]
        congr 1
        omega
  have := key x.cps.toList y.cps.toList hx.1 hy.1 (by simpa [bytesOf] using h)
  cases x; cases y
  simp only at this
  rw [Array.toList_inj.mp this]
theorem bytesOf_append (x y : Str) : bytesOf (x ++ y) = bytesOf x ++ bytesOf y := by
  show bytesOf (Str.append x y) = _
  unfold bytesOf Str.append
  simp
theorem rT_bytes (P : Str) (k : Int) : bytesOf (rT P k) = bytesOf (pN k) ++ [58].toArray ++ bytesOf P := by
  unfold rT
  rw [bytesOf_append, bytesOf_append]
  congr 1
theorem ascii_append {x y : Str} (hx : ∀ c ∈ x.cps.toList, c < 128) (hy : ∀ c ∈ y.cps.toList, c < 128) : ∀ c ∈ (x ++ y).cps.toList, c < 128 := by
  intro c hc
  have : c ∈ (x.cps ++ y.cps).toList := hc
  rw [Array.toList_append] at this
  rcases List.mem_append.mp this with h | h
  · exact hx c h
  · exact hy c h
theorem len_append (x y : Str) : (x ++ y).length = x.length + y.length := by
  show (x.cps ++ y.cps).size = _
  simp [Str.length]
theorem ascii_rT {P : Str} (hP : Ascii P) (hl : P.length ≤ 10) (k : Int) (h0 : 0 ≤ k) (h1 : k < 6) : Ascii (rT P k) := by
  have a := ascii_pN k h0 h1
  have b : ∀ c ∈ (Str.ofString ":").cps.toList, c < 128 := by decide +kernel
  refine ⟨ascii_append (ascii_append a.1 b) hP.1, ?_⟩
  have l := pN_len10 k h0 h1
  have e : (Str.ofString ":").length = 1 := by decide +kernel
  show ((pN k ++ Str.ofString ":") ++ P).length ≤ 100
  rw [len_append, len_append, e]
  omega
theorem want_ne {P tx : Str} {k : Int} (hP : Ascii P) (hl : P.length ≤ 10) (ht : Ascii tx) (h0 : 0 ≤ k) (h1 : k < 6) :
    ((bytesOf tx).toList != ((bytesOf (pN k) ++ [58].toArray) ++ bytesOf P).toList) = !(tx == rT P k) := by
  rw [← rT_bytes]
  by_cases h : tx = rT P k
  · subst h; simp
  · have h2 : ((bytesOf tx).toList == (bytesOf (rT P k)).toList) = false := beq_eq_false_iff_ne.mpr fun e => h (bytesOf_inj ht (ascii_rT hP hl k h0 h1) e)
    have h3 : (tx == rT P k) = false := beq_eq_false_iff_ne.mpr h
    rw [bne, h2, h3]
theorem want_ne_true {P tx : Str} {k : Int} (hP : Ascii P) (hl : P.length ≤ 10) (ht : Ascii tx) (h0 : 0 ≤ k) (h1 : k < 6) (h : ((bytesOf tx).toList != ((bytesOf (pN k) ++ [58].toArray) ++ bytesOf P).toList) = true) : (tx == rT P k) = false := by
  rw [want_ne hP hl ht h0 h1] at h; simpa using h
theorem want_ne_false {P tx : Str} {k : Int} (hP : Ascii P) (hl : P.length ≤ 10) (ht : Ascii tx) (h0 : 0 ≤ k) (h1 : k < 6) (h : ((bytesOf tx).toList != ((bytesOf (pN k) ++ [58].toArray) ++ bytesOf P).toList) = false) : (tx == rT P k) = true := by
  rw [want_ne hP hl ht h0 h1] at h; simpa using h
theorem endsT {outer : List Env} {g g' h' : Heap} {L : Addr} {s : Shared} {Post : Value → Led → Prop} {fl : Flow} {tk' : Nat} {m' : Str → Option Value} (led' : Led) (T : KtsTurn (frs outer) g g') (F : Fr g' L h' m') (N : News g' L h' led')
    (hp : Post (match fl with | .ret v => v | _ => .none) led') : Ends outer g L s Post fl { s with heap := h', toks := tk' } := ⟨g', h', tk', m', led', rfl, T, F, N, hp⟩
end
section
-- MyDec
open PySem PySem.W PyProof.Rows PySem.Calls PySem.Spec PySem.Builtin PySem.Builtin._codecs
theorem dec_tree (c : UInt8) (cs : List UInt8) (t u : Tok) : «bytes.decode» ⟨[.bytes (c :: cs).toArray t, .str (PySem.Str.ofString "utf-8") u], []⟩ = (mkStr (PySem.Str.ofString "utf-8") >>= fun _ => mkStr (PySem.Str.ofString "utf-8") >>= fun e => mkStr (PySem.Str.ofString "bytes.decode") >>= fun d =>
    call (.builtin "_codecs.decode.text") [.bytes (c :: cs).toArray t, e, .none, d] >>= fun v => ret v) := by kernel_rfl
theorem dec_tree0 (t u : Tok) : «bytes.decode» ⟨[.bytes #[] t, .str (PySem.Str.ofString "utf-8") u], []⟩ = (rule "bytes.decode.empty" >>= fun _ => retStr Str.empty) := by kernel_rfl
theorem args_dec2 (a b : Value) : argsOk "bytes.decode" ⟨[a, b], []⟩ := by
  unfold argsOk; rw [signature?_of (id := "bytes.decode") (n := ['e', 'd', 'o', 'c', 'e', 'd']) (o := ['s', 'e', 't', 'y', 'b']) (by kernel_rfl) PySem.W.FB.owner_bytes]; kernel_rfl
theorem decOk_ne {x : Str} {c : UInt8} {cs : List UInt8} {n : Nat} (hb : bytesOf x = (c :: cs).toArray) (hd : ∀ id, _codecs.runDecoder id _codecs.utf8Decoder none true (bytesOf x) 0 [] = pure (x.cps, n)) (hsz : x.length ≤ 100) : DecOk (bytesOf x) x := by
  intro prog w A E s t u Q hq
  rw [hb] at hd ⊢
  refine wpAny_call_entry PySem.W.FB.slot_bytes_decode (typeIs_bytes _ _ _) PySem.W.FB.entry_bytes_decode ?_ (args_dec2 _ _)
  rw [dec_tree]
  refine wpAny_bind (wpAny_mkStr ?_ (by decide))
  refine wpAny_bind (wpAny_mkStr ?_ (by decide))
  refine wpAny_bind (wpAny_mkStr ?_ (by decide))
  exact wpAny_bind (call_function_meets KBd.kind_text KBd.plain_text KBd.entry_text (KBd.args_text _ _ _ _) (KBd.meets_text hd) ⟨by rw [sizeLine_eq]; omega, wpAny_pure ⟨_, rfl, hq _ _⟩⟩)
theorem decOk_nil : DecOk (bytesOf Str.empty) Str.empty := by
  intro prog w A E s t u Q hq
  show wpAny _ _ (call (.builtin "bytes.decode") [.bytes #[] t, _]) _ _ _
  refine wpAny_call_entry PySem.W.FB.slot_bytes_decode (typeIs_bytes _ _ _) PySem.W.FB.entry_bytes_decode ?_ (args_dec2 _ _)
  rw [dec_tree0]
  refine wpAny_bind (wpAny_rule ?_)
  unfold retStr
  exact wpAny_bind (wpAny_mkStr (wpAny_pure ⟨_, rfl, hq _ _⟩) (by decide))
/-- the payloads -/
def PayOk (x : Str) : Prop := DecOk (bytesOf x) x ∧ Ascii x ∧ x.length ≤ 10
theorem three {P : Nat → Prop} (h : P 120 ∧ P 121 ∧ P 122) : ∀ c, c = 120 ∨ c = 121 ∨ c = 122 → P c := by
  rintro c (rfl | rfl | rfl)
  · exact h.1
  · exact h.2.1
  · exact h.2.2
theorem pay0 : PayOk ⟨[].toArray⟩ := ⟨decOk_nil, by unfold Ascii; decide +kernel, by decide +kernel⟩
theorem pay_120 : PayOk ⟨([120] : List Nat).toArray⟩ := ⟨decOk_ne (c := 120) (cs := []) (n := 1) (by rfl) (fun _ => by kernel_rfl) (by decide +kernel), by unfold Ascii; decide +kernel, by decide +kernel⟩
theorem pay_121 : PayOk ⟨([121] : List Nat).toArray⟩ := ⟨decOk_ne (c := 121) (cs := []) (n := 1) (by rfl) (fun _ => by kernel_rfl) (by decide +kernel), by unfold Ascii; decide +kernel, by decide +kernel⟩
theorem pay_122 : PayOk ⟨([122] : List Nat).toArray⟩ := ⟨decOk_ne (c := 122) (cs := []) (n := 1) (by rfl) (fun _ => by kernel_rfl) (by decide +kernel), by unfold Ascii; decide +kernel, by decide +kernel⟩
theorem pay_120_120 : PayOk ⟨([120, 120] : List Nat).toArray⟩ := ⟨decOk_ne (c := 120) (cs := [120]) (n := 2) (by rfl) (fun _ => by kernel_rfl) (by decide +kernel), by unfold Ascii; decide +kernel, by decide +kernel⟩
theorem pay_120_121 : PayOk ⟨([120, 121] : List Nat).toArray⟩ := ⟨decOk_ne (c := 120) (cs := [121]) (n := 2) (by rfl) (fun _ => by kernel_rfl) (by decide +kernel), by unfold Ascii; decide +kernel, by decide +kernel⟩
theorem pay_120_122 : PayOk ⟨([120, 122] : List Nat).toArray⟩ := ⟨decOk_ne (c := 120) (cs := [122]) (n := 2) (by rfl) (fun _ => by kernel_rfl) (by decide +kernel), by unfold Ascii; decide +kernel, by decide +kernel⟩
theorem pay_121_120 : PayOk ⟨([121, 120] : List Nat).toArray⟩ := ⟨decOk_ne (c := 121) (cs := [120]) (n := 2) (by rfl) (fun _ => by kernel_rfl) (by decide +kernel), by unfold Ascii; decide +kernel, by decide +kernel⟩
theorem pay_121_121 : PayOk ⟨([121, 121] : List Nat).toArray⟩ := ⟨decOk_ne (c := 121) (cs := [121]) (n := 2) (by rfl) (fun _ => by kernel_rfl) (by decide +kernel), by unfold Ascii; decide +kernel, by decide +kernel⟩
theorem pay_121_122 : PayOk ⟨([121, 122] : List Nat).toArray⟩ := ⟨decOk_ne (c := 121) (cs := [122]) (n := 2) (by rfl) (fun _ => by kernel_rfl) (by decide +kernel), by unfold Ascii; decide +kernel, by decide +kernel⟩
theorem pay_122_120 : PayOk ⟨([122, 120] : List Nat).toArray⟩ := ⟨decOk_ne (c := 122) (cs := [120]) (n := 2) (by rfl) (fun _ => by kernel_rfl) (by decide +kernel), by unfold Ascii; decide +kernel, by decide +kernel⟩
theorem pay_122_121 : PayOk ⟨([122, 121] : List Nat).toArray⟩ := ⟨decOk_ne (c := 122) (cs := [121]) (n := 2) (by rfl) (fun _ => by kernel_rfl) (by decide +kernel), by unfold Ascii; decide +kernel, by decide +kernel⟩
theorem pay_122_122 : PayOk ⟨([122, 122] : List Nat).toArray⟩ := ⟨decOk_ne (c := 122) (cs := [122]) (n := 2) (by rfl) (fun _ => by kernel_rfl) (by decide +kernel), by unfold Ascii; decide +kernel, by decide +kernel⟩
theorem pay_120_120_120 : PayOk ⟨([120, 120, 120] : List Nat).toArray⟩ := ⟨decOk_ne (c := 120) (cs := [120, 120]) (n := 3) (by rfl) (fun _ => by kernel_rfl) (by decide +kernel), by unfold Ascii; decide +kernel, by decide +kernel⟩
theorem pay_120_120_121 : PayOk ⟨([120, 120, 121] : List Nat).toArray⟩ := ⟨decOk_ne (c := 120) (cs := [120, 121]) (n := 3) (by rfl) (fun _ => by kernel_rfl) (by decide +kernel), by unfold Ascii; decide +kernel, by decide +kernel⟩
theorem pay_120_120_122 : PayOk ⟨([120, 120, 122] : List Nat).toArray⟩ := ⟨decOk_ne (c := 120) (cs := [120, 122]) (n := 3) (by rfl) (fun _ => by kernel_rfl) (by decide +kernel), by unfold Ascii; decide +kernel, by decide +kernel⟩
theorem pay_120_121_120 : PayOk ⟨([120, 121, 120] : List Nat).toArray⟩ := ⟨decOk_ne (c := 120) (cs := [121, 120]) (n := 3) (by rfl) (fun _ => by kernel_rfl) (by decide +kernel), by unfold Ascii; decide +kernel, by decide +kernel⟩
theorem pay_120_121_121 : PayOk ⟨([120, 121, 121] : List Nat).toArray⟩ := ⟨decOk_ne (c := 120) (cs := [121, 121]) (n := 3) (by rfl) (fun _ => by kernel_rfl) (by decide +kernel), by unfold Ascii; decide +kernel, by decide +kernel⟩
theorem pay_120_121_122 : PayOk ⟨([120, 121, 122] : List Nat).toArray⟩ := ⟨decOk_ne (c := 120) (cs := [121, 122]) (n := 3) (by rfl) (fun _ => by kernel_rfl) (by decide +kernel), by unfold Ascii; decide +kernel, by decide +kernel⟩
theorem pay_120_122_120 : PayOk ⟨([120, 122, 120] : List Nat).toArray⟩ := ⟨decOk_ne (c := 120) (cs := [122, 120]) (n := 3) (by rfl) (fun _ => by kernel_rfl) (by decide +kernel), by unfold Ascii; decide +kernel, by decide +kernel⟩
theorem pay_120_122_121 : PayOk ⟨([120, 122, 121] : List Nat).toArray⟩ := ⟨decOk_ne (c := 120) (cs := [122, 121]) (n := 3) (by rfl) (fun _ => by kernel_rfl) (by decide +kernel), by unfold Ascii; decide +kernel, by decide +kernel⟩
theorem pay_120_122_122 : PayOk ⟨([120, 122, 122] : List Nat).toArray⟩ := ⟨decOk_ne (c := 120) (cs := [122, 122]) (n := 3) (by rfl) (fun _ => by kernel_rfl) (by decide +kernel), by unfold Ascii; decide +kernel, by decide +kernel⟩
theorem pay_121_120_120 : PayOk ⟨([121, 120, 120] : List Nat).toArray⟩ := ⟨decOk_ne (c := 121) (cs := [120, 120]) (n := 3) (by rfl) (fun _ => by kernel_rfl) (by decide +kernel), by unfold Ascii; decide +kernel, by decide +kernel⟩
theorem pay_121_120_121 : PayOk ⟨([121, 120, 121] : List Nat).toArray⟩ := ⟨decOk_ne (c := 121) (cs := [120, 121]) (n := 3) (by rfl) (fun _ => by kernel_rfl) (by decide +kernel), by unfold Ascii; decide +kernel, by decide +kernel⟩
theorem pay_121_120_122 : PayOk ⟨([121, 120, 122] : List Nat).toArray⟩ := ⟨decOk_ne (c := 121) (cs := [120, 122]) (n := 3) (by rfl) (fun _ => by kernel_rfl) (by decide +kernel), by unfold Ascii; decide +kernel, by decide +kernel⟩
theorem pay_121_121_120 : PayOk ⟨([121, 121, 120] : List Nat).toArray⟩ := ⟨decOk_ne (c := 121) (cs := [121, 120]) (n := 3) (by rfl) (fun _ => by kernel_rfl) (by decide +kernel), by unfold Ascii; decide +kernel, by decide +kernel⟩
theorem pay_121_121_121 : PayOk ⟨([121, 121, 121] : List Nat).toArray⟩ := ⟨decOk_ne (c := 121) (cs := [121, 121]) (n := 3) (by rfl) (fun _ => by kernel_rfl) (by decide +kernel), by unfold Ascii; decide +kernel, by decide +kernel⟩
theorem pay_121_121_122 : PayOk ⟨([121, 121, 122] : List Nat).toArray⟩ := ⟨decOk_ne (c := 121) (cs := [121, 122]) (n := 3) (by rfl) (fun _ => by kernel_rfl) (by decide +kernel), by unfold Ascii; decide +kernel, by decide +kernel⟩
theorem pay_121_122_120 : PayOk ⟨([121, 122, 120] : List Nat).toArray⟩ := ⟨decOk_ne (c := 121) (cs := [122, 120]) (n := 3) (by rfl) (fun _ => by kernel_rfl) (by decide +kernel), by unfold Ascii; decide +kernel, by decide +kernel⟩
theorem pay_121_122_121 : PayOk ⟨([121, 122, 121] : List Nat).toArray⟩ := ⟨decOk_ne (c := 121) (cs := [122, 121]) (n := 3) (by rfl) (fun _ => by kernel_rfl) (by decide +kernel), by unfold Ascii; decide +kernel, by decide +kernel⟩
theorem pay_121_122_122 : PayOk ⟨([121, 122, 122] : List Nat).toArray⟩ := ⟨decOk_ne (c := 121) (cs := [122, 122]) (n := 3) (by rfl) (fun _ => by kernel_rfl) (by decide +kernel), by unfold Ascii; decide +kernel, by decide +kernel⟩
theorem pay_122_120_120 : PayOk ⟨([122, 120, 120] : List Nat).toArray⟩ := ⟨decOk_ne (c := 122) (cs := [120, 120]) (n := 3) (by rfl) (fun _ => by kernel_rfl) (by decide +kernel), by unfold Ascii; decide +kernel, by decide +kernel⟩
theorem pay_122_120_121 : PayOk ⟨([122, 120, 121] : List Nat).toArray⟩ := ⟨decOk_ne (c := 122) (cs := [120, 121]) (n := 3) (by rfl) (fun _ => by kernel_rfl) (by decide +kernel), by unfold Ascii; decide +kernel, by decide +kernel⟩
theorem pay_122_120_122 : PayOk ⟨([122, 120, 122] : List Nat).toArray⟩ := ⟨decOk_ne (c := 122) (cs := [120, 122]) (n := 3) (by rfl) (fun _ => by kernel_rfl) (by decide +kernel), by unfold Ascii; decide +kernel, by decide +kernel⟩
theorem pay_122_121_120 : PayOk ⟨([122, 121, 120] : List Nat).toArray⟩ := ⟨decOk_ne (c := 122) (cs := [121, 120]) (n := 3) (by rfl) (fun _ => by kernel_rfl) (by decide +kernel), by unfold Ascii; decide +kernel, by decide +kernel⟩
theorem pay_122_121_121 : PayOk ⟨([122, 121, 121] : List Nat).toArray⟩ := ⟨decOk_ne (c := 122) (cs := [121, 121]) (n := 3) (by rfl) (fun _ => by kernel_rfl) (by decide +kernel), by unfold Ascii; decide +kernel, by decide +kernel⟩
theorem pay_122_121_122 : PayOk ⟨([122, 121, 122] : List Nat).toArray⟩ := ⟨decOk_ne (c := 122) (cs := [121, 122]) (n := 3) (by rfl) (fun _ => by kernel_rfl) (by decide +kernel), by unfold Ascii; decide +kernel, by decide +kernel⟩
theorem pay_122_122_120 : PayOk ⟨([122, 122, 120] : List Nat).toArray⟩ := ⟨decOk_ne (c := 122) (cs := [122, 120]) (n := 3) (by rfl) (fun _ => by kernel_rfl) (by decide +kernel), by unfold Ascii; decide +kernel, by decide +kernel⟩
theorem pay_122_122_121 : PayOk ⟨([122, 122, 121] : List Nat).toArray⟩ := ⟨decOk_ne (c := 122) (cs := [122, 121]) (n := 3) (by rfl) (fun _ => by kernel_rfl) (by decide +kernel), by unfold Ascii; decide +kernel, by decide +kernel⟩
theorem pay_122_122_122 : PayOk ⟨([122, 122, 122] : List Nat).toArray⟩ := ⟨decOk_ne (c := 122) (cs := [122, 122]) (n := 3) (by rfl) (fun _ => by kernel_rfl) (by decide +kernel), by unfold Ascii; decide +kernel, by decide +kernel⟩
theorem pay_ok (l : List Nat) (hl : l.length ≤ 3) (hc : ∀ c ∈ l, c = 120 ∨ c = 121 ∨ c = 122) : PayOk ⟨l.toArray⟩ := by
  match l, hl, hc with
  | [], _, _ => exact pay0
  | [a], _, hc =>
    exact three (P := fun a => PayOk ⟨[a].toArray⟩) ⟨pay_120, pay_121, pay_122⟩ a (hc a (by simp))
  | [a, b], _, hc =>
    exact three (P := fun a => ∀ b, b = 120 ∨ b = 121 ∨ b = 122 → PayOk ⟨[a, b].toArray⟩) ⟨three ⟨pay_120_120, pay_120_121, pay_120_122⟩, three ⟨pay_121_120, pay_121_121, pay_121_122⟩, three ⟨pay_122_120, pay_122_121, pay_122_122⟩⟩ a (hc a (by simp)) b (hc b (by simp))
  | [a, b, c], _, hc =>
    exact three (P := fun a => ∀ b, b = 120 ∨ b = 121 ∨ b = 122 → ∀ c, c = 120 ∨ c = 121 ∨ c = 122 → PayOk ⟨[a, b, c].toArray⟩) ⟨three ⟨three ⟨pay_120_120_120, pay_120_120_121, pay_120_120_122⟩, three ⟨pay_120_121_120, pay_120_121_121, pay_120_121_122⟩, three ⟨pay_120_122_120, pay_120_122_121, pay_120_122_122⟩⟩, three ⟨three ⟨pay_121_120_120, pay_121_120_121, pay_121_120_122⟩, three ⟨pay_121_121_120, pay_121_121_121, pay_121_121_122⟩, three ⟨pay_121_122_120, pay_121_122_121, pay_121_122_122⟩⟩, three ⟨three ⟨pay_122_120_120, pay_122_120_121, pay_122_120_122⟩, three ⟨pay_122_121_120, pay_122_121_121, pay_122_121_122⟩, three ⟨pay_122_122_120, pay_122_122_121, pay_122_122_122⟩⟩⟩ a (hc a (by simp)) b (hc b (by simp)) c (hc c (by simp))
  | _ :: _ :: _ :: _ :: _, hl, _ => simp at hl
end
section
-- MyQ
open PySem
theorem am_keys_list : typeLookup (.type "list") "keys" = pure none := am_miss_of_fast (by decide +kernel)
theorem getAttrQ_miss_list {prog : Program} {w : World} {A : Around} {E : Value → Shared → Prop} {s : Shared} {a : Addr} {o : Obj} {xs : Array Value} {k : Nat} {Q : Option Value → Shared → Prop}
    (hx : s.heap.get? a = some o) (hc : o.cls = .type "list") (hdat : o.data = .seq xs k) (hd : o.dict = none) (hA : A.handled = none)
    (h : ∀ h' tk, (∀ b ob, s.heap.get? b = some ob → h'.get? b = some ob) → Q none { s with heap := h', toks := tk }) : wpAny (model prog w) A (getAttr? (.ref a) "keys") Q E s := by
  obtain ⟨c, dct, dat, sl⟩ := o
  simp only at hc hdat hd
  subst hc hdat hd
  obtain ⟨hp, g, d, tk, os⟩ := s
  have hT : ∀ tk', (⟨hp, g, d, tk', os⟩ : Shared).TypeIs (.ref a) "list" := fun _ => ⟨_, hx, rfl⟩
  have f1 := sub_AttributeError
  have f3 := F.slot_list_getattribute.lookup
  have f4 := F.slot_list_getattribute.bind (.ref a)
  have f5 := am_list_getattr_none
  unfold getAttr? getAttrBy? getAttrBy
  repeat (any_goals (first | assumption | exact hT _ | ((with_reducible show wpAny _ _ (call (Value.builtin "list.__getattribute__") _ _) _ _ _); refine call_meets F.slot_list_getattribute (hT _) am_entry_list_getattribute (F.args_list_getattribute_2 _ _) (meets_getattribute_miss_list a xs k sl _ _ am_keys_list (by decide +kernel) (by size_fits)) ⟨hx, hA, fun h' tk' e hx' => ?_⟩) | wp_step))
  obtain ⟨t', u', he⟩ := hx'.there
  show wpAny _ _ (getattributeRaised _ _ _ _ _ _ _) _ _ _
  unfold getattributeRaised
  repeat (any_goals (first | assumption | wp_step))
  exact h _ _ hx'.keeps
theorem entry_dict_update_loop : entryFor table "dict.update.loop" = some Builtin.«dict.update.loop» := entryFor_of_tree (by kernel_rfl)
theorem plain_dict_update_loop : plainId "dict.update.loop" = true := by decide +kernel
/-- what a dict of pairs says after i of them -/
def upTo (kvs : List (PySem.Str × Value)) (i : Nat) : List (PySem.Str × Value) := (kvs.take i).foldl (fun m kv => stored m kv.1 kv.2) []
theorem upTo_succ {kvs : List (PySem.Str × Value)} {i : Nat} {kv : PySem.Str × Value} (h : kvs[i]? = some kv) : upTo kvs (i + 1) = stored (upTo kvs i) kv.1 kv.2 := by
  unfold upTo
  rw [List.take_add_one, h, List.foldl_append]
  rfl
theorem stored_len {m : List (PySem.Str × Value)} {k : PySem.Str} {v : Value} : (stored m k v).length ≤ m.length + 1 := by
  unfold stored
  split
  · simp
  · simp
theorem upTo_len (kvs : List (PySem.Str × Value)) : ∀ i, i ≤ kvs.length → (upTo kvs i).length ≤ i := by
  intro i
  induction i with
  | zero => intro _; simp [upTo]
  | succ i ih =>
    intro h
    rw [upTo_succ (List.getElem?_eq_getElem (by omega : i < kvs.length))]
    have := stored_len (m := upTo kvs i) (k := (kvs[i]).1) (v := (kvs[i]).2)
    have := ih (by omega)
    omega
/-- the list's items are pairs -/
def PairsAt (h : Heap) (vs : List Value) (kvs : List (PySem.Str × Value)) : Prop :=
  vs.length = kvs.length ∧ ∀ (i : Nat) (v : Value), vs[i]? = some v → ∃ (a : Addr) (k : PySem.Str) (t : Tok) (x : Value) (n : Nat), v = Value.ref a ∧ kvs[i]? = some (k, x) ∧ h.get? a = some { cls := .type "tuple", data := .seq #[.str k t, x] n }
section
variable {prog : Program} {w : World} {A : Around} {R : Result → Shared → Prop} {I l D : Addr} {vs : List Value} {kvs : List (PySem.Str × Value)} {St : Nat → Heap → Prop}
theorem update_loop (W : Walks prog w A.in1 I [I, l] [I] vs.length (fun i v => vs[i]? = some v) St) (hDI : D ≠ I) (hDl : D ≠ l) (hsz : kvs.length ≤ 100) :
    ∀ (k i : Nat) (s : Shared) (h0 : Heap), vs.length - i = k → i ≤ vs.length → St i s.heap → PairsAt h0 vs kvs → (∀ b o, h0.get? b = some o → b ≠ I ∧ b ≠ D) → (∀ b o, h0.get? b = some o → s.heap.get? b = some o) →
      s.heap.DictOf (PySem.strKind prog w) D (upTo kvs i) →
      (∀ h' tk, (∀ b o, h0.get? b = some o → h'.get? b = some o) → h'.DictOf (PySem.strKind prog w) D (upTo kvs kvs.length) → R (.ok (.ret .none)) { s with heap := h', toks := tk }) →
      codeAny (model prog w) A (.builtin "dict.update.loop" ⟨[.ref D, .ref I, rawInt i, .none], []⟩) R s := by
  intro k
  induction k with
  | zero =>
    intro i s h0 hk hi hst hP hne hkeep hD hR
    have hin : i = vs.length := by omega
    subst hin
    refine codeAny_builtin entry_dict_update_loop ?_
    rw [Around.under_plainId plain_dict_update_loop _]
    show wpAny _ A.in1 (pyNext (Value.ref I) >>= _) _ _ s
    refine wpAny_bind (W.done s _ _ hst fun h' tk hm => ?_)
    show wpAny _ A.in1 (Builtin.Dict.addKeywords D [] >>= _) _ _ _
    refine wpAny_bind (wpAny_pure (wpAny_pure ?_))
    refine hR h' tk (fun b o e => hm b o (by simpa using (hne b o e).1) (hkeep b o e)) ?_
    rw [hP.1] at hD
    obtain ⟨o, es, ep, ho, rest⟩ := hD
    exact ⟨o, es, ep, hm D _ (by simpa using hDI) ho, rest⟩
  | succ k ih =>
    intro i s h0 hk hi hst hP hne hkeep hD hR
    have hlt : i < vs.length := by omega
    refine codeAny_builtin entry_dict_update_loop ?_
    rw [Around.under_plainId plain_dict_update_loop _]
    show wpAny _ A.in1 (pyNext (Value.ref I) >>= _) _ _ s
    refine wpAny_bind (W.item i s _ _ hlt hst fun v h' tk hv hst' hm => ?_)
    obtain ⟨a, key, t, x, n, rfl, hkv, ha⟩ := hP.2 i v hv
    have ha' : h'.get? a = some { cls := .type "tuple", data := .seq #[.str key t, x] n } := hm a _ (by simpa using (hne _ _ ha).1) (hkeep _ _ ha)
    have hD' : h'.DictOf (PySem.strKind prog w) D (upTo kvs i) := by
      obtain ⟨o, es, ep, ho, rest⟩ := hD
      exact ⟨o, es, ep, hm D _ (by simpa using hDI) ho, rest⟩
    show wpAny _ A.in1 (holding [Value.ref a] _ >>= _) _ _ _
    refine wpAny_bind (wpAny_holding ?_)
    refine wpAny_bind (wpAny_tryCatch ?_)
    unfold Builtin.Dict.pairItems
    refine wpAny_bind (wpAny_typeOf (s := { s with heap := h', toks := tk }) ⟨_, ha', rfl⟩ ?_)
    rw [if_pos (by decide)]
    refine wpAny_bind (wpAny_seqItems ha' rfl ?_)
    refine wpAny_pure ?_
    dsimp only [Option.getD]
    refine wpAny_holding ?_
    refine wpAny_dictSet_pairs (knd := PySem.strKind prog w) (strKind_is _ _ _ _) hD' (fun h2 hd2 hsb => ?_) (by have := hP.1; have := upTo_len kvs i (by omega); rw [sizeLine_eq]; omega)
    refine wpAny_pure ⟨plainId_quiet plain_dict_update_loop _, ?_⟩
    have e : rawInt ((i : Int) + 1) = rawInt ((i + 1 : Nat) : Int) := by simp
    rw [e]
    rw [← upTo_succ hkv] at hd2
    refine ih (i + 1) _ h0 (by omega) hlt (W.frame _ h' _ hst' fun b hb o e => ?_) hP hne (fun b o e => ?_) hd2 hR
    · rw [hsb.2 b (fun h : b = D => by
        subst h
        simp only [List.mem_cons, List.not_mem_nil, or_false] at hb
        rcases hb with h | h
        · exact hDI h
        · exact hDl h)]
      exact e
    · rw [hsb.2 b (hne b o e).2]
      exact hm b o (by simpa using (hne b o e).1) (hkeep b o e)
end
section
variable {prog : Program} {w : World} {A : Around} {E : Value → Shared → Prop} {s : Shared} {h₀ : Heap} {L l : Addr} {m : Str → Option Value} {news : Led} {vs : List Value} {kvs : List (PySem.Str × Value)} {nn : Nat}
theorem call_dict_pairs {Q : Value → Shared → Prop} (hh : A.handled = none) (hl : s.heap.get? l = some (listOf vs.toArray nn)) (hP : PairsAt s.heap vs kvs) (hsz : kvs.length ≤ 100)
    (h : ∀ h' tk, h'.DictOf (PySem.strKind prog w) s.heap.objs.size (upTo kvs kvs.length) → (∀ b o, s.heap.get? b = some o → h'.get? b = some o) → Q (.ref s.heap.objs.size) { s with heap := h', toks := tk }) :
    wpAny (model prog w) A (call (.type "dict") [.ref l]) Q E s := by
  refine callType_codes (Q₁ := fun obj s₁ => obj = .ref s.heap.objs.size ∧ s₁ = { s with heap := s.heap.push { cls := .type "dict", data := .dict #[] } }) F.kt_called_dict (F.kt_typeCall_dict_1 _) F.entry_dict_init (kt_code_dict_new _ ⟨rfl, rfl⟩) ?_
  rintro obj s₁ ⟨rfl, rfl⟩
  have hnew : (s.heap.push { cls := .type "dict", data := .dict #[] }).DictOf (PySem.strKind prog w) s.heap.objs.size [] := Heap.DictOf.new s.heap
  have hup : ∀ b o, s.heap.get? b = some o → (s.heap.push { cls := .type "dict", data := .dict #[] }).get? b = some o := fun b o e => Heap.get?_push_of_some _ e
  have hl' := hup _ _ hl
  refine ⟨hnew.typeIs, F.args_dict_init_2 _ _, ?_⟩
  unfold Builtin.«dict.__init__»
  refine wpAny_bind ?_
  unfold Builtin.Dict.selfAndRest
  refine wpAny_bind (wpAny_notOrdered_dict hnew.typeIs ?_)
  show wpAny _ _ (pure (s.heap.objs.size, [Value.ref l])) _ _ _
  refine wpAny_pure ?_
  show wpAny _ _ (Builtin.Dict.updateFrom "dict.__init__" s.heap.objs.size (.ref l) [] .none) _ _ _
  unfold Builtin.Dict.updateFrom
  refine wpAny_bind (wpAny_typeOf (s := { s with heap := s.heap.push { cls := .type "dict", data := .dict #[] } }) ⟨_, hl', rfl⟩ ?_)
  rw [if_pos (by decide)]
  refine wpAny_bind (getAttrQ_miss_list (s := { s with heap := s.heap.push { cls := .type "dict", data := .dict #[] } }) hl' rfl rfl rfl hh (fun h1 tk1 hk1 => ?_))
  rw [if_pos (by rfl)]
  refine wpAny_bind (wpAny_rule ?_)
  have hl1 : h1.get? l = some (listOf vs.toArray nn) := hk1 _ _ hl'
  have hI1 : Heap.IsList h1 l vs.toArray := ⟨_, hl1, rfl, nn, rfl⟩
  have hlt := Heap.lt_size hl1
  have hllt := Heap.lt_size hl
  have hsize : s.heap.objs.size < h1.objs.size := by
    obtain ⟨o, es, ep, ho, _⟩ := hnew
    exact Heap.lt_size (hk1 _ _ ho)
  refine wpAny_bind (wpAny_pyIter_list (s := { s with heap := h1, toks := tk1 }) hI1 ?_)
  have hup2 : ∀ b o, h1.get? b = some o → (h1.push { cls := .type "list_iterator", data := .fields #[.ref l, .int 0 0] }).get? b = some o := fun b o e => Heap.get?_push_of_some _ e
  refine wpAny_pure ⟨plainId_quiet plain_dict_update_loop _, ?_⟩
  have hne : l ≠ h1.objs.size := Nat.ne_of_lt hlt
  have W := Walks.list (prog := prog) (w := w) (A := A.in1.in1) hh h1.objs.size l hne vs.toArray
  rw [List.size_toArray] at W
  have eW : (fun (i : Nat) (v : Value) => vs.toArray[i]? = some v) = (fun i v => vs[i]? = some v) := by funext i v; rw [List.getElem?_toArray]
  rw [eW] at W
  refine update_loop (vs := vs) (kvs := kvs) (l := l) W (Nat.ne_of_lt hsize) (Nat.ne_of_gt hllt) hsz _ 0 _ s.heap rfl (Nat.zero_le _) ⟨⟨_, Heap.get?_push_size _ rfl, rfl, rfl⟩, hI1.at fun o e => hup2 _ o e⟩ hP (fun b o e => ?_) (fun b o e => hup2 _ _ (hk1 _ _ (hup _ _ e))) ?_ (fun h' tk' hk' hd => ?_)
  · have hb : b < s.heap.objs.size := Heap.lt_size e
    exact ⟨Nat.ne_of_lt (Nat.lt_trans hb hsize), Nat.ne_of_lt hb⟩
  · obtain ⟨o, es, ep, ho, r⟩ := hnew
    exact ⟨o, es, ep, hup2 _ _ (hk1 _ _ ho), r⟩
  · exact ⟨rfl, h h' tk' hd hk'⟩
theorem call_dict_pairs_led {Q : Value → Shared → Prop} (hh : A.handled = none) (F : Fr h₀ L s.heap m) (N : News h₀ L s.heap news) (hbig : sysModules < h₀.objs.size) (hl : (l, listOf vs.toArray nn) ∈ news) (hP : PairsAt s.heap vs kvs) (hsz : kvs.length ≤ 100)
    (h : ∀ D h' o tk, Fr h₀ L h' m → News h₀ L h' ((D, o) :: news) → (D == sysModules) = false → o.IsDictOf (PySem.strKind prog w) (upTo kvs kvs.length) → (∀ p ∈ news, p.1 < D) → Q (.ref D) { s with heap := h', toks := tk }) :
    wpAny (model prog w) A (call (.type "dict") [.ref l]) Q E s := by
  refine call_dict_pairs hh (N _ hl).1 hP hsz fun h' tk hd hk => ?_
  obtain ⟨o, ho, hd'⟩ := Heap.dictOf_iff.mp hd
  have lt : ∀ p ∈ news, p.1 < s.heap.objs.size := fun p hp => Heap.lt_size (N p hp).1
  refine h _ h' o tk (F.keeps hk) (fun p hp => ?_) (F.notModules hbig) hd' lt
  rcases List.mem_cons.mp hp with rfl | hp
  · exact ⟨ho, Ne.symm (Nat.ne_of_lt F.ns.lt), next_is_new F⟩
  · exact ⟨hk _ _ (N p hp).1, (N p hp).2⟩
end
end
section
-- MyNe
theorem ne_a {a b : Nat} (h : @LT.lt Nat _ a b) : @Ne Nat a b := Nat.ne_of_lt h
theorem ne_b {a b : Nat} (h : @LT.lt Nat _ b a) : @Ne Nat a b := Nat.ne_of_gt h
theorem an0 {p : Prop} (h : p) : p := h
theorem an1 {p q : Prop} (h : p ∧ q) : p := h.1
theorem an2 {a p q : Prop} (h : a ∧ p ∧ q) : p := h.2.1
theorem an3 {a b p q : Prop} (h : a ∧ b ∧ p ∧ q) : p := h.2.2.1
theorem an4 {a b c p q : Prop} (h : a ∧ b ∧ c ∧ p ∧ q) : p := h.2.2.2.1
theorem an5 {a b c d p q : Prop} (h : a ∧ b ∧ c ∧ d ∧ p ∧ q) : p := h.2.2.2.2.1
theorem an6 {a b c d e p q : Prop} (h : a ∧ b ∧ c ∧ d ∧ e ∧ p ∧ q) : p := h.2.2.2.2.2.1
theorem an7 {a b c d e f p q : Prop} (h : a ∧ b ∧ c ∧ d ∧ e ∧ f ∧ p ∧ q) : p := h.2.2.2.2.2.2.1
theorem an8 {a b c d e f g p q : Prop} (h : a ∧ b ∧ c ∧ d ∧ e ∧ f ∧ g ∧ p ∧ q) : p := h.2.2.2.2.2.2.2.1
theorem an9 {a b c d e f g i p q : Prop} (h : a ∧ b ∧ c ∧ d ∧ e ∧ f ∧ g ∧ i ∧ p ∧ q) : p := h.2.2.2.2.2.2.2.2.1
open PySem PySem.W PyProof.Rows
theorem tok_gen {α : Type} {M : Model} {A : Around} {c : Sem α} {Q : α → Shared → Prop} {E : Value → Shared → Prop} {h : Heap} {gs : Array GenState} {d : Drawn} {a b : Nat} {os : OsState} (k : ∀ tk, wpAny M A c Q E ⟨h, gs, d, tk, os⟩) : wpAny M A c Q E ⟨h, gs, d, a + b, os⟩ := k _
theorem tok_genL {α β : Type} {M : Model} {A : Around} {c : Sem α} {Q : α → Shared → Prop} {E : Value → Shared → Prop} {h : Heap} {gs : Array GenState} {d : Drawn} {a : Nat} {l : List β} {os : OsState} (k : ∀ tk, wpAny M A c Q E ⟨h, gs, d, tk, os⟩) : wpAny M A c Q E ⟨h, gs, d, a + l.length, os⟩ := k _
theorem tok_gen3 {α : Type} {M : Model} {A : Around} {c : Sem α} {Q : α → Shared → Prop} {E : Value → Shared → Prop} {h : Heap} {gs : Array GenState} {d : Drawn} {a b b' : Nat} {os : OsState} (k : ∀ tk, wpAny M A c Q E ⟨h, gs, d, tk, os⟩) : wpAny M A c Q E ⟨h, gs, d, a + b + b', os⟩ := k _
theorem letAV {M : Model} {A₀ : Around} {env : Env} {b : List Stmt} {Q : Flow → Shared → Prop} {E : Value → Shared → Prop} {s : Shared}
    (h : let V := env; let A := A₀.deeper V; wpAny M A (execs b V) Q E s) : wpAny M (A₀.deeper env) (execs b env) Q E s := h
end
section
-- MyInt
open PySem PySem.W PyProof.Rows PySem.Calls PySem.Spec PySem.NumText
theorem tc_int_2 (a b : Value) : checkTypeCall "int" ⟨[a, b], []⟩ = pure () := by kernel_rfl
theorem nc_int_2 (a b : Value) : checkBuiltinCall "int.__new__" ⟨[.type "int", a, b], []⟩ = pure () := by kernel_rfl
theorem gives16 {x : PySem.Str} {u v : Tok} {n : Int} (hc : (x.cps.all (· < 128)) = true) (hs : (x.cps.toList.takeWhile (· != 0)).length ≤ 640) (hr : (int_private% "readNumeral") 0 16 (x.cps.toList.takeWhile (· != 0)) = (int_private% "Numeral.value") n)
    (ha : ((x.cps.toList.takeWhile (· != 0)).length == x.cps.toList.length) = true) : Gives (Builtin.«int.__new__» ⟨[.type "int", .str x u, .int 16 v], []⟩) (.int n) :=
  .of_wp fun M A E s Q h => by
    obtain ⟨hp, g, d, tk, os⟩ := s
    have f1 := F.conv_sub_int
    have f2 := F.madeHere_int
    repeat (any_goals (first
      | assumption
      | (with_reducible refine wpAny_ite_true hc ?_)
      | wp_step))
    all_goals (try rw [if_pos hc, show Int.toNat 16 = 16 from rfl, hr])
    all_goals (try dsimp only)
    repeat (any_goals (first
      | assumption
      | (with_reducible refine wpAny_ite_true (decide_eq_true ha) ?_)
      | (with_reducible refine wpAny_ite_true ha ?_)
      | (with_reducible refine wpAny_ite_true hc ?_)
      | wp_step))
    all_goals first | exact ⟨_, rfl, h⟩ | skip
theorem ao_init_3 (a b c : Value) : argsOk "object.__init__" ⟨[a, b, c], []⟩ := by
  unfold argsOk; rw [signature?_of (id := "object.__init__") (n := ['_', '_', 't', 'i', 'n', 'i', '_', '_']) (o := ['t', 'c', 'e', 'j', 'b', 'o']) (by kernel_rfl) F.owner_object]; kernel_rfl
/-- the figures -/
def dN (k : Int) : PySem.Str := Str.ofString (toString k)
theorem nine {P : Int → Prop} (h : P 0 ∧ P 1 ∧ P 2 ∧ P 3 ∧ P 4 ∧ P 5 ∧ P 6 ∧ P 7 ∧ P 8) : ∀ k : Int, 0 ≤ k → k < 9 → P k := by
  intro k h0 h1
  obtain ⟨a, b, c, d, e, f, g, i, j⟩ := h
  have : k = 0 ∨ k = 1 ∨ k = 2 ∨ k = 3 ∨ k = 4 ∨ k = 5 ∨ k = 6 ∨ k = 7 ∨ k = 8 := by omega
  rcases this with rfl | rfl | rfl | rfl | rfl | rfl | rfl | rfl | rfl <;> assumption
theorem dN_facts : ∀ k : Int, 0 ≤ k → k < 9 → ((dN k).cps.all (· < 128)) = true ∧ ((dN k).cps.toList.takeWhile (· != 0)).length ≤ 640 ∧ (((dN k).cps.toList.takeWhile (· != 0)).length == (dN k).cps.toList.length) = true := nine (by unfold dN; decide +kernel)
theorem dN_reads : ∀ k : Int, 0 ≤ k → k < 9 → (int_private% "readNumeral") 0 16 ((dN k).cps.toList.takeWhile (· != 0)) = (int_private% "Numeral.value") k := nine ⟨by kernel_rfl, by kernel_rfl, by kernel_rfl, by kernel_rfl, by kernel_rfl, by kernel_rfl, by kernel_rfl, by kernel_rfl, by kernel_rfl⟩
theorem call_int16 {prog : Program} {w : World} {A : Around} {E : Value → Shared → Prop} {s : Shared} {k : Int} {t u : Tok} {Q : Value → Shared → Prop} (h0 : 0 ≤ k) (h1 : k < 9) (h : ∀ t' tk, Q (.int k t') { s with toks := tk }) :
    wpAny (model prog w) A (call (.type "int") [.str (dN k) t, .int 16 u]) Q E s := by
  obtain ⟨a, b, c⟩ := dN_facts k h0 h1
  exact callType_new F.called_int F.newNe_int (tc_int_2 _ _) (nc_int_2 _ _) (fun obj => ao_init_3 obj _ _) F.entry_int_new (gives16 a b (dN_reads k h0 h1) c).meets (show (Made.int k).post _ s from ⟨rfl, h _ _⟩)
theorem call_int16' {prog : Program} {w : World} {A : Around} {E : Value → Shared → Prop} {s : Shared} {x : PySem.Str} (k : Int) {t u : Tok} {Q : Value → Shared → Prop} (hx : x = dN k) (h0 : 0 ≤ k) (h1 : k < 9) (h : ∀ t' tk, Q (.int k t') { s with toks := tk }) :
    wpAny (model prog w) A (call (.type "int") [.str x t, .int 16 u]) Q E s := by subst hx; exact call_int16 h0 h1 h
def bN (k : Int) : PySem.Str := Str.ofString "b-" ++ dN k
theorem bN_tail_eq : ∀ k : Int, 0 ≤ k → k < 9 → Txt.slice (bN k) (some 2) none = dN k := nine (by decide +kernel)
theorem bN_len : ∀ k : Int, 0 ≤ k → k < 9 → (bN k).length ≤ sizeLine ∧ (bN k).length ≤ 10 ∧ (dN k).length = 1 := nine (by rw [sizeLine_eq]; decide +kernel)
theorem bN_starts : ∀ k : Int, 0 ≤ k → k < 9 → Txt.startswith (bN k) (Str.ofString "b-") = true ∧ ¬ ((!Txt.startswith (bN k) (Str.ofString "b-")) = true) := nine (by decide +kernel)
theorem raisedSN_of {base G : Heap} {l : List Env} {e t : Addr} {cls : Value} {vs : List Value} {news : Led} {h : Heap} (R : RaisedS base G l e cls t vs news h) : RaisedSN base G l e cls news h := by
  obtain ⟨⟨B, hB, hG, hl, hfl, hnew⟩, htup⟩ := R
  exact ⟨B, _, hB, hG, hl, hfl⟩
section
variable {prog : Program} {w : World} {A : Around} {E : Value → Shared → Prop} {s : Shared} {h₀ : Heap} {L : Addr} {m : Str → Option Value} {news : Led} {t : Tok}
theorem bN_tail {value slice : PySem.Expr} {k : Int} {Q : Value → Shared → Prop} {ui : Tok} (hF : Fr h₀ L s.heap m) (hN : News h₀ L s.heap news) (h0 : 0 ≤ k) (h1 : k < 9) (h : ∀ h' t' j, Fr h₀ L h' m → News h₀ L h' news → Q (.str (dN k) t') { s with heap := h', toks := j })
    (hs : subscripted slice false (.str (bN k) t) (.ref s.heap.objs.size) = operate [.ref s.heap.objs.size, .str (bN k) t] (getItem (.str (bN k) t) (.ref s.heap.objs.size)) := by with_unfolding_all rfl)
    (ht : ∀ r, letTemporaryGo value (.str (bN k) t) r = pure () := by intro _; with_unfolding_all rfl) :
    wpAny (model prog w) A (subscriptTail value slice (.str (bN k) t) (.ref s.heap.objs.size)) Q E { s with heap := s.heap.push { cls := .type "slice", data := .fields #[.int ((2 : Nat) : Int) ui, .none, .none] } } :=
  slice_strN_sn hF hN (fun h' t' j a b => by rw [show Txt.slice (bN k) (some ((2 : Nat) : Int)) none = dN k from bN_tail_eq k h0 h1]; exact h h' t' j a b) hs ht (bN_len k h0 h1).1
end
end
section
-- MyZ
abbrev tupOf (vs : List Value) (n : Nat) : Obj := { cls := .type "tuple", data := .seq vs.toArray n }
section
open LCg
variable {prog : Program} {w : World} {A : Around} {E : Value → Shared → Prop} {s : Shared} {h₀ : Heap} {L : Addr} {m : Str → Option Value} {env : Env}
/-- the source of a comprehension: a tuple of the ledger -/
def CompSrcP (prog : Program) (w : World) (A : Around) (h₀ : Heap) (L : Addr) (m : Str → Option Value) (env : Env) (elt : Expr) (x : Str) (scope : Scope) (cl : List (Str × Addr)) (Fin : Shared → List Value → Led → Prop) (xv : Value) (s₁ : Shared) : Prop :=
  ∃ ax vs k news, xv = .ref ax ∧ A.handled = none ∧ Fr h₀ L s₁.heap m ∧ News h₀ L s₁.heap news ∧ (ax, tupOf vs k) ∈ news ∧ vs.length ≤ 1000 ∧
    ∀ g, CompRest prog w A h₀ L m env elt x scope cl { s₁ with heap := g } (fun nw => (ax, tupOf vs k) ∈ nw) (fun i v => vs[i]? = some v) (Fin { s₁ with heap := g }) vs.length 0 [] news
theorem tup_st {ax I : Addr} {vs : List Value} {k : Nat} : ∀ i (h h' : Heap) (o : Obj) (nw : Led), (h.IsTupleIter I ax i ∧ h.IsTuple ax vs.toArray) → h.get? I = some o → h'.get? I = some o → (∀ b o, h₀.get? b = some o → h'.get? b = some o) → News h₀ L h' nw → (ax, tupOf vs k) ∈ nw → (h'.IsTupleIter I ax i ∧ h'.IsTuple ax vs.toArray) :=
  fun i h h' o nw st e e' k N S => ⟨by obtain ⟨o', q, r⟩ := st.1; rw [e] at q; cases q; exact ⟨o, e', r⟩, _, (N _ S).1, rfl, _, rfl⟩
theorem ListComp_P {elt iter : Expr} {x : Str} {px : Pos} {scope : Scope} {cl : List (Str × Addr)} {pos : Pos} {Q : Value → Shared → Prop} (F₀ : Fr h₀ L s.heap m)
    (hclos : closureFor scope env = pure cl) (hcell : ∀ y ∈ scope.names, y.2 ≠ .cell) (hkind : scope.kind = .function)
    (hnames : ∀ y ∈ scope.names, y.2 = .local → scope.names.lookup y.1 = some .local) (hx : scope.names.lookup x = some .local)
    (h : wpAny (model prog w) A (eval iter env) (CompSrcP prog w A h₀ L m env elt x scope cl (fun s₂ => FinE h₀ L m s₂ Q)) E s)
    (hs : ∀ x, foldedSetIterable iter env x = pure x := by intro _; rfl) :
    wpAny (model prog w) A (eval (.ListComp elt [⟨.Name x px, iter, [], 0⟩] scope pos) env) Q E s := by
  rw [eval_ListComp]
  refine wpAny_comprehension_free (use := none) rfl hs hclos hkind hnames (wpAny_mono h (fun xv s₁ h₁ => ?_) fun _ _ e => e)
  obtain ⟨ax, vs, k, news, rfl, hh, F, N, S, hsz, R⟩ := h₁
  have hl : s₁.heap.IsTuple ax vs.toArray := ⟨_, (N _ S).1, rfl, _, rfl⟩
  have hlt : ax < s₁.heap.objs.size := Heap.lt_size (N _ S).1
  refine wpAny_pyIter_tuple hl ?_
  have up : ∀ b o, s₁.heap.get? b = some o → (s₁.heap.push { cls := .type "tuple_iterator", data := .fields #[.ref ax, .int 0 0] }).get? b = some o := fun b o e => Heap.get?_push_of_some _ e
  have W := Walks.tuple (prog := prog) (w := w) hh s₁.heap.objs.size ax (Nat.ne_of_lt hlt) vs.toArray
  rw [List.size_toArray] at W
  have eW : (fun (i : Nat) (v : Value) => vs.toArray[i]? = some v) = (fun i v => vs[i]? = some v) := by funext i v; rw [List.getElem?_toArray]
  rw [eW] at W
  refine block_U (S := fun nw => (ax, tupOf vs k) ∈ nw) W (by rw [sizeLine_eq]; try simp only [List.size_toArray]; omega) (fun i h st => by obtain ⟨o, e, _⟩ := st.1; exact ⟨o, e⟩) tup_st hcell hkind hx ⟨⟨_, Heap.get?_push_size _ rfl, rfl, rfl⟩, hl.push _⟩ (fun b hb => ?_)
    (F.keeps up) (N.grown up) (Nat.ne_of_lt F.ns.lt) (next_is_new F) (fun p hp => Nat.ne_of_lt (Heap.lt_size (N p hp).1)) S (R _) ?_
  · show b < (s₁.heap.push _).objs.size
    rw [Heap.size_push]
    rcases List.mem_cons.mp hb with rfl | hb
    · exact Nat.lt_succ_self _
    · rw [List.mem_singleton.mp hb]; exact Nat.lt_succ_of_lt hlt
  · intro D C h tk m' ys news' F' N' o1 hn hC₀ hD₀ hCL hDL hCD offC fin
    refine ⟨m', hn, fun h'' hs'' => fin D h'' tk (F'.change hs'' hCL hC₀) (fun p hp => ?_) o1⟩
    refine ⟨hs''.extBut _ _ ?_ (N' p hp).1, (N' p hp).2⟩
    rcases List.mem_cons.mp hp with rfl | hp
    · exact Ne.symm hCD
    · exact offC p hp
end
end
section
-- MyR
theorem IsKey.mono {w : World} {fam fam' : Led} {x : Addr} {k : Int} (h : IsKey w fam x k) (hs : ∀ p ∈ fam, p ∈ fam') : IsKey w fam' x k := by
  obtain ⟨dx, kv, ud, ok, ou, n, t1, t2, t3, t4, t5, t6, t7, t8, t9, h1, h2, h3, h4, h5, h6, h7, h8⟩ := h
  exact ⟨dx, kv, ud, ok, ou, n, t1, t2, t3, t4, t5, t6, t7, t8, t9, hs _ h1, hs _ h2, hs _ h3, h4, h5, hs _ h6, h7, h8⟩
theorem KeysIn.mono {w : World} {fam fam' : Led} {kd : Addr} {kn : Int → Option Addr} (h : KeysIn w fam kd kn) (hs : ∀ p ∈ fam, p ∈ fam') : KeysIn w fam' kd kn := by
  obtain ⟨o, kvs, h1, h2, h3, h4⟩ := h
  exact ⟨o, kvs, hs _ h1, h2, h3, fun k a b => ⟨(h4 k a b).1, fun x hx => ((h4 k a b).2 x hx).mono hs⟩⟩
/-- pairs of a name and its key -/
def KeyFam (w : World) (fam : Led) (ps : List (Int × Addr)) (ys : List Value) : Prop :=
  ys.length = ps.length ∧ ∀ (j : Nat) (y : Value), ys[j]? = some y → ∃ (p : Int × Addr) (a : Addr) (t : Tok) (n : Nat), y = Value.ref a ∧ ps[j]? = some p ∧ (a, ({ cls := .type "tuple", data := .seq #[.str (kN p.1) t, .ref p.2] n } : Obj)) ∈ fam ∧ IsKey w fam p.2 p.1
theorem KeyFam.nil {w : World} {fam : Led} : KeyFam w fam [] [] := ⟨rfl, fun j y h => by simp at h⟩
theorem KeyFam.snoc {w : World} {fam fam' : Led} {ps : List (Int × Addr)} {ys : List Value} {k : Int} {x a : Addr} {t : Tok} {n : Nat} (h : KeyFam w fam ps ys) (hs : ∀ p ∈ fam, p ∈ fam')
    (ha : (a, ({ cls := .type "tuple", data := .seq #[.str (kN k) t, .ref x] n } : Obj)) ∈ fam') (hk : IsKey w fam' x k) : KeyFam w fam' (ps ++ [(k, x)]) (ys ++ [.ref a]) := by
  refine ⟨by simp [h.1], fun j y hj => ?_⟩
  by_cases hlt : j < ys.length
  · rw [List.getElem?_append_left hlt] at hj
    obtain ⟨p, a', t', n', e, hp, hm, hk'⟩ := h.2 j y hj
    exact ⟨p, a', t', n', e, by rw [List.getElem?_append_left (by rw [← h.1]; exact hlt)]; exact hp, hs _ hm, hk'.mono hs⟩
  · rw [List.getElem?_append_right (by omega)] at hj
    have hj0 : j - ys.length = 0 := by
      have := (List.getElem?_eq_some_iff.mp hj).1
      simp only [List.length_singleton] at this
      omega
    rw [hj0] at hj
    refine ⟨(k, x), a, t, n, by simpa using hj.symm, ?_, ha, hk⟩
    rw [List.getElem?_append_right (by rw [← h.1]; omega), ← h.1, hj0]
    rfl
/-- the numbers rise -/
def NumsTo (ps : List (Int × Addr)) (i : Int) : Prop := (ps.map (·.1)).Nodup ∧ ∀ p ∈ ps, 0 ≤ p.1 ∧ p.1 < i
theorem NumsTo.nil : NumsTo [] 0 := ⟨List.nodup_nil, fun _ h => nomatch h⟩
theorem NumsTo.snoc {ps : List (Int × Addr)} {i : Int} {x : Addr} (h : NumsTo ps i) (h0 : 0 ≤ i) : NumsTo (ps ++ [(i, x)]) (i + 1) := by
  refine ⟨?_, fun p hp => ?_⟩
  · rw [List.map_append, List.nodup_append]
    refine ⟨h.1, by simp, ?_⟩
    intro a ha b hb
    obtain ⟨p, hp, rfl⟩ := List.mem_map.mp ha
    simp at hb
    subst hb
    have := (h.2 p hp).2
    omega
  · rcases List.mem_append.mp hp with hp | hp
    · have := h.2 p hp; omega
    · simp at hp; subst hp; exact ⟨h0, by show i < i + 1; omega⟩
theorem NumsTo.skip {ps : List (Int × Addr)} {i : Int} (h : NumsTo ps i) : NumsTo ps (i + 1) := ⟨h.1, fun p hp => by have := h.2 p hp; omega⟩
theorem upTo_nodup {kvs : List (PySem.Str × Value)} (h : (kvs.map (·.1)).Nodup) : ∀ i, i ≤ kvs.length → upTo kvs i = kvs.take i := by
  intro i
  induction i with
  | zero => intro _; rfl
  | succ i ih =>
    intro hi
    have hg := List.getElem?_eq_getElem (by omega : i < kvs.length)
    rw [upTo_succ hg, ih (by omega), List.take_add_one, hg]
    have hno : (kvs.take i).any (fun kv => kv.1 = (kvs[i]).1) = false := by
      rw [List.any_eq_false]
      intro kv hkv he
      obtain ⟨j, hj⟩ := List.getElem?_of_mem hkv
      rw [List.getElem?_take] at hj
      split at hj
      · obtain ⟨h1, h2⟩ := List.getElem?_eq_some_iff.mp hj
        have e := of_decide_eq_true he
        rw [← h2] at e
        have := (List.getElem_inj (xs := kvs.map (·.1)) (i := j) (j := i) (h₀ := by simpa using h1) (h₁ := by simp; omega) h).mp (by simpa using e)
        omega
      · cases hj
    unfold stored
    rw [hno, if_neg (by decide)]
    rfl
def kvP (ps : List (Int × Addr)) : List (PySem.Str × Value) := ps.map fun p => (kN p.1, Value.ref p.2)
def knP (ps : List (Int × Addr)) (k : Int) : Option Addr := (ps.find? fun p => p.1 = k).map (·.2)
theorem kvP_nodup {ps : List (Int × Addr)} {i : Int} (h : NumsTo ps i) (hi : i ≤ 6) : ((kvP ps).map (·.1)).Nodup := by
  unfold kvP
  have e : List.map (fun x => x.1) (List.map (fun p : Int × Addr => (kN p.1, Value.ref p.2)) ps) = (ps.map (·.1)).map kN := by simp
  rw [e]
  have h2 : ∀ k ∈ ps.map (·.1), 0 ≤ k ∧ k < 6 := by
    intro k hk
    obtain ⟨p, hp, rfl⟩ := List.mem_map.mp hk
    have := h.2 p hp; omega
  have h1 := h.1
  generalize ps.map (·.1) = l at *
  clear e h hi
  induction l with
  | nil => exact List.nodup_nil
  | cons a l ih =>
    rw [List.map_cons, List.nodup_cons]
    rw [List.nodup_cons] at h1
    refine ⟨fun hm => ?_, ih (fun k hk => h2 k (List.mem_cons_of_mem _ hk)) h1.2⟩
    obtain ⟨b, hb, e⟩ := List.mem_map.mp hm
    have hb' := h2 b (List.mem_cons_of_mem _ hb)
    have ha' := h2 a List.mem_cons_self
    exact h1.1 (kN_inj b hb'.1 hb'.2 a ha'.1 ha'.2 e ▸ hb)
theorem kvP_at {ps : List (Int × Addr)} {i : Int} (h : NumsTo ps i) (hi : i ≤ 6) {k : Int} (h0 : 0 ≤ k) (h1 : k < 6) : valueAt (kvP ps) (kN k) = (knP ps k).map Value.ref := by
  have h2 : ∀ p ∈ ps, 0 ≤ p.1 ∧ p.1 < 6 := fun p hp => by have := h.2 p hp; omega
  clear h hi
  induction ps with
  | nil => rfl
  | cons p ps ih =>
    have ih := ih fun q hq => h2 q (List.mem_cons_of_mem _ hq)
    have hp := h2 p List.mem_cons_self
    unfold valueAt kvP knP at *
    by_cases e : p.1 = k
    · simp [e]
    · have e' : ¬ kN p.1 = kN k := fun q => e (kN_inj _ hp.1 hp.2 _ h0 h1 q)
      simp only [List.map_cons, List.find?_cons, decide_eq_false e, decide_eq_false e']
      exact ih
theorem knP_key {ps : List (Int × Addr)} {k : Int} {x : Addr} (h : knP ps k = some x) : (k, x) ∈ ps := by
  unfold knP at h
  cases hf : ps.find? fun p => p.1 = k with
  | none => rw [hf] at h; cases h
  | some p =>
    rw [hf] at h
    have e1 := List.find?_some hf
    have e2 := List.mem_of_find?_eq_some hf
    have e3 : p.2 = x := by simpa using h
    have e4 : p.1 = k := of_decide_eq_true e1
    rw [← e3, ← e4]
    exact e2
theorem keysIn_of {w : World} {fam : Led} {ps : List (Int × Addr)} {ys : List Value} {i : Int} {kd : Addr} {o : Obj} (hF : KeyFam w fam ps ys) (hN : NumsTo ps i) (hi : i ≤ 6) (ho : o.IsDictOf (PySem.strKind PM w) (upTo (kvP ps) (kvP ps).length)) (hk : (kd == sysModules) = false) :
    KeysIn w ((kd, o) :: fam) kd (knP ps) := by
  rw [upTo_nodup (kvP_nodup hN hi) _ (Nat.le_refl _), List.take_length] at ho
  refine ⟨o, kvP ps, List.mem_cons_self, ho, hk, fun k h0 h1 => ⟨kvP_at hN hi h0 (by omega), fun x hx => ?_⟩⟩
  obtain ⟨j, hj⟩ := List.getElem?_of_mem (knP_key hx)
  have hlt := (List.getElem?_eq_some_iff.mp hj).1
  obtain ⟨p, a, t, n, -, hp, -, hk'⟩ := hF.2 j (ys[j]'(by rw [hF.1]; exact hlt)) (List.getElem?_eq_getElem (by rw [hF.1]; exact hlt))
  rw [hj] at hp
  rw [← Option.some.inj hp] at hk'
  exact hk'.mono fun p hp => List.mem_cons_of_mem _ hp
theorem pairsAt_of {w : World} {fam : Led} {ps : List (Int × Addr)} {ys : List Value} {h₀ h : Heap} {L : Addr} {led : Led} (hF : KeyFam w fam ps ys) (N : News h₀ L h led) (hs : ∀ p ∈ fam, p ∈ led) : PairsAt h ys (kvP ps) := by
  refine ⟨by rw [hF.1]; simp [kvP], fun j y hj => ?_⟩
  obtain ⟨p, a, t, n, e, hp, hm, -⟩ := hF.2 j y hj
  refine ⟨a, kN p.1, t, .ref p.2, n, e, ?_, (N _ (hs _ hm)).1⟩
  unfold kvP
  rw [List.getElem?_map, hp]
  rfl
section
open LCg
variable {h₀ : Heap} {L I C D : Addr} {m : Str → Option Value} {s₁ : Shared} {oI oC oD : Obj} {S : List (Addr × Obj) → Prop} {rest : Value → List (Addr × Obj) → Prop} {y : Value} {h' : Heap} {tk : Nat} {tl : Led} {e1 e2 e3 e4 e5 dd cc : Addr × Obj}
theorem compEnd5 (F : Fr h₀ L h' m) (N : News h₀ L h' (e1 :: e2 :: e3 :: e4 :: e5 :: dd :: (I, oI) :: (C, oC) :: (D, oD) :: cc :: tl)) (off : Off3 I C D (cc :: dd :: e1 :: e2 :: e3 :: e4 :: e5 :: tl)) (hS : S (cc :: dd :: e1 :: e2 :: e3 :: e4 :: e5 :: tl))
    (r : rest y (cc :: dd :: e1 :: e2 :: e3 :: e4 :: e5 :: tl)) : CompEnd h₀ L m s₁ I oI C oC D oD S rest y { s₁ with heap := h', toks := tk } :=
  CompEnd.intro F N _ (fun p hp => by simp only [List.mem_cons] at hp ⊢; grind) off hS r
theorem compEnd0 (F : Fr h₀ L h' m) (N : News h₀ L h' (dd :: (I, oI) :: (C, oC) :: (D, oD) :: cc :: tl)) (off : Off3 I C D (cc :: dd :: tl)) (hS : S (cc :: dd :: tl))
    (r : rest y (cc :: dd :: tl)) : CompEnd h₀ L m s₁ I oI C oC D oD S rest y { s₁ with heap := h', toks := tk } :=
  CompEnd.intro F N _ (fun p hp => by simp only [List.mem_cons] at hp ⊢; grind) off hS r
end
theorem IsSig.mono {w : World} {fam fam' : Led} {x : Addr} {k : Int} {tx : PySem.Str} (h : IsSig w fam x k tx) (hs : ∀ p ∈ fam, p ∈ fam') : IsSig w fam' x k tx := by
  obtain ⟨dx, ud, ou, n, t1, t2, t3, t4, t5, h1, h2, h3, h4⟩ := h
  exact ⟨dx, ud, ou, n, t1, t2, t3, t4, t5, hs _ h1, hs _ h2, hs _ h3, h4⟩
theorem SigsIn.mono {w : World} {fam fam' : Led} {sd : Addr} {sg : Int → Option PySem.Str} (h : SigsIn w fam sd sg) (hs : ∀ p ∈ fam, p ∈ fam') : SigsIn w fam' sd sg := by
  obtain ⟨o, kvs, h1, h2, h3, h4⟩ := h
  refine ⟨o, kvs, hs _ h1, h2, h3, fun k a b => ?_⟩
  rcases h4 k a b with h | ⟨tx, x, e1, e2, e3⟩
  · exact .inl h
  · exact .inr ⟨tx, x, e1, e2, e3.mono hs⟩
abbrev Sigs := List (Int × Addr × PySem.Str)
def psOf (qs : Sigs) : List (Int × Addr) := qs.map fun q => (q.1, q.2.1)
def SigFam (w : World) (fam : Led) (qs : Sigs) : Prop := ∀ q ∈ qs, IsSig w fam q.2.1 q.1 q.2.2 ∧ Ascii q.2.2
theorem SigFam.snoc {w : World} {fam fam' : Led} {qs : Sigs} {k : Int} {x : Addr} {tx : PySem.Str} (h : SigFam w fam qs) (hs : ∀ p ∈ fam, p ∈ fam') (hk : IsSig w fam' x k tx) (ha : Ascii tx) : SigFam w fam' (qs ++ [(k, x, tx)]) := by
  intro q hq
  rcases List.mem_append.mp hq with hq | hq
  · exact ⟨(h q hq).1.mono hs, (h q hq).2⟩
  · rw [List.mem_singleton.mp hq]; exact ⟨hk, ha⟩
theorem kvP_stored {ps : List (Int × Addr)} {i : Int} {x : Addr} (h : NumsTo ps i) (h0 : 0 ≤ i) (hi : i < 6) : stored (kvP ps) (kN i) (.ref x) = kvP (ps ++ [(i, x)]) := by
  have hno : (kvP ps).any (fun kv => kv.1 = kN i) = false := by
    rw [List.any_eq_false]
    intro kv hkv e
    obtain ⟨p, hp, rfl⟩ := List.mem_map.mp hkv
    have hb := h.2 p hp
    have := kN_inj p.1 hb.1 (by omega) i h0 hi (of_decide_eq_true e)
    omega
  unfold stored
  rw [hno, if_neg (by decide)]
  unfold kvP
  rw [List.map_append]
  rfl
def sgP (qs : Sigs) (k : Int) : Option PySem.Str := (qs.find? fun q => q.1 = k).map (·.2.2)
theorem knP_psOf (qs : Sigs) (k : Int) : knP (psOf qs) k = (qs.find? fun q => q.1 = k).map (·.2.1) := by
  unfold knP psOf
  rw [List.find?_map]
  simp [Function.comp_def]
theorem sigsIn_of {w : World} {fam : Led} {qs : Sigs} {i : Int} {sd : Addr} {o : Obj} (hF : SigFam w fam qs) (hN : NumsTo (psOf qs) i) (hi : i ≤ 6) (ho : o.IsDictOf (PySem.strKind PM w) (kvP (psOf qs))) (hs : (sd == sysModules) = false) :
    SigsIn w ((sd, o) :: fam) sd (sgP qs) := by
  refine ⟨o, kvP (psOf qs), List.mem_cons_self, ho, hs, fun k h0 h1 => ?_⟩
  rw [kvP_at hN hi h0 (by omega), knP_psOf]
  unfold sgP
  cases hf : qs.find? fun q => q.1 = k with
  | none => exact .inl ⟨rfl, rfl⟩
  | some q =>
    have e1 := List.find?_some hf
    have e2 := List.mem_of_find?_eq_some hf
    have e4 : q.1 = k := of_decide_eq_true e1
    exact .inr ⟨q.2.2, q.2.1, rfl, rfl, e4 ▸ ((hF q e2).1.mono fun p hp => List.mem_cons_of_mem _ hp)⟩
theorem sgP_ascii {w : World} {fam : Led} {qs : Sigs} (hF : SigFam w fam qs) : ∀ k tx, sgP qs k = some tx → Ascii tx := by
  intro k tx h
  unfold sgP at h
  cases hf : qs.find? fun q => q.1 = k with
  | none => rw [hf] at h; cases h
  | some q =>
    rw [hf] at h
    have e2 := List.mem_of_find?_eq_some hf
    have e3 : q.2.2 = tx := by simpa using h
    rw [← e3]
    exact (hF q e2).2
theorem ascii_app {x y : PySem.Str} (hx : Ascii x) (hy : Ascii y) (h : x.length + y.length ≤ 100) : Ascii (x ++ y) := ⟨ascii_append hx.1 hy.1, by rw [len_append]; exact h⟩
theorem ascii_num : ∀ k : Int, 0 ≤ k → k < 6 → Ascii (Str.ofString (toString k)) ∧ (Str.ofString (toString k)).length = 1 := five (by unfold Ascii; decide +kernel)
/-- the signed texts -/
theorem ascii_sig1 {P : PySem.Str} (hP : Ascii P) (hl : P.length ≤ 10) {k : Int} (h0 : 0 ≤ k) (h1 : k < 6) : Ascii (Str.ofString "p" ++ Str.ofString (toString k) ++ Str.ofString ":" ++ P) := ascii_rT hP hl k h0 h1
theorem ascii_sig3 {k : Int} (h0 : 0 ≤ k) (h1 : k < 6) : Ascii (Str.ofString "p" ++ Str.ofString (toString k) ++ Str.ofString ":" ++ Str.ofString "other") :=
  ascii_rT (P := Str.ofString "other") (by unfold Ascii; decide +kernel) (by decide +kernel) k h0 h1
theorem ite_yes {c : Prop} [Decidable c] {P Q : Prop} (h : c) (hp : P) : if c then P else Q := by rw [if_pos h]; exact hp
theorem ite_no {c : Prop} [Decidable c] {P Q : Prop} (h : ¬ c) (hq : Q) : if c then P else Q := by rw [if_neg h]; exact hq
theorem kv_snoc {w : World} {o : Obj} {qs : Sigs} {i : Int} {x : Addr} {tx : PySem.Str} (h : o.IsDictOf (PySem.strKind PM w) (stored (kvP (psOf qs)) (kN i) (.ref x))) (hN : NumsTo (psOf qs) i) (h0 : 0 ≤ i) (h1 : i < 6) :
    o.IsDictOf (PySem.strKind PM w) (kvP (psOf (qs ++ [(i, x, tx)]))) := by
  rw [kvP_stored hN h0 h1] at h
  unfold psOf at h ⊢
  rw [List.map_append]
  exact h
theorem nums_psOf {qs : Sigs} {i : Int} {x : Addr} {tx : PySem.Str} (h : NumsTo (psOf qs) i) (h0 : 0 ≤ i) : NumsTo (psOf (qs ++ [(i, x, tx)])) (i + 1) := by
  have := h.snoc (x := x) h0
  unfold psOf at this ⊢
  rw [List.map_append]
  exact this
theorem kvP_len {qs : Sigs} {n : Nat} {i : Int} {x : Addr} {tx : PySem.Str} (h : (kvP (psOf qs)).length ≤ n) : (kvP (psOf (qs ++ [(i, x, tx)]))).length ≤ n + 1 := by
  unfold kvP psOf at *
  simp at *
  exact h
section
variable {G : Heap → Prop} {L I : Addr} {oI : Obj} {J : (Str → Option Value) → Led → Prop} {R : Result → Shared → Prop} {s : Shared} {g' h' : Heap} {tk' : Nat} {m' : Str → Option Value} {tl : Led} {e1 e2 e3 dd ff : Addr × Obj}
theorem turn3 (hG : G g') (F : Fr g' L h' m') (N : News g' L h' (e1 :: e2 :: e3 :: dd :: (I, oI) :: ff :: tl)) (hne : ∀ p ∈ ff :: dd :: e1 :: e2 :: e3 :: tl, p.1 ≠ I) (hJ : J m' (ff :: dd :: e1 :: e2 :: e3 :: tl)) : TurnEndG G L I oI J R s .next { s with heap := h', toks := tk' } :=
  turnEnd _ hG F N (fun p hp => by simp only [List.mem_cons] at hp ⊢; grind) hne hJ (.inl rfl)
theorem turn0 (hG : G g') (F : Fr g' L h' m') (N : News g' L h' (dd :: (I, oI) :: ff :: tl)) (hne : ∀ p ∈ ff :: dd :: tl, p.1 ≠ I) (hJ : J m' (ff :: dd :: tl)) : TurnEndG G L I oI J R s .next { s with heap := h', toks := tk' } :=
  turnEnd _ hG F N (fun p hp => by simp only [List.mem_cons] at hp ⊢; grind) hne hJ (.inl rfl)
end
/-- a contract for the call of a class: from any frame -/
def DoesK (w : World) (dn : Nat) (f : Addr) (args : List Value) (news : Led) (Post : Value → Led → Prop) : Prop :=
  ∀ (dp un : Nat) (gd : Option (List Code)) (cn : Str) (nm : List (Str × NameKind)) (ig ic : Bool) (mo : List (Str × Const)) (a : Addr) (ccd : Value) (cl : List (Str × Addr)) (outer : List Env) (base h₀ : Heap) (L : Addr) (m : Str → Option Value) (s : Shared)
    (mean : ExcName → Option Value) (mg mb : Str → Option Value) (Q E : Value → Shared → Prop),
    Below (cTop0 dp un gd outer) base outer h₀ → Fr h₀ L s.heap m → (K w.params).In h₀ → News h₀ L s.heap news → TopM mean mg mb h₀ →
    dp + dn < recursionLimit → un + 20 * dn < cLine →
    (∀ r h' tk' news', Fr h₀ L h' m → News h₀ L h' news' → Post r news' → Q r { s with heap := h', toks := tk' }) →
    wpAny (model PySem.Challenge.rw_je0043_01.row.toRowW.1 w) ((cTop0 dp un gd outer).deeper (envX cn ⟨.function, nm, ig, ic, mo⟩ L a ccd cl)) (call (.ref f) args) Q E s
theorem drop2 {e1 e2 : Addr × Obj} {l : Led} : ∀ p ∈ e1 :: l, p ∈ e1 :: e2 :: l := fun p hp => by
  rcases List.mem_cons.mp hp with h | h
  · exact h ▸ List.mem_cons_self
  · exact List.mem_cons_of_mem _ (List.mem_cons_of_mem _ h)
theorem allLt_up {a b : Addr} {l : Led} (h : AllLt a l) (hab : @LT.lt Nat _ a b) : AllLt b l := by
  induction l with
  | nil => trivial
  | cons q r ih =>
    unfold AllLt at h ⊢
    exact ⟨Nat.lt_trans h.1 hab, ih h.2⟩
theorem useP {w : World} {dn : Nat} {f : Addr} {args : List Value} {led : Led} {Post : Value → Led → Prop} (H : DoesP w dn f args led Post) {dp un : Nat} {gd : Option (List Code)} {cn : Str} {nm : List (Str × NameKind)} {ig ic : Bool} {mo : List (Str × Const)} {a : Addr} {ccd : Value} {cl : List (Str × Addr)} {outer : List Env} {A₀ : Around} {base h₀ : Heap} {L : Addr} {m : Str → Option Value} {s : Shared}
    {mean : ExcName → Option Value} {mg mb : Str → Option Value} {Q E : Value → Shared → Prop}
    (B : Below A₀ base outer h₀) (F : Fr h₀ L s.heap m) (X : (K w.params).In h₀) (N : News h₀ L s.heap led) (T : TopM mean mg mb h₀) (hd : dp + dn < recursionLimit) (hu : un + 20 * dn < cLine)
    (h : ∀ r h' tk' news', Fr h₀ L h' m → News h₀ L h' news' → Post r news' → Q r { s with heap := h', toks := tk' }) :
    wpAny (model PySem.Challenge.rw_je0043_01.row.toRowW.1 w) (ktrTop dp un gd cn ⟨.function, nm, ig, ic, mo⟩ L a ccd cl outer) (call (.ref f) args) Q E s :=
  H dp un gd cn nm ig ic mo a ccd cl outer A₀ base h₀ L m s mean mg mb Q E B F X N T hd hu h
theorem allLt_app {a : Addr} {x y : Led} (h : AllLt a (x ++ y)) : AllLt a y := by
  induction x with
  | nil => exact h
  | cons p x ih => exact ih h.2
/-- a stop in a walk -/
def Marked3 (P : Prop) : Prop := P
theorem marked3 {P : Prop} (h : Marked3 P) : P := h
theorem fam_in {w : World} {h₀ h : Heap} {L d rw kd : Addr} {o' : Obj} {a b : Addr × Obj} {fam tl : Led} {kn : Int → Option Addr} (N : News h₀ L h ((d, o') :: (fam ++ (a :: b :: tl)))) (hk : KeysIn w fam kd kn) (hf : ∀ p ∈ fam, p.1 ≠ d) (hab : ∀ q ∈ fam, AllLt q.1 (a :: b :: tl))
    (hsep : ∀ p ∈ tl, p.1 ≠ d) (R : RowIn tl rw) (ha : ∀ p ∈ tl, p.1 ≠ a.1) (hb : ∀ p ∈ tl, p.1 ≠ b.1) :
    ∃ nl, News h₀ L h ((d, o') :: a :: b :: nl) ∧ KeysIn w nl kd kn ∧ (∀ p ∈ tl, p ∈ nl) ∧ (∀ p ∈ nl, p.1 ≠ d) ∧ RowIn nl rw ∧ (∀ p ∈ nl, p.1 ≠ a.1) ∧ ∀ p ∈ nl, p.1 ≠ b.1 := by
  refine ⟨fam ++ tl, newsSub N (fun p hp => by simp only [List.mem_cons, List.mem_append] at hp ⊢; grind), hk.mono fun p hp => List.mem_append_left _ hp, fun p hp => List.mem_append_right _ hp, ?_, R.mono fun p hp => List.mem_append_right _ hp, ?_, ?_⟩
  · intro p hp
    rcases List.mem_append.mp hp with h | h
    · exact hf p h
    · exact hsep p h
  · intro p hp
    rcases List.mem_append.mp hp with h | h
    · exact Nat.ne_of_gt (hab p h).1
    · exact ha p h
  · intro p hp
    rcases List.mem_append.mp hp with h | h
    · exact Nat.ne_of_gt (hab p h).2.1
    · exact hb p h
end
-- MyS
/-- each text once, in the order of the first meeting -/
def dd (xs : List PySem.Str) : List PySem.Str := xs.foldl (fun σ k => if σ.any (· == k) then σ else σ ++ [k]) []
theorem dd_snoc (xs : List PySem.Str) (x : PySem.Str) : dd (xs ++ [x]) = if (dd xs).any (· == x) then dd xs else dd xs ++ [x] := by
  unfold dd; rw [List.foldl_append]; rfl
theorem dd_take {xs : List PySem.Str} {i : Nat} {x : PySem.Str} (h : xs[i]? = some x) : dd (xs.take (i + 1)) = if (dd (xs.take i)).any (· == x) then dd (xs.take i) else dd (xs.take i) ++ [x] := by
  rw [List.take_add_one, h]; exact dd_snoc _ _
theorem snoc_ind {α : Type} {P : List α → Prop} (h0 : P []) (h1 : ∀ xs x, P xs → P (xs ++ [x])) (xs : List α) : P xs := by
  have key : ∀ i, i ≤ xs.length → P (xs.take i) := by
    intro i
    induction i with
    | zero => intro _; exact h0
    | succ i ih =>
      intro h
      rw [List.take_add_one, List.getElem?_eq_getElem (by omega : i < xs.length)]
      exact h1 _ _ (ih (by omega))
  have := key xs.length (Nat.le_refl _)
  rwa [List.take_length] at this
theorem dd_len (xs : List PySem.Str) : (dd xs).length ≤ xs.length := by
  refine snoc_ind (P := fun xs => (dd xs).length ≤ xs.length) (Nat.le_refl _) (fun xs x ih => ?_) xs
  rw [dd_snoc, List.length_append, List.length_singleton]
  split
  · omega
  · rw [List.length_append, List.length_singleton]; omega
theorem dd_mem (xs : List PySem.Str) : ∀ k, k ∈ dd xs ↔ k ∈ xs := by
  refine snoc_ind (P := fun xs => ∀ k, k ∈ dd xs ↔ k ∈ xs) (fun _ => Iff.rfl) (fun xs x ih k => ?_) xs
  rw [dd_snoc]
  split
  · rename_i h
    rw [List.any_eq_true] at h
    obtain ⟨y, hy, e⟩ := h
    have e := beq_iff_eq.mp e
    subst e
    rw [ih, List.mem_append, List.mem_singleton]
    exact ⟨.inl, fun h => h.elim id (fun e => e ▸ (ih y).mp hy)⟩
  · rw [List.mem_append, List.mem_append, ih]
theorem dd_nodup (xs : List PySem.Str) : (dd xs).Nodup := by
  refine snoc_ind (P := fun xs => (dd xs).Nodup) List.nodup_nil (fun xs x ih => ?_) xs
  rw [dd_snoc]
  split
  · exact ih
  · rename_i h
    rw [List.nodup_append]
    refine ⟨ih, by simp, fun a ha b hb => ?_⟩
    rw [List.mem_singleton] at hb
    subst hb
    intro e
    subst e
    exact h (List.any_eq_true.mpr ⟨a, ha, by simp⟩)
theorem dd_id {xs : List PySem.Str} (h : xs.Nodup) : dd xs = xs := by
  have key : ∀ i, i ≤ xs.length → dd (xs.take i) = xs.take i := by
    intro i
    induction i with
    | zero => intro _; rfl
    | succ i ih =>
      intro hi
      have hg := List.getElem?_eq_getElem (by omega : i < xs.length)
      rw [dd_take hg, ih (by omega)]
      have : (xs.take i).any (· == xs[i]) = false := by
        rw [List.any_eq_false]
        intro y hy e
        obtain ⟨j, hj⟩ := List.getElem?_of_mem hy
        rw [List.getElem?_take] at hj
        split at hj
        · obtain ⟨h1, h2⟩ := List.getElem?_eq_some_iff.mp hj
          have := (List.getElem_inj h).mp (h2.trans (beq_iff_eq.mp e))
          omega
        · cases hj
      rw [this, if_neg (by decide), List.take_add_one, hg]
      rfl
  have := key xs.length (Nat.le_refl _)
  rwa [List.take_length] at this
section
variable {prog : Program} {w : World} {A : Around} {R : Result → Shared → Prop} {I l D : Addr} {vs : List Value} {xs : List PySem.Str} {St : Nat → Heap → Prop}
theorem set_loop (W : Walks prog w A.in1 I [I, l] [I] vs.length (fun i v => vs[i]? = some v) St) (hDI : D ≠ I) (hDl : D ≠ l) (hv : StrsAre vs xs) (hsz : xs.length ≤ 100) :
    ∀ (k i : Nat) (s : Shared) (h0 : Heap), vs.length - i = k → i ≤ vs.length → St i s.heap → (∀ b o, h0.get? b = some o → b ≠ I ∧ b ≠ D) → (∀ b o, h0.get? b = some o → s.heap.get? b = some o) →
      s.heap.SetOf (PySem.strKind prog w) D (fun k => (dd (xs.take i)).any (· == k)) (dd (xs.take i)).length →
      (∀ h' tk, (∀ b o, h0.get? b = some o → h'.get? b = some o) → h'.SetOf (PySem.strKind prog w) D (fun k => (dd xs).any (· == k)) (dd xs).length → R (.ok (.ret .none)) { s with heap := h', toks := tk }) →
      codeAny (model prog w) A (.builtin "set.update.loop" ⟨[.ref D, .ref I], []⟩) R s := by
  have hlen := hv.length
  intro k
  induction k with
  | zero =>
    intro i s h0 hk hi hst hne hkeep hD hR
    have hin : i = vs.length := by omega
    subst hin
    refine codeAny_builtin F.entry_set_update_loop ?_
    rw [Around.under_plainId F.plain_set_update_loop _]
    show wpAny _ A.in1 (pyNext (Value.ref I) >>= _) _ _ s
    refine wpAny_bind (W.done s _ _ hst fun h' tk hm => ?_)
    refine wpAny_pure (hR h' tk (fun b o e => hm b o (by simpa using (hne b o e).1) (hkeep b o e)) ?_)
    rw [hlen, List.take_length] at hD
    obtain ⟨o, es, ep, t, ho, rest⟩ := hD
    exact ⟨o, es, ep, t, hm D _ (by simpa using hDI) ho, rest⟩
  | succ k ih =>
    intro i s h0 hk hi hst hne hkeep hD hR
    have hlt : i < vs.length := by omega
    refine codeAny_builtin F.entry_set_update_loop ?_
    rw [Around.under_plainId F.plain_set_update_loop _]
    show wpAny _ A.in1 (pyNext (Value.ref I) >>= _) _ _ s
    refine wpAny_bind (W.item i s _ _ hlt hst fun v h' tk hv' hst' hm => ?_)
    obtain ⟨x, t, rfl, hx⟩ := strs_at hv hv'
    have hD' : h'.SetOf (PySem.strKind prog w) D (fun k => (dd (xs.take i)).any (· == k)) (dd (xs.take i)).length := by
      obtain ⟨o, es, ep, t', ho, rest⟩ := hD
      exact ⟨o, es, ep, t', hm D _ (by simpa using hDI) ho, rest⟩
    show wpAny _ A.in1 (holding [Value.str x t] (setAdd D (.str x t)) >>= _) _ _ _
    refine wpAny_bind (wpAny_holding ?_)
    unfold setAdd
    refine wpAny_holding ?_
    refine wpAny_bind ((PySem.strKind prog w).pyHash (k := x) (strKind_is _ _ _ _) ?_)
    have hroom : (dd (xs.take i)).length + 1 < scanBound := by
      have := dd_len (xs.take i)
      rw [List.length_take] at this
      unfold scanBound
      omega
    refine wpAny_setAddHashed_of (knd := PySem.strKind prog w) (s := { s with heap := h', toks := tk + 1 }) (strKind_is _ _ _ _) rfl hD' hroom fun h2 hsb hS2 => ?_
    have hSi : h2.SetOf (PySem.strKind prog w) D (fun k => (dd (xs.take (i + 1))).any (· == k)) (dd (xs.take (i + 1))).length := by
      have e1 : (fun k => (dd (xs.take (i + 1))).any (· == k)) = fun k' => (dd (xs.take i)).any (· == k') || decide (k' = x) := by
        funext k'
        rw [dd_take hx]
        by_cases h : (dd (xs.take i)).any (· == x) = true
        · rw [if_pos h]
          by_cases e : k' = x
          · subst e; rw [h]; simp
          · simp [e]
        · rw [if_neg h, List.any_append]
          by_cases e : k' = x
          · subst e; simp
          · have hb : (x == k') = false := beq_eq_false_iff_ne.mpr (fun h' => e h'.symm)
            simp [hb, e]
      have e2 : (dd (xs.take (i + 1))).length = if (dd (xs.take i)).any (· == x) then (dd (xs.take i)).length else (dd (xs.take i)).length + 1 := by
        rw [dd_take hx]; split <;> simp
      rw [e1, e2]
      exact hS2
    refine wpAny_pure ⟨plainId_quiet F.plain_set_update_loop _, ih (i + 1) _ h0 (by omega) hlt (W.frame _ h' _ hst' fun b hb o e => ?_) hne (fun b o e => ?_) hSi hR⟩
    · rw [hsb.2 b (fun h : b = D => by
        subst h
        simp only [List.mem_cons, List.not_mem_nil, or_false] at hb
        rcases hb with h | h
        · exact hDI h
        · exact hDl h)]
      exact e
    · rw [hsb.2 b (hne b o e).2]
      exact hm b o (by simpa using (hne b o e).1) (hkeep b o e)
end
abbrev freshSet (led : Bool) : Obj := { cls := .type "set", dict := none, data := .set #[] 0 (.fresh 0 0 led) }
section
variable {prog : Program} {w : World} {A : Around} {E : Value → Shared → Prop} {s : Shared} {h₀ : Heap} {L l : Addr} {m : Str → Option Value} {news : Led} {vs : List Value} {xs : List PySem.Str} {nn : Nat}
/-- what set.__init__ leaves -/
def SetMade (prog : Program) (w : World) (s : Shared) (xs : List PySem.Str) (r : Value) (s₂ : Shared) : Prop :=
  r = .none ∧ ∃ h' tk, s₂ = { s with heap := h', toks := tk } ∧ h'.SetOf (PySem.strKind prog w) s.heap.objs.size (fun k => (dd xs).any (· == k)) (dd xs).length ∧ ∀ b o, s.heap.get? b = some o → h'.get? b = some o
theorem set_init_body (led : Bool) (hh : A.handled = none) (hl : s.heap.get? l = some (listOf vs.toArray nn)) (hv : StrsAre vs xs) (hsz : xs.length ≤ 100) {R : Fin → Shared → Prop} 
    (h : ∀ s₂, SetMade prog w s xs .none s₂ → R (.done (.ret .none)) s₂) :
    wpAny (model prog w) A.in1.in1 (Builtin.«set.__init__» ⟨[.ref s.heap.objs.size, .ref l], []⟩) R (fun _ _ => False) { s with heap := s.heap.push (freshSet led) } := by
  have hS : (s.heap.push (freshSet led)).get? s.heap.objs.size = some (freshSet led) := Heap.get?_push_size _ rfl
  have hT : Shared.TypeIs { s with heap := s.heap.push (freshSet led) } (.ref s.heap.objs.size) "set" := ⟨_, hS, rfl⟩
  have hup : ∀ b o, s.heap.get? b = some o → (s.heap.push (freshSet led)).get? b = some o := fun b o e => Heap.get?_push_of_some _ e
  have hl' := hup _ _ hl
  have hsls := F.sub_list_set
  have hslf := F.sub_list_frozenset
  have hne : (Value.type "list" == Value.type "dict") = false := by decide
  have hl1 : (s.heap.push (freshSet led)).IsList l vs.toArray := ⟨_, hl', rfl, nn, rfl⟩
  have hllt := Heap.lt_size hl
  unfold Builtin.«set.__init__» noKeywords Builtin.Frozenset.updateFrom
  generalize hPI : pyIter = PI
  wp_walk
  subst hPI
  refine wpAny_pyIter_list hl1 ?_
  refine wpAny_bind (wpAny_runValue ?_)
  have hsize : s.heap.objs.size < (s.heap.push (freshSet led)).objs.size := Heap.lt_size hS
  have hne : l ≠ (s.heap.push (freshSet led)).objs.size := Nat.ne_of_lt (Nat.lt_trans hllt hsize)
  have W := Walks.list (prog := prog) (w := w) (A := A.in1.in1.in1) hh (s.heap.push (freshSet led)).objs.size l hne vs.toArray
  rw [List.size_toArray] at W
  have eW : (fun (i : Nat) (v : Value) => vs.toArray[i]? = some v) = (fun i v => vs[i]? = some v) := by funext i v; rw [List.getElem?_toArray]
  rw [eW] at W
  have hup2 : ∀ b o, (s.heap.push (freshSet led)).get? b = some o → ((s.heap.push (freshSet led)).push { cls := .type "list_iterator", data := .fields #[.ref l, .int 0 0] }).get? b = some o := fun b o e => Heap.get?_push_of_some _ e
  refine set_loop W (Nat.ne_of_lt hsize) (Nat.ne_of_gt hllt) hv hsz _ 0 _ s.heap rfl (Nat.zero_le _) ⟨⟨_, Heap.get?_push_size _ rfl, rfl, rfl⟩, hl1.at fun o e => hup2 _ o e⟩ (fun b o e => ?_) (fun b o e => hup2 _ _ (hup _ _ e)) ?_ (fun h' tk' hk' hd => ?_)
  · have hb : b < s.heap.objs.size := Heap.lt_size e
    exact ⟨Nat.ne_of_lt (Nat.lt_trans hb hsize), Nat.ne_of_lt hb⟩
  · exact (setObjOf_fresh (knd := PySem.strKind prog w) led).setOf (hup2 _ _ hS) (by unfold scanBound; omega)
  · show wpAny _ _ _ _ _ _
    refine wpAny_pure ?_
    exact wpAny_pure (h _ ⟨rfl, h', tk', rfl, hd, hk'⟩)
theorem call_set_strs {Q : Value → Shared → Prop} (hh : A.handled = none) (hl : s.heap.get? l = some (listOf vs.toArray nn)) (hv : StrsAre vs xs) (hsz : xs.length ≤ 100)
    (h : ∀ h' tk, h'.SetOf (PySem.strKind prog w) s.heap.objs.size (fun k => (dd xs).any (· == k)) (dd xs).length → (∀ b o, s.heap.get? b = some o → h'.get? b = some o) → Q (.ref s.heap.objs.size) { s with heap := h', toks := tk }) :
    wpAny (model prog w) A (call (.type "set") [.ref l]) Q E s := by
  obtain ⟨c, tl, hmro⟩ := F.called_set.mro
  have hmade := F.called_set.made
  have hsub := F.called_set.sub
  refine wpAny_call (codeAny_of_tree ?_)
  show wpAny _ _ (callAny (.type "set") _) _ _ _
  refine wpAny_pure ⟨Code.quiet_builtin _ (by decide +kernel), codeAny_builtin F.entry_type_call ?_⟩
  rw [Around.under_plain (weight_type_call_type "set" [.ref l] []) rfl]
  have h1 := F.called_set.notType
  have h2 := F.called_set.canCreate
  have hct := F.typeCall_set_1 (.ref l)
  repeat (any_goals (first | assumption | wp_step))
  refine codeAny_mono (code_set_new_1 (.ref l) (E := E) (Q₁ := fun obj s₁ => ∃ led : Bool, obj = .ref s.heap.objs.size ∧ s₁ = { s with heap := s.heap.push (freshSet led) }) fun led => ⟨led, rfl, rfl⟩) fun r s₁ hr => ?_
  cases r with
  | error e => exact hr
  | ok fl =>
    cases fl with
    | ret obj =>
      obtain ⟨led, rfl, rfl⟩ := hr
      have hS : (s.heap.push (freshSet led)).get? s.heap.objs.size = some (freshSet led) := Heap.get?_push_size _ rfl
      have hT : Shared.TypeIs { s with heap := s.heap.push (freshSet led) } (.ref s.heap.objs.size) "set" := ⟨_, hS, rfl⟩
      have hli := F.called_set.init.lookup
      have hbi := F.called_set.init.bind (.ref s.heap.objs.size)
      repeat (any_goals (first | assumption | wp_step))
      refine codeAny_mono (codeAny_call_builtin (R := wants (SetMade prog w s xs) E) F.called_set.init.plain F.entry_set_init (check_set_init_1 hT ?_)) fun r₂ s₂ hr₂ => ?_
      · refine wpAny_mono (set_init_body (R := fun fin s' => fin = .done (.ret .none) ∧ SetMade prog w s xs .none s') led hh hl hv hsz fun s₂ h => ⟨rfl, h⟩) (fun fin s' hq => ?_) fun _ _ y => y.elim
        obtain ⟨rfl, hq⟩ := hq
        exact hq
      · cases r₂ with
        | error e => exact hr₂
        | ok fl₂ =>
          cases fl₂ with
          | ret r =>
            obtain ⟨rfl, h', tk, rfl, hS', hk'⟩ := hr₂
            repeat (any_goals (first | assumption | wp_step))
            exact h _ _ hS' hk'
          | _ => exact hr₂.elim
    | _ => exact hr.elim
theorem call_set_led {Q : Value → Shared → Prop} (hh : A.handled = none) (F : Fr h₀ L s.heap m) (N : News h₀ L s.heap news) (hl : (l, listOf vs.toArray nn) ∈ news) (hv : StrsAre vs xs) (hsz : xs.length ≤ 100)
    (h : ∀ D h' o tk, Fr h₀ L h' m → News h₀ L h' ((D, o) :: news) → o.SetObjOf (PySem.strKind prog w) (fun k => (dd xs).any (· == k)) (dd xs).length → (∀ p ∈ news, p.1 < D) → Q (.ref D) { s with heap := h', toks := tk }) :
    wpAny (model prog w) A (call (.type "set") [.ref l]) Q E s := by
  refine call_set_strs hh (N _ hl).1 hv hsz fun h' tk hd hk => ?_
  obtain ⟨o, ho, hd'⟩ := hd.objOf
  refine h _ h' o tk (F.keeps hk) (fun p hp => ?_) hd' (fun p hp => Heap.lt_size (N p hp).1)
  rcases List.mem_cons.mp hp with rfl | hp
  · exact ⟨ho, Ne.symm (Nat.ne_of_lt F.ns.lt), next_is_new F⟩
  · exact ⟨hk _ _ (N p hp).1, (N p hp).2⟩
theorem len_set_led {l : Addr} {o : Obj} {S : PySem.Str → Bool} {n : Nat} {Q : Value → Shared → Prop} (N : News h₀ L s.heap news) (hm : (l, o) ∈ news) (ho : o.SetObjOf (PySem.strKind prog w) S n) (hz : n ≤ 100)
    (h : Q (.int n (s.toks + 1)) { s with toks := s.toks + 1 + 1 }) : wpAny (model prog w) A (call (.builtin "len") [.ref l]) Q E s := by
  obtain ⟨hex, es, ep, t, hd, hel, hmem, hn, hf⟩ := ho
  subst hn
  exact call_len_set (N.get hm) hex hd hf (by omega) h
end
-- MyX
/-- a table of a code object's places -/
def PlaceOk (o : Obj) : Prop := ∃ ps : Array Value, o = { cls := .none, data := .fields ps } ∧ TriplesOk ps.toList
/-- a code object and the address of its places -/
def CodeFor (o : Obj) (P : Addr) : Prop :=
  ∃ vs file tf flags tg inF text tt, o.cls = .type "code" ∧ o.data = .fields vs ∧ vs[11]? = some (.ref P) ∧ vs.getD 11 .none = .ref P ∧ vs.getD 18 .none = .str file tf ∧ vs.getD 7 .none = .int flags tg ∧ vs.getD 9 .none = .bool inF ∧ vs.getD 10 .none = .int text tt
section
variable {prog : Program} {w : World} {A : Around} {E : Value → Shared → Prop} {s : Shared} {h₀ : Heap} {c P L : Addr} {m mg mb : Str → Option Value} {mean : ExcName → Option Value} {p : Program} {loose : List Str} {news : Led} {oc : Obj}
theorem genexp_make2 {env : Env} {elt target iter : Expr} {ifs : List Expr} {scope : Scope} {cl : List (Str × Addr)} {pos : Pos} {Q : Value → Shared → Prop}
    (hco : scope.isCoroutine = false) (hclos : closureFor scope env = pure cl) (hcell : ∀ y ∈ scope.names, y.2 ≠ .cell) (h0 : scope.names.lookup (".0" : Str) = some NameKind.local) (hkind : scope.kind = .function)
    (hroom : A.depth < recursionLimit)
    (h : wpAny (model prog w) A (eval iter env) (fun xv₀ s₀ => wpAny (model prog w) A (genFold iter env xv₀) (fun xv s₁ => wpAny (model prog w) A (pyIter xv) (fun it s₂ => s₂.heap.NoLimit ∧
      wpAny (model prog w) A (genexprCode env pos (env.qual ++ "<genexpr>") scope) (fun code s₃ => wpAny (model prog w) A (builtinsFor env.globals env.builtins) (fun bi s₄ =>
        ∀ h', h'.Ns s₄.heap.objs.size (fun y => if y = ".0" then some it else none) → Heap.SameBut s₄.heap.objs.size (s₄.heap.push { cls := .type "frame", data := .dict #[] }) h' →
          Q (.ref h'.objs.size) { s₄ with
            gens := s₄.gens.push (.fresh (.compStart (.GeneratorExp elt [⟨target, iter, ifs, 0⟩] scope pos) 0 it .none (genEnv scope cl s₄.heap.objs.size code bi env))),
            toks := s₄.toks + 1 + 1 + 1,
            heap := h'.push { cls := .type "generator", data := .fields #[.int s₄.gens.size 0, .str "<genexpr>" (s₄.toks + 1), .str (env.qual ++ "<genexpr>") (s₄.toks + 1 + 1)] } }) E s₃) E s₂) E s₁) E s₀) E s) :
    wpAny (model prog w) A (eval (.GeneratorExp elt [⟨target, iter, ifs, 0⟩] scope pos) env) Q E s := by
  rw [eval_GeneratorExp1 _ _ _ _ _ _ _ hco, hclos]
  refine wpAny_bind (wpAny_mono h (fun xv₀ s₀ h₀ => ?_) fun _ _ e => e)
  refine wpAny_bind (wpAny_standAt ?_)
  refine wpAny_bind (wpAny_mono h₀ (fun xv s₁ h₁ => ?_) fun _ _ e => e)
  refine wpAny_bind (wpAny_holding (wpAny_mono h₁ (fun it s₂ h₂ => ?_) fun _ _ e => e))
  refine wpAny_bind (wpAny_enterFrame h₂.1 hroom ?_)
  refine wpAny_bind (wpAny_pure ?_)
  refine wpAny_bind (wpAny_mono h₂.2 (fun code s₃ h₃ => ?_) fun _ _ e => e)
  refine wpAny_bind (wpAny_mono h₃ (fun bi s₄ h₄ => ?_) fun _ _ e => e)
  have hbinds : ∀ y ∈ ([((".0" : Str), it)] : List (Str × Value)), scope.names.lookup y.1 = some NameKind.local := by
    intro y hy
    rcases List.mem_cons.mp hy with rfl | hy
    · exact h0
    · cases hy
  refine wpAny_bind (wpAny_newFunctionEnv hcell hbinds (fun h' hn' hs' => ?_) hkind)
  have e : (fun y : Str => ([((".0" : Str), it)] : List (Str × Value)).reverse.lookup y) = fun y : Str => if y = (".0" : Str) then some it else none := by
    funext y
    by_cases hy : y = ".0"
    · subst hy; simp
    · have : (y == (".0" : Str)) = false := by simpa using hy
      simp [List.lookup, this, hy]
  rw [e] at hn'
  simp only [newGenerator, newFields]
  refine wpAny_bind (wpAny_newGen (wpAny_bind (wpAny_mkText (wpAny_bind (wpAny_mkText (wpAny_newObj_type ?_ (by size_fits)))))))
  exact h₄ h' hn' hs'
inductive WalkIn (prog : Program) (w : World) (A : Around) (env : Env) (elt : Expr) (x : Str) (ifs : List Expr) (scope : Scope) (cl : List (Str × Addr)) (Q : Value → Shared → Prop) (it code : Value) (bi : Addr) (s₄ : Shared) : Prop
  | mk (I : Addr) (fp wr : List Addr) (n₀ : Nat) (P : Nat → Value → Prop) (St₀ : Nat → Heap → Prop) (pz : _) (F : _) (_ : it = .ref I) (_ : (∀ A' : Around, A'.handled = none → Walks prog w A' I fp wr n₀ P St₀)) (_ : St₀ 0 s₄.heap) (_ : (∀ b ∈ fp, b < s₄.heap.objs.size)) (_ : s₄.heap.NoLimit) (_ : cStatics ∉ wr) (_ : (∀ href : Heap, (∀ b o, s₄.heap.get? b = some o → href.get? b = some o) → QuietGen prog w (genEnv scope cl s₄.heap.objs.size code bi env) x ifs elt (List.range s₄.heap.objs.size) wr P pz F href)) (_ : (∀ a h₅ tk gs, gs.bare = true → s₄.heap.objs.size < a → h₅.objs.size = a + 1 → (∀ b o, s₄.heap.get? b = some o → h₅.get? b = some o) → WalksS prog w A.in4 a (a :: s₄.heap.objs.size :: List.range s₄.heap.objs.size) (s₄.heap.objs.size :: wr) (GenOnlyQ s₄.gens.size) (passing pz n₀ 0).length (fun j y => ∃ i, (passing pz n₀ 0)[j]? = some i ∧ F i y) (GenAt prog w A.in4 a s₄.gens.size s₄.heap.objs.size (List.range s₄.heap.objs.size) wr pz n₀ F) → GenAt prog w A.in4 a s₄.gens.size s₄.heap.objs.size (List.range s₄.heap.objs.size) wr pz n₀ F 0 { s₄ with gens := s₄.gens.push gs, toks := tk, heap := h₅ } → Q (.ref a) { s₄ with gens := s₄.gens.push gs, toks := tk, heap := h₅ })) : WalkIn prog w A env elt x ifs scope cl Q it code bi s₄
theorem genexp_walks2 {env : Env} {elt iter : Expr} {x : Str} {px : Pos} {ifs : List Expr} {scope : Scope} {cl : List (Str × Addr)} {pos : Pos} {Q : Value → Shared → Prop}
    (hh : A.handled = none) (hco : scope.isCoroutine = false) (hclos : closureFor scope env = pure cl) (hcell : ∀ y ∈ scope.names, y.2 ≠ .cell) (h0 : scope.names.lookup (".0" : Str) = some NameKind.local)
    (hx : scope.names.lookup x = some .local) (hkind : scope.kind = .function) (hroom : A.depth < recursionLimit)
    (h : wpAny (model prog w) A (eval iter env) (fun xv₀ s₀ => wpAny (model prog w) A (genFold iter env xv₀) (fun xv s₁ => wpAny (model prog w) A (pyIter xv) (fun it s₂ => s₂.heap.NoLimit ∧
      wpAny (model prog w) A (genexprCode env pos (env.qual ++ "<genexpr>") scope) (fun code s₃ => wpAny (model prog w) A (builtinsFor env.globals env.builtins) (fun bi s₄ =>
        WalkIn prog w A env elt x ifs scope cl Q it code bi s₄) E s₃) E s₂) E s₁) E s₀) E s) :
    wpAny (model prog w) A (eval (.GeneratorExp elt [⟨.Name x px, iter, ifs, 0⟩] scope pos) env) Q E s := by
  refine genexp_make2 hco hclos hcell h0 hkind hroom (wpAny_mono h (fun xv₀ s₀ h₀ => wpAny_mono h₀ (fun xv s₁ h₁ => wpAny_mono h₁ (fun it s₂ h₂ => ⟨h₂.1, wpAny_mono h₂.2 (fun code s₃ h₃ => wpAny_mono h₃ (fun bi s₄ h₄ => ?_)
    fun _ _ e => e) fun _ _ e => e⟩) fun _ _ e => e) fun _ _ e => e) fun _ _ e => e)
  obtain ⟨I, fp, wr, n₀, P, St₀, pz, F, rfl, W₀, hst, hfp, hl₄, hcw, hq, hQ⟩ := h₄
  have hclt : cStatics < s₄.heap.objs.size := let ⟨_, hn, _⟩ := hl₄; hn.lt
  intro h' hn' hs'
  have hsz : h'.objs.size = s₄.heap.objs.size + 1 := by rw [hs'.1, Heap.size_push]
  have keep' : ∀ b o, s₄.heap.get? b = some o → h'.get? b = some o := fun b o e => hs'.extBut b o (Nat.ne_of_lt (Heap.lt_size e)) (Heap.get?_push_of_some _ e)
  have hsub : ∀ b ∈ wr, b ∈ List.range s₄.heap.objs.size := fun b hb => List.mem_range.mpr (hfp b ((W₀ A hh).sub b hb))
  have haC : h'.objs.size ≠ s₄.heap.objs.size := by rw [hsz]; exact Nat.succ_ne_self _
  have haf : h'.objs.size ∉ List.range s₄.heap.objs.size := fun hm => by have := List.mem_range.mp hm; omega
  have keep₅ : ∀ b o, s₄.heap.get? b = some o → (h'.push { cls := .type "generator", data := .fields #[.int s₄.gens.size 0, .str "<genexpr>" (s₄.toks + 1), .str (env.qual ++ "<genexpr>") (s₄.toks + 1 + 1)] }).get? b = some o :=
    fun b o e => Heap.get?_push_of_some _ (keep' b o e)
  refine hQ _ _ _ _ rfl (by omega) (by rw [Heap.size_push]) keep₅ (WalksS.genexpQ (A := A.in4) hh _ _ _ _ wr pz n₀ F haC haf hsub hroom (List.mem_range.mpr hclt) (Nat.ne_of_lt hclt) hcw) ?_
  refine GenAt.fresh (A := A.in4) (cenv := genEnv scope cl s₄.heap.objs.size code bi env) (m := fun y => if y = ".0" then some (.ref I) else none) hh
    (fun A' hA => (W₀ A' hA).mono_fp fun b hb => List.mem_range.mpr (hfp b hb)) pz F hx (by simp [genEnv, hkind]) hco
    (fun hm => Nat.lt_irrefl _ (List.mem_range.mp hm)) (hq _ keep₅) ⟨_, _, _, Heap.get?_push_size _ rfl, rfl, rfl, rfl⟩ (Array.getElem?_push_size ..) ((W₀ A hh).frame _ _ _ hst fun b _ o e => keep₅ b o e) (hn'.push _) (hl₄.keeps keep₅)
def SeqTup (h : Heap) (l : Addr) (items : Array Value) : Prop := h.IsList l items ∨ h.IsTuple l items
theorem seqTup_iter {l : Addr} {items : Array Value} (hl : SeqTup s.heap l items) : l < s.heap.objs.size ∧ ∃ (oI : Obj) (St : Nat → Heap → Prop), (∀ (A' : Around) (E' : Value → Shared → Prop) (Q : Value → Shared → Prop), Q (.ref s.heap.objs.size) { s with heap := s.heap.push oI } → wpAny (model prog w) A' (pyIter (.ref l)) Q E' s) ∧
    (∀ A' : Around, A'.handled = none → Walks prog w A' s.heap.objs.size [s.heap.objs.size, l] [s.heap.objs.size] items.size (fun i v => items[i]? = some v) St) ∧
    ∀ h', (∀ b o, (b = s.heap.objs.size ∨ b = l) → (s.heap.push oI).get? b = some o → h'.get? b = some o) → St 0 h' := by
  rcases hl with hl | hl
  · have hlt : l < s.heap.objs.size := by obtain ⟨_, e, _⟩ := hl; exact Heap.lt_size e
    exact ⟨hlt, _, _, fun A' E' Q h => wpAny_pyIter_list hl h, fun A' hA => Walks.list hA _ _ (Nat.ne_of_lt hlt) items, fun h' hk => ⟨⟨_, hk _ _ (.inl rfl) (Heap.get?_push_size _ rfl), rfl, rfl⟩, (hl.push _).at fun o e => hk _ _ (.inr rfl) e⟩⟩
  · have hlt : l < s.heap.objs.size := by obtain ⟨_, e, _⟩ := hl; exact Heap.lt_size e
    exact ⟨hlt, _, _, fun A' E' Q h => wpAny_pyIter_tuple hl h, fun A' hA => Walks.tuple hA _ _ (Nat.ne_of_lt hlt) items, fun h' hk => ⟨⟨_, hk _ _ (.inl rfl) (Heap.get?_push_size _ rfl), rfl, rfl⟩, let ⟨o, e, r⟩ := hl.push _; ⟨o, hk _ _ (.inr rfl) e, r⟩⟩⟩
inductive GenIn (prog : Program) (w : World) (A : Around) (h₀ : Heap) (L : Addr) (m : Str → Option Value) (P : Addr) (env : Env) (elt : Expr) (x : Str) (ifs : List Expr) (scope : Scope) (cl : List (Str × Addr)) (Q : Value → Shared → Prop) (xv : Value) (s₁ : Shared) : Prop
  | mk (news : Led) (l : Addr) (items : Array Value) (op : Obj) (_ : xv = .ref l) (_ : SeqTup s₁.heap l items) (_ : Fr h₀ L s₁.heap m) (_ : News h₀ L s₁.heap ((P, op) :: news)) (_ : PlaceOk op) (_ : (∀ p ∈ news, p.1 ≠ P)) (_ : (l : Nat) ≠ P) (_ : AllBare s₁.gens) (pz : _) (F : _) (_ : (∀ (code : Value) (h₃ href : Heap), (∀ b o, b ≠ P → s₁.heap.get? b = some o → h₃.get? b = some o) → s₁.heap.objs.size < h₃.objs.size → (∀ b o, h₃.get? b = some o → href.get? b = some o) → QuietGen prog w (genEnv scope cl h₃.objs.size code builtinsNs env) x ifs elt (List.range h₃.objs.size) [s₁.heap.objs.size] (fun i v => items[i]? = some v) pz F href)) (_ : (∀ (op' : Obj) (a Kb : Addr) (s₅ : Shared), Fr h₀ L s₅.heap m → News h₀ L s₅.heap ((P, op') :: news) → PlaceOk op' → AllBare s₅.gens → s₅.os = s₁.os → L ≤ Kb → (∀ p ∈ (P, op') :: news, p.1 ≤ Kb) → Gen prog w A Kb a (passing pz items.size 0).length (fun j y => ∃ i, (passing pz items.size 0)[j]? = some i ∧ F i y) s₅ → Q (.ref a) s₅)) : GenIn prog w A h₀ L m P env elt x ifs scope cl Q xv s₁
theorem genexp_gen {env : Env} {elt iter : Expr} {x : Str} {px : Pos} {ifs : List Expr} {scope : Scope} {cl : List (Str × Addr)} {pos : Pos} {Q : Value → Shared → Prop}
    (T : Top p loose mean mg mb h₀) (hgl : env.globals = mainGlobals) (hcode : env.code = .ref c) (hc : h₀.get? c = some oc) (hcf : CodeFor oc P)
    (hh : A.handled = none) (hco : scope.isCoroutine = false) (hclos : closureFor scope env = pure cl) (hcell : ∀ y ∈ scope.names, y.2 ≠ .cell) (h0 : scope.names.lookup (".0" : Str) = some NameKind.local)
    (hx : scope.names.lookup x = some .local) (hkind : scope.kind = .function) (hroom : A.depth < recursionLimit)
    (h : wpAny (model prog w) A (eval iter env) (fun xv₀ s₀ => wpAny (model prog w) A (genFold iter env xv₀) (fun xv s₁ => GenIn prog w A h₀ L m P env elt x ifs scope cl Q xv s₁) E s₀) E s) :
    wpAny (model prog w) A (eval (.GeneratorExp elt [⟨.Name x px, iter, ifs, 0⟩] scope pos) env) Q E s := by
  refine genexp_walks2 hh hco hclos hcell h0 hx hkind hroom (wpAny_mono h (fun xv₀ s₀ h₀' => wpAny_mono h₀' (fun xv s₁ h₁' => ?_) fun _ _ e => e) fun _ _ e => e)
  obtain ⟨news, l, items, op, rfl, hl, F₁, N₁, ⟨ps, rfl, htr⟩, hnP, hlP, G₁, pz, F, hq, hQ⟩ := h₁'
  have hP₁ := (N₁ _ List.mem_cons_self).1
  have hPL : L ≠ P := fun e => (N₁ _ List.mem_cons_self).2.1 e.symm
  have hP0 := (N₁ _ List.mem_cons_self).2.2
  obtain ⟨hlt, oI, St, hit, hW, hSt⟩ := seqTup_iter (prog := prog) (w := w) hl
  refine hit _ _ _ ?_
  have up : ∀ b o, s₁.heap.get? b = some o → (s₁.heap.push oI).get? b = some o := fun b o e => Heap.get?_push_of_some _ e
  have F₂ := F₁.keeps up
  have N₂ := N₁.grown up
  have hsz₂ : (s₁.heap.push oI).objs.size = s₁.heap.objs.size + 1 := Heap.size_push ..
  refine ⟨T.nolimit.keeps F₂.keep, ?_⟩
  obtain ⟨vs, file, tf, flags, tg, inF, text, tt, k0, k1, k2, k3, k4, k5, k6, k7⟩ := hcf
  have hcP : c ≠ P := fun e => by rw [e, hP0] at hc; cases hc
  have hok : (s₁.heap.push oI).IsCode c P ps := ⟨oc, vs, file, tf, flags, tg, inF, text, tt, _, F₂.keep _ _ hc, k1, k3, k4, k5, k6, k7, (N₂ _ List.mem_cons_self).1, rfl, htr, hcP⟩
  have htab : (s₁.heap.push oI).TableAt c P ps := ⟨⟨oc, vs, F₂.keep _ _ hc, k0, k1, k2⟩, (N₂ _ List.mem_cons_self).1⟩
  refine wpAny_mono (Q := fun code s₃ => ∃ h₃ tk₃ op', s₃ = { s₁ with heap := h₃, toks := tk₃ } ∧ (∀ b o, b ≠ P → (s₁.heap.push oI).get? b = some o → h₃.get? b = some o) ∧
      s₁.heap.objs.size + 1 ≤ h₃.objs.size ∧ h₃.get? P = some op' ∧ PlaceOk op') ?gen (fun code s₃ hg => ?_) (fun _ _ e => e)
  case gen =>
    cases hca : codeAmong pos ps.toList with
    | none =>
      refine wpAny_genexprCodeX hcode hok htab hca fun c' h₃ tk₃ hx₃ hge hlt₃ hcode₃ _ htab₃ _ => ?_
      obtain ⟨_, _, _, _, _, _, _, _, _, _, _, _, _, _, _, _, _, hop, hpd, htr', _⟩ := hcode₃
      refine ⟨h₃, tk₃, _, rfl, fun b o hb e => hx₃ b o hb e, by rw [← hsz₂]; exact Nat.le_trans hge (Nat.le_of_lt hlt₃), htab₃.2, _, rfl, htr'⟩
    | some c' =>
      exact wpAny_genexprCode_hit hcode hok hca ⟨_, _, _, rfl, fun _ _ _ e => e, Nat.le_of_eq hsz₂.symm, (N₂ _ List.mem_cons_self).1, ps, rfl, htr⟩
  · obtain ⟨h₃, tk₃, op', rfl, hx₃, hsz, hP₃, hpo⟩ := hg
    have F₃ : Fr h₀ L h₃ m := ⟨F₂.ns.at' fun o e => hx₃ _ _ hPL e, fun b o e => hx₃ b o (fun q => by rw [q, hP0] at e; cases e) (F₂.keep b o e), F₂.above⟩
    have N₃ : News h₀ L h₃ ((P, op') :: news) := fun p hp => by
      rcases List.mem_cons.mp hp with rfl | hp
      · exact ⟨hP₃, Ne.symm hPL, hP0⟩
      · exact ⟨hx₃ _ _ (hnP p hp) (N₂ p (List.mem_cons_of_mem _ hp)).1, (N₂ p (List.mem_cons_of_mem _ hp)).2⟩
    obtain ⟨bm, ob, b1, b2, b3, b4, b5, b6⟩ := T.bmain
    have hl₃ : h₃.NoLimit := T.nolimit.keeps F₃.keep
    have hbig : cStatics < s₁.heap.objs.size := let ⟨_, hn, _⟩ := T.nolimit.keeps F₁.keep; hn.lt
    refine wpAny_builtinsFor (by rw [hgl]; exact T.g.keeps F₃.keep) b1 b2 (F₃.keep _ _ b3) b4 b5 b6 ?_
    have hLlt : L < s₁.heap.objs.size := F₁.ns.lt
    have hPlt : P < s₁.heap.objs.size := Heap.lt_size hP₁
    have hI : s₁.heap.objs.size ≠ P := Nat.ne_of_gt hPlt
    refine ⟨s₁.heap.objs.size, [s₁.heap.objs.size, l], [s₁.heap.objs.size], items.size, _, _, pz, F, rfl, hW, hSt _ (fun b o hb e => hx₃ _ _ (by rcases hb with rfl | rfl; exact hI; exact hlP) e), ?_, hl₃, ?_, ?_, ?_⟩
    · intro b hb
      show b < h₃.objs.size
      simp only [List.mem_cons, List.not_mem_nil, or_false] at hb
      rcases hb with rfl | rfl
      · exact hsz
      · exact Nat.lt_of_lt_of_le (Nat.lt_succ_of_lt hlt) hsz
    · intro hm
      rw [List.mem_singleton] at hm
      rw [hm] at hbig
      exact Nat.lt_irrefl _ hbig
    · intro href hhref
      exact hq _ h₃ href (fun b o hb e => hx₃ b o hb (up b o e)) hsz hhref
    · intro a h₅ tk gs hgb hag hsz₅ hk₅ W hat
      refine hQ op' a (s₁.heap.objs.size - 1) _ (F₃.keeps hk₅) (N₃.grown hk₅) hpo (G₁.push hgb) rfl (by have := hLlt; exact Nat.le_sub_one_of_lt this) (fun p hp => ?_) ⟨_, _, _, _, W, hat, (fun i s' st => st.1.typeIs), List.mem_cons_self, ?_, ?_⟩
      · rcases List.mem_cons.mp hp with rfl | hp
        · exact Nat.le_sub_one_of_lt hPlt
        · exact Nat.le_sub_one_of_lt (Heap.lt_size (N₁ p (List.mem_cons_of_mem _ hp)).1)
      · intro b hb
        show b < h₅.objs.size
        rw [hsz₅]
        rcases List.mem_cons.mp hb with rfl | hb
        · exact Nat.lt_succ_self _
        · rcases List.mem_cons.mp hb with rfl | hb
          · exact Nat.lt_succ_of_lt hag
          · exact Nat.lt_succ_of_lt (Nat.lt_trans (List.mem_range.mp hb) hag)
      · intro b hb
        have h3 : s₁.heap.objs.size - 1 < s₁.heap.objs.size := Nat.sub_one_lt (by have := hLlt; exact Nat.ne_of_gt (Nat.lt_of_le_of_lt (Nat.zero_le _) this))
        rcases List.mem_cons.mp hb with rfl | hb
        · exact Nat.lt_of_lt_of_le h3 (Nat.le_trans (Nat.le_succ _) hsz)
        · rw [List.mem_singleton] at hb
          rw [hb]; exact h3
inductive GenInL (prog : Program) (w : World) (A : Around) (h₀ : Heap) (L : Addr) (m : Str → Option Value) (P : Addr) (news : Led) (env : Env) (elt : Expr) (x : Str) (ifs : List Expr) (scope : Scope) (cl : List (Str × Addr)) (Q : Value → Shared → Prop) (xv : Value) (s₁ : Shared) : Prop
  | mk (l : Addr) (items : Array Value) (op : Obj) (_ : xv = .ref l) (_ : s₁.heap.IsList l items) (_ : Fr h₀ L s₁.heap m) (_ : News h₀ L s₁.heap ((P, op) :: news)) (_ : PlaceOk op) (_ : (∀ p ∈ news, p.1 ≠ P)) (_ : (l : Nat) ≠ P) (_ : AllBare s₁.gens) (pz : _) (F : _) (_ : (∀ (code : Value) (h₃ href : Heap), (∀ b o, b ≠ P → s₁.heap.get? b = some o → h₃.get? b = some o) → s₁.heap.objs.size < h₃.objs.size → (∀ b o, h₃.get? b = some o → href.get? b = some o) → QuietGen prog w (genEnv scope cl h₃.objs.size code builtinsNs env) x ifs elt (List.range h₃.objs.size) [s₁.heap.objs.size] (fun i v => items[i]? = some v) pz F href)) (_ : (∀ (op' : Obj) (a Kb : Addr) (s₅ : Shared), Fr h₀ L s₅.heap m → News h₀ L s₅.heap ((P, op') :: news) → PlaceOk op' → AllBare s₅.gens → s₅.os = s₁.os → L ≤ Kb → (∀ p ∈ (P, op') :: news, p.1 ≤ Kb) → Gen prog w A Kb a (passing pz items.size 0).length (fun j y => ∃ i, (passing pz items.size 0)[j]? = some i ∧ F i y) s₅ → Q (.ref a) s₅)) : GenInL prog w A h₀ L m P news env elt x ifs scope cl Q xv s₁
theorem genexp_led {env : Env} {elt iter : Expr} {x : Str} {px : Pos} {ifs : List Expr} {scope : Scope} {cl : List (Str × Addr)} {pos : Pos} {Q : Value → Shared → Prop}
    (T : Top p loose mean mg mb h₀) (hgl : env.globals = mainGlobals) (hcode : env.code = .ref c) (hc : h₀.get? c = some oc) (hcf : CodeFor oc P)
    (hh : A.handled = none) (hco : scope.isCoroutine = false) (hclos : closureFor scope env = pure cl) (hcell : ∀ y ∈ scope.names, y.2 ≠ .cell) (h0 : scope.names.lookup (".0" : Str) = some NameKind.local)
    (hx : scope.names.lookup x = some .local) (hkind : scope.kind = .function) (hroom : A.depth < recursionLimit)
    (h : wpAny (model prog w) A (eval iter env) (fun xv s₁ => GenInL prog w A h₀ L m P news env elt x ifs scope cl Q xv s₁) E s)
    (hs : ∀ x, genFold iter env x = pure x) :
    wpAny (model prog w) A (eval (.GeneratorExp elt [⟨.Name x px, iter, ifs, 0⟩] scope pos) env) Q E s :=
  genexp_gen T hgl hcode hc hcf hh hco hclos hcell h0 hx hkind hroom (wpAny_mono h (fun xv s₁ ⟨l, items, op, e, hl, a1, a2, a3, a4, a5, a6, pz, F, q1, q2⟩ => wpAny_of_eq (hs xv) ⟨_, l, items, op, e, .inl hl, a1, a2, a3, a4, a5, a6, pz, F, q1, q2⟩) fun _ _ e => e)
theorem fold_list_led {env : Env} {x1 x2 : PySem.Str} {p1 p2 pe : Pos} {l : Addr} {its : Array Value} {n : Nat} {Q : Value → Shared → Prop} (F : Fr h₀ L s.heap m) (N : News h₀ L s.heap news) (hm : (l, listOf its n) ∈ news) (hz : its.size ≤ 100)
    (h1 : Q (.ref l) s) (h2 : ∀ D h', Fr h₀ L h' m → News h₀ L h' ((D, ({ cls := .type "tuple", data := .seq its } : Obj)) :: news) → (∀ q ∈ news, q.1 < D) → Q (.ref D) { s with heap := h' }) :
    wpAny (model prog w) A (genFold (.List [.Name x1 p1, .Name x2 p2] pe) env (.ref l)) Q E s := by
  show wpAny (model prog w) A (foldedIterable (.List [.Name x1 p1, .Name x2 p2] pe) (.ref l)) Q E s
  unfold foldedIterable
  refine wpAny_bind (wpAny_askSetting ?_)
  split
  · exact wpAny_pure h1
  · show wpAny _ _ (if _ then _ else _) _ _ _
    rw [if_neg (by simp)]
    refine wpAny_bind (wpAny_rule ?_)
    refine wpAny_bind (wpAny_seqItems (N _ hm).1 rfl ?_)
    refine newTuple_N F N (fun h' F' N' => h2 _ h' F' (by simpa using N') (fun q hq => Heap.lt_size (N q hq).1)) (by rw [sizeLine_eq]; simp; omega)
theorem fold_list_any {env : Env} {x1 x2 : PySem.Str} {p1 p2 pe : Pos} {l : Addr} {its : Array Value} {n : Nat} {Q : Value → Shared → Prop} (F : Fr h₀ L s.heap m) (N : News h₀ L s.heap news) (hm : (l, listOf its n) ∈ news) (hz : its.size ≤ 100)
    (h : ∀ (r : Addr) h', Fr h₀ L h' m → News h₀ L h' news → SeqTup h' r its → (r = l ∨ ∀ q ∈ news, q.1 < r) → Q (.ref r) { s with heap := h' }) :
    wpAny (model prog w) A (genFold (.List [.Name x1 p1, .Name x2 p2] pe) env (.ref l)) Q E s :=
  fold_list_led F N hm hz (h l s.heap F N (.inl ⟨_, (N _ hm).1, rfl, _, rfl⟩) (.inl rfl)) fun D h' F' N' l1 => h D h' F' (fun p hp => N' p (List.mem_cons_of_mem _ hp)) (.inr ⟨_, (N' _ List.mem_cons_self).1, rfl, _, rfl⟩) (.inr l1)
end
section
-- MyT
open PyProof.V
section
variable {prog : Program} {w : World} {A : Around} {E : Value → Shared → Prop} {s : Shared} {h₀ : Heap} {L l : Addr} {m : Str → Option Value} {news : Led} {vs : List Value} {xs : List PySem.Str} {nn : Nat}
theorem sort_led {D : Addr} {R : Value → Shared → Prop} (F : Fr h₀ L s.heap m) (N : News h₀ L s.heap ((D, listOf vs.toArray 0) :: news)) (hD : ∀ q ∈ news, q.1 ≠ D) (hv : StrsAre vs xs) (h64 : vs.length < 64)
    (h : ∀ h' (vs' : List Value) (xs' : List PySem.Str) n', Fr h₀ L h' m → News h₀ L h' ((D, listOf vs'.toArray n') :: news) → StrsAre vs' xs' → xs'.Perm xs → sortedS xs' = true → R .none { s with heap := h' }) :
    wpAny (model prog w) A (call (.builtin "list.sort") [.ref D]) R E s := by
  obtain ⟨hDo, hDL, hD0⟩ := N _ List.mem_cons_self
  refine wpAny_call_entry slot_list_sort ⟨_, hDo, rfl⟩ entry_list_sort (list_sort_treeK strKind_oneLt (κ := PyProof.Rows.strKind) hDo hv.keysOf (fun v₁ v₂ rest e => keyKind_strs (by rw [← e]; exact hv)) h64 fun st' hp hs => ⟨_, rfl, ?_⟩) (args_list_sort _)
  obtain ⟨xs', h1, h2, h3⟩ := sorted_out_str hv hp hs
  obtain ⟨e, he⟩ := sortedHeap_at (out := (arrOf st').map (·.2)) hDo
  have old : ∀ b o, b ≠ D → s.heap.get? b = some o → (sortedHeap s.heap D vs ((arrOf st').map (·.2))).get? b = some o := fun b o hb e => (sortedHeap_old hb (Heap.lt_size e)).trans e
  refine h _ _ xs' e ⟨F.ns.at' fun o e => old _ _ (Ne.symm hDL) e, fun b o e => old _ _ (fun q => by rw [q, hD0] at e; cases e) (F.keep b o e), F.above⟩ (fun p hp => ?_) h1 h2 h3
  rcases List.mem_cons.mp hp with rfl | hp
  · exact ⟨he, hDL, hD0⟩
  · exact ⟨old _ _ (hD p hp) (N p (List.mem_cons_of_mem _ hp)).1, (N p (List.mem_cons_of_mem _ hp)).2⟩
/-- what sorted gives back -/
abbrev SortedTo' (h₀ : Heap) (L : Addr) (m : Str → Option Value) (news : Led) (xs : List PySem.Str) (s : Shared) (Q : Value → Shared → Prop) : Prop :=
  ∀ D h' tk (vs' : List Value) (xs' : List PySem.Str) n', Fr h₀ L h' m → News h₀ L h' ((D, listOf vs'.toArray n') :: news) → (∀ p ∈ news, p.1 < D) → StrsAre vs' xs' → xs'.Perm xs → sortedS xs' = true → Q (.ref D) { s with heap := h', toks := tk }
theorem strsAre_of {vs : List Value} {xs : List PySem.Str} (hl : vs.length = xs.length) (h : ∀ (j : Nat) (v : Value), vs[j]? = some v → ∃ x t, xs[j]? = some x ∧ v = .str x t) : StrsAre vs xs := by
  induction vs generalizing xs with
  | nil => cases xs with
    | nil => exact .nil
    | cons _ _ => cases hl
  | cons v vs ih =>
    cases xs with
    | nil => cases hl
    | cons x xs =>
      obtain ⟨y, t, e1, e2⟩ := h 0 v rfl
      have : x = y := by simpa using e1
      subst this
      rw [e2]
      exact .cons _ _ (ih (by simpa using hl) fun j u hu => h (j + 1) u (by simpa using hu))
theorem sorted_dict_led {d : Addr} {o : Obj} {kvs : List (PySem.Str × Value)} {Q : Value → Shared → Prop} (hh : A.handled = none) (F : Fr h₀ L s.heap m) (N : News h₀ L s.heap news) (hm : (d, o) ∈ news) (lo : (d == sysModules) = false) (hd : o.IsDictOf (PySem.strKind prog w) kvs) (hz : kvs.length ≤ 60) (hx : kvs.map (·.1) = xs)
    (h : SortedTo' h₀ L m news xs s Q) : wpAny (model prog w) A (call (.builtin "sorted") [.ref d]) Q E s := by
  subst hx
  have hD : s.heap.DictOf (PySem.strKind prog w) d kvs := Heap.dictOf_iff.mpr ⟨o, (N _ hm).1, hd⟩
  obtain ⟨ep, hat⟩ := hD.dictAt
  refine kdu_sorted (kdl_dict (knd := PySem.strKind prog w) (kvs := kvs) (ep := ep) lo) hh F N hat (by rw [sizeLine_eq]; omega) fun B h' tk vs F' N' l1 hl hv => ?_
  refine sort_led F' N' (fun q hq => Nat.ne_of_lt (l1 q hq)) (strsAre_of (xs := kvs.map (·.1)) (by rw [hl, List.length_map]) fun j v hj => ?_) (by omega) fun h2 vs' xs' n' F2 N2 a1 a2 a3 => h _ _ _ _ _ _ F2 N2 l1 a1 a2 a3
  obtain ⟨k, x, hx, hk⟩ := hv j v hj
  obtain ⟨t, rfl⟩ := Value.isStrOf_shape hk
  exact ⟨k, t, by rw [List.getElem?_map, hx]; rfl, rfl⟩
theorem collect_tup {Q : List Value → Shared → Prop} (hl : s.heap.get? l = some { cls := .type "tuple", data := .seq vs.toArray nn }) (hsz : vs.length ≤ 60)
    (h : Q vs { s with heap := (s.heap.push (seqObj "list" #[] 0)).update s.heap.objs.size (Obj.mapSeq (· ++ vs.toArray)) }) :
    wpAny (model prog w) A (collect (.ref l)) Q E s := by
  unfold collect
  refine wpAny_bind (wpAny_runValue (codeAny_builtin entry_proto_collect' ?_))
  show wpAny _ _ (do again (.builtin "list.__iadd__" ⟨[← newList [], .ref l], []⟩)) _ _ s
  refine wpAny_bind (wpAny_newList (wpAny_pure ⟨Code.quiet_builtin _ (by decide +kernel), codeAny_builtin entry_list_iadd' ?_⟩))
  show wpAny _ _ (Builtin.List.listExtendWith (.ref s.heap.objs.size) (.ref l) (.ref s.heap.objs.size)) _ _ { s with heap := s.heap.push (seqObj "list" #[] 0) }
  unfold Builtin.List.listExtendWith
  have ho' : (s.heap.push (seqObj "list" #[] 0)).get? l = some { cls := .type "tuple", data := .seq vs.toArray nn } := Heap.get?_push_of_some _ hl
  refine wpAny_bind (wpAny_typeOf (T := "tuple") ⟨_, ho', rfl⟩ ?_)
  have ht : (Value.type "tuple" == Value.type "tuple") = true := by rfl
  rw [if_pos (by rw [ht]; simp)]
  refine wpAny_bind (listItems_at ho' rfl ?_)
  refine wpAny_bind (listItems_at (xs := #[]) (n := 0) (Heap.get?_push_size _ rfl) rfl ?_)
  rw [if_neg (by simp)]
  refine wpAny_bind (listUpdate_at (xs := #[]) (n := 0) (Heap.get?_push_size _ rfl) rfl ?_ (Nat.zero_le _) (by show (#[] ++ vs.toArray).size ≤ sizeLine + 1; rw [sizeLine_eq]; simp only [Array.size_append, List.size_toArray, List.length_nil]; omega))
  refine wpAny_pure ?_
  show wpAny (model prog w) A (do
      let o ← load s.heap.objs.size
      match o.data with
      | .seq xs _ => pure xs.toList
      | _ => unsupported "internal:collect") Q E { s with heap := (s.heap.push (seqObj "list" #[] 0)).update s.heap.objs.size (Obj.mapSeq (· ++ vs.toArray)) }
  refine wpAny_bind (wpAny_load (get?_update_seq (Heap.get?_push_size _ rfl) _) ?_)
  show wpAny _ _ (pure ((#[] : Array Value) ++ vs.toArray).toList) Q E _
  rw [show ((#[] : Array Value) ++ vs.toArray).toList = vs by simp]
  exact wpAny_pure h
theorem sorted_tup_led {Q : Value → Shared → Prop} (F : Fr h₀ L s.heap m) (N : News h₀ L s.heap news) (hl : s.heap.get? l = some { cls := .type "tuple", data := .seq vs.toArray nn }) (hv : StrsAre vs xs) (hz : vs.length ≤ 60)
    (h : SortedTo' h₀ L m news xs s Q) : wpAny (model prog w) A (call (.builtin "sorted") [.ref l]) Q E s := by
  refine call_function_entry kind_sorted plain_sorted entry_sorted (args_sorted1 _) ?_
  unfold Builtin.«sorted»
  refine wpAny_bind (m := checkCount "sorted" 1 1 _) (wpAny_pure ?_)
  refine wpAny_bind (collect_tup (A := A.in1) hl hz ?_)
  have k1 : ∀ b o, s.heap.get? b = some o → ((s.heap.push (seqObj "list" #[] 0)).update s.heap.objs.size (Obj.mapSeq (· ++ vs.toArray))).get? b = some o := fun b o e => by
    rw [Heap.get?_update_other _ _ (Nat.ne_of_gt (Heap.lt_size e))]
    exact Heap.get?_push_of_some _ e
  refine wpAny_bind (wpAny_newList ?_ (by rw [sizeLine_eq]; omega))
  refine wpAny_bind (wpAny_holding (sort_led ((F.keeps k1).push _) (News.push (F.keeps k1) (fun p hp => ⟨k1 _ _ (N p hp).1, (N p hp).2⟩) _ rfl) (fun q hq => Nat.ne_of_lt (Heap.lt_size (k1 _ _ (N q hq).1))) hv (by omega) fun h' vs' xs' n' F' N' a1 a2 a3 => ?_))
  exact wpAny_pure ⟨_, rfl, h _ _ _ _ _ _ F' N' (fun q hq => Heap.lt_size (k1 _ _ (N q hq).1)) a1 a2 a3⟩
end
theorem risingS_pair : ∀ (l : List PySem.Str) (p : PySem.Str), risingS p l = true → (p :: l).Pairwise (fun a b => a.cps.toList ≤ b.cps.toList)
  | [], p, _ => by simp
  | x :: r, p, h => by
    have h' : (!ltCps x.cps.toList p.cps.toList && risingS x r) = true := h
    rw [Bool.and_eq_true] at h'
    have ih := risingS_pair r x h'.2
    have hpx : p.cps.toList ≤ x.cps.toList := by
      have := h'.1
      rw [ltCps_eq] at this
      intro hlt
      simp [hlt] at this
    rw [List.pairwise_cons]
    refine ⟨fun y hy => ?_, ih⟩
    rcases List.mem_cons.mp hy with rfl | hy
    · exact hpx
    · exact List.le_trans hpx ((List.pairwise_cons.mp ih).1 y hy)
theorem sorted_unique {a b : List PySem.Str} (ha : sortedS a = true) (hb : sortedS b = true) (p : a.Perm b) : a = b := by
  have key : ∀ l : List PySem.Str, sortedS l = true → l.Pairwise (fun a b => a.cps.toList ≤ b.cps.toList) := by
    intro l h
    cases l with
    | nil => exact .nil
    | cons x r => exact risingS_pair r x h
  refine List.Perm.eq_of_pairwise (le := fun a b => a.cps.toList ≤ b.cps.toList) (fun x y _ _ h1 h2 => ?_) (key a ha) (key b hb) p
  have := List.le_antisymm h1 h2
  cases x; cases y
  simp only at this
  rw [Array.toList_inj.mp this]
def Oks (xs : List PySem.Str) : Prop := ∀ x ∈ xs, PyData.strOk x = true
theorem st_canLayAll0 : ∀ xs : List PySem.Str, Oks xs → PyData.canLayAll0 (xs.map PyData.str) = true
  | [], _ => rfl
  | x :: r, h => by simp [PyData.canLayAll0, PyData.canLay0, st_canLayAll0 r (fun y hy => h y (List.mem_cons_of_mem _ hy)), h x List.mem_cons_self]
theorem oks_perm {a b : List PySem.Str} (p : a.Perm b) (h : Oks b) : Oks a := fun x hx => h x (p.mem_iff.mp hx)
theorem st_depthAll : ∀ xs : List PySem.Str, PyData.depthAll (xs.map PyData.str) = 0
  | [] => rfl
  | _ :: r => by simp [PyData.depthAll, PyData.depth, st_depthAll r]
theorem st_shaped {xs : List PySem.Str} (h : Oks xs) : SeqAt.shaped (.list (xs.map PyData.str)) = true := by
  simp [SeqAt.shaped, PyData.canLay0, PyData.depth, st_canLayAll0 xs h, st_depthAll]
theorem st_sameAll : ∀ xs ys : List PySem.Str, PySem.Spec.sameAll (xs.map PyData.str) (ys.map PyData.str) = decide (xs = ys)
  | [], [] => by simp [PySem.Spec.sameAll]
  | [], _ :: _ => by simp [PySem.Spec.sameAll]
  | _ :: _, [] => by simp [PySem.Spec.sameAll]
  | a :: r, b :: t => by
    simp only [List.map_cons, PySem.Spec.sameAll, PySem.Spec.same, st_sameAll r t]
    by_cases h : a = b <;> by_cases h' : r = t <;> simp [h, h']
theorem st_same (xs ys : List PySem.Str) : PySem.Spec.same (.list (xs.map PyData.str)) (.list (ys.map PyData.str)) = decide (xs = ys) := by
  simp only [PySem.Spec.same]; exact st_sameAll xs ys
theorem st_carried : ∀ {vs : List Value} {xs : List PySem.Str}, StrsAre vs xs → CarriedAll vs (xs.map PyData.str)
  | _, _, .nil => .nil
  | _, _, .cons _ t r => .cons (.str _ t) (st_carried r)
section
variable {prog : Program} {w : World} {A : Around} {E : Value → Shared → Prop} {s : Shared} {h₀ : Heap} {L a b : Addr} {vs us : List Value} {xs ys : List PySem.Str} {n k : Nat} {news : Led} {Q : Value → Shared → Prop}
theorem eq_strs_led (N : News h₀ L s.heap news) (ha : (a, listOf vs.toArray n) ∈ news) (hb : (b, listOf us.toArray k) ∈ news) (hx : StrsAre vs xs) (hy : StrsAre us ys) (ox : Oks xs) (oy : Oks ys) (hu : A.units + 64 < cLine) (h : Q (.bool (decide (xs = ys))) s) :
    wpAny (model prog w) A (compareOp .Eq (.ref a) (.ref b)) Q E s :=
  eq_dataH_same (reads_newData (led_list N ha) (st_carried hx)) (reads_newData (led_list N hb) (st_carried hy)) (st_shaped ox) (st_shaped oy) hu (SeqAt.noMix_of_shape (.list .str) rfl _ _ (list_map_has fun _ => rfl) (list_map_has fun _ => rfl)) (by rw [st_same]; exact h)
theorem ne_strs_led (N : News h₀ L s.heap news) (ha : (a, listOf vs.toArray n) ∈ news) (hb : (b, listOf us.toArray k) ∈ news) (hx : StrsAre vs xs) (hy : StrsAre us ys) (ox : Oks xs) (oy : Oks ys) (hu : A.units + 64 < cLine) (h : Q (.bool (!decide (xs = ys))) s) :
    wpAny (model prog w) A (compareOp .NotEq (.ref a) (.ref b)) Q E s :=
  ne_dataH_same (reads_newData (led_list N ha) (st_carried hx)) (reads_newData (led_list N hb) (st_carried hy)) (st_shaped ox) (st_shaped oy) hu (SeqAt.noMix_of_shape (.list .str) rfl _ _ (list_map_has fun _ => rfl) (list_map_has fun _ => rfl)) (by rw [st_same]; exact h)
theorem ne_sorted_led {zs ws : List PySem.Str} (N : News h₀ L s.heap news) (ha : (a, listOf vs.toArray n) ∈ news) (hb : (b, listOf us.toArray k) ∈ news) (hx : StrsAre vs xs) (hy : StrsAre us ys) (px : xs.Perm zs) (py : ys.Perm ws) (sx : sortedS xs = true) (sy : sortedS ys = true) (p : zs.Perm ws) (o : Oks zs) (hu : A.units + 64 < cLine) (h : Q (.bool false) s) :
    wpAny (model prog w) A (compareOp .NotEq (.ref a) (.ref b)) Q E s := by
  have e : xs = ys := sorted_unique sx sy (px.trans (p.trans py.symm))
  subst e
  refine ne_strs_led N ha hb hx hy (oks_perm px o) (oks_perm px o) hu ?_
  simpa using h
end
theorem keep_K {Kf : Frag} {h₀ h : Heap} {L a : Addr} {m : Str → Option Value} {o : Obj} (F : Fr h₀ L h m) (X : Kf.In h₀) (e : Kf.lookup a = some o) : h.get? a = some o := F.keep _ _ (X _ _ e)
/-- the top level names -/
def topN : List PySem.Str := [Str.ofString "timestamp", Str.ofString "snapshot", Str.ofString "targets", Str.ofString "root"]
theorem topnames_perm : [Str.ofString "timestamp", Str.ofString "snapshot", Str.ofString "targets", Str.ofString "root"].Perm [Str.ofString "root", Str.ofString "timestamp", Str.ofString "snapshot", Str.ofString "targets"] :=
  List.perm_append_comm (l₁ := [Str.ofString "timestamp", Str.ofString "snapshot", Str.ofString "targets"]) (l₂ := [Str.ofString "root"])
theorem topnames_oks : Oks [Str.ofString "timestamp", Str.ofString "snapshot", Str.ofString "targets", Str.ofString "root"] := by
  unfold Oks; decide +kernel
theorem units_under_make (A : Around) (args : Args) : (A.under (Code.builtin "type.__call__" args)).units = A.units + 1 := rfl
theorem move3_9 {h₀ h : Heap} {L : Addr} {p e1 e2 e3 e4 e5 e6 e7 e8 e9 : Addr × Obj} {l : Led} (N : News h₀ L h (e1 :: e2 :: e3 :: p :: e4 :: e5 :: e6 :: e7 :: e8 :: e9 :: l)) : News h₀ L h (p :: ([e1, e2, e3, e4, e5, e6, e7, e8, e9] ++ l)) :=
  newsSub N (by intro q hq; simp only [List.mem_cons, List.cons_append, List.nil_append] at *; grind)
theorem list_dict_led {prog : Program} {w : World} {A : Around} {E : Value → Shared → Prop} {s : Shared} {h₀ : Heap} {L d : Addr} {m : Str → Option Value} {news : Led} {o : Obj} {kvs : List (PySem.Str × Value)} {Q : Value → Shared → Prop} (hh : A.handled = none) (F : Fr h₀ L s.heap m) (N : News h₀ L s.heap news) (hm : (d, o) ∈ news) (lo : (d == sysModules) = false) (hd : o.IsDictOf (PySem.strKind prog w) kvs) (hz : kvs.length ≤ 60)
    (h : ∀ D h' tk (vs : List Value) n, Fr h₀ L h' m → News h₀ L h' ((D, listOf vs.toArray n) :: news) → (∀ p ∈ news, p.1 < D) → StrsAre vs (kvs.map (·.1)) → Q (.ref D) { s with heap := h', toks := tk }) : wpAny (model prog w) A (call (.type "list") [.ref d]) Q E s := by
  have hD : s.heap.DictOf (PySem.strKind prog w) d kvs := Heap.dictOf_iff.mpr ⟨o, (N _ hm).1, hd⟩
  obtain ⟨ep, hat⟩ := hD.dictAt
  refine kdl_N (kdl_dict (knd := PySem.strKind prog w) (kvs := kvs) (ep := ep) lo) hh F N hat (by rw [sizeLine_eq]; omega) fun D c h' tk vs F' N' l1 hl hv => ?_
  refine h _ _ _ vs c F' N' l1 (strsAre_of (by rw [hl, List.length_map]) fun j v hj => ?_)
  obtain ⟨k, x, hx, hk⟩ := hv j v hj
  obtain ⟨t, rfl⟩ := Value.isStrOf_shape hk
  exact ⟨k, t, by rw [List.getElem?_map, hx]; rfl, rfl⟩
theorem kvOf_names (kn : Int → Option Addr) (xs : List Int) : (kvOf kn xs).map (·.1) = xs.map kN := by
  unfold kvOf; rw [List.map_map]; rfl
theorem oks_names {xs : List Int} (h : ∀ k ∈ xs, 0 ≤ k ∧ k < 6) : Oks (xs.map kN) := by
  intro x hx
  obtain ⟨k, hk, rfl⟩ := List.mem_map.mp hx
  have : ∀ k : Int, 0 ≤ k → k < 6 → PyData.strOk (kN k) = true := five (by decide +kernel)
  exact this k (h k hk).1 (h k hk).2
theorem filter_bound {ks : List Int} {f : Int → Bool} (h5 : Good5 ks) : ∀ k ∈ ks.filter f, 0 ≤ k ∧ k < 6 := fun k hk => by
  have := h5.bound k (List.mem_filter.mp hk).1; omega
theorem filter_len5 {ks : List Int} {f : Int → Bool} (h5 : Good5 ks) : (ks.filter f).length ≤ 5 := Nat.le_trans (List.length_filter_le _ _) h5.len
theorem ne_same_led {prog : Program} {w : World} {A : Around} {E : Value → Shared → Prop} {s : Shared} {h₀ : Heap} {L a b : Addr} {vs us : List Value} {xs : List PySem.Str} {n k : Nat} {news : Led} {Q : Value → Shared → Prop} (N : News h₀ L s.heap news) (ha : (a, listOf vs.toArray n) ∈ news) (hb : (b, listOf us.toArray k) ∈ news) (hx : StrsAre vs xs) (hy : StrsAre us xs) (o : Oks xs) (hu : A.units + 64 < cLine) (h : Q (.bool false) s) :
    wpAny (model prog w) A (compareOp .NotEq (.ref a) (.ref b)) Q E s := by
  refine ne_strs_led N ha hb hx hy o o hu ?_
  simpa using h
section
variable {prog : Program} {w : World} {A : Around} {E : Value → Shared → Prop} {s : Shared} {h₀ : Heap} {L l : Addr} {news : Led} {xs : List Int} {Q : Value → Shared → Prop}
theorem len_kv_led {kn : Int → Option Addr} {o : Obj} (N : News h₀ L s.heap news) (hm : (l, o) ∈ news) (hd : o.IsDictOf (PySem.strKind prog w) (kvOf kn xs)) (lo : (l == sysModules) = false) (hz : xs.length ≤ 60)
    (h : Q (.int (xs.length : Nat) (s.toks + 1)) { s with toks := s.toks + 1 + 1 }) : wpAny (model prog w) A (call (.builtin "len") [.ref l]) Q E s := by
  have e : (kvOf kn xs).length = xs.length := by unfold kvOf; rw [List.length_map]
  refine kda_len (knd := PySem.strKind prog w) N hm hd lo (by rw [e]; omega) ?_
  rw [e]; exact h
theorem len_strs_led {vs : List Value} {n : Nat} (N : News h₀ L s.heap news) (hm : (l, listOf vs.toArray n) ∈ news) (hv : StrsAre vs (xs.map kN)) (hz : xs.length ≤ 60)
    (h : Q (.int (xs.length : Nat) (s.toks + 1)) { s with toks := s.toks + 1 + 1 }) : wpAny (model prog w) A (call (.builtin "len") [.ref l]) Q E s := by
  have e : vs.toArray.size = xs.length := by rw [List.size_toArray, hv.length, List.length_map]
  refine len_led N hm (by rw [e]; omega) ?_
  rw [e]; exact h
end
theorem kvOf_at {kn : Int → Option Addr} {xs : List Int} {k : Int} {x : Addr} (hb : ∀ j ∈ xs, 0 ≤ j ∧ j < 6) (hk : k ∈ xs) (hx : kn k = some x) : valueAt (kvOf kn xs) (kN k) = some (.ref x) := by
  induction xs with
  | nil => cases hk
  | cons j xs ih =>
    have hj := hb j List.mem_cons_self
    have hkb := hb k hk
    unfold valueAt kvOf at *
    by_cases e : j = k
    · subst e; simp [hx]
    · have e' : ¬ kN j = kN k := fun q => e (kN_inj j hj.1 hj.2 k hkb.1 hkb.2 q)
      simp only [List.map_cons, List.find?_cons, decide_eq_false e']
      exact ih (fun q hq => hb q (List.mem_cons_of_mem _ hq)) (by
        rcases List.mem_cons.mp hk with h | h
        · exact absurd h.symm e
        · exact h)
theorem isS_key {kn : Int → Option Addr} {sg : Int → Option PySem.Str} {P : PySem.Str} {k : Int} (h : isS kn sg P k = true) : ∃ x, kn k = some x := by
  unfold isS at h
  rw [Bool.and_eq_true] at h
  exact Option.isSome_iff_exists.mp h.1
section
variable {prog : Program} {w : World} {A : Around} {E : Value → Shared → Prop} {s : Shared} {h₀ : Heap} {L a : Addr} {news : Led} {oa : Obj} {Q : Value → Shared → Prop}
theorem eq_self_nil (N : News h₀ L s.heap news) (pa : (a, oa) ∈ news) (da : oa.IsDictOf (PySem.strKind prog w) []) (la : (a == sysModules) = false) (hu : A.units < cLine) (h : Q (.bool true) s) : wpAny (model prog w) A (compareOp .Eq (.ref a) (.ref a)) Q E s :=
  keq_pairs N pa pa da da la la rfl hu KeqHits.nil h
theorem eq_self_one {k x : PySem.Str} {t : Tok} (N : News h₀ L s.heap news) (pa : (a, oa) ∈ news) (da : oa.IsDictOf (PySem.strKind prog w) [(k, .str x t)]) (la : (a == sysModules) = false) (hu : A.units < cLine) (h : Q (.bool true) s) : wpAny (model prog w) A (compareOp .Eq (.ref a) (.ref a)) Q E s := by
  have e : PyData.eqv (.str x) (.str x) = true := by simp [PyData.eqv]
  have f : PyProof.V.Flat (.str x t) (.str x) := fun _ => Reads.str _ _
  have hh := keq_flat (A := A.in1) (s := s) f f
  rw [e] at hh
  refine keq_pairs N pa pa da da la la rfl hu (KeqHits.hit ?_ hh KeqHits.nil) ?_
  · unfold valueAt; simp
  · simpa using h
end
def nsK (Kf : Frag) (N : Addr) (n : PySem.Str) : Option Value := match Kf.lookup N with
  | some ⟨_, _, .dict es _, _⟩ => nsFind es n
  | _ => none
theorem ns_of_K {Kf : Frag} {h : Heap} {N : Addr} {mg : PySem.Str → Option Value} {n : PySem.Str} {v : Value} (X : Kf.In h) (G : h.Ns N mg) (e : nsK Kf N n = some v) : mg n = some v := by
  obtain ⟨o, es, ep, ho, hd, _, hf⟩ := G
  unfold nsK at e
  split at e
  · rename_i c d es' n' sl q
    have := X _ _ q
    rw [ho] at this
    cases this
    cases hd
    rw [← hf]
    exact e
  · cases e
theorem key_own {P : Params} {h : Heap} {x dx : Addr} (X : (K P).In h) (hx : h.get? x = some (instObj 154 dx)) : h.OwnEqNoNe x 154 127 "object" [.type "object"] := by
  have N153 : h.Ns 153 (h.nsMap 153) := Heap.Ns.of_isNs (isNs_of_in X (by kernel_rfl))
  have e1 : (K P).lookup 154 = some (excClassObj "Key" "Key" 154 153 [.type "object"] [.type "object"] true [] [] false none none none none (some (.str "Key" 323)) (some (.str "Key" 331)) (some (.bool true)) "object.__new__") := by kernel_rfl
  have e2 : ((K P).lookup 127).map (·.cls) = some (.type "function") := by kernel_rfl
  obtain ⟨of, e3, e4⟩ := Option.map_eq_some_iff.mp e2
  exact ⟨_, of, _, _, 153, _, _, _, _, _, _, _, _, _, _, _, _, _, _, _, hx, rfl, X _ _ e1, N153, ns_of_K X N153 (by kernel_rfl), X _ _ e3, e4, F.cmp_object.mro, F.cmp_object.eq.lookup, ns_none_of X N153 (by kernel_rfl)⟩
theorem key_ne_led {w : World} {x dx : Addr} {led : Led} (H : DoesP w 8 127 [.ref x, .ref x] led (fun r l => r = .bool true ∧ l = led)) {dp un : Nat} {gd : Option (List Code)} {cn : Str} {nm : List (Str × NameKind)} {ig ic : Bool} {mo : List (Str × Const)} {a : Addr} {ccd : Value} {cl : List (Str × Addr)} {outer : List Env} {A₀ : Around} {base h₀ : Heap} {L : Addr} {m : Str → Option Value} {s : Shared}
    {mean : ExcName → Option Value} {mg mb : Str → Option Value} {Q E : Value → Shared → Prop} (hx : (x, instObj 154 dx) ∈ led)
    (B : Below A₀ base outer h₀) (Fx : Fr h₀ L s.heap m) (X : (K w.params).In h₀) (N : News h₀ L s.heap led) (T : TopM mean mg mb h₀) (hd : dp + 8 < recursionLimit) (hu : un + 1 + 20 * 8 < cLine)
    (h : ∀ h' tk', Fr h₀ L h' m → News h₀ L h' led → Q (.bool false) { s with heap := h', toks := tk' }) :
    wpAny (model PySem.Challenge.rw_je0043_01.row.toRowW.1 w) (ktrTop dp un gd cn ⟨.function, nm, ig, ic, mo⟩ L a ccd cl outer) (compareOp .NotEq (.ref x) (.ref x)) Q E s := by
  have hxo := (N _ hx).1
  obtain ⟨hp, g, d, t, os⟩ := s
  refine compareOp_ne_ownEq PySem.F.cmp_object (key_own (X.keeps Fx.keep) hxo) hxo rfl (by show un + 1 < cLine; omega) ?_
  exact useP (un := un + 1) H B Fx X N T hd hu (by rintro r h' tk' news' F' N' ⟨rfl, rfl⟩; exact ⟨true, rfl, h h' tk' F' N'⟩)
theorem useT {w : World} {dn : Nat} {f : Addr} {args : List Value} {led : Led} {Post : Value → Led → Prop} (H : Does w dn f args led Post) {dp un : Nat} {gd : Option (List Code)} {cn : Str} {nm : List (Str × NameKind)} {ig ic : Bool} {mo : List (Str × Const)} {a : Addr} {ccd : Value} {cl : List (Str × Addr)} {outer : List Env} {A₀ : Around} {base h₀ : Heap} {L : Addr} {m : Str → Option Value} {s : Shared}
    {mean : ExcName → Option Value} {mg mb : Str → Option Value} {Q E : Value → Shared → Prop}
    (B : Below A₀ base outer h₀) (F : Fr h₀ L s.heap m) (X : (K w.params).In h₀) (N : News h₀ L s.heap led) (T : TopM mean mg mb h₀) (XB : (K w.params).In base) (TB : TopM mean mg mb base) (D : KtsDicts (frs outer) h₀) (hd : dp + dn < recursionLimit) (hu : un + 20 * dn < cLine)
    (h : ∀ r h' g' tk' news', KtsTurn (frs outer) h₀ g' → Below A₀ base outer g' → Fr g' L h' m → (K w.params).In g' → TopM mean mg mb g' → KtsDicts (frs outer) g' → News g' L h' news' → Post r news' → Q r { s with heap := h', toks := tk' }) :
    wpAny (model PySem.Challenge.rw_je0043_01.row.toRowW.1 w) (ktrTop dp un gd cn ⟨.function, nm, ig, ic, mo⟩ L a ccd cl outer) (call (.ref f) args) Q E s :=
  H dp un gd cn nm ig ic mo a ccd cl outer A₀ base h₀ L m s mean mg mb Q E B F X N T XB TB D hd hu h
/-- a callee's ground has turned: so has the caller's -/
theorem turn_up {w : World} {A : Around} {env : Env} {outer : List Env} {base g gv g1 : Heap} {L : Addr} {m : Str → Option Value} {mean : ExcName → Option Value} {mg mb : Str → Option Value}
    (hf : env.frame = some L) (FG : Fr g L gv m) (B : Below A base outer g) (XB : (K w.params).In base) (TB : TopM mean mg mb base) (D : KtsDicts (frs outer) g) (t : KtsTurn (frs (env :: outer)) gv g1) :
    ∃ kg, KtsTurn (frs outer) g kg ∧ Fr kg L g1 m ∧ Below A base outer kg ∧ (K w.params).In kg ∧ TopM mean mg mb kg ∧ KtsDicts (frs outer) kg := by
  have nL : g.get? L = none := kts_self FG
  obtain ⟨oL, es, ep, hL, hLd, hLk, hLf⟩ := FG.ns
  obtain ⟨sl, hs⟩ := t.up hL
  have mem : ∀ b, b ∈ frs (env :: outer) → b = L ∨ b ∈ frs outer := fun b hb => by
    obtain ⟨e, he, hfe⟩ := List.mem_filterMap.mp hb
    rcases List.mem_cons.mp he with rfl | he
    · rw [hf] at hfe; exact .inl (Option.some.inj hfe).symm
    · exact .inr (List.mem_filterMap.mpr ⟨e, he, hfe⟩)
  obtain ⟨T₁, S₁⟩ := kts_turn_at (h := g1) (fs := frs outer) (g := g)
    (fun b hb => by
      obtain ⟨_, o, ho', _⟩ := B.frames.mem hb
      exact ⟨o, ho'⟩)
    (fun b o e nmem => t.other b o (FG.keep b o e) (fun q => by
      rcases mem b q with z | z
      · rw [z, nL] at e
        cases e
      · exact nmem z))
    (fun b o e hm => t.up (FG.keep b o e))
  have B₃ : Below A base outer (ktsHeap g1 (frs outer) g) := ⟨B.stack, fun b o e => T₁.other b o (B.stays b o e) (fun hm => by
    rw [(B.frames.mem hm).1] at e
    cases e), B.frames.of_keeps fun b o e _ => by
    obtain ⟨sl', hs'⟩ := T₁.up e
    exact ⟨_, hs', rfl⟩⟩
  exact ⟨_, T₁, ⟨⟨_, es, ep, hs, hLd, hLk, hLf⟩, S₁, by rw [T₁.size]; exact FG.above⟩, B₃, XB.keeps B₃.stays, TB.keeps B₃.stays, D.turn T₁⟩
end
-- MyY
theorem keeps_refl (s : Shared) : Keeps s s := ⟨s.heap, s.toks, rfl, fun _ _ e => e⟩
theorem quiet_digit {prog : Program} {w : World} {cenv : Env} {fp wr : List Addr} {items : Array Value} {href : Heap} {p1 p2 p3 : Pos} (hk : cenv.scope.kind = .function) (hl : cenv.kindOf "el" = some .local) (hp : (p2.endLine == p3.line) = true)
    (hi : ∀ (i : Nat) (v : Value), items[i]? = some v → ∃ y t, v = .str y t ∧ Txt.isdigit y = true) :
    QuietGen prog w cenv "el" [] (.Call (.Attribute (.Name "el" p1) "isdigit" p2) [] [] p3) fp wr (fun i v => items[i]? = some v) (fun _ => true) (fun _ v => v = .bool true) href := by
  refine ⟨fun A' E' i v s₂ m₂ hA hv hn hm _ => wpAny_pure ⟨rfl, keeps_refl _⟩, fun A' E' i v s₂ m₂ hA hv _ hn hm _ => ?_⟩
  obtain ⟨y, t, rfl, hy⟩ := hi i v hv
  refine' wpAny_Call_method_lateS ?ha ?hb hp ?_
  case ha => rfl
  case hb => rfl
  refine wpAny_Name (wpAny_loadName_local hk hl hn hm ?_) (by decide)
  exact SB.isdigit ⟨by rw [hy], keeps_refl _⟩
section
variable {prog : Program} {w : World} {A : Around} {E : Value → Shared → Prop} {s : Shared} {h₀ : Heap} {L a Kb : Addr} {m : Str → Option Value} {news : Led} {n : Nat} {F : Nat → Value → Prop}
theorem all_led {Q : Value → Shared → Prop} (Fh : Fr h₀ L s.heap m) (N : News h₀ L s.heap news) (G : AllBare s.gens) (X : Gen prog w A Kb a n F s) (hL : L ≤ Kb) (hb : ∀ p ∈ news, p.1 ≤ Kb) (hF : ∀ j v, F j v → v = .bool true)
    (h : ∀ s', Fr h₀ L s'.heap m → News h₀ L s'.heap news → AllBare s'.gens → s'.os = s.os → Q (.bool true) s') : wpAny (model prog w) A (call (.builtin "all") [.ref a]) Q E s := by
  refine all_rowsK Fh G X hL (fun _ => true) (fun i v s Q E hv hQ => ?_) fun s' F' G' hos hk => ?_
  · rw [hF i v hv]; exact wpAny_truthy_bool hQ
  · have e : (List.range n).all (fun _ => true) = true := by simp
    rw [e]
    exact h s' F' (fun p hp => ⟨hk _ _ (hb p hp) (N p hp).1, (N p hp).2⟩) G' hos
theorem any_led {Q : Value → Shared → Prop} (Fh : Fr h₀ L s.heap m) (N : News h₀ L s.heap news) (G : AllBare s.gens) (X : Gen prog w A Kb a 0 F s) (hL : L ≤ Kb) (hb : ∀ p ∈ news, p.1 ≤ Kb) (hF : ∀ j v, F j v → False)
    (h : ∀ s', Fr h₀ L s'.heap m → News h₀ L s'.heap news → AllBare s'.gens → s'.os = s.os → Q (.bool false) s') : wpAny (model prog w) A (call (.builtin "any") [.ref a]) Q E s := by
  refine any_rowsK Fh G X hL (fun _ => false) (fun i v s Q E hv hQ => (hF i v hv).elim) fun s' F' G' hos hk => ?_
  exact h s' F' (fun p hp => ⟨hk _ _ (hb p hp) (N p hp).1, (N p hp).2⟩) G' hos
theorem sum_led {Q : Value → Shared → Prop} (Fh : Fr h₀ L s.heap m) (N : News h₀ L s.heap news) (G : AllBare s.gens) (X : Gen prog w A Kb a 1 F s) (hL : L ≤ Kb) (hb : ∀ p ∈ news, p.1 ≤ Kb) (hF : ∀ j v, F j v → ∃ t, v = .int 1 t)
    (h : ∀ s' t, Fr h₀ L s'.heap m → News h₀ L s'.heap news → AllBare s'.gens → s'.os = s.os → Q (.int 1 t) s') : wpAny (model prog w) A (call (.builtin "sum") [.ref a]) Q E s := by
  refine sum_rowsKA Fh G X hL (fun _ => 1) (fun j v hv => hF j v hv) fun s' t' F' G' hos hk => ?_
  have e : preSum (fun _ => (1 : Int)) 1 = 1 := by decide
  rw [e]
  exact h s' t' F' (fun p hp => ⟨hk _ _ (hb p hp) (N p hp).1, (N p hp).2⟩) G' hos
end
/-- a contract for the call of a class that reaches a generator expression: the generators' states may grow -/
def DoesKS (w : World) (dn : Nat) (f : Addr) (args : List Value) (news : Led) (Post : Value → Led → Prop) : Prop :=
  ∀ (dp un : Nat) (gd : Option (List Code)) (cn : Str) (nm : List (Str × NameKind)) (ig ic : Bool) (mo : List (Str × Const)) (a : Addr) (ccd : Value) (cl : List (Str × Addr)) (outer : List Env) (base h₀ : Heap) (L : Addr) (m : Str → Option Value) (s : Shared)
    (mean : ExcName → Option Value) (mg mb : Str → Option Value) (Q E : Value → Shared → Prop),
    Below (cTop0 dp un gd outer) base outer h₀ → Fr h₀ L s.heap m → (K w.params).In h₀ → News h₀ L s.heap news → TopM mean mg mb h₀ → AllBare s.gens →
    dp + dn < recursionLimit → un + 20 * dn < cLine →
    (∀ r s' news', Fr h₀ L s'.heap m → News h₀ L s'.heap news' → s'.os = s.os → AllBare s'.gens → Post r news' → Q r s') →
    wpAny (model PySem.Challenge.rw_je0043_01.row.toRowW.1 w) ((cTop0 dp un gd outer).deeper (envX cn ⟨.function, nm, ig, ic, mo⟩ L a ccd cl)) (call (.ref f) args) Q E s
theorem two_at {a b v : Value} {i : Nat} (h : (#[a, b] : Array Value)[i]? = some v) : v = a ∨ v = b := by
  rcases i with _ | _ | i
  · exact .inl (by simpa using h.symm)
  · exact .inr (by simpa using h.symm)
  · simp at h
theorem take_sub {x : Addr × Obj} {h₀ h : Heap} {L : Addr} {l l' : Led} (N : News h₀ L h l) (t : Take x l l') : News h₀ L h (x :: l') := newsSub N t.mem
theorem take_ne {P : Addr} {o : Obj} {l : Led} (h : ∀ p ∈ l, p.1 ≠ P) : ∀ p ∈ l, p.1 ≠ P := h
/-- a contract for a function that reaches a generator expression -/
def DoesS (w : World) (dn : Nat) (f : Addr) (args : List Value) (news : Led) (Post : Value → Led → Prop) : Prop :=
  ∀ (dp un : Nat) (gd : Option (List Code)) (cn : Str) (nm : List (Str × NameKind)) (ig ic : Bool) (mo : List (Str × Const)) (a : Addr) (ccd : Value) (cl : List (Str × Addr)) (outer : List Env) (A₀ : Around) (base h₀ : Heap) (L : Addr) (m : Str → Option Value) (s : Shared)
    (mean : ExcName → Option Value) (mg mb : Str → Option Value) (Q E : Value → Shared → Prop),
    Below A₀ base outer h₀ → Fr h₀ L s.heap m → (K w.params).In h₀ → News h₀ L s.heap news → TopM mean mg mb h₀ → AllBare s.gens →
    dp + dn < recursionLimit → un + 20 * dn < cLine →
    (∀ r s' news', Fr h₀ L s'.heap m → News h₀ L s'.heap news' → s'.os = s.os → AllBare s'.gens → Post r news' → Q r s') →
    wpAny (model PySem.Challenge.rw_je0043_01.row.toRowW.1 w) (ktrTop dp un gd cn ⟨.function, nm, ig, ic, mo⟩ L a ccd cl outer) (call (.ref f) args) Q E s
def EndsS (g : Heap) (L : Addr) (s : Shared) (Post : Value → Led → Prop) (fl : Flow) (s' : Shared) : Prop :=
  ∃ m' led', Fr g L s'.heap m' ∧ News g L s'.heap led' ∧ s'.os = s.os ∧ AllBare s'.gens ∧ Post (match fl with | .ret v => v | _ => .none) led'
def BodyS (w : World) (dn : Nat) (qual : Str) (scope : Scope) (f : Addr) (cdv : Value) (body : List Stmt) (m : Str → Option Value) (news : Led) (Post : Value → Led → Prop) : Prop :=
  ∀ (dp un : Nat) (gd : Option (List Code)) (outer : List Env) (base g : Heap) (L : Addr) (s : Shared) (mean : ExcName → Option Value) (mg mb : Str → Option Value),
    Below (cTop0 dp un gd outer) base outer g → Fr g L s.heap m → (K w.params).In g → News g L s.heap news → TopM mean mg mb g → AllBare s.gens →
    (∀ p ∈ news, p.1 < L) → dp + dn < recursionLimit → un + 20 * dn < cLine →
    wpAny (model PySem.Challenge.rw_je0043_01.row.toRowW.1 w) ((cTop0 dp un gd outer).deeper (envOf qual scope L f cdv)) (execs body (envOf qual scope L f cdv))
      (EndsS g L s Post) (fun _ _ => False) s
theorem doesS_of {w : World} {dn : Nat} {f : Addr} {args : List Value} {news : Led} {Post : Value → Led → Prop} {name qual : Str} {params : Arguments} {body : List Stmt} {scope : Scope} {dV kV doc pm cdv ct oc : Value} {an od : Option Addr} {osl : Array (Option Value)} {binds : List (Str × Value)}
    (ho : (K w.params).lookup f = some ⟨oc, od, .func (fnOf name qual params body scope dV kV doc pm an cdv ct), osl⟩) (hcd : codeIn (K w.params) cdv qual = true)
    (hbind : ∀ s, BindsTo s (fnOf name qual params body scope dV kV doc pm an cdv ct) ⟨args, []⟩ binds) (hloc : ∀ y ∈ binds, scope.names.lookup y.1 = some .local)
    (hco : scope.isCoroutine = false) (hgen : scope.isGenerator = false) (hk : scope.kind = .function) (hcell : ∀ x ∈ scope.names, x.2 ≠ .cell)
    (hdn : 0 < dn)
    (h : BodyS w dn qual scope f cdv body (fun y => binds.reverse.lookup y) news Post) : DoesS w dn f args news Post := by
  intro dp un gd cn nm ig ic mo a ccd cl outer A₀ base h₀ L m s mean mg mb Q E B F X₀ N T hG hdp hun hret
  refine wpAny_call ?_
  have X := X₀.keeps F.keep
  obtain ⟨FG, BG, st, lv⟩ := groundX (A := ktrTop dp un gd cn ⟨.function, nm, ig, ic, mo⟩ L a ccd cl outer) (R := fun r s' => match r with | .ok (.ret v) => Q v s' | .ok _ => False | .error e => E e s') B F N rfl rfl rfl
  refine codeAny_call_def (fd := fnOf name qual params body scope dV kV doc pm an cdv ct) (body := body) (binds := binds) (by show dp < recursionLimit; omega) (X _ _ ho) rfl (T.nolimit.keeps F.keep) (codeRec_of X hcd) rfl (hbind s) hcell hloc (fun h₁ hns hk₁ => ?_) hco hgen hk
  refine wpAny_mono (h dp un gd (envX cn ⟨.function, nm, ig, ic, mo⟩ L a ccd cl :: outer) base (hideAll s.heap (news.map (·.1))) s.heap.objs.size { s with heap := h₁, toks := s.toks + binds.length } mean mg mb BG
    ⟨hns, fun b o e => hk₁ b o (of_hideAll _ e), Nat.le_of_eq (hideAll_size _ _)⟩ (X₀.keeps (fun b o e => st b o e))
    (fun p hp => ⟨hk₁ _ _ (N p hp).1, Nat.ne_of_lt (Heap.lt_size (N p hp).1), hideAll_none _ (List.mem_map_of_mem hp)⟩) (T.keeps (fun b o e => st b o e)) hG (fun p hp => Heap.lt_size (N p hp).1) hdp hun) (fun fl s' hl => ?_) fun _ _ y => y.elim
  obtain ⟨m', led', F', N', ho', hG', hp⟩ := hl
  exact lv _ _ (leaveK_ F' N' fun F'' N'' => hret _ _ _ F'' N'' ho' hG' hp)
theorem useK {w : World} {dn : Nat} {f : Addr} {args : List Value} {led : Led} {Post : Value → Led → Prop} (H : DoesK w dn f args led Post) {dp un : Nat} {gd : Option (List Code)} {cn : Str} {nm : List (Str × NameKind)} {ig ic : Bool} {mo : List (Str × Const)} {a : Addr} {ccd : Value} {cl : List (Str × Addr)} {outer : List Env} {A₀ : Around} {base h₀ : Heap} {L : Addr} {m : Str → Option Value} {s : Shared}
    {mean : ExcName → Option Value} {mg mb : Str → Option Value} {Q E : Value → Shared → Prop}
    (B : Below A₀ base outer h₀) (F : Fr h₀ L s.heap m) (X : (K w.params).In h₀) (N : News h₀ L s.heap led) (T : TopM mean mg mb h₀) (hd : dp + dn < recursionLimit) (hu : un + 20 * dn < cLine)
    (h : ∀ r h' tk' news', Fr h₀ L h' m → News h₀ L h' news' → Post r news' → Q r { s with heap := h', toks := tk' }) :
    wpAny (model PySem.Challenge.rw_je0043_01.row.toRowW.1 w) ((cTop0 dp un gd outer).deeper (envX cn ⟨.function, nm, ig, ic, mo⟩ L a ccd cl)) (call (.ref f) args) Q E s :=
  H dp un gd cn nm ig ic mo a ccd cl outer base h₀ L m s mean mg mb Q E ⟨rfl, B.stays, B.frames⟩ F X N T hd hu h
theorem useKS {w : World} {dn : Nat} {f : Addr} {args : List Value} {led : Led} {Post : Value → Led → Prop} (H : DoesKS w dn f args led Post) {dp un : Nat} {gd : Option (List Code)} {cn : Str} {nm : List (Str × NameKind)} {ig ic : Bool} {mo : List (Str × Const)} {a : Addr} {ccd : Value} {cl : List (Str × Addr)} {outer : List Env} {A₀ : Around} {base h₀ : Heap} {L : Addr} {m : Str → Option Value} {s : Shared}
    {mean : ExcName → Option Value} {mg mb : Str → Option Value} {Q E : Value → Shared → Prop}
    (B : Below A₀ base outer h₀) (F : Fr h₀ L s.heap m) (X : (K w.params).In h₀) (N : News h₀ L s.heap led) (T : TopM mean mg mb h₀) (G : AllBare s.gens) (hd : dp + dn < recursionLimit) (hu : un + 20 * dn < cLine)
    (h : ∀ r s' news', Fr h₀ L s'.heap m → News h₀ L s'.heap news' → s'.os = s.os → AllBare s'.gens → Post r news' → Q r s') :
    wpAny (model PySem.Challenge.rw_je0043_01.row.toRowW.1 w) ((cTop0 dp un gd outer).deeper (envX cn ⟨.function, nm, ig, ic, mo⟩ L a ccd cl)) (call (.ref f) args) Q E s :=
  H dp un gd cn nm ig ic mo a ccd cl outer base h₀ L m s mean mg mb Q E ⟨rfl, B.stays, B.frames⟩ F X N T G hd hu h
-- MyU
theorem IsVR.mono {w : World} {fam fam' : Led} {v : Addr} {th : Int} {kn : Int → Option Addr} {ss us : List Int} (h : IsVR w fam v th kn ss us) (hs : ∀ p ∈ fam, p ∈ fam') : IsVR w fam' v th kn ss us := by
  obtain ⟨dv, S, U, oS, oU, n, t1, t2, t3, t4, h1, h2, h3, h4, h5, h6, h7, h8⟩ := h
  exact ⟨dv, S, U, oS, oU, n, t1, t2, t3, t4, hs _ h1, hs _ h2, hs _ h3, h4, h5, hs _ h6, h7, h8⟩
/-- a result object of two -/
inductive IsRVR (w : World) (news : Led) (R a b : Addr) : Prop
  | mk (dx : Addr) (n : Nat) (t1 t2 : Tok) (_ : (R, instObj 344 dx) ∈ news) (_ : (dx, dictOf [⟨hsh w "first", .str "first" t1, .ref a⟩, ⟨hsh w "second", .str "second" t2, .ref b⟩] n) ∈ news) : IsRVR w news R a b
inductive RvrPost (w : World) (news : Led) (th1 th2 : Int) (kn1 kn2 : Int → Option Addr) (ss1 us1 ss2 us2 : List Int) (r : Value) (news' : Led) : Prop
  | mk (R a b : Addr) (_ : r = .ref R) (_ : ∀ p ∈ news, p ∈ news') (_ : IsRVR w news' R a b) (_ : IsVR w news' a th1 kn1 ss1 us1) (_ : IsVR w news' b th2 kn2 ss2 us2) : RvrPost w news th1 th2 kn1 kn2 ss1 us1 ss2 us2 r news'
/-- what get_verification_result does, over every larger ledger -/
def GvrAll (w : World) (news : Led) (x sd : Addr) (name : PySem.Str) (pb : Array UInt8) (th : Int) (kn : Int → Option Addr) (ss us : List Int) : Prop :=
  ∀ (led : Led) (t t0 : Tok), (∀ p ∈ news, p ∈ led) → Does w 14 362 [.ref x, .str name t0, .bytes pb t, .ref sd] led (fun r news' => ∃ vr, r = .ref vr ∧ (∀ p ∈ led, p ∈ news') ∧ IsVR w news' vr th kn ss us)
-- MyGen
def notNone (items : Array Value) (i : Nat) : Bool := match items[i]? with
  | some .none => false
  | _ => true
theorem quiet_one {prog : Program} {w : World} {cenv : Env} {fp wr : List Addr} {items : Array Value} {href : Heap} {x : PySem.Str} {p1 p2 p3 p4 : Pos} (hk : cenv.scope.kind = .function) (hx : (x == ("__debug__" : PySem.Str)) = false) (hl : cenv.kindOf x = some .local)
    (hi : ∀ (i : Nat) (v : Value), items[i]? = some v → v = .none ∨ ∃ a, v = .ref a) :
    QuietGen prog w cenv x [.Compare (.Name x p1) [.IsNot] [.Constant .none 0 p2] p3] (.Constant (.int 1) 0 p4) fp wr (fun i v => items[i]? = some v) (notNone items) (fun _ v => ∃ t, v = .int 1 t) href := by
  refine ⟨fun A' E' i v s₂ m₂ hA hv hn hm _ => ?_, fun A' E' i v s₂ m₂ hA hv _ hn hm _ => ?_⟩
  · refine wpAny_tests_one ?_
    rcases hi i v hv with rfl | ⟨a, rfl⟩
    · have e : notNone items i = false := by unfold notNone; rw [hv]
      rw [e]
      walk1
      refine wpAny_Name (wpAny_loadName_local hk hl hn hm ?_) hx
      repeat' (first | walk1 | (dsimp only; walk1))
      exact keeps_refl _
    · have e : notNone items i = true := by unfold notNone; rw [hv]
      rw [e]
      walk1
      refine wpAny_Name (wpAny_loadName_local hk hl hn hm ?_) hx
      repeat' (first | walk1 | (dsimp only; walk1))
      exact keeps_refl _
  · repeat' (first | walk1 | (dsimp only; walk1))
    all_goals first | exact ⟨_, rfl⟩ | exact ⟨_, _, rfl, fun _ _ e => e⟩
theorem quiet_none {prog : Program} {w : World} {cenv : Env} {fp wr : List Addr} {items : Array Value} {href : Heap} {x : PySem.Str} {ifs : List Expr} {elt : Expr} {pz : Nat → Bool} {F : Nat → Value → Prop} (hz : items.size = 0) :
    QuietGen prog w cenv x ifs elt fp wr (fun i v => items[i]? = some v) pz F href := by
  have no : ∀ (i : Nat) (v : Value), items[i]? = some v → False := fun i v h => by
    have := (Array.getElem?_eq_some_iff.mp h).1
    omega
  exact ⟨fun A' E' i v s₂ m₂ hA hv hn hm _ => (no i v hv).elim, fun A' E' i v s₂ m₂ hA hv _ hn hm _ => (no i v hv).elim⟩
theorem passing_l {a : Addr} : (passing (notNone #[.ref a, .none]) 2 0).length = 1 := rfl
theorem passing_r {a : Addr} : (passing (notNone #[.none, .ref a]) 2 0).length = 1 := rfl
section
variable {prog : Program} {w : World} {A : Around} {E : Value → Shared → Prop} {s : Shared} {env : Env} {L : Addr}
theorem iterG_dict {d : Addr} {od : Obj} {kvs : List (PySem.Str × Value)} {x : Str} {px : Pos} {body : List Stmt} {R : Result → Shared → Prop} {g₀ : Heap} {m₀ : Str → Option Value} {led₀ : Led}
    (hh : A.handled = none) (F : Fr g₀ L s.heap m₀) (N : News g₀ L s.heap led₀) (hm : (d, od) ∈ led₀) (lo : (d == sysModules) = false) (hd : od.IsDictOf (PySem.strKind prog w) kvs)
    (hx : env.kindOf x = some .local) (hk : env.scope.kind = .function) (hL : env.locals = L)
    (G : Heap → Prop) (J : Nat → (Str → Option Value) → Led → Prop) (hG : G g₀) (hGn : ∀ g, G g → ∀ a, g₀.get? a = none → g.get? a = none) (hJ : J 0 m₀ led₀)
    (hsrc : ∀ i m led, J i m led → (d, od) ∈ led)
    (turn : ∀ i k t g m₁ led I oI h tk, (kvs[i]?).map (·.1) = some k → G g → J i m₁ led → (∀ p ∈ led, p.1 ≠ I) → Fr g L h (fun y => if y = x then some (.str k t) else m₁ y) → News g L h ((I, oI) :: led) →
      wpAny (model prog w) A (execs body env) (TurnEndG G L I oI (J (i + 1)) R { s with heap := h, toks := tk }) (notedBy (model prog w) A env fun e s' => R (.error e) s') { s with heap := h, toks := tk })
    (done : ∀ g m led h tk, G g → J kvs.length m led → Fr g L h m → News g L h led → R (.ok .next) { s with heap := h, toks := tk }) :
    wpAny (model prog w) A (pyIter (.ref d)) (fun it s₂ => codeAny (model prog w) A (.forLoop (.Name x px) it body [] env) R s₂) E s := by
  have hD : s.heap.DictOf (PySem.strKind prog w) d kvs := Heap.dictOf_iff.mpr ⟨od, (N _ hm).1, hd⟩
  obtain ⟨ep, hat⟩ := hD.dictAt
  have hlt := hat.lt_size
  refine wpAny_pyIter_dict lo hat ?_
  have W := Walks.dictKeys (knd := PySem.strKind prog w) hh s.heap.objs.size d (Nat.ne_of_lt hlt) kvs ep
  have hup : ∀ b o, s.heap.get? b = some o → (s.heap.push { cls := .type "dict_keyiterator", data := .fields #[.ref d, .int 0 0, .int kvs.length 0, .int ep 0] }).get? b = some o := fun b o e => Heap.get?_push_of_some _ e
  refine forG (n := kvs.length) (g₀ := g₀) (m₀ := m₀) (led₀ := led₀) W [(d, od)] (fun b hb => ?_) (fun i h st => ?_) G J hx hk hL ?_ hG (F.keeps fun _ _ e => Heap.get?_push_of_some _ e) (N.grown fun _ _ e => Heap.get?_push_of_some _ e) (fun p hp => Nat.ne_of_lt (Heap.lt_size (N p hp).1)) ?_ (Nat.ne_of_lt F.ns.lt) hJ ?_ ?_ ?_
  · rcases List.mem_cons.mp hb with rfl | hb
    · exact .inl rfl
    · rw [List.mem_singleton.mp hb]
      exact .inr ⟨_, List.mem_singleton.mpr rfl⟩
  · obtain ⟨⟨o, ho, hc, hd⟩, _⟩ := st
    exact ⟨o, ho, (Heap.get?_some_iff.mp ho).2⟩
  · exact ⟨⟨_, Heap.get?_push_size _ rfl, rfl, rfl⟩, hat.push _⟩
  · exact fun g hg => hGn g hg _ (next_is_new F)
  · intro i m led hj p hp
    rw [List.mem_singleton.mp hp]
    exact hsrc i m led hj
  · intro i v g m₁ led oI h tk hi hv hg hj hne' F' N'
    obtain ⟨k, x', hx', hk'⟩ := hv
    obtain ⟨t, rfl⟩ := Value.isStrOf_shape hk'
    exact turn i k t g m₁ led _ oI h tk (by rw [hx']; rfl) hg hj hne' F' N'
  · intro g m led h tk hg hj F' N'
    exact done g m led h tk hg hj F' N'
end
section
-- MyWd
/-- pairs of the ledger: a name and what it means -/
def PairFam (fam : Led) (kvs : List (PySem.Str × Value)) (ys : List Value) : Prop :=
  ys.length = kvs.length ∧ ∀ (j : Nat) (y : Value), ys[j]? = some y → ∃ (a : Addr) (k : PySem.Str) (t : Tok) (v : Value) (n : Nat), y = Value.ref a ∧ kvs[j]? = some (k, v) ∧ (a, ({ cls := .type "tuple", data := .seq #[.str k t, v] n } : Obj)) ∈ fam
theorem PairFam.nil {fam : Led} : PairFam fam [] [] := ⟨rfl, fun j y h => by simp at h⟩
theorem PairFam.snoc {fam fam' : Led} {kvs : List (PySem.Str × Value)} {ys : List Value} {k : PySem.Str} {v : Value} {a : Addr} {t : Tok} {n : Nat} (h : PairFam fam kvs ys) (hs : ∀ p ∈ fam, p ∈ fam')
    (ha : (a, ({ cls := .type "tuple", data := .seq #[.str k t, v] n } : Obj)) ∈ fam') : PairFam fam' (kvs ++ [(k, v)]) (ys ++ [.ref a]) := by
  refine ⟨by simp [h.1], fun j y hj => ?_⟩
  by_cases hlt : j < ys.length
  · rw [List.getElem?_append_left hlt] at hj
    obtain ⟨a', k', t', v', n', e, hp, hm⟩ := h.2 j y hj
    exact ⟨a', k', t', v', n', e, by rw [List.getElem?_append_left (by rw [← h.1]; exact hlt)]; exact hp, hs _ hm⟩
  · rw [List.getElem?_append_right (by omega)] at hj
    have hj0 : j - ys.length = 0 := by
      have := (List.getElem?_eq_some_iff.mp hj).1
      simp only [List.length_singleton] at this
      omega
    rw [hj0] at hj
    refine ⟨a, k, t, v, n, by simpa using hj.symm, ?_, ha⟩
    rw [List.getElem?_append_right (by rw [← h.1]; omega), ← h.1, hj0]
    rfl
theorem pairsAt_fam {fam : Led} {kvs : List (PySem.Str × Value)} {ys : List Value} {h₀ h : Heap} {L : Addr} {led : Led} (hF : PairFam fam kvs ys) (N : News h₀ L h led) (hs : ∀ p ∈ fam, p ∈ led) : PairsAt h ys kvs := by
  refine ⟨hF.1, fun j y hj => ?_⟩
  obtain ⟨a, k, t, v, n, e, hp, hm⟩ := hF.2 j y hj
  exact ⟨a, k, t, v, n, e, hp, (N _ (hs _ hm)).1⟩
def nm3 : List PySem.Str := [Str.ofString "timestamp", Str.ofString "snapshot", Str.ofString "targets"]
def kv3 (rs : List Addr) : List (PySem.Str × Value) := List.zipWith (fun n r => (n, Value.ref r)) nm3 rs
theorem kv3_snoc {rs : List Addr} {r : Addr} {i : Nat} {k : PySem.Str} (hl : rs.length = i) (hk : nm3[i]? = some k) : kv3 (rs ++ [r]) = kv3 rs ++ [(k, .ref r)] := by
  subst hl
  match rs with
  | [] => obtain rfl := Option.some.inj hk; rfl
  | [_] => obtain rfl := Option.some.inj hk; rfl
  | [_, _] => obtain rfl := Option.some.inj hk; rfl
  | _ :: _ :: _ :: r => simp [nm3] at hk
theorem kv3_three {rs : List Addr} (hl : rs.length = 3) : ∃ a b c, kv3 rs = [(Str.ofString "timestamp", .ref a), (Str.ofString "snapshot", .ref b), (Str.ofString "targets", .ref c)] := by
  match rs with
  | [a, b, c] => exact ⟨a, b, c, rfl⟩
  | [] => cases hl
  | [_] => cases hl
  | [_, _] => cases hl
  | _ :: _ :: _ :: _ :: _ => simp at hl
theorem kv3_upTo {a b c : Addr} : upTo [(Str.ofString "timestamp", Value.ref a), (Str.ofString "snapshot", .ref b), (Str.ofString "targets", .ref c)] 3 = [(Str.ofString "timestamp", Value.ref a), (Str.ofString "snapshot", .ref b), (Str.ofString "targets", .ref c)] := by
  rw [upTo_nodup (by simp only [List.map_cons, List.map_nil]; decide +kernel) 3 (Nat.le_refl _)]
  rfl
/-- a stretch of the ledger above another -/
def Over (fam base : Led) : Prop := ∀ q ∈ fam, AllLt q.1 base
theorem Over.nil {base : Led} : Over [] base := fun _ h => nomatch h
theorem Over.cons {q : Addr × Obj} {fam base : Led} (h : AllLt q.1 base) (r : Over fam base) : Over (q :: fam) base := List.forall_mem_cons.mpr ⟨h, r⟩
theorem allLt_mem {a : Addr} {l : Led} (h : AllLt a l) : ∀ p ∈ l, @LT.lt Nat _ p.1 a := by
  induction l with
  | nil => exact fun p hp => nomatch hp
  | cons q r ih =>
    intro p hp
    unfold AllLt at h
    rcases List.mem_cons.mp hp with rfl | hp
    · exact h.1
    · exact ih h.2 p hp
theorem over_ne {fam base : Led} (h : Over fam base) {p : Addr × Obj} (hp : p ∈ base) : ∀ q ∈ fam, q.1 ≠ p.1 := fun q hq => Nat.ne_of_gt (allLt_mem (h q hq) p hp)
theorem allLt_sub {a : Addr} {x y : Led} (h : AllLt a x) (hs : ∀ p ∈ y, p ∈ x) : AllLt a y := allLt_of fun p hp => allLt_mem h p (hs p hp)
section
open LCg
variable {h₀ : Heap} {L I C D : Addr} {m : Str → Option Value} {s₁ : Shared} {oI oC oD : Obj} {S : List (Addr × Obj) → Prop} {rest : Value → List (Addr × Obj) → Prop} {y : Value} {h' : Heap} {tk : Nat} {tl : Led} {e1 e2 e3 e4 e5 : Addr × Obj}
theorem compEnd5b (F : Fr h₀ L h' m) (N : News h₀ L h' (e1 :: e2 :: e3 :: e4 :: e5 :: (I, oI) :: (C, oC) :: (D, oD) :: tl)) (off : Off3 I C D (e1 :: e2 :: e3 :: e4 :: e5 :: tl)) (hS : S (e1 :: e2 :: e3 :: e4 :: e5 :: tl))
    (r : rest y (e1 :: e2 :: e3 :: e4 :: e5 :: tl)) : CompEnd h₀ L m s₁ I oI C oC D oD S rest y { s₁ with heap := h', toks := tk } :=
  CompEnd.intro F N _ (fun p hp => by simp only [List.mem_cons] at hp ⊢; grind) off hS r
end
theorem mem5 {p e1 e2 e3 e4 e5 : Addr × Obj} {tl : Led} (h : p ∈ tl) : p ∈ e1 :: e2 :: e3 :: e4 :: e5 :: tl := List.mem_cons_of_mem _ (List.mem_cons_of_mem _ (List.mem_cons_of_mem _ (List.mem_cons_of_mem _ (List.mem_cons_of_mem _ h))))
theorem mem3 {p e1 e2 e3 : Addr × Obj} {tl : Led} (h : p ∈ tl) : p ∈ e1 :: e2 :: e3 :: tl := List.mem_cons_of_mem _ (List.mem_cons_of_mem _ (List.mem_cons_of_mem _ h))
theorem allLt_mono {a : Addr} {x y : Led} (h : AllLt a x) (hs : ∀ p ∈ y, p ∈ x) : AllLt a y := allLt_sub h hs
theorem allLt4 {a I C D : Addr} {e0 : Addr × Obj} {oI oC oD : Obj} {nw : Led} (h : AllLt a (e0 :: (I, oI) :: (C, oC) :: (D, oD) :: nw)) : @LT.lt Nat _ e0.1 a ∧ @LT.lt Nat _ I a ∧ @LT.lt Nat _ C a ∧ @LT.lt Nat _ D a ∧ AllLt a nw := ⟨h.1, h.2.1, h.2.2.1, h.2.2.2.1, h.2.2.2.2⟩
/-- two stretches of the ledger have no address in common -/
def Sep (fam base : Led) : Prop := ∀ q ∈ fam, ∀ p ∈ base, p.1 ≠ q.1
theorem Over.sep {fam base : Led} (h : Over fam base) : Sep fam base := fun q hq p hp => Nat.ne_of_lt (allLt_mem (h q hq) p hp)
theorem Sep.cons {q : Addr × Obj} {fam base : Led} (h : ∀ p ∈ base, p.1 ≠ q.1) (r : Sep fam base) : Sep (q :: fam) base := List.forall_mem_cons.mpr ⟨h, r⟩
theorem Sep.app {a b base : Led} (h : Sep a base) (r : Sep b base) : Sep (a ++ b) base := fun q hq => (List.mem_append.mp hq).elim (h q) (r q)
theorem Sep.nil {base : Led} : Sep [] base := fun _ h => nomatch h
theorem allLt_ne2 {a : Addr} {l : Led} (h : AllLt a l) : ∀ p ∈ l, p.1 ≠ a := fun p hp => Nat.ne_of_lt (allLt_mem h p hp)
theorem fam_up {h₀ h : Heap} {L d : Addr} {o' : Obj} {a b : Addr × Obj} {fam tl : Led} (N : News h₀ L h ((d, o') :: (fam ++ (a :: b :: tl)))) : News h₀ L h ((d, o') :: a :: b :: (fam ++ tl)) :=
  newsSub N (fun p hp => by simp only [List.mem_cons, List.mem_append] at hp ⊢; grind)
theorem fam_up5 {h₀ h : Heap} {L : Addr} {e e1 e2 a b c : Addr × Obj} {fam tl : Led} (N : News h₀ L h (e :: (fam ++ (e1 :: e2 :: a :: b :: c :: tl)))) : News h₀ L h (e :: a :: b :: c :: (fam ++ tl)) :=
  newsSub N (fun p hp => by simp only [List.mem_cons, List.mem_append] at hp ⊢; grind)
theorem nl_ne {a : Addr} {fam tl : Led} (hf : ∀ p ∈ fam, p.1 ≠ a) (ht : ∀ p ∈ tl, p.1 ≠ a) : ∀ p ∈ fam ++ tl, p.1 ≠ a := fun p hp => (List.mem_append.mp hp).elim (hf p) (ht p)
section
variable {prog : Program} {w : World} {A : Around} {E : Value → Shared → Prop} {s : Shared} {h₀ : Heap} {L l d : Addr} {m : Str → Option Value} {news : Led}
theorem list_copy_led {vs : List Value} {nn : Nat} {Q : Value → Shared → Prop} (F : Fr h₀ L s.heap m) (N : News h₀ L s.heap news) (hm : (l, listOf vs.toArray nn) ∈ news) (hz : vs.length ≤ 100)
    (h : ∀ D c h', Fr h₀ L h' m → News h₀ L h' ((D, listOf vs.toArray c) :: news) → (∀ q ∈ news, q.1 < D) → Q (.ref D) { s with heap := h' }) : wpAny (model prog w) A (call (.type "list") [.ref l]) Q E s :=
  kup_listOf F N hm (by simp) h (by simp only [List.toList_toArray]; rw [sizeLine_eq]; omega)
theorem dict_copy_led {o : Obj} {kvs : List (PySem.Str × Value)} {Q : Value → Shared → Prop} (F : Fr h₀ L s.heap m) (N : News h₀ L s.heap news) (hbig : sysModules < h₀.objs.size) (hm : (d, o) ∈ news) (lo : (d == sysModules) = false) (hd : o.IsDictOf (PySem.strKind prog w) kvs) (hz : kvs.length ≤ 100)
    (h : ∀ D h' o', Fr h₀ L h' m → News h₀ L h' ((D, o') :: news) → (D == sysModules) = false → o'.IsDictOf (PySem.strKind prog w) kvs → (∀ q ∈ news, q.1 < D) → Q (.ref D) { s with heap := h' }) : wpAny (model prog w) A (call (.type "dict") [.ref d]) Q E s := by
  refine kt_call_dict (knd := PySem.strKind prog w) lo (Heap.dictOf_iff.mpr ⟨o, (N _ hm).1, hd⟩) (by rw [sizeLine_eq]; omega) fun h' hD hsb => ?_
  have lt : ∀ b o, s.heap.get? b = some o → h'.get? b = some o := fun b o e => hsb.extBut b o (Nat.ne_of_lt (Heap.lt_size e)) (Heap.get?_push_of_some _ e)
  obtain ⟨o', ho', hd'⟩ := Heap.dictOf_iff.mp hD
  refine h _ h' o' (F.keeps lt) (fun p hp => ?_) (F.notModules hbig) hd' (fun q hq => Heap.lt_size (N q hq).1)
  rcases List.mem_cons.mp hp with rfl | hp
  · exact ⟨ho', Ne.symm (Nat.ne_of_lt F.ns.lt), next_is_new F⟩
  · exact ⟨lt _ _ (N p hp).1, (N p hp).2⟩
end
theorem names_dd {ks : List Int} (h5 : Good5 ks) : dd (ks.map kN) = ks.map kN := dd_id (by
  have h1 := h5.nodup
  have h2 := h5.bound
  clear h5
  induction ks with
  | nil => exact List.nodup_nil
  | cons a l ih =>
    rw [List.map_cons, List.nodup_cons]
    rw [List.nodup_cons] at h1
    refine ⟨fun hm => ?_, ih h1.2 (fun k hk => h2 k (List.mem_cons_of_mem _ hk))⟩
    obtain ⟨b, hb, e⟩ := List.mem_map.mp hm
    have hb' := h2 b (List.mem_cons_of_mem _ hb)
    have ha' := h2 a List.mem_cons_self
    exact h1.1 (kN_inj b hb'.1 (by omega) a ha'.1 (by omega) e ▸ hb))
theorem kv3_fix {w : World} {o : Obj} {a b c : Addr} (h : o.IsDictOf (PySem.strKind PM w) (upTo [(Str.ofString "timestamp", Value.ref a), (Str.ofString "snapshot", .ref b), (Str.ofString "targets", .ref c)] [(Str.ofString "timestamp", Value.ref a), (Str.ofString "snapshot", .ref b), (Str.ofString "targets", .ref c)].length)) :
    o.IsDictOf (PySem.strKind PM w) [(Str.ofString "timestamp", Value.ref a), (Str.ofString "snapshot", .ref b), (Str.ofString "targets", .ref c)] := by
  have e := kv3_upTo (a := a) (b := b) (c := c)
  rw [← e]; exact h
theorem kv4_fix {w : World} {o : Obj} {a b c r : Addr} (h : o.IsDictOf (PySem.strKind PM w) (stored [(Str.ofString "timestamp", Value.ref a), (Str.ofString "snapshot", .ref b), (Str.ofString "targets", .ref c)] (Str.ofString "root") (.ref r))) :
    o.IsDictOf (PySem.strKind PM w) [(Str.ofString "timestamp", Value.ref a), (Str.ofString "snapshot", .ref b), (Str.ofString "targets", .ref c), (Str.ofString "root", .ref r)] := h
theorem sep_over {fam base news : Led} {d : Addr} {o op : Obj} (h : ∀ q ∈ fam, @LT.lt Nat _ 177 q.1 ∧ AllLt q.1 base) (o' : Obj) (hd : (d, o') ∈ base) (hn : ∀ p ∈ news, p ∈ base) : Sep fam ((d, o) :: (177, op) :: news) := fun q hq p hp => by
  rcases List.mem_cons.mp hp with rfl | hp
  · exact Nat.ne_of_lt (allLt_mem (h q hq).2 (d, o') hd)
  · rcases List.mem_cons.mp hp with rfl | hp
    · exact Nat.ne_of_lt (h q hq).1
    · exact Nat.ne_of_lt (allLt_mem (h q hq).2 p (hn p hp))
theorem sep_over2 {fam base news : Led} {d : Addr} {o op : Obj} (h : Over fam base) (o' op' : Obj) (hd : (d, o') ∈ base) (hp : (177, op') ∈ base) (hn : ∀ p ∈ news, p ∈ base) : Sep fam ((d, o) :: (177, op) :: news) :=
  sep_over (fun q hq => ⟨allLt_mem (h q hq) _ hp, h q hq⟩) o' hd hn
theorem sep_keys {fam news : Led} {d D : Addr} {o op oD op' : Obj} (h : ∀ q ∈ fam, AllLt q.1 ((D, oD) :: (177, op') :: news)) (hd : ∀ p ∈ fam, p.1 ≠ d) : Sep fam ((d, o) :: (177, op) :: news) := fun q hq p hp => by
  rcases List.mem_cons.mp hp with rfl | hp
  · exact fun e => hd q hq e.symm
  · rcases List.mem_cons.mp hp with rfl | hp
    · exact Nat.ne_of_lt (h q hq).2.1
    · exact Nat.ne_of_lt (allLt_mem (h q hq).2.2 p hp)
theorem sep_one {fam base : Led} (h : Sep fam base) {base' : Led} (hs : ∀ p ∈ base', p ∈ base) : Sep fam base' := fun q hq p hp => h q hq p (hs p hp)
theorem ne_sub {a : Addr} {x y : Led} (h : ∀ p ∈ y, p.1 ≠ a) (hs : ∀ p ∈ x, p ∈ y) : ∀ p ∈ x, p.1 ≠ a := fun p hp => h p (hs p hp)
theorem root_led {h₀ h : Heap} {L : Addr} {e p a1 a2 a3 a4 a5 a6 a7 d b : Addr × Obj} {f9 fc fk news : Led} (N : News h₀ L h (e :: p :: (f9 ++ (a1 :: a2 :: a3 :: a4 :: a5 :: a6 :: a7 :: d :: b :: (fc ++ (fk ++ news)))))) :
    News h₀ L h (d :: p :: ((e :: (f9 ++ (a1 :: a2 :: a3 :: a4 :: a5 :: a6 :: a7 :: b :: (fc ++ fk)))) ++ news)) :=
  newsSub N (fun q hq => by simp only [List.mem_cons, List.mem_append, List.cons_append] at hq ⊢; grind)
theorem root_sub {e a1 a2 a3 a4 a5 a6 a7 b d : Addr × Obj} {f9 fc fk news : Led} : ∀ q ∈ f9 ++ (a1 :: a2 :: a3 :: a4 :: a5 :: a6 :: a7 :: b :: (fc ++ fk)), q ∈ e :: (f9 ++ (a1 :: a2 :: a3 :: a4 :: a5 :: a6 :: a7 :: b :: (fc ++ fk))) := fun q hq => List.mem_cons_of_mem _ hq
/-- a root and what it was made from -/
inductive RootIn (w : World) (fam : Led) (T x l kd : Addr) (th v : Int) (ks : List Int) (kn : Int → Option Addr) : Prop
  | mk (kd' rr l' : Addr) (vs : List Value) (n n' : Nat) (t1 t2 : Tok) (_ : (T, ({ cls := .type "tuple", data := .seq #[.ref x, .ref l, .int th t1, .ref kd, .int v t2] } : Obj)) ∈ fam) (_ : IsRoot w fam x kd' rr v) (_ : IsRole w fam rr l' th) (_ : (l', listOf vs.toArray n') ∈ fam) (_ : (l, listOf vs.toArray n) ∈ fam) (_ : StrsAre vs (ks.map kN)) (_ : Good5 ks) (_ : KeysIn w fam kd kn) (_ : KeysIn w fam kd' kn) (_ : 1 ≤ th) (_ : th ≤ 4) (_ : 1 ≤ v) (_ : v ≤ 4) : RootIn w fam T x l kd th v ks kn
theorem IsRoot.mono {w : World} {fam fam' : Led} {x kd rr : Addr} {v : Int} (h : IsRoot w fam x kd rr v) (hs : ∀ p ∈ fam, p ∈ fam') : IsRoot w fam' x kd rr v := by
  obtain ⟨dx, rd, ud, r1, r2, r3, ord, n, sv, t1, t2, t3, t4, t5, t6, t7, t8, t9, t10, t11, h1, h2, h3, h4, h5⟩ := h
  exact ⟨dx, rd, ud, r1, r2, r3, ord, n, sv, t1, t2, t3, t4, t5, t6, t7, t8, t9, t10, t11, hs _ h1, hs _ h2, hs _ h3, h4, h5⟩
theorem IsRole.mono {w : World} {fam fam' : Led} {r l : Addr} {th : Int} (h : IsRole w fam r l th) (hs : ∀ p ∈ fam, p ∈ fam') : IsRole w fam' r l th := by
  obtain ⟨dr, ud, ou, n, t1, t2, t3, t4, h1, h2, h3, h4⟩ := h
  exact ⟨dr, ud, ou, n, t1, t2, t3, t4, hs _ h1, hs _ h2, hs _ h3, h4⟩
inductive RInv (base : Led) (i : Nat) (ys : List Value) (nw : Led) : Prop
  | mk (fam : Led) (rs : List Addr) (_ : nw = fam ++ base) (_ : PairFam fam (kv3 rs) ys) (_ : rs.length = i) (_ : Over fam base) : RInv base i ys nw
theorem over_app {a : Addr} {fam base : Led} (h : AllLt a (fam ++ base)) : AllLt a base := allLt_sub h fun _ hp => List.mem_append_right _ hp
theorem RInv.step {base : Led} {i : Nat} {ys : List Value} {nw : Led} (h : RInv base i ys nw) {k : PySem.Str} {t : Tok} {a r : Addr} {e2 e3 e4 e5 : Addr × Obj} (hk : nm3[i]? = some k) (l1 : AllLt a nw) (l2 : AllLt e2.1 nw) (l3 : AllLt e3.1 nw) (l4 : AllLt e4.1 nw) (l5 : AllLt e5.1 nw) :
    RInv base (i + 1) (ys ++ [.ref a]) ((a, ({ cls := .type "tuple", data := .seq #[.str k t, .ref r] } : Obj)) :: e2 :: e3 :: e4 :: e5 :: nw) := by
  obtain ⟨fam, rs, rfl, hPF, hrl, hOv⟩ := h
  refine ⟨_ :: _ :: _ :: _ :: _ :: fam, rs ++ [r], rfl, ?_, by rw [List.length_append, hrl]; rfl, Over.cons (over_app l1) (Over.cons (over_app l2) (Over.cons (over_app l3) (Over.cons (over_app l4) (Over.cons (over_app l5) hOv))))⟩
  rw [kv3_snoc hrl hk]
  exact hPF.snoc (n := 0) (fun p hp => mem5 hp) List.mem_cons_self
end
-- MyRv
/-- a call that raises a ValueError -/
def RaisesV (w : World) (dn : Nat) (f : Addr) (args : List Value) (news : Led) : Prop :=
  ∀ (dp un : Nat) (gd : Option (List Code)) (cn : Str) (nm : List (Str × NameKind)) (ig ic : Bool) (mo : List (Str × Const)) (a : Addr) (ccd : Value) (cl : List (Str × Addr)) (outer : List Env) (A₀ : Around) (base h₀ : Heap) (L : Addr) (m : Str → Option Value) (s : Shared)
    (mean : ExcName → Option Value) (mg mb : Str → Option Value) (Q E : Value → Shared → Prop),
    Below A₀ base outer h₀ → Fr h₀ L s.heap m → (K w.params).In h₀ → News h₀ L s.heap news → TopM mean mg mb h₀ →
    (K w.params).In base → TopM mean mg mb base → KtsDicts (frs outer) h₀ →
    dp + dn < recursionLimit → un + 20 * dn < cLine →
    (∀ e h' tk g₂, Fr h₀ L g₂ m → RaisedSN base g₂ (envX cn ⟨.function, nm, ig, ic, mo⟩ L a ccd cl :: outer) e (.type "ValueError") news h' → RaisedN base (envX cn ⟨.function, nm, ig, ic, mo⟩ L a ccd cl :: outer) e (.type "ValueError") news h' → g₂.UpToSlots h' → E (.ref e) { s with heap := h', toks := tk }) →
    wpAny (model PySem.Challenge.rw_je0043_01.row.toRowW.1 w) (ktrTop dp un gd cn ⟨.function, nm, ig, ic, mo⟩ L a ccd cl outer) (call (.ref f) args) Q E s
def BodyV (w : World) (dn : Nat) (qual : Str) (scope : Scope) (f : Addr) (cdv : Value) (body : List Stmt) (m : Str → Option Value) (news : Led) : Prop :=
  ∀ (dp un : Nat) (gd : Option (List Code)) (outer : List Env) (base g : Heap) (L : Addr) (s : Shared) (mean : ExcName → Option Value) (mg mb : Str → Option Value) (Q : Flow → Shared → Prop) (E : Value → Shared → Prop),
    Below (cTop0 dp un gd outer) base outer g → Fr g L s.heap m → (K w.params).In g → News g L s.heap news → TopM mean mg mb g →
    (K w.params).In base → TopM mean mg mb base → KtsDicts (frs outer) g → (∀ p ∈ news, p.1 < L) → dp + dn < recursionLimit → un + 20 * dn < cLine →
    (∀ e h' tk, RaisedSN base g outer e (.type "ValueError") news h' → RaisedN base outer e (.type "ValueError") news h' → g.UpToSlots h' → E (.ref e) { s with heap := h', toks := tk }) →
    wpAny (model PySem.Challenge.rw_je0043_01.row.toRowW.1 w) ((cTop0 dp un gd outer).deeper (envOf qual scope L f cdv)) (execs body (envOf qual scope L f cdv))
      Q (fun e s' => wpAny (model PySem.Challenge.rw_je0043_01.row.toRowW.1 w) ((cTop0 dp un gd outer).deeper (envOf qual scope L f cdv)) (leaving (envOf qual scope L f cdv) e) (fun _ s'' => E e s'') (fun e' s'' => E e' s'') s') s
theorem raises_of {w : World} {dn : Nat} {f : Addr} {args : List Value} {news : Led} {name qual : Str} {params : Arguments} {body : List Stmt} {scope : Scope} {dV kV doc pm cdv ct oc : Value} {an od : Option Addr} {osl : Array (Option Value)} {binds : List (Str × Value)}
    (ho : (K w.params).lookup f = some ⟨oc, od, .func (fnOf name qual params body scope dV kV doc pm an cdv ct), osl⟩) (hcd : codeIn (K w.params) cdv qual = true)
    (hbind : ∀ s, BindsTo s (fnOf name qual params body scope dV kV doc pm an cdv ct) ⟨args, []⟩ binds) (hloc : ∀ y ∈ binds, scope.names.lookup y.1 = some .local)
    (hco : scope.isCoroutine = false) (hgen : scope.isGenerator = false) (hk : scope.kind = .function) (hcell : ∀ x ∈ scope.names, x.2 ≠ .cell)
    (hdn : 0 < dn)
    (h : BodyV w dn qual scope f cdv body (fun y => binds.reverse.lookup y) news) : RaisesV w dn f args news := by
  intro dp un gd cn nm ig ic mo a ccd cl outer A₀ base h₀ L m s mean mg mb Q E B F X₀ N T XB TB D hdp hun hret
  refine wpAny_call ?_
  have X := X₀.keeps F.keep
  obtain ⟨oL, es, ep, hL, hLd, hLk, hLf⟩ := F.ns
  have nL : L ∉ news.map (·.1) := fun q => by
    obtain ⟨p, hp, e⟩ := List.mem_map.mp q
    exact (N p hp).2.1 e
  have hLg := hideAll_get (news.map (·.1)) hL nL
  obtain ⟨FG, BG, st, _⟩ := groundX (A := ktrTop dp un gd cn ⟨.function, nm, ig, ic, mo⟩ L a ccd cl outer) (R := fun _ _ => True) B F N rfl rfl rfl
  refine codeAny_call_def (fd := fnOf name qual params body scope dV kV doc pm an cdv ct) (body := body) (binds := binds) (by show dp < recursionLimit; omega) (X _ _ ho) rfl (T.nolimit.keeps F.keep) (codeRec_of X hcd) rfl (hbind s) hcell hloc (fun h₁ hns hk₁ => ?_) hco hgen hk
  refine h dp un gd (envX cn ⟨.function, nm, ig, ic, mo⟩ L a ccd cl :: outer) base (hideAll s.heap (news.map (·.1))) s.heap.objs.size { s with heap := h₁, toks := s.toks + binds.length } mean mg mb _ _ BG
    ⟨hns, fun b o e => hk₁ b o (of_hideAll _ e), Nat.le_of_eq (hideAll_size _ _)⟩ (X₀.keeps (fun b o e => st b o e))
    (fun p hp => ⟨hk₁ _ _ (N p hp).1, Nat.ne_of_lt (Heap.lt_size (N p hp).1), hideAll_none _ (List.mem_map_of_mem hp)⟩) (T.keeps (fun b o e => st b o e)) XB TB (fun b hb => by
      rcases List.mem_filterMap.mp hb with ⟨env, he, hf⟩
      rcases List.mem_cons.mp he with rfl | he
      · exact (Option.some.inj hf : L = b) ▸ ⟨oL, es, ep, hLg, hLd⟩
      · obtain ⟨o, es', n', ho', hd'⟩ := D b (List.mem_filterMap.mpr ⟨env, he, hf⟩)
        exact ⟨o, es', n', st b o ho', hd'⟩) (fun p hp => Heap.lt_size (N p hp).1) hdp hun (fun e h' tk R R' U => hret e h' tk _ FG R R' U)
/-- what a method's look-up finds -/
def MethIs (w : World) (news : Led) (x : Addr) (name : PySem.Str) (f : Addr) : Prop :=
  ∀ (A : Around) (E : Value → Shared → Prop) (s : Shared) (pl : Sem Bool) (Q : Value × List Value → Shared → Prop) (h₀ : Heap) (L : Addr) (m : PySem.Str → Option Value), Fr h₀ L s.heap m → (K w.params).In h₀ → News h₀ L s.heap news → Q (.ref f, [.ref x]) s →
    wpAny (model PySem.Challenge.rw_je0043_01.row.toRowW.1 w) A (getMethod (.ref x) name pl) Q E s
/-- what an attribute says -/
def AttrIs (w : World) (news : Led) (x : Addr) (name : PySem.Str) (v : Value) : Prop :=
  ∀ (A : Around) (E : Value → Shared → Prop) (s : Shared) (expr : Bool) (Q : Value → Shared → Prop) (h₀ : Heap) (L : Addr) (m : PySem.Str → Option Value), Fr h₀ L s.heap m → (K w.params).In h₀ → News h₀ L s.heap news → (∀ tk, Q v { s with toks := tk }) →
    wpAny (model PySem.Challenge.rw_je0043_01.row.toRowW.1 w) A (getAttr (.ref x) name expr) Q E s
theorem MethIs.use {w : World} {news led : Led} {x f : Addr} {name : PySem.Str} (H : MethIs w news x name f) {A : Around} {E : Value → Shared → Prop} {s : Shared} {pl : Sem Bool} {Q : Value × List Value → Shared → Prop} {h₀ : Heap} {L : Addr} {m : PySem.Str → Option Value} (F : Fr h₀ L s.heap m) (X : (K w.params).In h₀) (N : News h₀ L s.heap led) (hs : ∀ p ∈ news, p ∈ led) (h : Q (.ref f, [.ref x]) s) :
    wpAny (model PySem.Challenge.rw_je0043_01.row.toRowW.1 w) A (getMethod (.ref x) name pl) Q E s := H _ _ _ _ _ _ _ _ F X (newsSub N hs) h
theorem AttrIs.use {w : World} {news led : Led} {x : Addr} {v : Value} {name : PySem.Str} (H : AttrIs w news x name v) {A : Around} {E : Value → Shared → Prop} {s : Shared} {expr : Bool} {Q : Value → Shared → Prop} {h₀ : Heap} {L : Addr} {m : PySem.Str → Option Value} (F : Fr h₀ L s.heap m) (X : (K w.params).In h₀) (N : News h₀ L s.heap led) (hs : ∀ p ∈ news, p ∈ led) (h : ∀ tk, Q v { s with toks := tk }) :
    wpAny (model PySem.Challenge.rw_je0043_01.row.toRowW.1 w) A (getAttr (.ref x) name expr) Q E s := H _ _ _ _ _ _ _ _ F X (newsSub N hs) h
theorem useV {w : World} {dn : Nat} {f : Addr} {args : List Value} {led : Led} (H : RaisesV w dn f args led) {dp un : Nat} {gd : Option (List Code)} {cn : Str} {nm : List (Str × NameKind)} {ig ic : Bool} {mo : List (Str × Const)} {a : Addr} {ccd : Value} {cl : List (Str × Addr)} {outer : List Env} {A₀ : Around} {base h₀ : Heap} {L : Addr} {m : Str → Option Value} {s : Shared}
    {mean : ExcName → Option Value} {mg mb : Str → Option Value} {Q E : Value → Shared → Prop}
    (B : Below A₀ base outer h₀) (F : Fr h₀ L s.heap m) (X : (K w.params).In h₀) (N : News h₀ L s.heap led) (T : TopM mean mg mb h₀) (XB : (K w.params).In base) (TB : TopM mean mg mb base) (D : KtsDicts (frs outer) h₀) (hd : dp + dn < recursionLimit) (hu : un + 20 * dn < cLine)
    (h : ∀ e h' tk g₂, Fr h₀ L g₂ m → RaisedSN base g₂ (envX cn ⟨.function, nm, ig, ic, mo⟩ L a ccd cl :: outer) e (.type "ValueError") led h' → RaisedN base (envX cn ⟨.function, nm, ig, ic, mo⟩ L a ccd cl :: outer) e (.type "ValueError") led h' → g₂.UpToSlots h' → E (.ref e) { s with heap := h', toks := tk }) :
    wpAny (model PySem.Challenge.rw_je0043_01.row.toRowW.1 w) (ktrTop dp un gd cn ⟨.function, nm, ig, ic, mo⟩ L a ccd cl outer) (call (.ref f) args) Q E s :=
  H dp un gd cn nm ig ic mo a ccd cl outer A₀ base h₀ L m s mean mg mb Q E B F X N T XB TB D hd hu h
/-- an object that delegates: how its methods are found -/
structure Finds (w : World) (news : Led) (x fD fK : Addr) : Prop where
  vd : MethIs w news x "verify_delegate" 369
  gv : MethIs w news x "get_verification_result" 362
  gd : MethIs w news x "get_delegated_role" fD
  gk : MethIs w news x "get_key" fK
  kd : keepIn (K w.params) (.ref fD) = true
  kk : keepIn (K w.params) (.ref fK) = true
/-- a function that gives an object back, and one that raises -/
def CallsTo (w : World) (dn : Nat) (news : Led) (f x : Addr) (nm : PySem.Str) (r : Addr) : Prop :=
  ∀ led t, (∀ p ∈ news, p ∈ led) → DoesP w dn f [.ref x, .str nm t] led (fun r' led' => r' = .ref r ∧ led' = led)
def CallsV (w : World) (dn : Nat) (news : Led) (f x : Addr) (nm : PySem.Str) : Prop :=
  ∀ led t, (∀ p ∈ news, p ∈ led) → RaisesV w dn f [.ref x, .str nm t] led
theorem useC {w : World} {dn : Nat} {news : Led} {f x r : Addr} {nm₀ : PySem.Str} {t : Tok} {led : Led} (H : CallsTo w dn news f x nm₀ r) (hs : ∀ p ∈ news, p ∈ led) {dp un : Nat} {gd : Option (List Code)} {cn : Str} {nm : List (Str × NameKind)} {ig ic : Bool} {mo : List (Str × Const)} {a : Addr} {ccd : Value} {cl : List (Str × Addr)} {outer : List Env} {A₀ : Around} {base h₀ : Heap} {L : Addr} {m : Str → Option Value} {s : Shared}
    {mean : ExcName → Option Value} {mg mb : Str → Option Value} {Q E : Value → Shared → Prop}
    (B : Below A₀ base outer h₀) (F : Fr h₀ L s.heap m) (X : (K w.params).In h₀) (N : News h₀ L s.heap led) (T : TopM mean mg mb h₀) (hd : dp + dn < recursionLimit) (hu : un + 20 * dn < cLine)
    (h : ∀ h' tk', Fr h₀ L h' m → News h₀ L h' led → Q (.ref r) { s with heap := h', toks := tk' }) :
    wpAny (model PySem.Challenge.rw_je0043_01.row.toRowW.1 w) (ktrTop dp un gd cn ⟨.function, nm, ig, ic, mo⟩ L a ccd cl outer) (call (.ref f) [.ref x, .str nm₀ t]) Q E s :=
  H led t hs dp un gd cn nm ig ic mo a ccd cl outer A₀ base h₀ L m s mean mg mb Q E B F X N T hd hu fun r' h' tk' led' F' N' e => by obtain ⟨rfl, rfl⟩ := e; exact h h' tk' F' N'
/-- what its functions give -/
structure Delegates (w : World) (news : Led) (x fD fK : Addr) (nm : PySem.Str) (rr l : Addr) (th : Int) (kn : Int → Option Addr) : Prop where
  role : CallsTo w 6 news fD x nm rr
  key : ∀ k y, 0 ≤ k → k < 5 → kn k = some y → CallsTo w 6 news fK x (kN k) y
  nokey : ∀ k, 0 ≤ k → k < 5 → kn k = none → CallsV w 6 news fK x (kN k)
  keyids : AttrIs w news rr "keyids" (.ref l)
  threshold : ∃ t, AttrIs w news rr "threshold" (.int th t)
section
variable {prog : Program} {w : World} {A : Around} {E : Value → Shared → Prop} {s : Shared} {env : Env} {L : Addr}
/-- the loop over a list, its turn's end out of sight -/
theorem iterL {l : Addr} {vs : List Value} {nn : Nat} {x : Str} {px : Pos} {body : List Stmt} {R : Result → Shared → Prop} {g₀ : Heap} {m₀ : Str → Option Value} {led₀ : Led}
    (hh : A.handled = none) (F : Fr g₀ L s.heap m₀) (N : News g₀ L s.heap led₀) (hm : (l, listOf vs.toArray nn) ∈ led₀)
    (hx : env.kindOf x = some .local) (hk : env.scope.kind = .function) (hL : env.locals = L)
    (G : Heap → Prop) (J : Nat → (Str → Option Value) → Led → Prop) (hG : G g₀) (hGn : ∀ g, G g → ∀ a, g₀.get? a = none → g.get? a = none) (hJ : J 0 m₀ led₀)
    (hsrc : ∀ i m led, J i m led → (l, listOf vs.toArray nn) ∈ led)
    (turn : ∀ i v g m₁ led I oI h tk (R' : Result → Shared → Prop) (TE : Flow → Shared → Prop), vs[i]? = some v → G g → J i m₁ led → (∀ p ∈ led, p.1 ≠ I) → Fr g L h (fun y => if y = x then some v else m₁ y) → News g L h ((I, oI) :: led) →
      (∀ g' h' tk' m' led' f, G g' → Fr g' L h' m' → News g' L h' ((I, oI) :: led') → (∀ p ∈ led', p.1 ≠ I) → J (i + 1) m' led' → (f = .next ∨ f = .cont) → TE f { s with heap := h', toks := tk' }) →
      wpAny (model prog w) A (execs body env) TE (notedBy (model prog w) A env fun e s' => R' (.error e) s') { s with heap := h, toks := tk })
    (done : ∀ g m led h tk, G g → J vs.length m led → Fr g L h m → News g L h led → R (.ok .next) { s with heap := h, toks := tk }) :
    wpAny (model prog w) A (pyIter (.ref l)) (fun it s₂ => codeAny (model prog w) A (.forLoop (.Name x px) it body [] env) R s₂) E s :=
  iterG_list hh F N hm hx hk hL G J hG hGn hJ hsrc (fun i v g m₁ led I oI h tk hv hg hj hne F' N' => turn i v g m₁ led I oI h tk R _ hv hg hj hne F' N' fun g' h' tk' m' led' f hG' F'' N'' hne' hJ' hf => turnEndI hG' F'' N'' hne' hJ' hf) done
end
-- MyCu
/-- a ledger cut into its written entries and its tail -/
inductive Cut : Led → Led → Led → Prop
  | nil {tl} : Cut tl [] tl
  | cons {e r es tl} : Cut r es tl → Cut (e :: r) (e :: es) tl
theorem Cut.eq {r es tl : Led} (h : Cut r es tl) : r = es ++ tl := by
  induction h with
  | nil => rfl
  | cons _ ih => rw [ih]; rfl
inductive LedIn (h₀ h : Heap) (L : Addr) (p : Addr × Obj) (fam rest es tl : Led) (P : Nat) : Prop
  | mk (nl : Led) (_ : nl = fam ++ tl) (_ : News h₀ L h (p :: (es ++ nl))) (_ : ∀ a o, (∀ p ∈ tl, p.1 ≠ a) → (a, o) ∈ rest → ∀ p ∈ nl, p.1 ≠ a) (_ : (∀ p ∈ tl, p.1 ≠ P) → ∀ p ∈ nl, p.1 ≠ P) (_ : ∀ p ∈ tl, p ∈ nl) (_ : ∀ p ∈ fam, p ∈ nl) : LedIn h₀ h L p fam rest es tl P
inductive LedIn0 (h₀ h : Heap) (L : Addr) (fam rest es tl : Led) : Prop
  | mk (nl : Led) (_ : nl = fam ++ tl) (_ : News h₀ L h (es ++ nl)) (_ : ∀ a o, (∀ p ∈ tl, p.1 ≠ a) → (a, o) ∈ rest → ∀ p ∈ nl, p.1 ≠ a) (_ : ∀ p ∈ tl, p ∈ nl) (_ : ∀ p ∈ fam, p ∈ nl) : LedIn0 h₀ h L fam rest es tl
theorem led_in {h₀ h : Heap} {L : Addr} {p : Addr × Obj} {fam rest es tl : Led} {P : Nat} (N : News h₀ L h (p :: (fam ++ rest))) (hc : Cut rest es tl) (hab : ∀ q ∈ fam, @LT.lt Nat _ P q.1 ∧ AllLt q.1 rest) :
    LedIn h₀ h L p fam rest es tl P := by
  refine ⟨_, rfl, ?_, fun a o ht hm => nl_ne (fun q hq => Nat.ne_of_gt (allLt_mem (hab q hq).2 _ hm)) ht, fun ht => nl_ne (fun q hq => Nat.ne_of_gt (hab q hq).1) ht, fun _ h => List.mem_append_right _ h, fun _ h => List.mem_append_left _ h⟩
  rw [hc.eq] at N
  refine newsSub N fun q hq => ?_
  simp only [List.mem_cons, List.mem_append] at hq ⊢
  grind
theorem led_in0 {h₀ h : Heap} {L : Addr} {fam rest es tl : Led} (N : News h₀ L h (fam ++ rest)) (hc : Cut rest es tl) (hab : ∀ q ∈ fam, AllLt q.1 rest) :
    LedIn0 h₀ h L fam rest es tl := by
  refine ⟨_, rfl, ?_, fun a o ht hm => nl_ne (fun q hq => Nat.ne_of_gt (allLt_mem (hab q hq) _ hm)) ht, fun _ h => List.mem_append_right _ h, fun _ h => List.mem_append_left _ h⟩
  rw [hc.eq] at N
  refine newsSub N fun q hq => ?_
  simp only [List.mem_append] at hq ⊢
  grind
theorem fam_up4 {h₀ h : Heap} {L : Addr} {d a b c e : Addr × Obj} {fam tl : Led} (N : News h₀ L h (d :: (fam ++ (a :: b :: c :: e :: tl)))) : News h₀ L h (d :: a :: b :: c :: e :: (fam ++ tl)) :=
  newsSub N (fun p hp => by simp only [List.mem_cons, List.mem_append] at hp ⊢; grind)
theorem ne_dict {w : World} {nl tl rest : Led} (hne2 : ∀ a o, (∀ p ∈ tl, p.1 ≠ a) → (a, o) ∈ rest → ∀ p ∈ nl, p.1 ≠ a) {a : Addr} {o : Obj} (_hd : o.IsDictOf (PySem.strKind PM w) []) (hm : (a, o) ∈ rest) (ht : ∀ p ∈ tl, p.1 ≠ a) : ∀ p ∈ nl, p.1 ≠ a := hne2 a o ht hm
theorem take_name {h₀ h : Heap} {L : Addr} {p : Addr × Obj} {led rest : Led} (N : News h₀ L h led) (t : Take p led rest) : ∃ RL, RL = rest ∧ News h₀ L h (p :: RL) ∧ ∀ q, q ∈ rest → q ∈ RL := ⟨_, rfl, take_sub N t, fun _ h => h⟩
-- MyZz
/-- a contract: the ground may turn, the generators' states may grow -/
def DoesZ (w : World) (dn : Nat) (f : Addr) (args : List Value) (news : Led) (Post : Value → Led → Prop) : Prop :=
  ∀ (dp un : Nat) (gd : Option (List Code)) (cn : Str) (nm : List (Str × NameKind)) (ig ic : Bool) (mo : List (Str × Const)) (a : Addr) (ccd : Value) (cl : List (Str × Addr)) (outer : List Env) (A₀ : Around) (base h₀ : Heap) (L : Addr) (m : Str → Option Value) (s : Shared)
    (mean : ExcName → Option Value) (mg mb : Str → Option Value) (Q E : Value → Shared → Prop),
    Below A₀ base outer h₀ → Fr h₀ L s.heap m → (K w.params).In h₀ → News h₀ L s.heap news → TopM mean mg mb h₀ →
    (K w.params).In base → TopM mean mg mb base → KtsDicts (frs outer) h₀ → AllBare s.gens →
    dp + dn < recursionLimit → un + 20 * dn < cLine →
    (∀ r s' g' news', KtsTurn (frs outer) h₀ g' → Below A₀ base outer g' → Fr g' L s'.heap m → (K w.params).In g' → TopM mean mg mb g' → KtsDicts (frs outer) g' → News g' L s'.heap news' → s'.os = s.os → AllBare s'.gens → Post r news' → Q r s') →
    wpAny (model PySem.Challenge.rw_je0043_01.row.toRowW.1 w) (ktrTop dp un gd cn ⟨.function, nm, ig, ic, mo⟩ L a ccd cl outer) (call (.ref f) args) Q E s
def EndsZ (outer : List Env) (g : Heap) (L : Addr) (s : Shared) (Post : Value → Led → Prop) (fl : Flow) (s' : Shared) : Prop :=
  ∃ g' m' led', KtsTurn (frs outer) g g' ∧ Fr g' L s'.heap m' ∧ News g' L s'.heap led' ∧ s'.os = s.os ∧ AllBare s'.gens ∧ Post (match fl with | .ret v => v | _ => .none) led'
def BodyZ (w : World) (dn : Nat) (qual : Str) (scope : Scope) (f : Addr) (cdv : Value) (body : List Stmt) (m : Str → Option Value) (news : Led) (Post : Value → Led → Prop) : Prop :=
  ∀ (dp un : Nat) (gd : Option (List Code)) (outer : List Env) (base g : Heap) (L : Addr) (s : Shared) (mean : ExcName → Option Value) (mg mb : Str → Option Value),
    Below (cTop0 dp un gd outer) base outer g → Fr g L s.heap m → (K w.params).In g → News g L s.heap news → TopM mean mg mb g →
    (K w.params).In base → TopM mean mg mb base → KtsDicts (frs outer) g → AllBare s.gens → (∀ p ∈ news, p.1 < L) → dp + dn < recursionLimit → un + 20 * dn < cLine →
    wpAny (model PySem.Challenge.rw_je0043_01.row.toRowW.1 w) ((cTop0 dp un gd outer).deeper (envOf qual scope L f cdv)) (execs body (envOf qual scope L f cdv))
      (EndsZ outer g L s Post) (fun _ _ => False) s
theorem doesZ_of {w : World} {dn : Nat} {f : Addr} {args : List Value} {news : Led} {Post : Value → Led → Prop} {name qual : Str} {params : Arguments} {body : List Stmt} {scope : Scope} {dV kV doc pm cdv ct oc : Value} {an od : Option Addr} {osl : Array (Option Value)} {binds : List (Str × Value)}
    (ho : (K w.params).lookup f = some ⟨oc, od, .func (fnOf name qual params body scope dV kV doc pm an cdv ct), osl⟩) (hcd : codeIn (K w.params) cdv qual = true)
    (hbind : ∀ s, BindsTo s (fnOf name qual params body scope dV kV doc pm an cdv ct) ⟨args, []⟩ binds) (hloc : ∀ y ∈ binds, scope.names.lookup y.1 = some .local)
    (hco : scope.isCoroutine = false) (hgen : scope.isGenerator = false) (hk : scope.kind = .function) (hcell : ∀ x ∈ scope.names, x.2 ≠ .cell)
    (hdn : 0 < dn)
    (h : BodyZ w dn qual scope f cdv body (fun y => binds.reverse.lookup y) news Post) : DoesZ w dn f args news Post := by
  intro dp un gd cn nm ig ic mo a ccd cl outer A₀ base h₀ L m s mean mg mb Q E B F X₀ N T XB TB D hG hdp hun hret
  refine wpAny_call ?_
  have X := X₀.keeps F.keep
  obtain ⟨oL, es, ep, hL, hLd, hLk, hLf⟩ := F.ns
  have hN : ∀ (sl : Array (Option Value)) h', h'.get? L = some { oL with slots := sl } → Heap.Ns h' L m := fun sl h' e => ⟨_, es, ep, e, hLd, hLk, hLf⟩
  have nL : L ∉ news.map (·.1) := fun q => by
    obtain ⟨p, hp, e⟩ := List.mem_map.mp q
    exact (N p hp).2.1 e
  have hLg := hideAll_get (news.map (·.1)) hL nL
  obtain ⟨FG, BG, st, _⟩ := groundX (A := ktrTop dp un gd cn ⟨.function, nm, ig, ic, mo⟩ L a ccd cl outer) (R := fun _ _ => True) B F N rfl rfl rfl
  refine codeAny_call_def (fd := fnOf name qual params body scope dV kV doc pm an cdv ct) (body := body) (binds := binds) (by show dp < recursionLimit; omega) (X _ _ ho) rfl (T.nolimit.keeps F.keep) (codeRec_of X hcd) rfl (hbind s) hcell hloc (fun h₁ hns hk₁ => ?_) hco hgen hk
  refine wpAny_mono (h dp un gd (envX cn ⟨.function, nm, ig, ic, mo⟩ L a ccd cl :: outer) base (hideAll s.heap (news.map (·.1))) s.heap.objs.size { s with heap := h₁, toks := s.toks + binds.length } mean mg mb BG
    ⟨hns, fun b o e => hk₁ b o (of_hideAll _ e), Nat.le_of_eq (hideAll_size _ _)⟩ (X₀.keeps (fun b o e => st b o e))
    (fun p hp => ⟨hk₁ _ _ (N p hp).1, Nat.ne_of_lt (Heap.lt_size (N p hp).1), hideAll_none _ (List.mem_map_of_mem hp)⟩) (T.keeps (fun b o e => st b o e)) XB TB (fun b hb => by
      rcases List.mem_filterMap.mp hb with ⟨env, he, hf⟩
      rcases List.mem_cons.mp he with rfl | he
      · exact (Option.some.inj hf : L = b) ▸ ⟨oL, es, ep, hLg, hLd⟩
      · obtain ⟨o, es', n', ho', hd'⟩ := D b (List.mem_filterMap.mpr ⟨env, he, hf⟩)
        exact ⟨o, es', n', st b o ho', hd'⟩) hG (fun p hp => Heap.lt_size (N p hp).1) hdp hun) (fun fl s' hl => ?_) fun _ _ y => y.elim
  obtain ⟨g', m', led', T', F', N', hos', hG', hp⟩ := hl
  obtain ⟨h', gs', dr', tk', os'⟩ := s'
  dsimp only at F' N' hos' hG'
  have nL₀ : h₀.get? L = none := kts_self F
  obtain ⟨sl, hs⟩ := T'.up hLg
  have mem : ∀ b, b ∈ frs (envX cn ⟨.function, nm, ig, ic, mo⟩ L a ccd cl :: outer) → b = L ∨ b ∈ frs outer := fun b hb => by
    obtain ⟨env, he, hf⟩ := List.mem_filterMap.mp hb
    rcases List.mem_cons.mp he with rfl | he
    · exact .inl (Option.some.inj hf).symm
    · exact .inr (List.mem_filterMap.mpr ⟨env, he, hf⟩)
  obtain ⟨T₁, S₁⟩ := kts_turn_at (h := h') (fs := frs outer) (g := h₀)
    (fun b hb => by
      obtain ⟨_, o, ho', _⟩ := B.frames.mem hb
      exact ⟨o, ho'⟩)
    (fun b o e nmem => F'.keep b o (T'.other b o (st b o e) (fun q => by
      rcases mem b q with z | z
      · rw [z, nL₀] at e
        cases e
      · exact nmem z)))
    (fun b o e hm => by
      obtain ⟨sl', hs'⟩ := T'.up (st b o e)
      exact ⟨sl', F'.keep _ _ hs'⟩)
  have B₃ : Below A₀ base outer (ktsHeap h' (frs outer) h₀) := ⟨B.stack, fun b o e => T₁.other b o (B.stays b o e) (fun hm => by
    rw [(B.frames.mem hm).1] at e
    cases e), B.frames.of_keeps fun b o e _ => by
    obtain ⟨sl', hs'⟩ := T₁.up e
    exact ⟨_, hs', rfl⟩⟩
  refine hret _ ⟨h', gs', dr', tk', os'⟩ _ led' T₁ B₃ ⟨hN sl _ (F'.keep _ _ hs), S₁, by rw [T₁.size]; exact F.above⟩ (XB.keeps B₃.stays) (TB.keeps B₃.stays) (D.turn T₁) (fun p hp => ⟨(N' p hp).1, fun q => ?_, ?_⟩) hos' hG' hp
  · have := (N' p hp).2.2; rw [q, hs] at this; cases this
  · refine T₁.none_ _ ?_
    cases q : h₀.get? p.1 with
    | none => rfl
    | some o =>
      obtain ⟨sl', hs'⟩ := T'.up (st _ _ q)
      have := (N' p hp).2.2
      rw [hs'] at this
      cases this
local macro_rules | `(tactic| k_room) => `(tactic| ktr_room)
local macro_rules | `(tactic| k_units) => `(tactic| ktr_units)
local macro_rules | `(tactic| k_all) => `(tactic| first | assumption | exact (fun p hp => Nat.ne_of_lt ((by assumption : ∀ p ∈ _, p.1 < _) p hp)) | (refine allLt_ne ?_; first | assumption | exact (by assumption : _ ∧ AllLt _ _).2 | exact (by assumption : _ ∧ _ ∧ AllLt _ _).2.2 | exact (by assumption : _ ∧ _ ∧ _ ∧ AllLt _ _).2.2.2 | exact (by assumption : _ ∧ _ ∧ _ ∧ _ ∧ AllLt _ _).2.2.2.2 | exact (by assumption : _ ∧ _ ∧ _ ∧ _ ∧ _ ∧ AllLt _ _).2.2.2.2.2 | exact (by assumption : _ ∧ _ ∧ _ ∧ _ ∧ _ ∧ _ ∧ AllLt _ _).2.2.2.2.2.2 | exact (by assumption : _ ∧ _ ∧ _ ∧ _ ∧ _ ∧ _ ∧ _ ∧ AllLt _ _).2.2.2.2.2.2.2 | exact (by assumption : _ ∧ _ ∧ _ ∧ _ ∧ _ ∧ _ ∧ _ ∧ _ ∧ AllLt _ _).2.2.2.2.2.2.2.2) | (refine List.forall_mem_cons.mpr ⟨?a, ?b⟩; (case a => k_ne); (case b => k_all)))
local macro_rules | `(tactic| k_mem) => `(tactic| first | exact List.mem_cons_self | (refine List.mem_cons_of_mem _ ?_; k_mem) | ktr_member)
local macro_rules | `(tactic| kt_len) => `(tactic| with_reducible assumption)
local macro_rules | `(tactic| kt_le) => `(tactic| (refine' Nat.le_trans ?kta ?ktb; (case kta => kt_len); (case ktb => decide +kernel)))
local macro_rules | `(tactic| k_ne) => `(tactic| (refine neN ?_; (try dsimp only); first | assumption | exact Ne.symm (by assumption) | exact ne_a (an0 (by assumption)) | exact ne_a (an1 (by assumption)) | exact ne_a (an2 (by assumption)) | exact ne_a (an3 (by assumption)) | exact ne_a (an4 (by assumption)) | exact ne_a (an5 (by assumption)) | exact ne_a (an6 (by assumption)) | exact ne_a (an7 (by assumption)) | exact ne_a (an8 (by assumption)) | exact ne_a (an9 (by assumption)) | exact ne_b (an0 (by assumption)) | exact ne_b (an1 (by assumption)) | exact ne_b (an2 (by assumption)) | exact ne_b (an3 (by assumption)) | exact ne_b (an4 (by assumption)) | exact ne_b (an5 (by assumption)) | exact ne_b (an6 (by assumption)) | exact ne_b (an7 (by assumption)) | exact ne_b (an8 (by assumption)) | exact ne_b (an9 (by assumption)) | decide | omega))
local macro_rules | `(tactic| ktr_room) => `(tactic| ((try simp only [depth_under_make, depth_under_kw, depth_in1, depth_deeper, depth_caller]); (try dsimp only [ktrTop]); first | exact rm1 (by assumption) (by decide) | exact rm2 (by assumption) (by decide) | exact rm3 (by assumption) (by decide) | exact rm4 (by assumption) (by decide)))
local macro_rules | `(tactic| ktr_units) => `(tactic| ((try simp only [units_in1, units_deeper, Around.mark_units, units_caller]); (try dsimp only [ktrTop]); first | exact rm1 (by assumption) (by decide) | exact rm2 (by assumption) (by decide) | exact rm3 (by assumption) (by decide) | exact rm4 (by assumption) (by decide)))
-- MyB

theorem wkvs_set {w : World} {o : Obj} {r : Addr} {i j : Int} {t u : Tok} (h : o.IsDictOf (PySem.strKind PM w) (stored (wKvs r i t) "at" (.int j u))) : ∃ v, o.IsDictOf (PySem.strKind PM w) (wKvs r j v) := ⟨u, h⟩
inductive NextPost (w : World) (d rw : Addr) (many : Int) (news : Led) (r : Value) (news' : Led) : Prop
  | mk (v : Int) (u : Tok) (o' : Obj) (_ : r = .int v u) (_ : 0 ≤ v) (_ : v < many) (_ : news' = (d, o') :: news) (_ : WD w o' rw) : NextPost w d rw many news r news'
theorem next_t (w : World) (d rw : Addr) (o : Obj) (t₄ : Tok) (many : Int) (news : Led)
   (hm : 0 < many) (W : WD w o rw) (R : RowIn news rw) (hsep : ∀ p ∈ news, p.1 ≠ d) :
   DoesP w 3 733 [.ref d, .int many t₄] ((d, o) :: news) (NextPost w d rw many news) := by
  unfold DoesP
  k_fill
  w_top off
  show DoesP w 3 733 _ _ _
  refine' doesP_of (binds := [("w", .ref d), ("many", .int many t₄)]) ?ho ?hcd (fun _ => BindsTo.of_eq ?hb) ?hl ?h1 ?h2 ?h3 ?h4 ?h5 ?h
  case ho => k_is
  case hcd => k_is
  case hb => exact rfl
  case hl => exact locs rfl
  case h1 => exact rfl
  case h2 => exact rfl
  case h3 => exact rfl
  case h4 => decide
  case h5 => decide
  intro dp un gd outer base g L s mean mg mb B F X N T hlt hdp hun
  obtain ⟨i, t, h0, hd⟩ := W
  obtain ⟨vs, nn, hr, hv, hz⟩ := R
  with_unfolding_all show wpAny _ _ (execs (_ :: _) _) _ _ _
  refine letAV ?_
  intro Vᵣ Aᵣ
  (repeat' (first | ((with_reducible refine tok_gen3 ?_); intro _) | ((with_reducible show wpAny _ _ (setItem (Value.ref _) (Value.str _ _) _) _ _ _); (k_here; k_dflt (refine' kda_set (knd := PySem.strKind _ _) ?Fᵣ ?Nᵣ ?Uᵣ ?dᵣ (strKind_is _ _ _ _) ?zᵣ ?_; (case Fᵣ => k_asm); (case Nᵣ => k_asm); (case Uᵣ => k_updF); (case dᵣ => k_asm); (case zᵣ => rw [sizeLine_eq]; exact Nat.le_of_ble_eq_true (by with_unfolding_all rfl))); intro h'ᵣ o'ᵣ F'ᵣ N'ᵣ hd'ᵣ; (try dsimp only at N'ᵣ); (obtain ⟨t9ᵣ, hd9ᵣ⟩ := wkvs_set hd'ᵣ); clear hd'ᵣ)) | ((with_reducible show wpAny _ _ (call (Value.builtin "len") _) _ _ _); (k_here; k_dflt (refine' len_led ?Nᵣ ?mᵣ ?zᵣ ?_; (case Nᵣ => k_asm); (case mᵣ => k_mem); (case zᵣ => first | assumption | (simp only [List.size_toArray]; (first | assumption | exact Nat.le_trans (by assumption) (by decide) | omega)) | skip)))) | ((k_here; k_dflt (first | ((with_reducible show wpAny _ _ (subscriptTail _ _ (Value.ref _) (Value.str _ _)) _ _ _); refine kda_item (knd := PySem.strKind _ _) (by k_asm) (by k_mem) (by k_asm) (strKind_is _ _ _ _) (by first | with_reducible assumption | assumption | rfl) ?_) | ((with_reducible show wpAny _ _ (subscriptTail _ _ (Value.ref _) (Value.int _ _)) _ _ _); refine' item_int ?Nᵣ ?mᵣ ?vᵣ ?aᵣ ?bᵣ ?zᵣ ?_; (case Nᵣ => k_asm); (case mᵣ => k_mem); (case vᵣ => assumption); (case aᵣ => first | assumption | exact Nat.le_trans (by assumption) (by decide) | omega); (case bᵣ => (simp only [decide_eq_true_eq, List.size_toArray] at *; first | assumption | exact Nat.le_trans (by assumption) (by decide) | omega)); (case zᵣ => (first | assumption | exact Nat.le_trans (by assumption) (by decide) | omega)); k_whole; intro _ _)))) | walk1 | (dsimp only; walk1) | (k_unfold; (try dsimp only)) | (leave1; walk_say "STEP leave1"; try dsimp only) | fail "no step"))
  all_goals (refine' ⟨_, _, _, _, rfl, ?F, ?N, _, _, _, rfl, Int.fmod_nonneg_of_pos _ hm, Int.fmod_lt_of_pos _ hm, rfl, ⟨i + 1, _, by omega, ?d⟩⟩; (case F => k_asm); (case N => k_asm); (case d => assumption))
theorem next_use {w : World} {dp un : Nat} {gd : Option (List Code)} {cn : Str} {nm : List (Str × NameKind)} {ig ic : Bool} {mo : List (Str × Const)} {a : Addr} {ccd : Value} {cl : List (Str × Addr)} {outer : List Env} {A₀ : Around} {base h₀ : Heap} {L : Addr} {m : Str → Option Value} {s : Shared}
    {mean : ExcName → Option Value} {mg mb : Str → Option Value} {Q E : Value → Shared → Prop} {d rw : Addr} {o : Obj} {u : Tok} {many : Int} {news rest : Led}
    (B : Below A₀ base outer h₀) (F : Fr h₀ L s.heap m) (X : (K w.params).In h₀) (N : News h₀ L s.heap news) (T : TopM mean mg mb h₀) (ht : Take (d, o) news rest)
    (hd : dp + 3 < recursionLimit) (hu : un + 60 < cLine) (hm : 0 < many) (W : WD w o rw) (R : RowIn rest rw) (hsep : ∀ p ∈ rest, p.1 ≠ d)
    (h : ∀ v u o' h' tk', 0 ≤ v → v < many → Fr h₀ L h' m → News h₀ L h' ((d, o') :: rest) → WD w o' rw → Q (.int v u) { s with heap := h', toks := tk' }) :
    wpAny (model PySem.Challenge.rw_je0043_01.row.toRowW.1 w) (ktrTop dp un gd cn ⟨.function, nm, ig, ic, mo⟩ L a ccd cl outer) (call (.ref 733) [.ref d, .int many u]) Q E s :=
  next_t w d rw o u many rest hm W R hsep _ _ _ _ _ _ _ _ _ _ _ _ _ _ _ _ _ _ _ _ _ _ _ B F X (newsSub N ht.mem) T hd (by omega) (by
    rintro r h' tk' news' F' N' ⟨v, u, o', rfl, h0, h1, rfl, hw⟩
    exact h v u o' h' tk' h0 h1 F' N' hw)
section
-- MyC

local macro_rules | `(tactic| k_all) => `(tactic| (refine List.forall_mem_cons.mpr ⟨?a, ?b⟩; (case a => k_ne); (case b => k_all)))

inductive RolePost (w : World) (d rw : Addr) (news : Led) (r : Value) (news' : Led) : Prop
  | mk (D : Addr) (vs : List Value) (n : Nat) (o' : Obj) (ks : List Int) (_ : r = .ref D) (_ : news' = (D, listOf vs.toArray n) :: (d, o') :: news) (_ : StrsAre vs (ks.map kN)) (_ : Good5 ks) (_ : WD w o' rw) (_ : (@Ne Nat D d)) (_ : ∀ p ∈ news, p.1 ≠ D) : RolePost w d rw news r news'
theorem role_t (w : World) (d rw : Addr) (o : Obj) (news : Led)
   (W : WD w o rw) (R : RowIn news rw) (hsep : ∀ p ∈ news, p.1 ≠ d) :
   DoesP w 5 745 [.ref d] ((d, o) :: news) (RolePost w d rw news) := by
  unfold DoesP
  k_fill
  w_top off
  show DoesP w 5 745 _ _ _
  refine' doesP_of (binds := [("w", .ref d)]) ?ho ?hcd (fun _ => BindsTo.of_eq ?hb) ?hl ?h1 ?h2 ?h3 ?h4 ?h5 ?h
  case ho => k_is
  case hcd => k_is
  case hb => exact rfl
  case hl => exact locs rfl
  case h1 => exact rfl
  case h2 => exact rfl
  case h3 => exact rfl
  case h4 => decide
  case h5 => decide
  intro dp un gd outer base g L s mean mg mb B F X N T hlt hdp hun
  with_unfolding_all show wpAny _ _ (execs (_ :: _) _) _ _ _
  refine letAV ?_
  intro Vᵣ Aᵣ
  (repeat' (first | ((with_reducible show wpAny _ _ (eval (Expr.ListComp _ _ _ _) _) _ _ _); (k_here; k_dflt (refine LCg.ListComp_U (F₀ := by k_asm) (by with_unfolding_all rfl) (by decide) (by rfl) (by decide) (by rfl) ?_))) | ((k_here; (with_reducible show wpAny _ _ (call (Value.ref 733) _) _ _ _); k_dflt (refine' next_use ?Bᵣ ?Fᵣ ?Xᵣ ?Nᵣ ?Tᵣ ?tᵣ ?dᵣ ?uᵣ ?mᵣ ?Wᵣ ?Rᵣ ?sᵣ ?_; (case Bᵣ => k_asm); (case Fᵣ => k_asm); (case Xᵣ => k_asm); (case Nᵣ => k_asm); (case Tᵣ => k_asm); (case tᵣ => repeat (first | exact Take.head | apply Take.tail)); (case dᵣ => ktr_room); (case uᵣ => ktr_units); (case mᵣ => decide); (case Wᵣ => assumption); (case Rᵣ => (repeat (first | assumption | apply RowIn.cons))); (case sᵣ => k_all); k_whole; intro v9ᵣ u9ᵣ o9ᵣ h9ᵣ tk9ᵣ hv0ᵣ hv1ᵣ F9ᵣ N9ᵣ W9ᵣ; (try dsimp only)))) | walk1 | (dsimp only; walk1) | (k_unfold; (try dsimp only)) | (leave1; walk_say "STEP leave1"; try dsimp only) | fail "no step"))
  rename_i D' ws' h' F' N' hI hC hL l1
  obtain ⟨ks, hI, hgood⟩ : ∃ ks, IntsAre ws' ks ∧ Good5 ks := ⟨_, hI, role_good _ _ (by assumption) (by assumption)⟩
  clear hC hL
  have hlen := hI.length
  have h5 := hgood.len
  k_dflt (refine LCg.CompSrc.ledger (by rfl) (by k_asm) (by k_asm) (by k_mem) (by rw [sizeLine_eq]; simp only [List.size_toArray]; omega) ?_)
  intro g'
  refine' comp_inv (fun i ys nw => nw = _ ∧ StrsAre ys ((ks.take i).map kN)) ⟨rfl, .nil⟩ ?_ ?_
  · rintro i v ys nw I oI C oC D m₂ h tk E' hi hv ⟨rfl, hR⟩ hC hx F1 N1 off ne
    obtain ⟨k, t, rfl, hk⟩ := IntsAre.at hI i v (by simpa using hv)
    have hk0 := (hgood.bound k (List.mem_of_getElem? hk)).1
    have hk1 := (hgood.bound k (List.mem_of_getElem? hk)).2
    (repeat' (first | fail | walk1 | (dsimp only; walk1) | (k_unfold; (try dsimp only)) | (leave1; walk_say "STEP leave1"; try dsimp only) | fail "no step"))
    refine ⟨_, _, _, rfl, by k_asm, by k_asm, off, Or.inr ⟨_, by k_mem, rfl, _, rfl⟩, rfl, ?_⟩
    rw [List.take_add_one, hk, List.map_append]
    exact kct_snoc hR
  · rintro ys nw ⟨rfl, hR⟩
    rw [List.size_toArray, hlen, List.take_length] at hR
    intro D h tk F1 N1 off
    have off' := off1_mem off
    refine endsP ((D, LCg.lst ys) :: (d, _) :: news) (by k_asm) (newsSub N1 ?_) ⟨D, ys, _, _, ks, rfl, rfl, hR, hgood, by assumption, ?_, ?_⟩
    · intro p hp
      rcases List.mem_cons.mp hp with rfl | hp
      · exact List.mem_cons_self
      · rcases List.mem_cons.mp hp with rfl | hp
        · k_mem
        · repeat (refine List.mem_cons_of_mem _ ?_)
          exact hp
    · exact Ne.symm (off' (d, _) (by k_mem))
    · exact fun p hp => off' p (by (repeat (refine List.mem_cons_of_mem _ ?_)); exact hp)
end
-- MyD

inductive DueInv (news : Led) (S U : Addr) (kn : Int → Option Addr) (sg : Int → Option PySem.Str) (P : PySem.Str) (ks : List Int) (mm : PySem.Str → Option Value) (i : Nat) (m : PySem.Str → Option Value) (led : Led) : Prop
  | mk (ys zs : List Value) (n1 n2 : Nat) (a b' : Option Value) (_ : m = Sh2 "name" "right" a b' mm) (_ : led = (U, listOf zs.toArray n2) :: (S, listOf ys.toArray n1) :: news) (_ : StrsAre ys (((ks.take i).filter (isS kn sg P)).map kN)) (_ : StrsAre zs (((ks.take i).filter (isU kn sg P)).map kN)) : DueInv news S U kn sg P ks mm i m led
inductive DuePost (ks : List Int) (kn : Int → Option Addr) (sg : Int → Option PySem.Str) (P : PySem.Str) (news : Led) (r : Value) (news' : Led) : Prop
  | mk (T S U : Addr) (ys zs : List Value) (n1 n2 n3 : Nat) (_ : r = .ref T) (_ : news' = (T, { cls := .type "tuple", data := .seq #[.ref S, .ref U] n3 }) :: (U, listOf zs.toArray n2) :: (S, listOf ys.toArray n1) :: news) (_ : StrsAre ys ((ks.filter (isS kn sg P)).map kN)) (_ : StrsAre zs ((ks.filter (isU kn sg P)).map kN)) : DuePost ks kn sg P news r news'
theorem due_t (w : World) (l kd sd : Addr) (vs : List Value) (nn : Nat) (ks : List Int) (kn : Int → Option Addr) (sg : Int → Option PySem.Str) (P : PySem.Str) (b : Array UInt8) (t : Tok) (news : Led)
   (hl : (l, listOf vs.toArray nn) ∈ news) (hvs : StrsAre vs (ks.map kN)) (h5 : Good5 ks) (hk : KeysIn w news kd kn) (hs : SigsIn w news sd sg) (hP : DecOk b P) (hPl : P.length ≤ 10) :
   DoesP w 5 764 [.ref l, .ref kd, .ref sd, .bytes b t] news (DuePost ks kn sg P news) := by
  unfold DoesP
  k_fill
  w_top off
  show DoesP w 5 764 _ _ _
  refine' doesP_of (binds := [("role", .ref l), ("keys", .ref kd), ("signatures", .ref sd), ("payload", .bytes b t)]) ?ho ?hcd (fun _ => BindsTo.of_eq ?hb) ?hl ?h1 ?h2 ?h3 ?h4 ?h5 ?h
  case ho => k_is
  case hcd => k_is
  case hb => exact rfl
  case hl => exact locs rfl
  case h1 => exact rfl
  case h2 => exact rfl
  case h3 => exact rfl
  case h4 => decide
  case h5 => decide
  intro dp un gd outer base g L s mean mg mb B F X N T hlt hdp hun
  with_unfolding_all show wpAny _ _ (execs (_ :: _) _) _ _ _
  refine letAV ?_
  intro Vᵣ Aᵣ
  (repeat' (first | ((with_reducible show wpAny _ _ (exec (Stmt.For _ _ _ _ _) _) _ _ _); (k_here; refine wpAny_For ?_ (by intro _; with_unfolding_all rfl))) | walk1 | (dsimp only; walk1) | (k_unfold; (try dsimp only)) | (leave1; walk_say "STEP leave1"; try dsimp only) | fail "no step"))
  rename_i S hA l1 hB U hC l2 hD F' N'
  obtain ⟨ok, kvs, hok, hkd, hlo, hkall⟩ := hk
  obtain ⟨os, svs, hos, hsd, hslo, hsall⟩ := hs
  have h2 := l2.2
  refine iterG_list rfl (by k_asm) (by k_asm) (l := l) (vs := vs) (nn := nn) (by k_mem) (by rfl) (by rfl) (by rfl) (fun g' => g' = g)
    (DueInv news S U kn sg P ks (fun y => if y = Str.ofString "unsigned" then some (Value.ref U) else if y = Str.ofString "signed" then some (Value.ref S) else
        List.lookup y [(Str.ofString "role", Value.ref l), (Str.ofString "keys", Value.ref kd), (Str.ofString "signatures", Value.ref sd), (Str.ofString "payload", Value.bytes b t)].reverse))
    rfl (fun _ e _ h => e ▸ h) ⟨[], [], 0, 0, _, _, sh2_start _ _ _, rfl, .nil, .nil⟩ ?_ ?_ ?_
  · rintro i m led ⟨ys, zs, n1, n2, a, b', -, rfl, -, -⟩
    k_mem
  · rintro i v g' m₁ led I oI h tk hv rfl ⟨ys, zs, n1, n2, a, b', rfl, rfl, hy, hz⟩ hne F1 N1
    obtain ⟨k, t9, rfl, hki⟩ := names_at hvs hv
    have hkb := h5.bound k (List.mem_of_getElem? hki)
    obtain ⟨hk1, hk2⟩ := hkall k hkb.1 hkb.2
    have hs1 := hsall k hkb.1 hkb.2
    have hI1 : (@Ne Nat U I) := hne (U, _) List.mem_cons_self
    have hI2 : (@Ne Nat S I) := hne (S, _) (by k_mem)
    have hyl := filter_len hy h5
    have hzl := filter_len hz h5
    cases hkn : kn k with
    | none =>
      rw [hkn] at hk1
      replace hk1 : valueAt kvs (kN k) = none := hk1
      (repeat' (first | ((with_reducible show wpAny _ _ (compareOp CmpOp.In (Value.str _ _) (Value.ref _)) _ _ _); (k_here; k_dflt (first | refine kda_in (knd := PySem.strKind _ _) (by k_asm) (by k_mem) (by k_asm) (by k_asm) (strKind_is _ _ _ _) true (isSome_of (by first | with_reducible assumption | assumption | rfl)) ?_ | refine kda_in (knd := PySem.strKind _ _) (by k_asm) (by k_mem) (by k_asm) (by k_asm) (strKind_is _ _ _ _) false (isNone_of (by first | with_reducible assumption | assumption | rfl)) ?_))) | walk1 | (dsimp only; walk1) | (k_unfold; (try dsimp only)) | (leave1; walk_say "STEP leave1"; try dsimp only) | fail "no step"))
      refine' turnEndI ?hG ?hF ?hN ?ne ?hJ ?hf
      case hG => exact rfl
      case hF => k_asm
      case hN => k_asm
      case hf => exact Or.inl rfl
      case hJ => exact ⟨_, _, _, _, _, _, sh2_set1 _ _ _ _ _ _, rfl, filter_skip hy hki (isS_no hkn), filter_skip hz hki (isU_no hkn)⟩
      case ne => exact List.forall_mem_cons.mpr ⟨hI1, List.forall_mem_cons.mpr ⟨hI2, fun p hp => hne p (List.mem_cons_of_mem _ (List.mem_cons_of_mem _ hp))⟩⟩
    | some x =>
      rw [hkn] at hk1
      replace hk1 : valueAt kvs (kN k) = some (.ref x) := hk1
      obtain ⟨hk0, hk5⟩ := hkb
      rcases hs1 with ⟨hsg, hsv⟩ | ⟨tx, y, hsg, hsv, hsig⟩
      · (repeat' (first | ((with_reducible show wpAny _ _ (subscriptTail _ _ (Value.str _ _) (Value.ref _)) _ _ _); (k_here; (with_reducible rename Fr _ _ _ _ => F'ᵣ); (with_reducible rename News _ _ _ _ => N'ᵣ); (refine' name_tail (s := ⟨_, _, _, _, _⟩) F'ᵣ N'ᵣ ?aᵣ ?bᵣ ?_; (case aᵣ => first | assumption | exact Nat.le_trans (by assumption) (by decide) | omega); (case bᵣ => (first | assumption | exact Nat.le_trans (by assumption) (by decide) | omega))); intro _ _ _ _ _)) | ((with_reducible show wpAny _ _ (compareOp CmpOp.In (Value.str _ _) (Value.ref _)) _ _ _); (k_here; k_dflt (first | refine kda_in (knd := PySem.strKind _ _) (by k_asm) (by k_mem) (by k_asm) (by k_asm) (strKind_is _ _ _ _) true (isSome_of (by first | with_reducible assumption | assumption | rfl)) ?_ | refine kda_in (knd := PySem.strKind _ _) (by k_asm) (by k_mem) (by k_asm) (by k_asm) (strKind_is _ _ _ _) false (isNone_of (by first | with_reducible assumption | assumption | rfl)) ?_))) | ((k_here; (with_reducible show wpAny _ _ (call (Value.builtin _) [Value.ref _, _]) _ _ _); k_dflt (refine' append_K ?k1ᵣ ?k2ᵣ ?k3ᵣ ?_ ?zᵣ; (case k1ᵣ => k_asm); (case k2ᵣ => k_asm); (case k3ᵣ => k_upd); (case zᵣ => (rw [sizeLine_eq]; (try simp only [List.size_toArray]); (first | assumption | exact Nat.le_trans (by assumption) (by decide) | omega))); k_whole); intro h'ᵣ F'ᵣ N'ᵣ; (try simp only [List.push_toArray] at N'ᵣ))) | ((with_reducible show wpAny _ _ (call (Value.builtin "bytes.decode") _) _ _ _); (k_here; (with_reducible rename DecOk _ _ => hDecᵣ); refine hDecᵣ _ _ _ _ _ _ _ _ ?_; intro _ _)) | walk1 | (dsimp only; walk1) | (k_unfold; (try dsimp only)) | (leave1; walk_say "STEP leave1"; try dsimp only) | fail "no step"))
        refine' turnEndI ?hG ?hF ?hN ?ne ?hJ ?hf
        case hG => exact rfl
        case hF => k_asm
        case hN => k_asm
        case hf => exact Or.inl rfl
        case hJ => exact ⟨_, _, _, _, _, _, sh2_both (by decide) _ _ _ _ _, rfl, filter_skip hy hki (isS_none hsg), filter_step hz hki (isU_none hkn hsg)⟩
        case ne => exact List.forall_mem_cons.mpr ⟨hI1, List.forall_mem_cons.mpr ⟨hI2, fun p hp => hne p (List.mem_cons_of_mem _ (List.mem_cons_of_mem _ hp))⟩⟩
      · obtain ⟨dy, ud, ou, ny, t1, t2, t3, t4, t5, hy1, hy2, hy3, hy4⟩ := hsig
        (repeat' (first | ((with_reducible show wpAny _ _ (subscriptTail _ _ (Value.str _ _) (Value.ref _)) _ _ _); (k_here; (with_reducible rename Fr _ _ _ _ => F'ᵣ); (with_reducible rename News _ _ _ _ => N'ᵣ); (refine' name_tail (s := ⟨_, _, _, _, _⟩) F'ᵣ N'ᵣ ?aᵣ ?bᵣ ?_; (case aᵣ => first | assumption | exact Nat.le_trans (by assumption) (by decide) | omega); (case bᵣ => (first | assumption | exact Nat.le_trans (by assumption) (by decide) | omega))); intro _ _ _ _ _)) | ((with_reducible show wpAny _ _ (compareOp CmpOp.In (Value.str _ _) (Value.ref _)) _ _ _); (k_here; k_dflt (first | refine kda_in (knd := PySem.strKind _ _) (by k_asm) (by k_mem) (by k_asm) (by k_asm) (strKind_is _ _ _ _) true (isSome_of (by first | with_reducible assumption | assumption | rfl)) ?_ | refine kda_in (knd := PySem.strKind _ _) (by k_asm) (by k_mem) (by k_asm) (by k_asm) (strKind_is _ _ _ _) false (isNone_of (by first | with_reducible assumption | assumption | rfl)) ?_))) | ((k_here; (with_reducible show wpAny _ _ (call (Value.builtin _) [Value.ref _, _]) _ _ _); k_dflt (refine' append_K ?k1ᵣ ?k2ᵣ ?k3ᵣ ?_ ?zᵣ; (case k1ᵣ => k_asm); (case k2ᵣ => k_asm); (case k3ᵣ => k_upd); (case zᵣ => (rw [sizeLine_eq]; (try simp only [List.size_toArray]); (first | assumption | exact Nat.le_trans (by assumption) (by decide) | omega))); k_whole); intro h'ᵣ F'ᵣ N'ᵣ; (try simp only [List.push_toArray] at N'ᵣ))) | ((with_reducible show wpAny _ _ (call (Value.builtin "bytes.decode") _) _ _ _); (k_here; (with_reducible rename DecOk _ _ => hDecᵣ); refine hDecᵣ _ _ _ _ _ _ _ _ ?_; intro _ _)) | ((k_here; k_dflt (first | ((with_reducible show wpAny _ _ (subscriptTail _ _ (Value.ref _) (Value.str _ _)) _ _ _); refine kda_item (knd := PySem.strKind _ _) (by k_asm) (by k_mem) (by k_asm) (strKind_is _ _ _ _) (by first | with_reducible assumption | assumption | rfl) ?_) | ((with_reducible show wpAny _ _ (subscriptTail _ _ (Value.ref _) (Value.int _ _)) _ _ _); refine' item_int ?Nᵣ ?mᵣ ?vᵣ ?aᵣ ?bᵣ ?zᵣ ?_; (case Nᵣ => k_asm); (case mᵣ => k_mem); (case vᵣ => assumption); (case aᵣ => first | assumption | exact Nat.le_trans (by assumption) (by decide) | omega); (case bᵣ => (simp only [decide_eq_true_eq, List.size_toArray] at *; first | assumption | exact Nat.le_trans (by assumption) (by decide) | omega)); (case zᵣ => (first | assumption | exact Nat.le_trans (by assumption) (by decide) | omega)); k_whole; intro _ _)))) | walk1 | (dsimp only; walk1) | (k_unfold; (try dsimp only)) | (leave1; walk_say "STEP leave1"; try dsimp only) | fail "no step"))
        · have e9 : (tx == rT P k) = true := by assumption
          refine' turnEndI ?hG ?hF ?hN ?ne ?hJ ?hf
          case hG => exact rfl
          case hF => k_asm
          case hN => k_asm
          case hf => exact Or.inl rfl
          case hJ => exact ⟨_, _, _, _, _, _, sh2_both (by decide) _ _ _ _ _, rfl, filter_step hy hki (isS_yes hkn hsg e9), filter_skip hz hki (isU_yes hsg e9)⟩
          case ne => exact List.forall_mem_cons.mpr ⟨hI1, List.forall_mem_cons.mpr ⟨hI2, fun p hp => hne p (List.mem_cons_of_mem _ (List.mem_cons_of_mem _ hp))⟩⟩
        · have e9 : (tx == rT P k) = false := by assumption
          refine' turnEndI ?hG ?hF ?hN ?ne ?hJ ?hf
          case hG => exact rfl
          case hF => k_asm
          case hN => k_asm
          case hf => exact Or.inl rfl
          case hJ => exact ⟨_, _, _, _, _, _, sh2_both (by decide) _ _ _ _ _, rfl, filter_skip hy hki (isS_not hsg e9), filter_step hz hki (isU_not hkn hsg e9)⟩
          case ne => exact List.forall_mem_cons.mpr ⟨hI1, List.forall_mem_cons.mpr ⟨hI2, fun p hp => hne p (List.mem_cons_of_mem _ (List.mem_cons_of_mem _ hp))⟩⟩
  · rintro g' m led h tk rfl ⟨ys, zs, n1, n2, a, b', rfl, rfl, hy, hz⟩ F1 N1
    have hn := hvs.length
    rw [List.length_map] at hn
    rw [hn, List.take_length] at hy hz
    dsimp only
    (repeat' (first | fail | walk1 | (dsimp only; walk1) | (k_unfold; (try dsimp only)) | (leave1; walk_say "STEP leave1"; try dsimp only) | fail "no step"))
    exact endsP _ (by k_asm) (by k_asm) ⟨_, _, _, _, _, _, _, _, rfl, rfl, hy, hz⟩
-- MyE

inductive DrawInv (news : Led) (D rw : Addr) (ws' : List Value) (mm : PySem.Str → Option Value) (i : Nat) (m : PySem.Str → Option Value) (led : Led) : Prop
  | mk (ys : List Value) (n : Nat) (a b' : Option Value) (_ : m = Sh2 "cell" "turn" a b' mm) (_ : led = (D, listOf ws'.toArray 0) :: (rw, listOf ys.toArray n) :: news) (_ : ∀ v ∈ ys, ∃ k t, v = Value.int k t) (_ : ys.length ≤ 3 * i) (_ : i ≤ 24) : DrawInv news D rw ws' mm i m led
inductive DrawInv2 (news : Led) (D rw I : Addr) (oI : Obj) (ws' : List Value) (i : Nat) (mm : PySem.Str → Option Value) (j : Nat) (m : PySem.Str → Option Value) (led : Led) : Prop
  | mk (ys : List Value) (n : Nat) (c : Int) (tc : Tok) (b' : Option Value) (_ : m = Sh2 "cell" "turn" (some (.int c tc)) b' mm) (_ : led = (I, oI) :: (D, listOf ws'.toArray 0) :: (rw, listOf ys.toArray n) :: news) (_ : ∀ v ∈ ys, ∃ k t, v = Value.int k t) (_ : ys.length ≤ 3 * i + j) (_ : j ≤ 3) : DrawInv2 news D rw I oI ws' i mm j m led
inductive DrawsPost (w : World) (news : Led) (r : Value) (news' : Led) : Prop
  | mk (d : Addr) (o : Obj) (rw : Addr) (ys : List Value) (n : Nat) (_ : r = .ref d) (_ : news' = (d, o) :: (rw, listOf ys.toArray n) :: news) (_ : WD w o rw) (_ : (∀ v ∈ ys, ∃ k t, v = .int k t)) (_ : ys.length ≤ 100) (_ : rw < d) (_ : ∀ p ∈ news, p.1 < rw) : DrawsPost w news r news'
theorem draws_t (w : World) (l : Addr) (vs : List Value) (ns : List Int) (news : Led) (hvs : IntsAre vs ns) (hn : ns.length ≤ 63) :
   DoesX (fun g => g.IsList l vs.toArray) w 5 726 [.ref l] news (DrawsPost w news) := by
  unfold DoesX
  k_fill
  w_top off
  show DoesX _ w 5 726 _ _ _
  refine' doesX_of (fun _ _ st x => let ⟨o, ho, r⟩ := x; ⟨o, st _ _ ho, r⟩) (binds := [("script", .ref l)]) ?ho ?hcd (fun _ => BindsTo.of_eq ?hb) ?hl ?h1 ?h2 ?h3 ?h4 ?h5 ?h
  case ho => k_is
  case hcd => k_is
  case hb => exact rfl
  case hl => exact locs rfl
  case h1 => exact rfl
  case h2 => exact rfl
  case h3 => exact rfl
  case h4 => decide
  case h5 => decide
  intro dp un gd outer base g L s mean mg mb B F X N T hIs hlt hdp hun
  with_unfolding_all show wpAny _ _ (execs (_ :: _) _) _ _ _
  refine letAV ?_
  intro Vᵣ Aᵣ
  (repeat' (first | ((with_reducible show wpAny _ _ (exec (Stmt.For _ _ _ _ _) _) _ _ _); (k_here; refine wpAny_For ?_ (by intro _; with_unfolding_all rfl))) | walk1 | (dsimp only; walk1) | (k_unfold; (try dsimp only)) | (leave1; walk_say "STEP leave1"; try dsimp only) | fail "no step"))
  rename_i rw hB l0 hX D ws' hA F' N' hI hC hL l1
  clear hC hL
  have hwl := hI.length
  rw [List.length_take] at hwl
  refine iterG_list rfl (by k_asm) (by k_asm) (l := D) (vs := ws') (nn := 0) (by k_mem) (by rfl) (by rfl) (by rfl) (fun g' => g' = g)
    (DrawInv news D rw ws' (fun y => if y = Str.ofString "row" then some (Value.ref rw) else List.lookup y [(Str.ofString "script", Value.ref l)].reverse))
    rfl (fun _ e _ h => e ▸ h) ⟨[], 0, _, _, sh2_start _ _ _, rfl, (fun _ h => nomatch h), Nat.le_refl _, by omega⟩ ?_ ?_ ?_
  · rintro i m led ⟨ys, n1, a, b', -, rfl, -, -, -⟩
    k_mem
  · rintro i v g' m₁ led I oI h tk hv rfl ⟨ys, n1, a, b', rfl, rfl, hy, hyl, hi⟩ hne F1 N1
    obtain ⟨k, t, rfl, hk⟩ := IntsAre.at hI i v hv
    have hI1 : (@Ne Nat D I) := hne (D, _) List.mem_cons_self
    have hI2 : (@Ne Nat rw I) := hne (rw, _) (by k_mem)
    have hlen : i < 24 := by
      have := (List.getElem?_eq_some_iff.mp hv).1
      omega
    (repeat' (first | ((with_reducible show wpAny _ _ (exec (Stmt.For _ _ _ _ _) _) _ _ _); (k_here; refine wpAny_For ?_ (by intro _; with_unfolding_all rfl))) | walk1 | (dsimp only; walk1) | (k_unfold; (try dsimp only)) | (leave1; walk_say "STEP leave1"; try dsimp only) | fail "no step"))
    rename_i N2 _
    refine iterG_range (n := 3) rfl (by k_asm) (by k_asm) (by assumption) (by decide) (by decide) (by rfl) (by rfl) (by rfl) (fun g => g = g')
      (DrawInv2 news D rw I oI ws' i (fun y => if y = Str.ofString "row" then some (Value.ref rw) else List.lookup y [(Str.ofString "script", Value.ref l)].reverse))
      rfl (fun _ e _ h => e ▸ h) ⟨ys, n1, _, _, _, sh2_set11 _ _ _ _ _ _ _, rfl, hy, by omega, by omega⟩ ?_ ?_
    · rintro j v g' m₁ led I2 oI2 h tk hj ⟨t2, rfl⟩ rfl ⟨ys, n1, c, tc, b', rfl, rfl, hy, hyl, hj3⟩ hne2 F1 N1
      have hJ1 : (@Ne Nat I I2) := hne2 (I, _) List.mem_cons_self
      have hJ2 : (@Ne Nat D I2) := hne2 (D, _) (by k_mem)
      have hJ3 : (@Ne Nat rw I2) := hne2 (rw, _) (by k_mem)
      (repeat' (first | ((k_here; (with_reducible show wpAny _ _ (call (Value.builtin _) [Value.ref _, _]) _ _ _); k_dflt (refine' append_K ?k1ᵣ ?k2ᵣ ?k3ᵣ ?_ ?zᵣ; (case k1ᵣ => k_asm); (case k2ᵣ => k_asm); (case k3ᵣ => k_upd); (case zᵣ => (rw [sizeLine_eq]; (try simp only [List.size_toArray]); (first | assumption | exact Nat.le_trans (by assumption) (by decide) | omega))); k_whole); intro h'ᵣ F'ᵣ N'ᵣ; (try simp only [List.push_toArray] at N'ᵣ))) | walk1 | (dsimp only; walk1) | (k_unfold; (try dsimp only)) | (leave1; walk_say "STEP leave1"; try dsimp only) | fail "no step"))
      refine' turnEndI ?hG ?hF ?hN ?ne ?hJ ?hf
      case hG => exact rfl
      case hF => k_asm
      case hN => k_asm
      case hf => exact Or.inl rfl
      case hJ => exact ⟨_, _, _, _, _, sh2_both' _ _ _ _ _ _ _, rfl, ints_snoc hy, by rw [List.length_append]; simp only [List.length_singleton]; omega, by omega⟩
      case ne => exact List.forall_mem_cons.mpr ⟨hJ1, List.forall_mem_cons.mpr ⟨hJ2, List.forall_mem_cons.mpr ⟨hJ3, fun p hp => hne2 p (List.mem_cons_of_mem _ (List.mem_cons_of_mem _ (List.mem_cons_of_mem _ hp)))⟩⟩⟩
    · rintro g' m led h tk rfl ⟨ys, n1, c, tc, b', rfl, rfl, hy, hyl, hj3⟩ F1 N1
      dsimp only
      (repeat' (first | fail | walk1 | (dsimp only; walk1) | (k_unfold; (try dsimp only)) | (leave1; walk_say "STEP leave1"; try dsimp only) | fail "no step"))
      refine' turnEndI ?hG ?hF ?hN ?ne ?hJ ?hf
      case hG => exact rfl
      case hF => k_asm
      case hN => k_asm
      case hf => exact Or.inl rfl
      case hJ => exact ⟨_, _, _, _, rfl, rfl, hy, by omega, by omega⟩
      case ne => exact List.forall_mem_cons.mpr ⟨hI1, List.forall_mem_cons.mpr ⟨hI2, fun p hp => hne p (List.mem_cons_of_mem _ (List.mem_cons_of_mem _ hp))⟩⟩
  · rintro g' m led h tk rfl ⟨ys, n1, a, b', rfl, rfl, hy, hyl, hi⟩ F1 N1
    dsimp only
    (repeat' (first | fail | walk1 | (dsimp only; walk1) | (k_unfold; (try dsimp only)) | (leave1; walk_say "STEP leave1"; try dsimp only) | fail "no step"))
    rename_i N9 lo hd l9
    refine' endsP ((h.objs.size, _) :: (rw, _) :: news) ?F (newsSub N9 ?_) ⟨_, _, rw, ys, n1, rfl, rfl, ⟨0, _, Int.le_refl _, hd⟩, hy, by omega, l9.2.1, l0⟩
    case F => k_asm
    intro p hp
    cases hp with
    | head => exact List.mem_cons_self
    | tail _ hp => exact List.mem_cons_of_mem _ (List.mem_cons_of_mem _ hp)
section
-- MyF

local macro_rules | `(tactic| k_all) => `(tactic| (refine List.forall_mem_cons.mpr ⟨?a, ?b⟩; (case a => k_ne); (case b => k_all)))


def KeysN (w : World) (news : Led) (kd : Addr) (kn : Int → Option Addr) : Prop :=
  ∃ (o : Obj) (kvs : List (PySem.Str × Value)), (kd, o) ∈ news ∧ o.IsDictOf (PySem.strKind PM w) kvs ∧ (kd == sysModules) = false ∧ kvs.length ≤ 100 ∧
    ∀ k, 0 ≤ k → k < 5 → valueAt kvs (kN k) = (kn k).map Value.ref ∧ ∀ x, kn k = some x → IsKey w news x k
theorem KeysN.toIn {w : World} {fam : Led} {kd : Addr} {kn : Int → Option Addr} (h : KeysN w fam kd kn) : KeysIn w fam kd kn := let ⟨o, kvs, h1, h2, h3, _, h5⟩ := h; ⟨o, kvs, h1, h2, h3, h5⟩
theorem KeysN.mono {w : World} {fam fam' : Led} {kd : Addr} {kn : Int → Option Addr} (h : KeysN w fam kd kn) (hs : ∀ p ∈ fam, p ∈ fam') : KeysN w fam' kd kn := by
  obtain ⟨o, kvs, h1, h2, h3, hz, h4⟩ := h
  exact ⟨o, kvs, hs _ h1, h2, h3, hz, fun k a b => ⟨(h4 k a b).1, fun x hx => ((h4 k a b).2 x hx).mono hs⟩⟩
theorem keysN_of {w : World} {fam : Led} {ps : List (Int × Addr)} {ys : List Value} {i : Int} {kd : Addr} {o : Obj} (hF : KeyFam w fam ps ys) (hN : NumsTo ps i) (hi : i ≤ 6) (hz : ps.length ≤ 100) (ho : o.IsDictOf (PySem.strKind PM w) (upTo (kvP ps) (kvP ps).length)) (hk : (kd == sysModules) = false) :
    KeysN w ((kd, o) :: fam) kd (knP ps) := by
  have h := keysIn_of hF hN hi ho hk
  rw [upTo_nodup (kvP_nodup hN hi) _ (Nat.le_refl _), List.take_length] at ho
  refine ⟨o, kvP ps, List.mem_cons_self, ho, hk, by unfold kvP; rw [List.length_map]; exact hz, fun k h0 h1 => ⟨kvP_at hN hi h0 (by omega), fun x hx => ?_⟩⟩
  obtain ⟨_, _, _, _, _, h4⟩ := h
  exact (h4 k h0 h1).2 x hx
inductive KeysInv (w : World) (c d rw : Addr) (oc : Obj) (news : Led) (i : Nat) (ys : List Value) (nw : Led) : Prop
  | mk (o' : Obj) (fam : Led) (ps : List (Int × Addr)) (_ : nw = (c, oc) :: (d, o') :: (fam ++ news)) (_ : WD w o' rw) (_ : ∀ p ∈ fam ++ news, p.1 ≠ d) (_ : KeyFam w fam ps ys) (_ : NumsTo ps (0 + (i : Int))) (_ : ps.length ≤ i) (_ : ∀ q ∈ fam, AllLt q.1 news) : KeysInv w c d rw oc news i ys nw
inductive KeysPost (w : World) (d rw : Addr) (news : Led) (r : Value) (news' : Led) : Prop
  | mk (kd : Addr) (o' : Obj) (kn : Int → Option Addr) (fam : Led) (_ : r = .ref kd) (_ : news' = (d, o') :: (fam ++ news)) (_ : WD w o' rw) (_ : (∀ p ∈ fam, p.1 ≠ d)) (_ : KeysN w fam kd kn) (_ : ∀ q ∈ fam, AllLt q.1 news) : KeysPost w d rw news r news'
theorem keys_t (w : World) (d rw : Addr) (o : Obj) (news : Led) (W : WD w o rw) (R : RowIn news rw) (hsep : ∀ p ∈ news, p.1 ≠ d) :
   DoesP w 7 750 [.ref d] ((d, o) :: news) (KeysPost w d rw news) := by
  unfold DoesP
  k_fill
  w_top off
  show DoesP w 7 750 _ _ _
  refine' doesP_ofC (binds := [("w", .ref d)]) ?ho ?hcd (fun _ => BindsTo.of_eq ?hb) ?hl ?hn ?h1 ?h2 ?h3 ?h5 ?h
  case ho => k_is
  case hcd => k_is
  case hb => exact rfl
  case hl => exact kinds_of rfl
  case hn => decide
  case h1 => exact rfl
  case h2 => exact rfl
  case h3 => exact rfl
  case h5 => decide
  intro dp un gd outer base g L s mean mg mb cells B F X N T Y hlt hdp hun
  obtain ⟨oc, hE, dc⟩ := CellsAre.one Y
  subst hE
  clear Y
  with_unfolding_all show wpAny _ _ (execs (_ :: _) _) _ _ _
  refine letAV ?_
  intro Vᵣ Aᵣ
  (repeat' (first | ((with_reducible refine tok_gen3 ?_); intro _) | ((with_reducible show wpAny _ _ (eval (Expr.ListComp _ _ _ _) _) _ _ _); (k_here; k_dflt (refine LCt.ListComp_T (F₀ := by k_asm) (by with_unfolding_all rfl) (by decide) (by rfl) (by decide) (by rfl) ?_))) | walk1 | (dsimp only; walk1) | (k_unfold; (try dsimp only)) | (leave1; walk_say "STEP leave1"; try dsimp only) | fail "no step"))
  have hdL : @LT.lt Nat _ d L := hlt (d, o) List.mem_cons_self
  k_dflt (refine LCt.CompSrcT.range (n := 5) (by rfl) (by k_asm) (by k_asm) (by assumption) (by decide) (by decide) (by rw [sizeLine_eq]; decide) ?_)
  intro g'
  refine' comp_invT (KeysInv w (L + 1) d rw oc news) ⟨o, [], [], rfl, W, hsep, .nil, (by show NumsTo [] 0; exact .nil), Nat.le_refl _, fun _ h => nomatch h⟩ ?_ ?_
  · rintro i v ys nw I oI C oC D m₂ h tk E' hi ⟨t9, rfl⟩ ⟨o', fam, ps, rfl, W', hsep', hKF, hNT, hpl, hAb⟩ hC hx F1 N1 off ne
    have R' : RowIn (fam ++ news) rw := R.mono fun p hp => List.mem_append_right _ hp
    obtain ⟨tl, htl⟩ : ∃ tl, tl = fam ++ news := ⟨_, rfl⟩
    rw [← htl] at hsep' N1 off R'
    have hd1 : (@Ne Nat d I) ∧ (@Ne Nat d C) ∧ (@Ne Nat d D) := off.2.1
    have hc1 : (@Ne Nat (L + 1) I) ∧ (@Ne Nat (L + 1) C) ∧ (@Ne Nat (L + 1) D) := off.1
    have hof := off.2.2
    have hk0 : (0 : Int) ≤ 0 + (i : Int) := by omega
    have hk1 : (0 : Int) + (i : Int) < 6 := by omega
    have hsucc : (0 : Int) + ((i + 1 : Nat) : Int) = 0 + (i : Int) + 1 := by omega
    (repeat' (first | ((with_reducible refine tok_gen3 ?_); intro _) | ((k_here; (with_reducible show wpAny _ _ (call (Value.ref 733) _) _ _ _); k_dflt (refine' next_use ?Bᵣ ?Fᵣ ?Xᵣ ?Nᵣ ?Tᵣ ?tᵣ ?dᵣ ?uᵣ ?mᵣ ?Wᵣ ?Rᵣ ?sᵣ ?_; (case Bᵣ => k_asm); (case Fᵣ => k_asm); (case Xᵣ => k_asm); (case Nᵣ => k_asm); (case Tᵣ => k_asm); (case tᵣ => repeat (first | exact Take.head | apply Take.tail)); (case dᵣ => ktr_room); (case uᵣ => ktr_units); (case mᵣ => decide); (case Wᵣ => assumption); (case Rᵣ => (repeat (first | assumption | apply RowIn.cons))); (case sᵣ => k_all); k_whole; intro v9ᵣ u9ᵣ o9ᵣ h9ᵣ tk9ᵣ hv0ᵣ hv1ᵣ F9ᵣ N9ᵣ W9ᵣ; (try dsimp only)))) | walk1 | (dsimp only; walk1) | (k_unfold; (try dsimp only)) | (leave1; walk_say "STEP leave1"; try dsimp only) | fail "no step"))
    · rename _ < _ ∧ _ < _ ∧ _ < _ ∧ _ < _ ∧ _ < _ ∧ AllLt _ tl => lkv
      subst htl
      have lkv2 := allLt_app lkv.2.2.2.2.2
      refine compEnd5 (by k_asm) (by k_asm) ⟨hc1, hd1, ?_⟩ trivial ⟨_, _ :: _ :: _ :: _ :: _ :: fam, ps ++ [(0 + (i : Int), _)], rfl, by assumption, ?_, hKF.snoc (fun p hp => by (repeat (first | exact hp | refine List.mem_cons_of_mem _ ?_))) (by k_mem) ?_, hsucc ▸ hNT.snoc hk0, by rw [List.length_append, List.length_singleton]; omega, ?_⟩
      · refine ⟨⟨?_, ?_, ?_⟩, ⟨?_, ?_, ?_⟩, ⟨?_, ?_, ?_⟩, ⟨?_, ?_, ?_⟩, ⟨?_, ?_, ?_⟩, hof⟩
        all_goals k_ne
      · refine List.forall_mem_cons.mpr ⟨?_, List.forall_mem_cons.mpr ⟨?_, List.forall_mem_cons.mpr ⟨?_, List.forall_mem_cons.mpr ⟨?_, List.forall_mem_cons.mpr ⟨?_, hsep'⟩⟩⟩⟩⟩
        all_goals k_ne
      · exact ⟨_, _, _, _, _, _, _, _, _, _, _, _, _, _, _, by k_mem, by k_mem, by k_mem, by assumption, by assumption, by k_mem, by assumption, by assumption⟩
      · refine List.forall_mem_cons.mpr ⟨?_, List.forall_mem_cons.mpr ⟨?_, List.forall_mem_cons.mpr ⟨?_, List.forall_mem_cons.mpr ⟨?_, List.forall_mem_cons.mpr ⟨?_, hAb⟩⟩⟩⟩⟩
        all_goals first | exact lkv2 | exact allLt_up lkv2 (by omega)
    · subst htl
      refine compEnd0 (by k_asm) (by k_asm) ⟨hc1, hd1, hof⟩ trivial ⟨_, fam, ps, rfl, by assumption, hsep', hKF, hsucc ▸ hNT.skip, by omega, hAb⟩
  · rintro ys nw ⟨o', fam, ps, rfl, W', hsep', hKF, hNT, hpl, hAb⟩
    intro D h tk F1 N1 off
    have off' := off1_mem off
    have hP := pairsAt_of hKF N1 (fun p hp => List.mem_cons_of_mem _ (List.mem_cons_of_mem _ (List.mem_cons_of_mem _ (List.mem_append_left _ hp))))
    have hz : (kvP ps).length ≤ 100 := by unfold kvP; rw [List.length_map]; omega
    obtain ⟨tl, htl⟩ : ∃ tl, tl = fam ++ news := ⟨_, rfl⟩
    rw [← htl] at hsep' N1 off
    dsimp only
    (repeat' (first | ((with_reducible refine tok_gen3 ?_); intro _) | ((with_reducible show wpAny _ _ (call (Value.type "dict") _) _ _ _); (k_here; k_dflt (refine' call_dict_pairs_led ?hhᵣ ?Fᵣ ?Nᵣ ?bᵣ ?hmᵣ ?hPᵣ ?zᵣ ?_; (case hhᵣ => rfl); (case Fᵣ => k_asm); (case Nᵣ => k_asm); (case hPᵣ => assumption); (case hmᵣ => k_mem); (case bᵣ => exact modules_low (Top.nolimit (by k_asm))); (case zᵣ => assumption)); intro D'ᵣ h'ᵣ o'ᵣ tk'ᵣ F'ᵣ N'ᵣ lo'ᵣ hd'ᵣ hl'ᵣ)) | walk1 | (dsimp only; walk1) | (k_unfold; (try dsimp only)) | (leave1; walk_say "STEP leave1"; try dsimp only) | fail "no step"))
    subst htl
    rename (_ == sysModules) = false => lo2
    rename Obj.IsDictOf _ _ (upTo _ _) => hd2
    rename News g L _ _ => N2
    rename ∀ p ∈ (D, LCg.lst ys) :: _, _ => hl2
    have hd0 := hl2 (d, o') (by k_mem)
    refine endsP ((d, o') :: (((_, _) :: fam) ++ news)) (by k_asm) (newsSub N2 (fun p hp => by simp only [List.mem_cons, List.cons_append, List.mem_append] at hp ⊢; grind)) ⟨_, o', knP ps, (_, _) :: fam, rfl, rfl, W', ?_, keysN_of hKF hNT (by omega) (by omega) hd2 lo2, List.forall_mem_cons.mpr ⟨allLt_of fun p hp => hl2 p (by (repeat (refine List.mem_cons_of_mem _ ?_)); exact List.mem_append_right _ hp), hAb⟩⟩
    exact List.forall_mem_cons.mpr ⟨Nat.ne_of_gt hd0, fun p hp => hsep' p (List.mem_append_left _ hp)⟩
end
-- MySg


inductive SigCPost (w : World) (k : Int) (tx : PySem.Str) (news : Led) (r : Value) (news' : Led) : Prop
  | mk (x : Addr) (fam : Led) (_ : r = .ref x) (_ : news' = fam ++ news) (_ : IsSig w fam x k tx) (_ : ∀ q ∈ fam, AllLt q.1 news) : SigCPost w k tx news r news'
theorem sigC_t (w : World) (k : Int) (tx : PySem.Str) (t u : Tok) (news : Led) :
   DoesK w 5 101 [.str (kN k) t, .str tx u] news (SigCPost w k tx news) := by
  unfold DoesK
  k_fill
  w_top off
  intro dp un gd cn nm ig ic mo a ccd cl outer base h₀ L m s mean mg mb Q E B F X N T hdp hun hret
  (repeat' (first | (k_unfold; (try dsimp only)) | ((try (with_reducible (show wpAny _ _ (exec _ _) _ _ _); k_fold)); (first | ((with_reducible refine tok_gen3 ?_); intro _) | walk1 | (dsimp only; walk1))) | (leave1; walk_say "STEP leave1"; try dsimp only) | fail "no step"))
  refine' hret _ _ _ ((_, _) :: (_, _) :: (_, _) :: news) (by k_asm) (by k_asm) ⟨_, [_, _, _], rfl, rfl, ⟨_, _, _, _, _, _, _, _, _, by k_mem, by k_mem, by k_mem, by assumption⟩, ?c⟩
  case c =>
    rename _ ∧ _ ∧ AllLt _ news => lb
    rename ∀ p ∈ news, p.1 < _ => la
    exact List.forall_mem_cons.mpr ⟨lb.2.2, List.forall_mem_cons.mpr ⟨allLt_up (allLt_of la) (by assumption), List.forall_mem_cons.mpr ⟨allLt_of la, fun _ h => nomatch h⟩⟩⟩
section
-- MyH

local macro_rules | `(tactic| k_all) => `(tactic| (refine List.forall_mem_cons.mpr ⟨?a, ?b⟩; (case a => k_ne); (case b => k_all)))


theorem sig_ord {h₀ h : Heap} {L : Addr} {a b f : Addr × Obj} {fam tl : Led} (N : News h₀ L h (fam ++ (a :: b :: f :: tl))) : News h₀ L h (f :: a :: b :: (fam ++ tl)) :=
  newsSub N (fun p hp => by simp only [List.mem_cons, List.mem_append] at hp ⊢; grind)
theorem sig_end {h₀ h : Heap} {L : Addr} {a b f : Addr × Obj} {tl : Led} (N : News h₀ L h (f :: a :: b :: tl)) : News h₀ L h (b :: f :: a :: tl) :=
  newsSub N (fun p hp => by simp only [List.mem_cons] at hp ⊢; grind)
inductive SigsInv (w : World) (FD d rw : Addr) (news : Led) (mm : PySem.Str → Option Value) (i : Nat) (m : PySem.Str → Option Value) (led : Led) : Prop
  | mk (oF o' : Obj) (fam : Led) (qs : Sigs) (f : PySem.Str → Option Value) (_ : m = ShL ["k", "name", "pick", "right"] f mm) (_ : led = (FD, oF) :: (d, o') :: (fam ++ news)) (_ : WD w o' rw) (_ : ∀ p ∈ fam ++ news, p.1 ≠ d) (_ : ∀ p ∈ fam ++ news, p.1 ≠ FD) (_ : oF.IsDictOf (PySem.strKind PM w) (kvP (psOf qs))) (_ : SigFam w fam qs) (_ : NumsTo (psOf qs) (0 + (i : Int))) (_ : (kvP (psOf qs)).length ≤ i) (_ : ∀ q ∈ fam, AllLt q.1 news) : SigsInv w FD d rw news mm i m led
inductive SigsPost (w : World) (d rw : Addr) (news : Led) (r : Value) (news' : Led) : Prop
  | mk (sd : Addr) (o' : Obj) (sg : Int → Option PySem.Str) (fam : Led) (_ : r = .ref sd) (_ : news' = (d, o') :: (fam ++ news)) (_ : WD w o' rw) (_ : (∀ p ∈ fam, p.1 ≠ d)) (_ : SigsIn w fam sd sg) (_ : (∀ k tx, sg k = some tx → Ascii tx)) (_ : ∀ q ∈ fam, AllLt q.1 news) : SigsPost w d rw news r news'
theorem sigs_t (w : World) (d rw : Addr) (o : Obj) (P : PySem.Str) (b : Array UInt8) (t : Tok) (news : Led) (W : WD w o rw) (R : RowIn news rw) (hsep : ∀ p ∈ news, p.1 ≠ d) (hP : DecOk b P) (hPa : Ascii P) (hPl : P.length ≤ 10) :
   DoesP w 7 757 [.ref d, .bytes b t] ((d, o) :: news) (SigsPost w d rw news) := by
  unfold DoesP
  k_fill
  w_top off
  show DoesP w 7 757 _ _ _
  refine' doesP_of (binds := [("w", .ref d), ("payload", .bytes b t)]) ?ho ?hcd (fun _ => BindsTo.of_eq ?hb) ?hl ?h1 ?h2 ?h3 ?h4 ?h5 ?h
  case ho => k_is
  case hcd => k_is
  case hb => exact rfl
  case hl => exact locs rfl
  case h1 => exact rfl
  case h2 => exact rfl
  case h3 => exact rfl
  case h4 => decide
  case h5 => decide
  intro dp un gd outer base g L s mean mg mb B F X N T hlt hdp hun
  with_unfolding_all show wpAny _ _ (execs (_ :: _) _) _ _ _
  refine letAV ?_
  intro Vᵣ Aᵣ
  (repeat' (first | ((with_reducible show wpAny _ _ (exec (Stmt.For _ _ _ _ _) _) _ _ _); (k_here; refine wpAny_For ?_ (by intro _; with_unfolding_all rfl))) | walk1 | (dsimp only; walk1) | (k_unfold; (try dsimp only)) | (leave1; walk_say "STEP leave1"; try dsimp only) | fail "no step"))
  rename_i FD hA oF loF hs1 fs1 hi1 fi1 l1 hB F' N' hC tk t1 u1 v1 hr F2 N2 hkk
  clear fs1 hi1 fi1 hkk F' N'
  obtain ⟨hl1, hl2⟩ := l1
  refine iterG_range (n := 6) rfl (by k_asm) (by k_asm) (by assumption) (by decide) (by decide) (by rfl) (by rfl) (by rfl) (fun g' => g' = g)
    (SigsInv w FD d rw news (fun y => if y = Str.ofString "found" then some (Value.ref FD) else List.lookup y [(Str.ofString "w", Value.ref d), (Str.ofString "payload", Value.bytes b t)].reverse))
    rfl (fun _ e _ h => e ▸ h) ⟨oF, o, [], [], _, (exsh_refl _ _).choose_spec, rfl, W, hsep, allLt_ne hl2, hs1, (fun _ h => nomatch h), (by show NumsTo [] 0; exact .nil), Nat.le_refl _, fun _ h => nomatch h⟩ ?_ ?_
  · rintro i v g' m₁ led I oI h tk hi ⟨t9, rfl⟩ rfl ⟨oF, o', fam, qs, f, rfl, rfl, W', hsep', hsf, hoF, hSF, hNT, hql, hAb⟩ hne F1 N1
    have R' : RowIn (fam ++ news) rw := R.mono fun p hp => List.mem_append_right _ hp
    have hI1 : (@Ne Nat FD I) := hne (FD, _) List.mem_cons_self
    have hI2 : (@Ne Nat d I) := hne (d, _) (by k_mem)
    have hI3 : ∀ p ∈ fam ++ news, p.1 ≠ I := fun p hp => hne p (List.mem_cons_of_mem _ (List.mem_cons_of_mem _ hp))
    have hFd : (@Ne Nat FD d) := Nat.ne_of_gt hl1
    obtain ⟨tl, htl⟩ : ∃ tl, tl = fam ++ news := ⟨_, rfl⟩
    rw [← htl] at hsep' hsf N1 hne R' hI3
    have hk0 : (0 : Int) ≤ 0 + (i : Int) := by omega
    have hk1 : (0 : Int) + (i : Int) < 6 := by omega
    have hsucc : (0 : Int) + ((i + 1 : Nat) : Int) = 0 + (i : Int) + 1 := by omega
    (repeat' (first | ((k_here; (with_reducible show wpAny _ _ (call (Value.ref 101) _) _ _ _); refine marked3 ?_)) | ((k_here; (with_reducible show wpAny _ _ (call (Value.ref 733) _) _ _ _); k_dflt (refine' next_use ?Bᵣ ?Fᵣ ?Xᵣ ?Nᵣ ?Tᵣ ?tᵣ ?dᵣ ?uᵣ ?mᵣ ?Wᵣ ?Rᵣ ?sᵣ ?_; (case Bᵣ => k_asm); (case Fᵣ => k_asm); (case Xᵣ => k_asm); (case Nᵣ => k_asm); (case Tᵣ => k_asm); (case tᵣ => repeat (first | exact Take.head | apply Take.tail)); (case dᵣ => ktr_room); (case uᵣ => ktr_units); (case mᵣ => decide); (case Wᵣ => assumption); (case Rᵣ => (repeat (first | assumption | apply RowIn.cons))); (case sᵣ => k_all); k_whole; intro v9ᵣ u9ᵣ o9ᵣ h9ᵣ tk9ᵣ hv0ᵣ hv1ᵣ F9ᵣ N9ᵣ W9ᵣ; (try dsimp only)))) | ((with_reducible show wpAny _ _ (call (Value.builtin "bytes.decode") _) _ _ _); (k_here; (with_reducible rename DecOk _ _ => hDecᵣ); refine hDecᵣ _ _ _ _ _ _ _ _ ?_; intro _ _)) | walk1 | (dsimp only; walk1) | (k_unfold; (try dsimp only)) | (leave1; walk_say "STEP leave1"; try dsimp only) | fail "no step"))
    iterate 3
      · unfold Marked3
        rename WD w _ rw => W9
        rename News g' L _ _ => N9
        refine' useK (sigC_t w (0 + (i : Int)) _ _ _ _) ?zB ?zF ?zX N9 ?zT ?zd ?zu ?_
        case zB => k_asm
        case zF => k_asm
        case zX => k_asm
        case zT => k_asm
        case zd => ktr_room
        case zu => ((try simp only [units_deeper, units_under_make]); ktr_units)
        rintro _ h8 tk8 _ F8 N8 ⟨x8, fam8, rfl, rfl, hsig8, hab8⟩
        clear N9
        have hq1 : ∀ p ∈ fam8, p.1 ≠ FD := fun p hp => Nat.ne_of_gt (allLt_mem (hab8 p hp) (FD, oF) (by k_mem))
        have hq2 : ∀ p ∈ fam8, p.1 ≠ d := fun p hp => Nat.ne_of_gt (allLt_mem (hab8 p hp) (d, _) (by k_mem))
        have hq3 : ∀ p ∈ fam8, p.1 ≠ I := fun p hp => Nat.ne_of_gt (allLt_mem (hab8 p hp) (I, oI) (by k_mem))
        have hq4 : ∀ q ∈ fam8, AllLt q.1 tl := fun p hp => allLt_of fun q hq => allLt_mem (hab8 p hp) q (by (repeat (first | exact hq | refine List.mem_cons_of_mem _ ?_)))
        obtain ⟨tl2, htl2⟩ : ∃ tl2, tl2 = (fam8 ++ fam) ++ news := ⟨_, rfl⟩
        have hall : ∀ {a : Addr}, (∀ p ∈ fam8, p.1 ≠ a) → (∀ p ∈ tl, p.1 ≠ a) → ∀ p ∈ tl2, p.1 ≠ a := fun h1 h2 p hp => by
          rw [htl2, List.append_assoc, ← htl] at hp
          exact (List.mem_append.mp hp).elim (h1 p) (h2 p)
        have hr1 := hall hq1 hsf
        have hr2 := hall hq2 hsep'
        have hr3 := hall hq3 hI3
        have e8 : fam8 ++ tl = tl2 := by rw [htl2, htl, List.append_assoc]
        replace N8 := sig_ord N8
        rw [e8] at N8
        (repeat' (first | ((with_reducible show wpAny _ _ (setItem (Value.ref _) (Value.str _ _) _) _ _ _); (k_here; k_dflt (refine' kda_set (knd := PySem.strKind _ _) ?Fᵣ ?Nᵣ ?Uᵣ ?dᵣ (strKind_is _ _ _ _) ?zᵣ ?_; (case Fᵣ => k_asm); (case Nᵣ => k_asm); (case Uᵣ => k_updF); (case dᵣ => k_asm); (case zᵣ => (rw [sizeLine_eq]; (first | assumption | exact Nat.le_trans (by assumption) (by decide) | omega)))); intro h'ᵣ o'ᵣ F'ᵣ N'ᵣ hd'ᵣ; (try dsimp only at N'ᵣ))) | ((with_reducible show ite _ _ _); first | (exfalso; (first | assumption | exact Nat.le_trans (by assumption) (by decide) | omega)) | (refine' ite_yes ?cᵣ ?_; (case cᵣ => (first | (simp only [decide_eq_true_eq, beq_iff_eq, bne_iff_ne, ne_eq]; (first | assumption | exact Nat.le_trans (by assumption) (by decide) | omega)) | (first | assumption | exact Nat.le_trans (by assumption) (by decide) | omega)))) | (refine' ite_no ?cᵣ ?_; (case cᵣ => (first | (simp only [decide_eq_true_eq, beq_iff_eq, bne_iff_ne, ne_eq]; (first | assumption | exact Nat.le_trans (by assumption) (by decide) | omega)) | (first | assumption | exact Nat.le_trans (by assumption) (by decide) | omega))))) | walk1 | (dsimp only; walk1) | (k_unfold; (try dsimp only)) | (leave1; walk_say "STEP leave1"; try dsimp only) | fail "no step"))
        rename News g' L _ _ => N9
        refine' turnEndI rfl ?F (sig_end N9) ?ne ?J (.inl rfl)
        case F => k_asm
        case J =>
          subst htl2
          subst htl
          refine' ⟨_, _, fam8 ++ fam, qs ++ [(0 + (i : Int), _, _)], _, (exsh_upd (by decide) (exsh_upd (by decide) (exsh_upd (by decide) (exsh_upd (by decide) (exsh_f _ _ _))))).choose_spec, rfl, W9, hr2, hr1, ?c, ?fam, ?nums, ?len, ?ab⟩
          case nums => exact hsucc ▸ nums_psOf hNT hk0
          case len => exact kvP_len hql
          case ab => exact fun q hq => (List.mem_append.mp hq).elim (fun hq => allLt_app (hq4 q hq)) (hAb q)
          case c => exact kv_snoc (by assumption) hNT hk0 hk1
          case fam =>
            refine' hSF.snoc (fun p hp => List.mem_append_right _ hp) (hsig8.mono fun p hp => List.mem_append_left _ hp) ?asc
            case asc => first | with_reducible exact ascii_sig1 hPa hPl hk0 hk1 | with_reducible exact ascii_sig3 hk0 hk1 | exact ascii_sig1 hPa hPl (Int.fmod_nonneg_of_pos _ (by decide)) (Int.lt_trans (Int.fmod_lt_of_pos _ (by decide)) (by decide))
        case ne => exact List.forall_mem_cons.mpr ⟨hI1, List.forall_mem_cons.mpr ⟨hI2, hr3⟩⟩
    · subst htl
      refine' turn0 rfl ?F ?N ?ne ?J
      case F => k_asm
      case N => k_asm
      case J => exact ⟨_, _, fam, qs, _, (exsh_upd (by decide) (exsh_upd (by decide) (exsh_upd (by decide) (exsh_upd (by decide) (exsh_f _ _ _))))).choose_spec, rfl, by assumption, hsep', hsf, hoF, hSF, hsucc ▸ hNT.skip, by omega, hAb⟩
      case ne => exact List.forall_mem_cons.mpr ⟨hI1, List.forall_mem_cons.mpr ⟨hI2, hI3⟩⟩
  · rintro g' m led h tk rfl ⟨oF, o', fam, qs, f, rfl, rfl, W', hsep', hsf, hoF, hSF, hNT, hql, hAb⟩ F1 N1
    dsimp only
    (repeat' (first | fail | walk1 | (dsimp only; walk1) | (k_unfold; (try dsimp only)) | (leave1; walk_say "STEP leave1"; try dsimp only) | fail "no step"))
    refine endsP ((d, o') :: (((FD, oF) :: fam) ++ news)) (by k_asm) (newsSub N1 (fun p hp => by simp only [List.mem_cons, List.cons_append, List.mem_append] at hp ⊢; grind)) ⟨FD, o', sgP qs, (FD, oF) :: fam, rfl, rfl, W', ?_, sigsIn_of hSF hNT (by omega) hoF loF, sgP_ascii hSF, List.forall_mem_cons.mpr ⟨hl2, hAb⟩⟩
    exact List.forall_mem_cons.mpr ⟨Nat.ne_of_gt hl1, fun p hp => hsep' p (List.mem_append_left _ hp)⟩
end
-- MyI



inductive RoleCPost (w : World) (l : Addr) (th : Int) (news : Led) (r : Value) (news' : Led) : Prop
  | mk (x dx ud : Addr) (ou : Obj) (n : Nat) (t1 t2 t3 t4 : Tok) (_ : r = .ref x) (_ : news' = (ud, ou) :: (x, instObj 262 dx) :: (dx, dictOf [⟨hsh w "keyids", .str "keyids" t1, .ref l⟩, ⟨hsh w "threshold", .str "threshold" t2, .int th t3⟩, ⟨hsh w "unrecognized_fields", .str "unrecognized_fields" t4, .ref ud⟩] n) :: news) (_ : ou.IsDictOf (PySem.strKind PM w) []) (_ : (ud == sysModules) = false) (_ : AllLt ud news ∧ AllLt x news ∧ AllLt dx news ∧ (@LT.lt Nat _ dx x) ∧ (@LT.lt Nat _ x ud) ∧ @LT.lt Nat _ dx ud) : RoleCPost w l th news r news'
theorem roleC_t (w : World) (l : Addr) (vs : List Value) (xs : List PySem.Str) (nn : Nat) (th : Int) (t : Tok) (news : Led) (hl : (l, listOf vs.toArray nn) ∈ news) (hv : StrsAre vs xs) (hd : dd xs = xs) (hz : xs.length ≤ 100) (hth : 1 ≤ th) :
   DoesK w 5 262 [.ref l, .int th t] news (RoleCPost w l th news) := by
  unfold DoesK
  k_fill
  w_top off
  intro dp un gd cn nm ig ic mo a ccd cl outer base h₀ L m s mean mg mb Q E B F X N T hdp hun hret
  have hz2 : (dd xs).length ≤ 100 := by rw [hd]; exact hz
  have hvl := hv.length
  have hq : (dd xs).length = vs.toArray.size := by rw [hd, List.size_toArray, hvl]
  (repeat' (first | ((with_reducible refine tok_gen3 ?_); intro _) | ((with_reducible show wpAny _ _ (call (Value.builtin "len") _) _ _ _); (k_here; k_dflt (first | (refine' len_led ?Nᵣ ?mᵣ ?zᵣ ?_; (case Nᵣ => k_asm); (case mᵣ => k_mem); (case zᵣ => first | assumption | (simp only [List.size_toArray]; (first | assumption | exact Nat.le_trans (by assumption) (by decide) | omega)))) | (refine' len_set_led ?Nᵣ ?mᵣ ?oᵣ ?zᵣ ?_; (case Nᵣ => k_asm); (case mᵣ => k_mem); (case oᵣ => assumption); (case zᵣ => assumption))))) | ((with_reducible show wpAny _ _ (call (Value.type "set") _) _ _ _); (k_here; k_dflt (refine' call_set_led ?hhᵣ ?Fᵣ ?Nᵣ ?hmᵣ ?hvᵣ ?zᵣ ?_; (case hhᵣ => rfl); (case Fᵣ => k_asm); (case Nᵣ => k_asm); (case hmᵣ => k_mem); (case hvᵣ => assumption); (case zᵣ => assumption)); intro D'ᵣ h'ᵣ o'ᵣ tk'ᵣ F'ᵣ N'ᵣ hd'ᵣ l1'ᵣ; (try k_lt l1'ᵣ))) | ((with_reducible show ite _ _ _); first | (exfalso; (first | assumption | exact Nat.le_trans (by assumption) (by decide) | omega)) | (refine' ite_yes ?cᵣ ?_; (case cᵣ => (first | (simp only [decide_eq_true_eq, beq_iff_eq, bne_iff_ne, ne_eq]; (first | assumption | exact Nat.le_trans (by assumption) (by decide) | omega)) | (first | assumption | exact Nat.le_trans (by assumption) (by decide) | omega)))) | (refine' ite_no ?cᵣ ?_; (case cᵣ => (first | (simp only [decide_eq_true_eq, beq_iff_eq, bne_iff_ne, ne_eq]; (first | assumption | exact Nat.le_trans (by assumption) (by decide) | omega)) | (first | assumption | exact Nat.le_trans (by assumption) (by decide) | omega))))) | walk1 | (dsimp only; walk1) | (k_unfold; (try dsimp only)) | (leave1; walk_say "STEP leave1"; try dsimp only) | fail "no step"))
  refine' hret _ _ _ ((_, _) :: (_, _) :: (_, _) :: news) (by k_asm) (newsSub (by k_asm) (drop2 (e2 := (_, _)))) ⟨_, _, _, _, _, _, _, _, _, rfl, rfl, ?a, ?b, ?c⟩
  case a => assumption
  case b => assumption
  case c =>
    rename _ ∧ _ ∧ _ ∧ AllLt _ news => lb
    rename ∀ p ∈ news, p.1 < _ => la
    exact ⟨lb.2.2.2, allLt_up (allLt_of la) (by assumption), allLt_of la, by assumption, lb.2.1, lb.2.2.1⟩
-- MyM


theorem eq_t (w : World) (x : Addr) (k : Int) (news : Led) (hx : IsKey w news x k) (h0 : 0 ≤ k) (h1 : k < 6) :
   DoesP w 8 127 [.ref x, .ref x] news (fun r news' => r = .bool true ∧ news' = news) := by
  unfold DoesP
  k_fill
  w_top off
  show DoesP w 8 127 _ _ _
  refine' doesP_of (binds := [("self", .ref x), ("other", .ref x)]) ?ho ?hcd (fun _ => BindsTo.of_eq ?hb) ?hl ?h1 ?h2 ?h3 ?h4 ?h5 ?h
  case ho => k_is
  case hcd => k_is
  case hb => exact rfl
  case hl => exact locs rfl
  case h1 => exact rfl
  case h2 => exact rfl
  case h3 => exact rfl
  case h4 => decide
  case h5 => decide
  intro dp un gd outer base g L s mean mg mb B F X N T hlt hdp hun
  obtain ⟨dk, kv, ukd, okv, ouk, nk, q1, q2, q3, q4, q5, q6, q7, q8, q9, hq1, hq2, hq3, hq4, hq5, hq6, hq7, hq8⟩ := hx
  with_unfolding_all show wpAny _ _ (execs (_ :: _) _) _ _ _
  refine letAV ?_
  intro Vᵣ Aᵣ
  (repeat' (first | ((with_reducible refine tok_gen3 ?_); intro _) | ((k_here; (with_reducible show wpAny _ _ (compareOp CmpOp.Eq (Value.ref _) (Value.ref _)) _ _ _); k_dflt (first | (refine' eq_self_one ?Nᵣ ?mᵣ ?dᵣ ?loᵣ ?uᵣ ?_; (case Nᵣ => k_asm); (case mᵣ => k_mem); (case dᵣ => assumption); (case loᵣ => assumption); (case uᵣ => ((try simp only [units_deeper, units_under_make]); ktr_units))) | (refine' eq_self_nil ?Nᵣ ?mᵣ ?dᵣ ?loᵣ ?uᵣ ?_; (case Nᵣ => k_asm); (case mᵣ => k_mem); (case dᵣ => assumption); (case loᵣ => assumption); (case uᵣ => ((try simp only [units_deeper, units_under_make]); ktr_units)))))) | ((with_reducible show ite _ _ _); first | (refine' ite_yes ?cᵣ ?_; (case cᵣ => (simp; done))) | (refine' ite_no ?cᵣ ?_; (case cᵣ => (simp; done)))) | walk1 | (dsimp only; walk1) | (k_unfold; (try dsimp only)) | (leave1; walk_say "STEP leave1"; try dsimp only) | fail "no step"))
  exact endsP news (by k_asm) (by k_asm) ⟨rfl, rfl⟩
-- MyL



theorem is_t (w : World) (vr l kd sd : Addr) (th : Int) (vs : List Value) (nn : Nat) (ks : List Int) (kn : Int → Option Addr) (sg : Int → Option PySem.Str) (P : PySem.Str) (b : Array UInt8) (t t0 : Tok) (news : Led)
   (hv : IsVR w news vr th kn (ks.filter (isS kn sg P)) (ks.filter (isU kn sg P))) (hl : (l, listOf vs.toArray nn) ∈ news) (hvs : StrsAre vs (ks.map kN)) (h5 : Good5 ks) (hk : KeysIn w news kd kn) (hs : SigsIn w news sd sg) (hP : DecOk b P) (hPl : P.length ≤ 10) :
   DoesP w 12 769 [.ref vr, .ref l, .ref kd, .ref sd, .bytes b t, .int th t0] news (fun r news' => r = .bool true ∧ news' = news) := by
  unfold DoesP
  k_fill
  w_top off
  show DoesP w 12 769 _ _ _
  refine' doesP_ofC (binds := [("result", .ref vr), ("role", .ref l), ("keys", .ref kd), ("signatures", .ref sd), ("payload", .bytes b t), ("threshold", .int th t0)]) ?ho ?hcd (fun _ => BindsTo.of_eq ?hb) ?hl ?hn ?h1 ?h2 ?h3 ?h5 ?h
  case ho => k_is
  case hcd => k_is
  case hb => exact rfl
  case hl => exact kinds_of rfl
  case hn => decide
  case h1 => exact rfl
  case h2 => exact rfl
  case h3 => exact rfl
  case h5 => decide
  intro dp un gd outer base g L s mean mg mb cells B F X N T Y hlt hdp hun
  obtain ⟨oc1, oc2, hE, dc1, dc2⟩ := CellsAre.two Y
  subst hE
  clear Y
  simp only [List.cons_append, List.nil_append] at N
  obtain ⟨dv, S, U, oS, oU, nv, t1, t2, t3, t4, hv1, hv2, hv3, hv4, hv5, hv6, hv7, hv8⟩ := hv
  have hfl := filter_len5 (f := isS kn sg P) h5
  have hfu := filter_len5 (f := isU kn sg P) h5
  with_unfolding_all show wpAny _ _ (execs (_ :: _) _) _ _ _
  (repeat' (first | (k_unfold; (try dsimp only)) | ((try (with_reducible (show wpAny _ _ (exec _ _) _ _ _); k_fold)); (first | ((k_here; (with_reducible show wpAny _ _ (compareOp CmpOp.NotEq (Value.ref _) (Value.ref _)) _ _ _); k_dflt (refine' ne_same_led ?Nᵣ ?aᵣ ?bᵣ ?hxᵣ ?hyᵣ ?oᵣ ?uᵣ ?_; (case Nᵣ => k_asm); (case aᵣ => k_mem); (case bᵣ => k_mem); (case hxᵣ => assumption); (case hyᵣ => assumption); (case oᵣ => exact oks_names (filter_bound (by assumption))); (case uᵣ => ((try simp only [units_deeper, units_under_make]); ktr_units))))) | ((with_reducible show wpAny _ _ (eval (Expr.ListComp _ _ _ _) _) _ _ _); (k_here; k_dflt (refine LCt.ListComp_T (F₀ := by k_asm) (by with_unfolding_all rfl) (by decide) (by rfl) (by decide) (by rfl) ?_))) | ((with_reducible show wpAny _ _ (call (Value.builtin "len") _) _ _ _); (k_here; k_dflt (first | (refine' len_kv_led ?Nᵣ ?mᵣ ?dᵣ ?loᵣ ?zᵣ ?_; (case Nᵣ => k_asm); (case mᵣ => k_mem); (case dᵣ => assumption); (case loᵣ => assumption); (case zᵣ => (first | assumption | exact Nat.le_trans (by assumption) (by decide) | omega))) | (refine' len_strs_led ?Nᵣ ?mᵣ ?dᵣ ?zᵣ ?_; (case Nᵣ => k_asm); (case mᵣ => k_mem); (case dᵣ => assumption); (case zᵣ => (first | assumption | exact Nat.le_trans (by assumption) (by decide) | omega)))))) | ((with_reducible show wpAny _ _ (call (Value.type "list") _) _ _ _); (k_here; k_dflt (refine' list_dict_led ?hhᵣ ?Fᵣ ?Nᵣ ?mᵣ ?loᵣ ?dᵣ ?zᵣ ?_; (case hhᵣ => rfl); (case Fᵣ => k_asm); (case Nᵣ => k_asm); (case mᵣ => k_mem); (case loᵣ => assumption); (case dᵣ => assumption); (case zᵣ => (unfold kvOf; rw [List.length_map]; (first | assumption | exact Nat.le_trans (by assumption) (by decide) | omega)))); intro D'ᵣ h'ᵣ tk'ᵣ vs'ᵣ n'ᵣ F'ᵣ N'ᵣ l1'ᵣ a1'ᵣ; (try k_lt l1'ᵣ); (try rw [kvOf_names] at a1'ᵣ))) | ((k_here; (with_reducible show wpAny _ _ (call (Value.ref 764) _) _ _ _); k_dflt (refine' useP (due_t _ _ _ _ _ _ _ _ _ _ _ _ _ ?h1ᵣ ?h2ᵣ ?h3ᵣ ?h4ᵣ ?h5ᵣ ?h6ᵣ ?h7ᵣ) ?Bᵣ ?Fᵣ ?Xᵣ ?Nᵣ ?Tᵣ ?dᵣ ?uᵣ ?_; (case Bᵣ => k_asm); (case Fᵣ => k_asm); (case Xᵣ => k_asm); (case Nᵣ => k_asm); (case Tᵣ => k_asm); (case h1ᵣ => (repeat (first | assumption | refine List.mem_cons_of_mem _ ?_))); (case h2ᵣ => assumption); (case h3ᵣ => assumption); (case h4ᵣ => refine KeysIn.mono (by assumption) (fun p hp => by (repeat (first | exact hp | refine List.mem_cons_of_mem _ ?_)))); (case h5ᵣ => refine SigsIn.mono (by assumption) (fun p hp => by (repeat (first | exact hp | refine List.mem_cons_of_mem _ ?_)))); (case h6ᵣ => assumption); (case h7ᵣ => assumption); (case dᵣ => ktr_room); (case uᵣ => ((try simp only [units_deeper, units_under_make]); ktr_units)); k_whole; rintro _ h'ᵣ tk'ᵣ _ F'ᵣ N'ᵣ ⟨T9ᵣ, S9ᵣ, U9ᵣ, ys9ᵣ, zs9ᵣ, n19ᵣ, n29ᵣ, n39ᵣ, e19ᵣ, e29ᵣ, hs9ᵣ, hu9ᵣ⟩; subst e19ᵣ; subst e29ᵣ; (try dsimp only)))) | ((with_reducible show ite _ _ _); first | (exfalso; (first | assumption | exact Nat.le_trans (by assumption) (by decide) | omega)) | (refine' ite_yes ?cᵣ ?_; (case cᵣ => (first | (simp only [decide_eq_true_eq, beq_iff_eq, bne_iff_ne, ne_eq]; (first | assumption | exact Nat.le_trans (by assumption) (by decide) | omega)) | (first | assumption | exact Nat.le_trans (by assumption) (by decide) | omega)))) | (refine' ite_no ?cᵣ ?_; (case cᵣ => (first | (simp only [decide_eq_true_eq, beq_iff_eq, bne_iff_ne, ne_eq]; (first | assumption | exact Nat.le_trans (by assumption) (by decide) | omega)) | (first | assumption | exact Nat.le_trans (by assumption) (by decide) | omega) | (simp; done))))) | walk1 | (dsimp only; walk1))) | (leave1; walk_say "STEP leave1"; try dsimp only) | fail "no step"))
  k_dflt (refine LCt.CompSrcT.ledger (by rfl) (by k_asm) (by k_asm) (by k_mem) ?_ ?_)
  · rw [List.size_toArray]
    refine Nat.le_trans (Nat.le_of_eq (StrsAre.length (ts := List.map kN (List.filter (isS kn sg P) ks)) (by assumption))) ?_
    rw [List.length_map, sizeLine_eq]; omega
  · intro g'
    obtain ⟨ok, kvs, hok, hkd, hlo, hkall⟩ := hk
    refine' comp_invT (fun i ys nw => ys = [] ∧ nw = _) ⟨rfl, rfl⟩ ?_ ?_
    · rintro i v ys nw I oI C oC D m₂ h tk E' hi hv' ⟨rfl, rfl⟩ hC hx F1 N1 off ne
      rw [List.getElem?_toArray] at hv'
      obtain ⟨k, tn, rfl, hki⟩ := names_at (ks := List.filter (isS kn sg P) ks) (by assumption) hv'
      have hkf := List.mem_filter.mp (List.mem_of_getElem? hki)
      obtain ⟨x, hkx⟩ := isS_key hkf.2
      have hkb := h5.bound k hkf.1
      obtain ⟨hk1, hk2⟩ := hkall k hkb.1 hkb.2
      have hk3 := hk2 x hkx
      rw [hkx] at hk1
      replace hk1 : valueAt kvs (kN k) = some (.ref x) := hk1
      have hk4 := kvOf_at (filter_bound (f := isS kn sg P) h5) (List.mem_of_getElem? hki) hkx
      have hk3' := hk3
      obtain ⟨dk, kv, ukd, okv, ouk, nk, q1, q2, q3, q4, q5, q6, q7, q8, q9, hq1, hq2, hq3, hq4, hq5, hq6, hq7, hq8⟩ := hk3
      (repeat' (first | (k_unfold; (try dsimp only)) | ((try (with_reducible (show wpAny _ _ (exec _ _) _ _ _); k_fold)); (first | ((with_reducible show wpAny _ _ (compareOp CmpOp.NotEq (Value.ref _) (Value.ref _)) _ _ _); (k_here; k_dflt (refine' key_ne_led (eq_t _ _ _ _ ?kᵣ ?h0ᵣ ?h1ᵣ) ?mᵣ ?Bᵣ ?Fᵣ ?Xᵣ ?Nᵣ ?Tᵣ ?dᵣ ?uᵣ ?_; (case Bᵣ => k_asm); (case Fᵣ => k_asm); (case Xᵣ => k_asm); (case Nᵣ => k_asm); (case Tᵣ => k_asm); (case kᵣ => refine IsKey.mono (by assumption) (fun p hp => by (repeat (first | exact hp | refine List.mem_cons_of_mem _ ?_)))); (case h0ᵣ => (first | assumption | exact Nat.le_trans (by assumption) (by decide) | omega)); (case h1ᵣ => (first | assumption | exact Nat.le_trans (by assumption) (by decide) | omega)); (case mᵣ => (repeat (first | assumption | refine List.mem_cons_of_mem _ ?_))); (case dᵣ => ktr_room); (case uᵣ => ((try simp only [units_deeper, units_under_make]); ktr_units)); k_whole; intro h'ᵣ tk'ᵣ F'ᵣ N'ᵣ))) | ((with_reducible show ite _ _ _); first | (exfalso; (first | assumption | exact Nat.le_trans (by assumption) (by decide) | omega)) | (refine' ite_yes ?cᵣ ?_; (case cᵣ => (first | (simp only [decide_eq_true_eq, beq_iff_eq, bne_iff_ne, ne_eq]; (first | assumption | exact Nat.le_trans (by assumption) (by decide) | omega)) | (first | assumption | exact Nat.le_trans (by assumption) (by decide) | omega)))) | (refine' ite_no ?cᵣ ?_; (case cᵣ => (first | (simp only [decide_eq_true_eq, beq_iff_eq, bne_iff_ne, ne_eq]; (first | assumption | exact Nat.le_trans (by assumption) (by decide) | omega)) | (first | assumption | exact Nat.le_trans (by assumption) (by decide) | omega) | (simp; done))))) | ((k_here; k_dflt (first | ((with_reducible show wpAny _ _ (subscriptTail _ _ (Value.ref _) (Value.str _ _)) _ _ _); refine kda_item (knd := PySem.strKind _ _) (by k_asm) (by k_mem) (by k_asm) (strKind_is _ _ _ _) (by first | with_reducible assumption | assumption | rfl) ?_) | ((with_reducible show wpAny _ _ (subscriptTail _ _ (Value.ref _) (Value.int _ _)) _ _ _); refine' item_int ?Nᵣ ?mᵣ ?vᵣ ?aᵣ ?bᵣ ?zᵣ ?_; (case Nᵣ => k_asm); (case mᵣ => k_mem); (case vᵣ => assumption); (case aᵣ => first | assumption | exact Nat.le_trans (by assumption) (by decide) | omega); (case bᵣ => (simp only [decide_eq_true_eq, List.size_toArray] at *; first | assumption | exact Nat.le_trans (by assumption) (by decide) | omega)); (case zᵣ => (first | assumption | exact Nat.le_trans (by assumption) (by decide) | omega)); k_whole; intro _ _)))) | walk1 | (dsimp only; walk1))) | (leave1; walk_say "STEP leave1"; try dsimp only) | fail "no step"))
      exact ⟨_, _, _, rfl, by k_asm, by k_asm, off, Or.inr ⟨_, by k_mem, rfl, _, rfl⟩, rfl, rfl⟩
    · rintro ys nw ⟨rfl, rfl⟩
      intro D h tk F1 N1 off
      dsimp only
      (repeat' (first | (k_unfold; (try dsimp only)) | ((try (with_reducible (show wpAny _ _ (exec _ _) _ _ _); k_fold)); (first | fail | walk1 | (dsimp only; walk1))) | (leave1; walk_say "STEP leave1"; try dsimp only) | fail "no step"))
      refine' endsP news ?zF (newsSub ?zN ?zS) ⟨rfl, rfl⟩
      case zF => k_asm
      case zN => k_asm
      case zS =>
        intro p hp
        repeat (first | exact hp | refine List.mem_cons_of_mem _ ?_)
section
-- MyJ





local macro_rules | `(tactic| k_all) => `(tactic| (refine List.forall_mem_cons.mpr ⟨?a, ?b⟩; (case a => k_ne); (case b => k_all)))
inductive RootCPost (w : World) (kd rd rr : Addr) (ord : Obj) (v : Int) (news : Led) (r : Value) (news' : Led) : Prop
  | mk (x : Addr) (fam : Led) (op' : Obj) (_ : r = .ref x) (_ : news' = (177, op') :: (fam ++ news)) (_ : PlaceOk op') (_ : IsRoot w (fam ++ [(rd, ord)]) x kd rr v) (_ : ∀ q ∈ fam, @LT.lt Nat _ 177 q.1 ∧ AllLt q.1 news) : RootCPost w kd rd rr ord v news r news'
theorem rootC_t (w : World) (kd rd r1 r2 r3 rr : Addr) (okd ord op : Obj) (v : Int) (t t0 t9 : Tok) (news : Led) (hk : (kd, okd) ∈ news) (hr : (rd, ord) ∈ news) (hd : ord.IsDictOf (PySem.strKind PM w) [("timestamp", .ref r1), ("snapshot", .ref r2), ("targets", .ref r3), ("root", .ref rr)]) (hrs : (rd == sysModules) = false) (hv : 1 ≤ v)
   (hop : PlaceOk op) (hnP : ∀ p ∈ news, p.1 ≠ 177) :
   DoesKS w 16 451 [.int v t, .str "1.0" t0, .int 9 t9, .ref kd, .ref rd] ((177, op) :: news) (RootCPost w kd rd rr ord v news) := by
  unfold DoesKS
  k_fill
  w_top off
  intro dp un gd cn nm ig ic mo a ccd cl outer base h₀ L m s mean mg mb Q E B F X N T hG hdp hun hret
  (repeat' (first | (k_unfold; (try dsimp only)) | ((try (with_reducible (show wpAny _ _ (exec _ _) _ _ _); k_fold)); (first | ((with_reducible refine tok_gen3 ?_); intro _) | ((with_reducible show wpAny _ _ (call (Value.ref _) _ _) _ _ _); (k_here; ks_any; k_dflt (refine' call_cls ?k1ᵣ ?k2ᵣ ?k3ᵣ ?k4ᵣ ?k5ᵣ ?k6ᵣ ?_; (case k1ᵣ => k_asm); (case k2ᵣ => k_asm); (case k3ᵣ => k_asm); (case k4ᵣ => k_is); (case k5ᵣ => k_is); (case k6ᵣ => k_is); intro x'ᵣ d'ᵣ h'ᵣ F'ᵣ N'ᵣ l1ᵣ l2ᵣ; (try k_lt l1ᵣ); (try k_lt2 l2ᵣ); (refine' ks_code_super ?j1ᵣ ?j2ᵣ ?j3ᵣ ?j4ᵣ ?j5ᵣ ?jAᵣ ?jFᵣ ?jKᵣ ?j6ᵣ ?j7ᵣ ?j8ᵣ ?j9ᵣ ?jBᵣ ?_ ?c1ᵣ ?c2ᵣ ?c3ᵣ ?c4ᵣ; (case jAᵣ => exact rfl); (case jFᵣ => exact rfl); (case jKᵣ => exact rfl); (case j1ᵣ => k_asm); (case j2ᵣ => k_asm); (case j3ᵣ => k_asm); (case j4ᵣ => k_asm); (case j5ᵣ => k_asm); (case j6ᵣ => k_is); (case j7ᵣ => k_is); (case j8ᵣ => k_room); (case j9ᵣ => exact binds_K (by k_in) rfl (by k_is) rfl rfl rfl); (case jBᵣ => exact locs rfl); (case c1ᵣ => decide); (case c2ᵣ => exact rfl); (case c3ᵣ => exact rfl); (case c4ᵣ => exact rfl); intro g'ᵣ L'ᵣ h'ᵣ FG'ᵣ F'ᵣ N'ᵣ B'ᵣ X'ᵣ T'ᵣ l1ᵣ; (try k_lt l1ᵣ); (try dsimp only); (try k_lift B'ᵣ))))) | walk1 | (dsimp only; walk1))) | (leave1; walk_say "STEP leave1"; try dsimp only) | fail "no step"))
  refine' genexp_led (c := 181) (P := 177) ?T rfl rfl ?hc ?hcf rfl rfl ?hclos ?hcell rfl rfl rfl ?room ?main ?hs
  case T => k_asm
  case hc => exact (by k_asm : (K w.params).In _) _ _ (by k_is)
  case hcf => exact ⟨_, _, _, _, _, _, _, _, rfl, rfl, rfl, rfl, rfl, rfl, rfl, rfl⟩
  case hclos => rfl
  case hcell => decide
  case room => k_room
  case hs => intro _; with_unfolding_all rfl
  case main =>
    walk1
    refine' ⟨_, _, op, rfl, ?l, ?F, ?N, hop, ?ne, ?lp, hG, fun _ => true, fun _ v => v = .bool true, ?q, ?k⟩
    case F => k_asm
    case l => exact led_list (by k_asm) (by k_mem)
    case N =>
      refine' take_sub ?N2 ?t2
      case N2 => k_asm
      case t2 => repeat (first | exact Take.head | apply Take.tail)
    case lp => k_ne
    case ne => k_all
    case q =>
      intro code h₃ href _ _ _
      refine quiet_digit rfl rfl rfl fun i v hv => ?_
      rcases two_at hv with rfl | rfl
      · exact ⟨_, _, rfl, by decide +kernel⟩
      · exact ⟨_, _, rfl, by decide +kernel⟩
    case k =>
      rintro op' a Kb s₅ F5 N5 hop' hG5 hos5 hL5 hb5 X5
      clear hG
      (repeat' (first | (k_unfold; (try dsimp only)) | ((try (with_reducible (show wpAny _ _ (exec _ _) _ _ _); k_fold)); (first | ((with_reducible refine tok_gen3 ?_); intro _) | ((k_here; (with_reducible show wpAny _ _ (compareOp CmpOp.NotEq (Value.ref _) (Value.ref _)) _ _ _); k_dflt (refine' ne_sorted_led ?Nᵣ ?aᵣ ?bᵣ ?hxᵣ ?hyᵣ ?pxᵣ ?pyᵣ ?sxᵣ ?syᵣ ?pᵣ ?oᵣ ?uᵣ ?_; (case Nᵣ => k_asm); (case aᵣ => k_mem); (case bᵣ => k_mem); (case hxᵣ => assumption); (case hyᵣ => assumption); (case pxᵣ => assumption); (case pyᵣ => assumption); (case sxᵣ => assumption); (case syᵣ => assumption); (case pᵣ => exact topnames_perm); (case oᵣ => exact topnames_oks); (case uᵣ => ((try simp only [units_deeper, units_under_make]); ktr_units))))) | ((with_reducible show wpAny _ _ (call (Value.builtin "sorted") _) _ _ _); (k_here; k_dflt (first | (refine' sorted_dict_led ?hhᵣ ?Fᵣ ?Nᵣ ?mᵣ ?loᵣ ?dᵣ ?zᵣ ?xᵣ ?_; (case hhᵣ => rfl); (case Fᵣ => k_asm); (case Nᵣ => k_asm); (case mᵣ => k_mem); (case loᵣ => assumption); (case dᵣ => assumption); (case zᵣ => exact Nat.le_of_ble_eq_true rfl); (case xᵣ => (simp only [List.map_cons, List.map_nil]; exact rfl))) | (refine' sorted_tup_led ?Fᵣ ?Nᵣ ?lᵣ ?vᵣ ?zᵣ ?_; (case Fᵣ => k_asm); (case Nᵣ => k_asm); (case lᵣ => (refine' keep_K ?F2ᵣ ?X2ᵣ ?k2ᵣ; (case F2ᵣ => k_asm); (case X2ᵣ => k_asm); (case k2ᵣ => k_is))); (case vᵣ => (repeat (first | exact StrsAre.nil | apply StrsAre.cons))); (case zᵣ => exact Nat.le_of_ble_eq_true rfl))); intro D'ᵣ h'ᵣ tk'ᵣ vs'ᵣ xs'ᵣ n'ᵣ F'ᵣ N'ᵣ l1'ᵣ a1'ᵣ a2'ᵣ a3'ᵣ; (try k_lt l1'ᵣ))) | ((with_reducible show wpAny _ _ (call (Value.builtin "all") _) _ _ _); (k_here; k_dflt (refine' all_led ?Fᵣ ?Nᵣ ?Gᵣ ?Xᵣ ?Lᵣ ?bᵣ ?hᵣ ?_; (case Fᵣ => k_asm); (case Nᵣ => k_asm); (case Gᵣ => assumption); (case Xᵣ => assumption); (case Lᵣ => assumption); (case bᵣ => assumption); (case hᵣ => (rintro _ _ ⟨_, _, eᵣ⟩; exact eᵣ))); intro s'ᵣ F'ᵣ N'ᵣ G'ᵣ os'ᵣ)) | ((with_reducible show ite _ _ _); first | (exfalso; (first | assumption | exact Nat.le_trans (by assumption) (by decide) | omega)) | (refine' ite_yes ?cᵣ ?_; (case cᵣ => (first | (simp only [decide_eq_true_eq, beq_iff_eq, bne_iff_ne, ne_eq]; (first | assumption | exact Nat.le_trans (by assumption) (by decide) | omega)) | (first | assumption | exact Nat.le_trans (by assumption) (by decide) | omega)))) | (refine' ite_no ?cᵣ ?_; (case cᵣ => (first | (simp only [decide_eq_true_eq, beq_iff_eq, bne_iff_ne, ne_eq]; (first | assumption | exact Nat.le_trans (by assumption) (by decide) | omega)) | (first | assumption | exact Nat.le_trans (by assumption) (by decide) | omega))))) | walk1 | (dsimp only; walk1))) | (leave1; walk_say "STEP leave1"; try dsimp only) | fail "no step"))
      rename _ ∧ AllLt _ news => la
      refine' hret _ _ _ ?zF (move3_9 ?zN) ?zO ?zG ⟨_, [_, _, _, _, _, _, _, _, _], op', rfl, rfl, hop', ?zR, ?zL⟩
      case zF => k_asm
      case zN => k_asm
      case zO => exact Eq.trans (by assumption) hos5
      case zG => assumption
      case zR => exact ⟨_, _, _, _, _, _, _, _, _, _, _, _, _, _, _, _, _, _, _, 0, by k_mem, by k_mem, by k_mem, hd, hrs⟩
      case zL =>
        repeat (refine List.forall_mem_cons.mpr ⟨⟨by omega, by first | exact la.2 | exact allLt_up la.2 (by omega)⟩, ?_⟩)
        exact fun _ h => nomatch h
end
section
-- MyV


theorem sub_mem {a b : Led} {p : Addr × Obj} (h : ∀ q ∈ a, q ∈ b) (hp : p ∈ a) : p ∈ b := h p hp
local macro_rules | `(tactic| k_mem) => `(tactic| first | exact List.mem_cons_self | (refine List.mem_cons_of_mem _ ?_; k_mem) | assumption | (refine sub_mem (by assumption) ?_; assumption) | ktr_member)

theorem grvr_t (w : World) (x1 kd1 rr1 x2 kd2 rr2 sd : Addr) (v1 v2 th1 th2 : Int) (kn1 kn2 : Int → Option Addr) (ss1 us1 ss2 us2 : List Int) (t : Tok) (pb : Array UInt8) (news : Led)
   (hx1 : IsRoot w news x1 kd1 rr1 v1) (hx2 : IsRoot w news x2 kd2 rr2 v2) (hv : v2 = v1 + 1) (hne : (@Ne Nat x1 x2))
   (H1 : GvrAll w news x1 sd "root" pb th1 kn1 ss1 us1) (H2 : GvrAll w news x2 sd "root" pb th2 kn2 ss2 us2) :
   Does w 16 448 [.ref x2, .ref x1, .bytes pb t, .ref sd] news (RvrPost w news th1 th2 kn1 kn2 ss1 us1 ss2 us2) := by
  unfold Does
  k_fill
  w_top off
  show Does w 16 448 _ _ _
  refine' does_of (binds := [("self", .ref x2), ("previous", .ref x1), ("payload", .bytes pb t), ("signatures", .ref sd)]) ?ho ?hcd (fun _ => BindsTo.of_eq ?hb) ?hl ?h1 ?h2 ?h3 ?h4 ?h5 ?h
  case ho => k_is
  case hcd => k_is
  case hb => exact rfl
  case hl => exact locs rfl
  case h1 => exact rfl
  case h2 => exact rfl
  case h3 => exact rfl
  case h4 => decide
  case h5 => decide
  intro dp un gd outer base g L s mean mg mb B F X N T XB TB D hlt hdp hun
  obtain ⟨dx, rd, ud, r1, r2, r3, ord, n, sv, t1, t2, t3, t4, t5, t6, t7, t8, t9, t10, t11, hx1, hx2', hx3, hx4, hx5⟩ := hx1
  obtain ⟨dy, rdy, udy, r1y, r2y, r3y, ordy, ny, svy, t1y, t2y, t3y, t4y, t5y, t6y, t7y, t8y, t9y, t10y, t11y, hy1, hy2, hy3, hy4, hy5⟩ := hx2
  have T0 : KtsTurn (frs outer) g g := KtsTurn.refl
  with_unfolding_all show wpAny _ _ (execs (_ :: _) _) _ _ _
  refine letAV ?_
  intro Vᵣ Aᵣ
  (repeat' (first | (k_unfold; (try dsimp only)) | ((try (with_reducible (show wpAny _ _ (exec _ _) _ _ _); k_fold)); (first | ((with_reducible refine tok_gen3 ?_); intro _) | ((k_here; (with_reducible show wpAny _ _ (call (Value.ref 362) _) _ _ _); k_dflt (refine' useT ((by assumption : GvrAll _ _ _ _ _ _ _ _ _ _) _ _ _ ?hsubᵣ) ?Bᵣ ?Fᵣ ?Xᵣ ?Nᵣ ?Tᵣ ?XBᵣ ?TBᵣ ?Dᵣ ?dᵣ ?uᵣ ?_; (case Bᵣ => k_asm); (case Fᵣ => k_asm); (case Xᵣ => k_asm); (case Nᵣ => k_asm); (case Tᵣ => k_asm); (case XBᵣ => k_asm); (case TBᵣ => k_asm); (case Dᵣ => k_asm); (case hsubᵣ => (intro pᵣ hpᵣ; (repeat (first | exact hpᵣ | refine List.mem_cons_of_mem _ ?_ | exact (by assumption : ∀ pᵣ ∈ _, pᵣ ∈ _) pᵣ hpᵣ)))); (case dᵣ => ktr_room); (case uᵣ => ((try simp only [units_deeper, units_under_make]); ktr_units)); k_whole; rintro _ h'ᵣ g'ᵣ tk'ᵣ led9ᵣ t'ᵣ b'ᵣ F'ᵣ x'ᵣ p'ᵣ d'ᵣ N'ᵣ ⟨vrᵣ, e1ᵣ, hsub9ᵣ, hvr9ᵣ⟩; subst e1ᵣ; (try dsimp only)))) | ((with_reducible show ite _ _ _); first | (exfalso; (first | assumption | exact Nat.le_trans (by assumption) (by decide) | omega)) | (refine' ite_yes ?cᵣ ?_; (case cᵣ => (first | (simp only [decide_eq_true_eq, beq_iff_eq, bne_iff_ne, ne_eq]; (first | assumption | exact Nat.le_trans (by assumption) (by decide) | omega)) | (first | assumption | exact Nat.le_trans (by assumption) (by decide) | omega)))) | (refine' ite_no ?cᵣ ?_; (case cᵣ => (first | (simp only [decide_eq_true_eq, beq_iff_eq, bne_iff_ne, ne_eq]; (first | assumption | exact Nat.le_trans (by assumption) (by decide) | omega)) | (first | assumption | exact Nat.le_trans (by assumption) (by decide) | omega))))) | walk1 | (dsimp only; walk1))) | (leave1; walk_say "STEP leave1"; try dsimp only) | fail "no step"))
  rename KtsTurn (frs outer) _ _ => tB
  have tt := KtsTurn.trans (by assumption) tB
  refine' endsT _ tt ?zF ?zN ?zP
  case zF => k_asm
  case zN => k_asm
  case zP =>
    refine' ⟨_, _, _, rfl, ?s1, ⟨_, _, _, _, ?m1, ?m2⟩, ?s3, ?s4⟩
    case m1 => k_mem
    case m2 => k_mem
    case s1 =>
      intro p hp
      repeat (first | exact sub_mem (by assumption) (sub_mem (by assumption) hp) | refine List.mem_cons_of_mem _ ?_)
    case s3 =>
      refine IsVR.mono (by assumption) (fun p hp => ?_)
      repeat (first | exact sub_mem (by assumption) hp | refine List.mem_cons_of_mem _ ?_)
    case s4 =>
      refine IsVR.mono (by assumption) (fun p hp => ?_)
      repeat (first | exact hp | refine List.mem_cons_of_mem _ ?_)
theorem grvr0_t (w : World) (x kd rr sd : Addr) (v th : Int) (kn : Int → Option Addr) (ss us : List Int) (t : Tok) (pb : Array UInt8) (news : Led)
   (hx : IsRoot w news x kd rr v) (H1 : GvrAll w news x sd "root" pb th kn ss us) :
   Does w 16 448 [.ref x, .none, .bytes pb t, .ref sd] news (RvrPost w news th th kn kn ss us ss us) := by
  unfold Does
  k_fill
  w_top off
  show Does w 16 448 _ _ _
  refine' does_of (binds := [("self", .ref x), ("previous", .none), ("payload", .bytes pb t), ("signatures", .ref sd)]) ?ho ?hcd (fun _ => BindsTo.of_eq ?hb) ?hl ?h1 ?h2 ?h3 ?h4 ?h5 ?h
  case ho => k_is
  case hcd => k_is
  case hb => exact rfl
  case hl => exact locs rfl
  case h1 => exact rfl
  case h2 => exact rfl
  case h3 => exact rfl
  case h4 => decide
  case h5 => decide
  intro dp un gd outer base g L s mean mg mb B F X N T XB TB D hlt hdp hun
  obtain ⟨dx, rd, ud, r1, r2, r3, ord, n, sv, t1, t2, t3, t4, t5, t6, t7, t8, t9, t10, t11, hx1, hx2', hx3, hx4, hx5⟩ := hx
  have T0 : KtsTurn (frs outer) g g := KtsTurn.refl
  with_unfolding_all show wpAny _ _ (execs (_ :: _) _) _ _ _
  refine letAV ?_
  intro Vᵣ Aᵣ
  (repeat' (first | (k_unfold; (try dsimp only)) | ((try (with_reducible (show wpAny _ _ (exec _ _) _ _ _); k_fold)); (first | ((with_reducible refine tok_gen3 ?_); intro _) | ((k_here; (with_reducible show wpAny _ _ (call (Value.ref 362) _) _ _ _); k_dflt (refine' useT ((by assumption : GvrAll _ _ _ _ _ _ _ _ _ _) _ _ _ ?hsubᵣ) ?Bᵣ ?Fᵣ ?Xᵣ ?Nᵣ ?Tᵣ ?XBᵣ ?TBᵣ ?Dᵣ ?dᵣ ?uᵣ ?_; (case Bᵣ => k_asm); (case Fᵣ => k_asm); (case Xᵣ => k_asm); (case Nᵣ => k_asm); (case Tᵣ => k_asm); (case XBᵣ => k_asm); (case TBᵣ => k_asm); (case Dᵣ => k_asm); (case hsubᵣ => (intro pᵣ hpᵣ; (repeat (first | exact hpᵣ | refine List.mem_cons_of_mem _ ?_ | exact (by assumption : ∀ pᵣ ∈ _, pᵣ ∈ _) pᵣ hpᵣ)))); (case dᵣ => ktr_room); (case uᵣ => ((try simp only [units_deeper, units_under_make]); ktr_units)); k_whole; rintro _ h'ᵣ g'ᵣ tk'ᵣ led9ᵣ t'ᵣ b'ᵣ F'ᵣ x'ᵣ p'ᵣ d'ᵣ N'ᵣ ⟨vrᵣ, e1ᵣ, hsub9ᵣ, hvr9ᵣ⟩; subst e1ᵣ; (try dsimp only)))) | walk1 | (dsimp only; walk1))) | (leave1; walk_say "STEP leave1"; try dsimp only) | fail "no step"))
  rename KtsTurn (frs outer) _ _ => tB
  have tt := KtsTurn.trans (by assumption) tB
  refine' endsT _ tt ?zF ?zN ?zP
  case zF => k_asm
  case zN => k_asm
  case zP =>
    refine' ⟨_, _, _, rfl, ?s1, ⟨_, _, _, _, ?m1, ?m2⟩, ?s3, ?s4⟩
    case m1 => k_mem
    case m2 => k_mem
    case s1 =>
      intro p hp
      repeat (first | exact sub_mem (by assumption) (sub_mem (by assumption) hp) | refine List.mem_cons_of_mem _ ?_)
    case s3 =>
      refine IsVR.mono (by assumption) (fun p hp => ?_)
      repeat (first | exact sub_mem (by assumption) hp | refine List.mem_cons_of_mem _ ?_)
    case s4 =>
      refine IsVR.mono (by assumption) (fun p hp => ?_)
      repeat (first | exact hp | refine List.mem_cons_of_mem _ ?_)
end
section
-- MyW

local macro_rules | `(tactic| k_all) => `(tactic| (refine List.forall_mem_cons.mpr ⟨?a, ?b⟩; (case a => k_ne); (case b => k_all)))



local macro_rules | `(tactic| k_all) => `(tactic| first | (refine allLt_ne ?_; first | exact (by assumption : _ ∧ _ ∧ _ ∧ _ ∧ _ ∧ _ ∧ _ ∧ _ ∧ _ ∧ AllLt _ _).2.2.2.2.2.2.2.2.2 | exact (by assumption : _ ∧ _ ∧ _ ∧ _ ∧ _ ∧ _ ∧ _ ∧ _ ∧ _ ∧ _ ∧ AllLt _ _).2.2.2.2.2.2.2.2.2.2) | fail)
inductive RootPost (w : World) (d rw : Addr) (o op : Obj) (news : Led) (r : Value) (news' : Led) : Prop
  | mk (T x l kd : Addr) (th v : Int) (ks : List Int) (kn : Int → Option Addr) (o' op' : Obj) (fam : Led) (_ : r = .ref T) (_ : news' = (d, o') :: (177, op') :: (fam ++ news)) (_ : WD w o' rw) (_ : PlaceOk op') (_ : Sep fam ((d, o) :: (177, op) :: news)) (_ : RootIn w fam T x l kd th v ks kn) : RootPost w d rw o op news r news'
theorem root_t (w : World) (d rw : Addr) (o op : Obj) (news : Led) (W : WD w o rw) (R : RowIn news rw) (hsep : ∀ p ∈ news, p.1 ≠ d) (hop : PlaceOk op) (hn177 : ∀ p ∈ news, p.1 ≠ 177) (hd177 : (@Ne Nat 177 d)) :
   DoesS w 24 781 [.ref d] ((d, o) :: (177, op) :: news) (RootPost w d rw o op news) := by
  unfold DoesS
  k_fill
  w_top off
  show DoesS w 24 781 _ _ _
  refine' doesS_of (binds := [("w", .ref d)]) ?ho ?hcd (fun _ => BindsTo.of_eq ?hb) ?hl ?h1 ?h2 ?h3 ?h4 ?h5 ?h
  case ho => k_is
  case hcd => k_is
  case hb => exact rfl
  case hl => exact locs rfl
  case h1 => exact rfl
  case h2 => exact rfl
  case h3 => exact rfl
  case h4 => decide
  case h5 => decide
  intro dp un gd outer base g L s mean mg mb B F X N T hG hlt hdp hun
  with_unfolding_all show wpAny _ _ (execs (_ :: _) _) _ _ _
  refine letAV ?_
  intro Vᵣ Aᵣ
  (repeat' (first | (k_unfold; (try dsimp only)) | ((try (with_reducible (show wpAny _ _ (exec _ _) _ _ _); k_fold)); (first | ((with_reducible refine tok_gen3 ?_); intro _) | ((k_here; (with_reducible show wpAny _ _ (call (Value.ref 750) _) _ _ _); k_dflt (refine' useP (keys_t _ _ _ _ _ ?Wᵣ ?Rᵣ ?sᵣ) ?Bᵣ ?Fᵣ ?Xᵣ (take_sub ?Nᵣ ?tᵣ) ?Tᵣ ?dᵣ ?uᵣ ?_; (case Bᵣ => k_asm); (case Fᵣ => k_asm); (case Xᵣ => k_asm); (case Nᵣ => k_asm); (case Tᵣ => k_asm); (case tᵣ => repeat (first | exact Take.head | apply Take.tail)); (case Wᵣ => assumption); (case Rᵣ => (repeat (first | assumption | apply RowIn.cons))); (case sᵣ => k_all); (case dᵣ => ktr_room); (case uᵣ => ((try simp only [units_deeper, units_under_make]); ktr_units)); k_whole; rintro _ h'ᵣ tk'ᵣ _ F'ᵣ N'ᵣ ⟨kd9ᵣ, o9ᵣ, kn9ᵣ, fam9ᵣ, e1ᵣ, e2ᵣ, W9ᵣ, hf9ᵣ, hk9ᵣ, hab9ᵣ⟩; subst e1ᵣ; subst e2ᵣ; (try dsimp only); refine marked3 ?_))) | ((k_here; (with_reducible show wpAny _ _ (call (Value.ref 745) _) _ _ _); k_dflt (refine' useP (role_t _ _ _ _ _ ?Wᵣ ?Rᵣ ?sᵣ) ?Bᵣ ?Fᵣ ?Xᵣ (take_sub ?Nᵣ ?tᵣ) ?Tᵣ ?dᵣ ?uᵣ ?_; (case Bᵣ => k_asm); (case Fᵣ => k_asm); (case Xᵣ => k_asm); (case Nᵣ => k_asm); (case Tᵣ => k_asm); (case tᵣ => repeat (first | exact Take.head | apply Take.tail)); (case Wᵣ => assumption); (case Rᵣ => (repeat (first | assumption | apply RowIn.cons))); (case sᵣ => k_all); (case dᵣ => ktr_room); (case uᵣ => ((try simp only [units_deeper, units_under_make]); ktr_units)); k_whole; rintro _ h'ᵣ tk'ᵣ _ F'ᵣ N'ᵣ ⟨D9ᵣ, vs9ᵣ, n9ᵣ, o9ᵣ, ks9ᵣ, e1ᵣ, e2ᵣ, hs9ᵣ, hg9ᵣ, W9ᵣ, hn9ᵣ, hl9ᵣ⟩; subst e1ᵣ; subst e2ᵣ; (try simp only [List.forall_mem_cons] at hl9ᵣ); (try dsimp only)))) | ((k_here; (with_reducible show wpAny _ _ (call (Value.ref 733) _) _ _ _); k_dflt (refine' next_use ?Bᵣ ?Fᵣ ?Xᵣ ?Nᵣ ?Tᵣ ?tᵣ ?dᵣ ?uᵣ ?mᵣ ?Wᵣ ?Rᵣ ?sᵣ ?_; (case Bᵣ => k_asm); (case Fᵣ => k_asm); (case Xᵣ => k_asm); (case Nᵣ => k_asm); (case Tᵣ => k_asm); (case tᵣ => repeat (first | exact Take.head | apply Take.tail)); (case dᵣ => ktr_room); (case uᵣ => ktr_units); (case mᵣ => decide); (case Wᵣ => assumption); (case Rᵣ => (repeat (first | assumption | apply RowIn.cons))); (case sᵣ => k_all); k_whole; intro v9ᵣ u9ᵣ o9ᵣ h9ᵣ tk9ᵣ hv0ᵣ hv1ᵣ F9ᵣ N9ᵣ W9ᵣ; (try dsimp only)))) | walk1 | (dsimp only; walk1))) | (leave1; walk_say "STEP leave1"; try dsimp only) | fail "no step"))
  rename KeysN _ _ _ _ => hk9
  rename WD _ _ _ => W9
  rename ∀ p ∈ (_ : Led), p.1 ≠ d => hf9
  rename ∀ q ∈ (_ : Led), AllLt q.1 _ => hab9
  rename News g L _ ((d, _) :: (_ ++ _)) => N9
  rename StrsAre _ _ => hs9
  rename Good5 _ => hg9
  rename (_ ∧ ∀ p ∈ news, p.1 ≠ _) => hl9
  replace N9 := fam_up N9
  have ha8 := nl_ne (fun p hp => Nat.ne_of_gt (hab9 p hp).1) hl9.2
  have hb8 := nl_ne (fun p hp => Nat.ne_of_gt (hab9 p hp).2.1) hn177
  have hd8 := nl_ne hf9 hsep
  rename Led => famK
  obtain ⟨nl, hnl⟩ : ∃ nl, nl = famK ++ news := ⟨_, rfl⟩
  rw [← hnl] at N9 ha8 hb8 hd8
  have R8 : RowIn nl rw := R.mono fun p hp => hnl ▸ List.mem_append_right _ hp
  unfold Marked3
  (repeat' (first | (k_unfold; (try dsimp only)) | ((try (with_reducible (show wpAny _ _ (exec _ _) _ _ _); k_fold)); (first | ((with_reducible refine tok_gen3 ?_); intro _) | ((with_reducible show wpAny _ _ (eval (Expr.ListComp _ _ _ _) _) _ _ _); (k_here; k_dflt (refine ListComp_P (F₀ := by k_asm) (by with_unfolding_all rfl) (by decide) (by rfl) (by decide) (by rfl) ?_))) | ((k_here; (with_reducible show wpAny _ _ (call (Value.ref 733) _) _ _ _); k_dflt (refine' next_use ?Bᵣ ?Fᵣ ?Xᵣ ?Nᵣ ?Tᵣ ?tᵣ ?dᵣ ?uᵣ ?mᵣ ?Wᵣ ?Rᵣ ?sᵣ ?_; (case Bᵣ => k_asm); (case Fᵣ => k_asm); (case Xᵣ => k_asm); (case Nᵣ => k_asm); (case Tᵣ => k_asm); (case tᵣ => repeat (first | exact Take.head | apply Take.tail)); (case dᵣ => ktr_room); (case uᵣ => ktr_units); (case mᵣ => decide); (case Wᵣ => assumption); (case Rᵣ => (repeat (first | assumption | apply RowIn.cons))); (case sᵣ => k_all); k_whole; intro v9ᵣ u9ᵣ o9ᵣ h9ᵣ tk9ᵣ hv0ᵣ hv1ᵣ F9ᵣ N9ᵣ W9ᵣ; (try dsimp only)))) | walk1 | (dsimp only; walk1))) | (leave1; walk_say "STEP leave1"; try dsimp only) | fail "no step"))
  refine ⟨_, _, _, _, rfl, rfl, by k_asm, by k_asm, by k_mem, Nat.le_of_ble_eq_true rfl, ?_⟩
  intro g'
  refine' comp_inv (RInv _) ⟨[], [], rfl, .nil, rfl, Over.nil⟩ ?_ ?_
  · rintro i v ys nw I oI C oC D m₂ h tk E' hi hv' hR hC hx F1 N1 off ne
    obtain ⟨fam, rs, hnw, hPF, hrl, hOv⟩ := id hR
    obtain ⟨nk, tn, rfl, hnk⟩ : ∃ k t, v = .str k t ∧ nm3[i]? = some k := by
      match i with
      | 0 => exact ⟨_, _, (Option.some.inj hv').symm, rfl⟩
      | 1 => exact ⟨_, _, (Option.some.inj hv').symm, rfl⟩
      | 2 => exact ⟨_, _, (Option.some.inj hv').symm, rfl⟩
      | i + 3 => cases hv'
    (repeat' (first | (k_unfold; (try dsimp only)) | ((try (with_reducible (show wpAny _ _ (exec _ _) _ _ _); k_fold)); (first | ((with_reducible refine tok_gen3 ?_); intro _) | ((k_here; (with_reducible show wpAny _ _ (call (Value.ref 262) _) _ _ _); k_dflt (refine' useK (roleC_t _ _ [] [] _ _ _ _ ?lᵣ .nil rfl (by decide) (by decide)) ?Bᵣ ?Fᵣ ?Xᵣ ?Nᵣ ?Tᵣ ?dᵣ ?uᵣ ?_; (case Bᵣ => k_asm); (case Fᵣ => k_asm); (case Xᵣ => k_asm); (case Nᵣ => k_asm); (case Tᵣ => k_asm); (case lᵣ => k_mem); (case dᵣ => ktr_room); (case uᵣ => ((try simp only [units_deeper, units_under_make]); ktr_units)); k_whole; rintro _ h'ᵣ tk'ᵣ _ F'ᵣ N'ᵣ ⟨x9ᵣ, dx9ᵣ, ud9ᵣ, ou9ᵣ, n9ᵣ, t1ᵣ, t2ᵣ, t3ᵣ, t4ᵣ, e1ᵣ, e2ᵣ, hu9ᵣ, hs9ᵣ, l1ᵣ, l2ᵣ, l3ᵣ, l4ᵣ, l5ᵣ, l6ᵣ⟩; subst e1ᵣ; subst e2ᵣ; (try dsimp only)))) | walk1 | (dsimp only; walk1))) | (leave1; walk_say "STEP leave1"; try dsimp only) | fail "no step"))
    rename AllLt _ ((_, _) :: (I, _) :: _) => lu1
    replace lu1 := allLt4 lu1
    rename AllLt _ ((_, _) :: (I, _) :: _) => lu2
    replace lu2 := allLt4 lu2
    rename AllLt _ ((_, _) :: (I, _) :: _) => lu3
    replace lu3 := allLt4 lu3
    rename _ ∧ _ ∧ _ ∧ AllLt _ nw => lu4
    rename _ ∧ _ ∧ _ ∧ _ ∧ _ ∧ _ ∧ _ ∧ AllLt _ nw => lu5
    refine compEnd5b (by k_asm) (by k_asm) ?zoff ?zS ?zR
    case zS => exact mem5 (hnw ▸ List.mem_append_right _ (by k_mem))
    case zoff =>
      refine ⟨⟨?_, ?_, ?_⟩, ⟨?_, ?_, ?_⟩, ⟨?_, ?_, ?_⟩, ⟨?_, ?_, ?_⟩, ⟨?_, ?_, ?_⟩, off⟩
      all_goals k_ne
    case zR => exact RInv.step hR hnk lu5.2.2.2.2.2.2.2 (by first | exact lu1.2.2.2.2 | exact lu2.2.2.2.2 | exact lu3.2.2.2.2) (by first | exact lu1.2.2.2.2 | exact lu2.2.2.2.2 | exact lu3.2.2.2.2) (by first | exact lu1.2.2.2.2 | exact lu2.2.2.2.2 | exact lu3.2.2.2.2) lu4.2.2.2
  · rintro ys nw ⟨fam, rs, rfl, hPF, hrl, hOv⟩
    intro D h tk F1 N1 off
    have off' := off1_mem off
    have hP := pairsAt_fam hPF N1 (fun p hp => List.mem_cons_of_mem _ (List.mem_append_left _ hp))
    obtain ⟨ra, rb, rc, hkv⟩ := kv3_three hrl
    rw [hkv] at hP
    have hz : [(Str.ofString "timestamp", Value.ref ra), (Str.ofString "snapshot", Value.ref rb), (Str.ofString "targets", Value.ref rc)].length ≤ 100 := Nat.le_of_ble_eq_true rfl
    have hD9 : (@Ne Nat 177 _) := hl9.1
    have hD1 : (@Ne Nat 177 D) := off' (177, op) (List.mem_append_right _ (by k_mem))
    have hD2 : (@Ne Nat d D) := off' (d, _) (List.mem_append_right _ (by k_mem))
    have hD3 : ∀ p ∈ nl, p.1 ≠ D := fun p hp => off' p (List.mem_append_right _ (by (repeat (refine List.mem_cons_of_mem _ ?_)); exact hp))
    replace N1 := fam_up5 N1
    obtain ⟨nm, hnm⟩ : ∃ nm, nm = fam ++ nl := ⟨_, rfl⟩
    rw [← hnm] at N1
    have hk7 : KeysN w nm _ _ := hk9.mono fun p hp => hnm ▸ List.mem_append_right _ (hnl ▸ List.mem_append_left _ hp)
    obtain ⟨ok, kvs, hok9, hkd, hlo, hkz, hkall⟩ := id hk9
    have hok : (_, ok) ∈ nm := hnm ▸ List.mem_append_right _ (hnl ▸ List.mem_append_left _ hok9)
    have hm1 : ∀ p ∈ nm, p.1 ≠ 177 := hnm ▸ nl_ne (over_ne (p := (177, op)) hOv (by k_mem)) hb8
    have hl5 := hs9.length
    rw [List.length_map] at hl5
    have hg5 := hg9.len
    dsimp only
    (repeat' (first | (k_unfold; (try dsimp only)) | ((try (with_reducible (show wpAny _ _ (exec _ _) _ _ _); k_fold)); (first | ((with_reducible refine tok_gen3 ?_); intro _) | ((with_reducible show wpAny _ _ (setItem (Value.ref _) (Value.str _ _) _) _ _ _); (k_here; k_dflt (refine' kda_set (knd := PySem.strKind _ _) ?Fᵣ ?Nᵣ ?Uᵣ ?dᵣ (strKind_is _ _ _ _) ?zᵣ ?_; (case Fᵣ => k_asm); (case Nᵣ => k_asm); (case Uᵣ => k_updF); (case dᵣ => k_asm); (case zᵣ => (rw [sizeLine_eq]; exact Nat.le_of_ble_eq_true rfl))); intro h'ᵣ o'ᵣ F'ᵣ N'ᵣ hd'ᵣ; replace hd'ᵣ := kv4_fix hd'ᵣ; (try dsimp only at N'ᵣ))) | ((k_here; (with_reducible show wpAny _ _ (call (Value.ref 451) _) _ _ _); k_dflt (refine' useKS (rootC_t _ _ _ _ _ _ _ _ _ _ _ _ _ _ _ ?hkᵣ ?hrᵣ ?hdᵣ ?hrsᵣ ?hvᵣ ?hopᵣ ?hnPᵣ) ?Bᵣ ?Fᵣ ?Xᵣ (take_sub ?Nᵣ ?tᵣ) ?Tᵣ ?Gᵣ ?dᵣ ?uᵣ ?_; (case Bᵣ => k_asm); (case Fᵣ => k_asm); (case Xᵣ => k_asm); (case Nᵣ => k_asm); (case Tᵣ => k_asm); (case Gᵣ => k_asm); (case tᵣ => repeat (first | exact Take.head | apply Take.tail)); (case hrᵣ => k_mem); (case hkᵣ => k_mem); (case hdᵣ => assumption); (case hrsᵣ => assumption); (case hvᵣ => (first | assumption | exact Nat.le_trans (by assumption) (by decide) | omega)); (case hopᵣ => assumption); (case hnPᵣ => k_all); (case dᵣ => ktr_room); (case uᵣ => ((try simp only [units_deeper, units_under_make]); ktr_units)); k_whole; rintro _ s9ᵣ _ F'ᵣ N'ᵣ os9ᵣ bare9ᵣ ⟨x9ᵣ, fam9ᵣ, op9ᵣ, e1ᵣ, e2ᵣ, hop9ᵣ, hIR9ᵣ, hab9ᵣ⟩; subst e1ᵣ; subst e2ᵣ; (try dsimp only)))) | ((with_reducible show wpAny _ _ (call (Value.type "dict") _) _ _ _); (k_here; k_dflt (refine' dict_copy_led ?Fᵣ ?Nᵣ ?bᵣ ?hmᵣ ?loᵣ ?hdᵣ ?zᵣ ?_; (case Fᵣ => k_asm); (case Nᵣ => k_asm); (case hmᵣ => k_mem); (case loᵣ => assumption); (case hdᵣ => assumption); (case bᵣ => exact modules_low (Top.nolimit (by k_asm))); (case zᵣ => assumption)); intro D'ᵣ h'ᵣ o'ᵣ F'ᵣ N'ᵣ lo'ᵣ hd'ᵣ hl'ᵣ; (try k_lt hl'ᵣ))) | ((k_here; (with_reducible show wpAny _ _ (call (Value.ref 262) _) _ _ _); (with_reducible rename StrsAre _ (List.map kN _) => hs7); k_dflt (refine' useK (roleC_t _ _ _ _ _ _ _ _ ?lᵣ hs7 (names_dd (by assumption)) ?zzᵣ ?ztᵣ) ?Bᵣ ?Fᵣ ?Xᵣ ?Nᵣ ?Tᵣ ?dᵣ ?uᵣ ?_; (case Bᵣ => k_asm); (case Fᵣ => k_asm); (case Xᵣ => k_asm); (case Nᵣ => k_asm); (case Tᵣ => k_asm); (case lᵣ => k_mem); (case zzᵣ => (rw [List.length_map]; (first | assumption | exact Nat.le_trans (by assumption) (by decide) | omega))); (case ztᵣ => (first | assumption | exact Nat.le_trans (by assumption) (by decide) | omega)); (case dᵣ => ktr_room); (case uᵣ => ((try simp only [units_deeper, units_under_make]); ktr_units)); k_whole; rintro _ h'ᵣ tk'ᵣ _ F'ᵣ N'ᵣ ⟨x9ᵣ, dx9ᵣ, ud9ᵣ, ou9ᵣ, n9ᵣ, t1ᵣ, t2ᵣ, t3ᵣ, t4ᵣ, e1ᵣ, e2ᵣ, hu9ᵣ, hs9ᵣ, l1ᵣ, l2ᵣ, l3ᵣ, l4ᵣ, l5ᵣ, l6ᵣ⟩; subst e1ᵣ; subst e2ᵣ; (try simp only [AllLt] at l1ᵣ l2ᵣ l3ᵣ); (try dsimp only)))) | ((k_here; (with_reducible show wpAny _ _ (call (Value.type _) [Value.ref _]) _ _ _); k_dflt (refine' list_copy_led ?Fᵣ ?Nᵣ ?bᵣ ?zᵣ ?_; (case Fᵣ => k_asm); (case Nᵣ => k_asm); (case bᵣ => k_mem); (case zᵣ => (first | assumption | exact Nat.le_trans (by assumption) (by decide) | omega))); intro D'ᵣ c'ᵣ h'ᵣ F'ᵣ N'ᵣ l1ᵣ; (try k_lt l1ᵣ); (try k_sweep))) | ((with_reducible show wpAny _ _ (call (Value.type "dict") _) _ _ _); (k_here; k_dflt (refine' call_dict_pairs_led ?hhᵣ ?Fᵣ ?Nᵣ ?bᵣ ?hmᵣ ?hPᵣ ?zᵣ ?_; (case hhᵣ => rfl); (case Fᵣ => k_asm); (case Nᵣ => k_asm); (case hPᵣ => assumption); (case hmᵣ => k_mem); (case bᵣ => exact modules_low (Top.nolimit (by k_asm))); (case zᵣ => assumption)); intro D'ᵣ h'ᵣ o'ᵣ tk'ᵣ F'ᵣ N'ᵣ lo'ᵣ hd'ᵣ hl'ᵣ; replace hd'ᵣ := kv3_fix hd'ᵣ; (try k_lt hl'ᵣ))) | walk1 | (dsimp only; walk1))) | (leave1; walk_say "STEP leave1"; try dsimp only) | fail "no step"))
    subst hnm
    subst hnl
    rename ∀ q ∈ (_ : Led), _ ∧ AllLt q.1 _ => hab5
    rename IsRoot _ _ _ _ _ _ => hIR
    rename PlaceOk _ => hpo
    rename Shared.os _ = Shared.os _ => hos
    rename AllBare _ => hbare
    rename WD _ _ _ => W5
    rename _ ∧ AllLt _ (_ ++ _) => lT
    rename Obj.IsDictOf _ _ kvs => hdk
    rename News _ _ _ _ => N5
    rename StrsAre _ _ => hsF
    rename _ ≠ d => hn9
    refine' ⟨_, _, ?zF, root_led N5, hos, hbare, _, _, _, _, _, _, _, _, _, _, _, rfl, rfl, W5, hpo, ?zS, ⟨_, _, _, _, _, _, _, _, List.mem_cons_self, hIR.mono ?r2, ?r3, ?r4, ?r5, hsF, hg9, (hk9.mono ?r6).toIn, ?r7, ?r8, ?r9, ?r10, ?r11⟩⟩
    case zF => k_asm
    case r8 => omega
    case r9 => omega
    case r10 => omega
    case r11 => omega
    case r2 =>
      intro p hp
      rcases List.mem_append.mp hp with hp | hp
      · exact List.mem_cons_of_mem _ (List.mem_append_left _ hp)
      · rw [List.mem_singleton.mp hp]; exact List.mem_cons_of_mem _ (List.mem_append_right _ (by k_mem))
    case r3 => exact ⟨_, _, _, _, _, _, _, _, List.mem_cons_of_mem _ (List.mem_append_right _ (by k_mem)), List.mem_cons_of_mem _ (List.mem_append_right _ (by k_mem)), List.mem_cons_of_mem _ (List.mem_append_right _ (by k_mem)), by assumption⟩
    case r4 => exact List.mem_cons_of_mem _ (List.mem_append_right _ (by k_mem))
    case r5 => exact List.mem_cons_of_mem _ (List.mem_append_right _ (by k_mem))
    case r6 =>
      intro p hp
      refine List.mem_cons_of_mem _ (List.mem_append_right _ ?_)
      repeat (refine List.mem_cons_of_mem _ ?_)
      exact List.mem_append_right _ hp
    case r7 =>
      refine ⟨_, kvs, List.mem_cons_of_mem _ (List.mem_append_right _ (by k_mem)), hdk, by assumption, fun k a b => ⟨(hkall k a b).1, fun x hx => IsKey.mono ((hkall k a b).2 x hx) ?_⟩⟩
      intro p hp
      refine List.mem_cons_of_mem _ (List.mem_append_right _ ?_)
      repeat (refine List.mem_cons_of_mem _ ?_)
      exact List.mem_append_right _ hp
    case zS =>
      have hdT : @LT.lt Nat _ d _ := allLt_mem lT.2 (d, _) (List.mem_append_right _ (by k_mem))
      have hsubN : ∀ p ∈ (d, o) :: (177, op) :: news, p ∈ (d, o) :: (177, op) :: (fam ++ (famK ++ news)) := fun p hp => by
        simp only [List.mem_cons, List.mem_append] at hp ⊢; grind
      refine Sep.cons ?_ (Sep.app (sep_over hab5 _ (by k_mem) ?_) (Sep.cons ?_ (Sep.cons ?_ (Sep.cons ?_ (Sep.cons ?_ (Sep.cons ?_ (Sep.cons ?_ (Sep.cons ?_ (Sep.cons ?_ (Sep.app (sep_over2 hOv _ _ (by k_mem) (by k_mem) ?_) (sep_keys hab9 hf9)))))))))))
      · exact List.forall_mem_cons.mpr ⟨Nat.ne_of_lt hdT, List.forall_mem_cons.mpr ⟨Nat.ne_of_lt lT.1, fun p hp => Nat.ne_of_lt (allLt_mem lT.2 p (List.mem_append_right _ (by (repeat (refine List.mem_cons_of_mem _ ?_)); exact List.mem_append_right _ (List.mem_append_right _ hp))))⟩⟩
      · exact fun p hp => (by (repeat (refine List.mem_cons_of_mem _ ?_)); exact List.mem_append_right _ (List.mem_append_right _ hp))
      iterate 6 (refine ne_sub ?_ hsubN; k_all)
      · exact List.forall_mem_cons.mpr ⟨hD2, List.forall_mem_cons.mpr ⟨hD1, fun p hp => hD3 p (List.mem_append_right _ hp)⟩⟩
      · exact List.forall_mem_cons.mpr ⟨fun e => hn9 e.symm, List.forall_mem_cons.mpr ⟨hD9, hl9.2⟩⟩
      · exact fun p hp => (by (repeat (refine List.mem_cons_of_mem _ ?_)); exact List.mem_append_right _ hp)
end
-- MyTc




/-- a targets object of the ledger -/
inductive IsTarg (w : World) (fam : Led) (x : Addr) (dv : Value) : Prop
  | mk (dx td ud : Addr) (n : Nat) (sv : PySem.Str) (t1 t2 t3 t4 t5 t6 t7 t8 t9 : Tok) (_ : (x, instObj 717 dx) ∈ fam) (_ : (dx, dictOf [⟨hsh w "spec_version", .str "spec_version" t1, .str sv t2⟩, ⟨hsh w "expires", .str "expires" t3, .int 9 t4⟩, ⟨hsh w "version", .str "version" t5, .int 1 t6⟩, ⟨hsh w "unrecognized_fields", .str "unrecognized_fields" t7, .ref ud⟩, ⟨hsh w "targets", .str "targets" t8, .ref td⟩, ⟨hsh w "delegations", .str "delegations" t9, dv⟩] n) ∈ fam) : IsTarg w fam x dv
theorem move1_7 {h₀ h : Heap} {L : Addr} {p e1 e2 e3 e4 e5 e6 e7 : Addr × Obj} {l : Led} (N : News h₀ L h (e1 :: p :: e2 :: e3 :: e4 :: e5 :: e6 :: e7 :: l)) : News h₀ L h (p :: ([e1, e2, e3, e4, e5, e6, e7] ++ l)) :=
  newsSub N (by intro q hq; simp only [List.mem_cons, List.cons_append, List.nil_append] at *; grind)
inductive TargCPost (w : World) (dl : Addr) (news : Led) (r : Value) (news' : Led) : Prop
  | mk (x : Addr) (fam : Led) (op' : Obj) (_ : r = .ref x) (_ : news' = (177, op') :: (fam ++ news)) (_ : PlaceOk op') (_ : IsTarg w fam x (.ref dl)) (_ : ∀ q ∈ fam, @LT.lt Nat _ 177 q.1 ∧ AllLt q.1 news) : TargCPost w dl news r news'
theorem targC_t (w : World) (td dl : Addr) (op : Obj) (t t0 t9 : Tok) (news : Led) 
   (hop : PlaceOk op) (hnP : ∀ p ∈ news, p.1 ≠ 177) :
   DoesKS w 16 717 [.int 1 t, .str "1.0" t0, .int 9 t9, .ref td, .ref dl] ((177, op) :: news) (TargCPost w dl news) := by
  unfold DoesKS
  k_fill
  w_top off
  intro dp un gd cn nm ig ic mo a ccd cl outer base h₀ L m s mean mg mb Q E B F X N T hG hdp hun hret
  (repeat' (first | (k_unfold; (try dsimp only)) | ((try (with_reducible (show wpAny _ _ (exec _ _) _ _ _); k_fold)); (first | ((with_reducible refine tok_gen3 ?_); intro _) | ((with_reducible show wpAny _ _ (call (Value.ref _) _ _) _ _ _); (k_here; ks_any; k_dflt (refine' call_cls ?k1ᵣ ?k2ᵣ ?k3ᵣ ?k4ᵣ ?k5ᵣ ?k6ᵣ ?_; (case k1ᵣ => k_asm); (case k2ᵣ => k_asm); (case k3ᵣ => k_asm); (case k4ᵣ => k_is); (case k5ᵣ => k_is); (case k6ᵣ => k_is); intro x'ᵣ d'ᵣ h'ᵣ F'ᵣ N'ᵣ l1ᵣ l2ᵣ; (try k_lt l1ᵣ); (try k_lt2 l2ᵣ); (refine' ks_code_super ?j1ᵣ ?j2ᵣ ?j3ᵣ ?j4ᵣ ?j5ᵣ ?jAᵣ ?jFᵣ ?jKᵣ ?j6ᵣ ?j7ᵣ ?j8ᵣ ?j9ᵣ ?jBᵣ ?_ ?c1ᵣ ?c2ᵣ ?c3ᵣ ?c4ᵣ; (case jAᵣ => exact rfl); (case jFᵣ => exact rfl); (case jKᵣ => exact rfl); (case j1ᵣ => k_asm); (case j2ᵣ => k_asm); (case j3ᵣ => k_asm); (case j4ᵣ => k_asm); (case j5ᵣ => k_asm); (case j6ᵣ => k_is); (case j7ᵣ => k_is); (case j8ᵣ => k_room); (case j9ᵣ => exact binds_K (by k_in) rfl (by k_is) rfl rfl rfl); (case jBᵣ => exact locs rfl); (case c1ᵣ => decide); (case c2ᵣ => exact rfl); (case c3ᵣ => exact rfl); (case c4ᵣ => exact rfl); intro g'ᵣ L'ᵣ h'ᵣ FG'ᵣ F'ᵣ N'ᵣ B'ᵣ X'ᵣ T'ᵣ l1ᵣ; (try k_lt l1ᵣ); (try dsimp only); (try k_lift B'ᵣ))))) | walk1 | (dsimp only; walk1))) | (leave1; walk_say "STEP leave1"; try dsimp only) | fail "no step"))
  refine' genexp_led (c := 181) (P := 177) ?T rfl rfl ?hc ?hcf rfl rfl ?hclos ?hcell rfl rfl rfl ?room ?main ?hs
  case T => k_asm
  case hc => exact (by k_asm : (K w.params).In _) _ _ (by k_is)
  case hcf => exact ⟨_, _, _, _, _, _, _, _, rfl, rfl, rfl, rfl, rfl, rfl, rfl, rfl⟩
  case hclos => rfl
  case hcell => decide
  case room => k_room
  case hs => intro _; with_unfolding_all rfl
  case main =>
    walk1
    refine' ⟨_, _, op, rfl, ?l, ?F, ?N, hop, ?ne, ?lp, hG, fun _ => true, fun _ v => v = .bool true, ?q, ?k⟩
    case F => k_asm
    case l => exact led_list (by k_asm) (by k_mem)
    case N =>
      refine' take_sub ?N2 ?t2
      case N2 => k_asm
      case t2 => repeat (first | exact Take.head | apply Take.tail)
    case lp => k_ne
    case ne => k_all
    case q =>
      intro code h₃ href _ _ _
      refine quiet_digit rfl rfl rfl fun i v hv => ?_
      rcases two_at hv with rfl | rfl
      · exact ⟨_, _, rfl, by decide +kernel⟩
      · exact ⟨_, _, rfl, by decide +kernel⟩
    case k =>
      rintro op' a Kb s₅ F5 N5 hop' hG5 hos5 hL5 hb5 X5
      clear hG
      (repeat' (first | (k_unfold; (try dsimp only)) | ((try (with_reducible (show wpAny _ _ (exec _ _) _ _ _); k_fold)); (first | ((with_reducible refine tok_gen3 ?_); intro _) | ((with_reducible show wpAny _ _ (call (Value.builtin "all") _) _ _ _); (k_here; k_dflt (refine' all_led ?Fᵣ ?Nᵣ ?Gᵣ ?Xᵣ ?Lᵣ ?bᵣ ?hᵣ ?_; (case Fᵣ => k_asm); (case Nᵣ => k_asm); (case Gᵣ => assumption); (case Xᵣ => assumption); (case Lᵣ => assumption); (case bᵣ => assumption); (case hᵣ => (rintro _ _ ⟨_, _, eᵣ⟩; exact eᵣ))); intro s'ᵣ F'ᵣ N'ᵣ G'ᵣ os'ᵣ)) | ((with_reducible show ite _ _ _); first | (exfalso; (first | assumption | exact Nat.le_trans (by assumption) (by decide) | omega)) | (refine' ite_yes ?cᵣ ?_; (case cᵣ => (first | (simp only [decide_eq_true_eq, beq_iff_eq, bne_iff_ne, ne_eq]; (first | assumption | exact Nat.le_trans (by assumption) (by decide) | omega)) | (first | assumption | exact Nat.le_trans (by assumption) (by decide) | omega)))) | (refine' ite_no ?cᵣ ?_; (case cᵣ => (first | (simp only [decide_eq_true_eq, beq_iff_eq, bne_iff_ne, ne_eq]; (first | assumption | exact Nat.le_trans (by assumption) (by decide) | omega)) | (first | assumption | exact Nat.le_trans (by assumption) (by decide) | omega))))) | walk1 | (dsimp only; walk1))) | (leave1; walk_say "STEP leave1"; try dsimp only) | fail "no step"))
      rename _ ∧ AllLt _ news => la
      refine' hret _ _ _ ?zF (move1_7 ?zN) ?zO ?zG ⟨_, [_, _, _, _, _, _, _], op', rfl, rfl, hop', ?zR, ?zL⟩
      case zF => k_asm
      case zN => k_asm
      case zO => exact Eq.trans (by assumption) hos5
      case zG => assumption
      case zR => exact ⟨_, _, _, _, _, _, _, _, _, _, _, _, _, _, by k_mem, by k_mem⟩
      case zL =>
        repeat (refine List.forall_mem_cons.mpr ⟨⟨by omega, by first | exact la.2 | exact allLt_up la.2 (by omega)⟩, ?_⟩)
        exact fun _ h => nomatch h
-- MyTn




theorem move2_8 {h₀ h : Heap} {L : Addr} {p e1 e2 e3 e4 e5 e6 e7 e8 : Addr × Obj} {l : Led} (N : News h₀ L h (e1 :: e2 :: p :: e3 :: e4 :: e5 :: e6 :: e7 :: e8 :: l)) : News h₀ L h (p :: ([e1, e2, e3, e4, e5, e6, e7, e8] ++ l)) :=
  newsSub N (by intro q hq; simp only [List.mem_cons, List.cons_append, List.nil_append] at *; grind)
inductive TargNPost (w : World) (news : Led) (r : Value) (news' : Led) : Prop
  | mk (x : Addr) (fam : Led) (op' : Obj) (_ : r = .ref x) (_ : news' = (177, op') :: (fam ++ news)) (_ : PlaceOk op') (_ : IsTarg w fam x .none) (_ : ∀ q ∈ fam, @LT.lt Nat _ 177 q.1 ∧ AllLt q.1 news) : TargNPost w news r news'
theorem targN_t (w : World) (op : Obj) (t t0 t9 : Tok) (news : Led) 
   (hop : PlaceOk op) (hnP : ∀ p ∈ news, p.1 ≠ 177) :
   DoesKS w 16 717 [.int 1 t, .str "1.0" t0, .int 9 t9] ((177, op) :: news) (TargNPost w news) := by
  unfold DoesKS
  k_fill
  w_top off
  intro dp un gd cn nm ig ic mo a ccd cl outer base h₀ L m s mean mg mb Q E B F X N T hG hdp hun hret
  (repeat' (first | (k_unfold; (try dsimp only)) | ((try (with_reducible (show wpAny _ _ (exec _ _) _ _ _); k_fold)); (first | ((with_reducible refine tok_gen3 ?_); intro _) | ((with_reducible show wpAny _ _ (call (Value.ref _) _ _) _ _ _); (k_here; ks_any; k_dflt (refine' call_cls ?k1ᵣ ?k2ᵣ ?k3ᵣ ?k4ᵣ ?k5ᵣ ?k6ᵣ ?_; (case k1ᵣ => k_asm); (case k2ᵣ => k_asm); (case k3ᵣ => k_asm); (case k4ᵣ => k_is); (case k5ᵣ => k_is); (case k6ᵣ => k_is); intro x'ᵣ d'ᵣ h'ᵣ F'ᵣ N'ᵣ l1ᵣ l2ᵣ; (try k_lt l1ᵣ); (try k_lt2 l2ᵣ); (refine' ks_code_super ?j1ᵣ ?j2ᵣ ?j3ᵣ ?j4ᵣ ?j5ᵣ ?jAᵣ ?jFᵣ ?jKᵣ ?j6ᵣ ?j7ᵣ ?j8ᵣ ?j9ᵣ ?jBᵣ ?_ ?c1ᵣ ?c2ᵣ ?c3ᵣ ?c4ᵣ; (case jAᵣ => exact rfl); (case jFᵣ => exact rfl); (case jKᵣ => exact rfl); (case j1ᵣ => k_asm); (case j2ᵣ => k_asm); (case j3ᵣ => k_asm); (case j4ᵣ => k_asm); (case j5ᵣ => k_asm); (case j6ᵣ => k_is); (case j7ᵣ => k_is); (case j8ᵣ => k_room); (case j9ᵣ => exact binds_K (by k_in) rfl (by k_is) rfl rfl rfl); (case jBᵣ => exact locs rfl); (case c1ᵣ => decide); (case c2ᵣ => exact rfl); (case c3ᵣ => exact rfl); (case c4ᵣ => exact rfl); intro g'ᵣ L'ᵣ h'ᵣ FG'ᵣ F'ᵣ N'ᵣ B'ᵣ X'ᵣ T'ᵣ l1ᵣ; (try k_lt l1ᵣ); (try dsimp only); (try k_lift B'ᵣ))))) | walk1 | (dsimp only; walk1))) | (leave1; walk_say "STEP leave1"; try dsimp only) | fail "no step"))
  refine' genexp_led (c := 181) (P := 177) ?T rfl rfl ?hc ?hcf rfl rfl ?hclos ?hcell rfl rfl rfl ?room ?main ?hs
  case T => k_asm
  case hc => exact (by k_asm : (K w.params).In _) _ _ (by k_is)
  case hcf => exact ⟨_, _, _, _, _, _, _, _, rfl, rfl, rfl, rfl, rfl, rfl, rfl, rfl⟩
  case hclos => rfl
  case hcell => decide
  case room => k_room
  case hs => intro _; with_unfolding_all rfl
  case main =>
    walk1
    refine' ⟨_, _, op, rfl, ?l, ?F, ?N, hop, ?ne, ?lp, hG, fun _ => true, fun _ v => v = .bool true, ?q, ?k⟩
    case F => k_asm
    case l => exact led_list (by k_asm) (by k_mem)
    case N =>
      refine' take_sub ?N2 ?t2
      case N2 => k_asm
      case t2 => repeat (first | exact Take.head | apply Take.tail)
    case lp => k_ne
    case ne => k_all
    case q =>
      intro code h₃ href _ _ _
      refine quiet_digit rfl rfl rfl fun i v hv => ?_
      rcases two_at hv with rfl | rfl
      · exact ⟨_, _, rfl, by decide +kernel⟩
      · exact ⟨_, _, rfl, by decide +kernel⟩
    case k =>
      rintro op' a Kb s₅ F5 N5 hop' hG5 hos5 hL5 hb5 X5
      clear hG
      (repeat' (first | (k_unfold; (try dsimp only)) | ((try (with_reducible (show wpAny _ _ (exec _ _) _ _ _); k_fold)); (first | ((with_reducible refine tok_gen3 ?_); intro _) | ((with_reducible show wpAny _ _ (call (Value.builtin "all") _) _ _ _); (k_here; k_dflt (refine' all_led ?Fᵣ ?Nᵣ ?Gᵣ ?Xᵣ ?Lᵣ ?bᵣ ?hᵣ ?_; (case Fᵣ => k_asm); (case Nᵣ => k_asm); (case Gᵣ => assumption); (case Xᵣ => assumption); (case Lᵣ => assumption); (case bᵣ => assumption); (case hᵣ => (rintro _ _ ⟨_, _, eᵣ⟩; exact eᵣ))); intro s'ᵣ F'ᵣ N'ᵣ G'ᵣ os'ᵣ)) | ((with_reducible show ite _ _ _); first | (exfalso; (first | assumption | exact Nat.le_trans (by assumption) (by decide) | omega)) | (refine' ite_yes ?cᵣ ?_; (case cᵣ => (first | (simp only [decide_eq_true_eq, beq_iff_eq, bne_iff_ne, ne_eq]; (first | assumption | exact Nat.le_trans (by assumption) (by decide) | omega)) | (first | assumption | exact Nat.le_trans (by assumption) (by decide) | omega)))) | (refine' ite_no ?cᵣ ?_; (case cᵣ => (first | (simp only [decide_eq_true_eq, beq_iff_eq, bne_iff_ne, ne_eq]; (first | assumption | exact Nat.le_trans (by assumption) (by decide) | omega)) | (first | assumption | exact Nat.le_trans (by assumption) (by decide) | omega))))) | walk1 | (dsimp only; walk1))) | (leave1; walk_say "STEP leave1"; try dsimp only) | fail "no step"))
      rename _ ∧ AllLt _ news => la
      rename _ ∧ AllLt _ news => la
      refine' hret _ _ _ ?zF (move2_8 ?zN) ?zO ?zG ⟨_, [_, _, _, _, _, _, _, _], op', rfl, rfl, hop', ?zR, ?zL⟩
      case zF => k_asm
      case zN => k_asm
      case zO => exact Eq.trans (by assumption) hos5
      case zG => assumption
      case zR => exact ⟨_, _, _, _, _, _, _, _, _, _, _, _, _, _, by k_mem, by k_mem⟩
      case zL =>
        repeat (refine List.forall_mem_cons.mpr ⟨⟨by omega, by first | exact la.2 | exact allLt_up la.2 (by omega)⟩, ?_⟩)
        exact fun _ h => nomatch h
-- MyDr





/-- a delegated role of the ledger -/
inductive IsDRole (w : World) (fam : Led) (x l : Addr) (th : Int) : Prop
  | mk (dx ud pd : Addr) (n : Nat) (nt : PySem.Str) (t1 t2 t3 t4 t5 t6 t7 t8 t9 : Tok) (_ : (x, instObj 514 dx) ∈ fam) (_ : (dx, dictOf [⟨hsh w "keyids", .str "keyids" t1, .ref l⟩, ⟨hsh w "threshold", .str "threshold" t2, .int th t3⟩, ⟨hsh w "unrecognized_fields", .str "unrecognized_fields" t4, .ref ud⟩, ⟨hsh w "name", .str "name" t5, .str nt t6⟩, ⟨hsh w "terminating", .str "terminating" t7, .bool false⟩, ⟨hsh w "paths", .str "paths" t8, .ref pd⟩, ⟨hsh w "path_hash_prefixes", .str "path_hash_prefixes" t9, .none⟩] n) ∈ fam) : IsDRole w fam x l th
theorem move0_7 {h₀ h : Heap} {L : Addr} {p e1 e2 e3 e4 e5 e6 e7 : Addr × Obj} {l : Led} (N : News h₀ L h (p :: e1 :: e2 :: e3 :: e4 :: e5 :: e6 :: e7 :: l)) : News h₀ L h (p :: ([e1, e2, e3, e4, e5, e6, e7] ++ l)) := N
inductive DroleCPost (w : World) (l : Addr) (th : Int) (news : Led) (r : Value) (news' : Led) : Prop
  | mk (x : Addr) (fam : Led) (op' : Obj) (_ : r = .ref x) (_ : news' = (465, op') :: (fam ++ news)) (_ : PlaceOk op') (_ : IsDRole w fam x l th) (_ : ∀ q ∈ fam, @LT.lt Nat _ 465 q.1 ∧ AllLt q.1 news) : DroleCPost w l th news r news'
theorem droleC_t (w : World) (l pd : Addr) (vs : List Value) (xs : List PySem.Str) (nn : Nat) (th : Int) (nt : PySem.Str) (t t1 : Tok) (op : Obj) (news : Led) (hl : (l, listOf vs.toArray nn) ∈ news) (hp : (pd, listOf #[] 0) ∈ news) (hv : StrsAre vs xs) (hd : dd xs = xs) (hz : xs.length ≤ 100) (hth : 1 ≤ th)
   (hop : PlaceOk op) (hnP : ∀ p ∈ news, p.1 ≠ 465) :
   DoesKS w 16 514 [.str nt t1, .ref l, .int th t, .bool false, .ref pd, .none] ((465, op) :: news) (DroleCPost w l th news) := by
  unfold DoesKS
  k_fill
  w_top off
  intro dp un gd cn nm ig ic mo a ccd cl outer base h₀ L m s mean mg mb Q E B F X N T hG hdp hun hret
  have hz2 : (dd xs).length ≤ 100 := by rw [hd]; exact hz
  have hvl := hv.length
  have hq : (dd xs).length = vs.toArray.size := by rw [hd, List.size_toArray, hvl]
  (repeat' (first | (k_unfold; (try dsimp only)) | ((try (with_reducible (show wpAny _ _ (exec _ _) _ _ _); k_fold)); (first | ((with_reducible refine tok_gen3 ?_); intro _) | ((with_reducible show wpAny _ _ (call (Value.builtin "len") _) _ _ _); (k_here; k_dflt (first | (refine' len_led ?Nᵣ ?mᵣ ?zᵣ ?_; (case Nᵣ => k_asm); (case mᵣ => k_mem); (case zᵣ => first | assumption | (simp only [List.size_toArray]; (first | assumption | exact Nat.le_trans (by assumption) (by decide) | omega)))) | (refine' len_set_led ?Nᵣ ?mᵣ ?oᵣ ?zᵣ ?_; (case Nᵣ => k_asm); (case mᵣ => k_mem); (case oᵣ => assumption); (case zᵣ => assumption))))) | ((with_reducible show wpAny _ _ (call (Value.type "set") _) _ _ _); (k_here; k_dflt (refine' call_set_led ?hhᵣ ?Fᵣ ?Nᵣ ?hmᵣ ?hvᵣ ?zᵣ ?_; (case hhᵣ => rfl); (case Fᵣ => k_asm); (case Nᵣ => k_asm); (case hmᵣ => k_mem); (case hvᵣ => assumption); (case zᵣ => assumption)); intro D'ᵣ h'ᵣ o'ᵣ tk'ᵣ F'ᵣ N'ᵣ hd'ᵣ l1'ᵣ; (try k_lt l1'ᵣ))) | ((with_reducible show wpAny _ _ (call (Value.ref _) _ _) _ _ _); (k_here; ks_any; k_dflt (refine' call_cls ?k1ᵣ ?k2ᵣ ?k3ᵣ ?k4ᵣ ?k5ᵣ ?k6ᵣ ?_; (case k1ᵣ => k_asm); (case k2ᵣ => k_asm); (case k3ᵣ => k_asm); (case k4ᵣ => k_is); (case k5ᵣ => k_is); (case k6ᵣ => k_is); intro x'ᵣ d'ᵣ h'ᵣ F'ᵣ N'ᵣ l1ᵣ l2ᵣ; (try k_lt l1ᵣ); (try k_lt2 l2ᵣ); (refine' ks_code_super ?j1ᵣ ?j2ᵣ ?j3ᵣ ?j4ᵣ ?j5ᵣ ?jAᵣ ?jFᵣ ?jKᵣ ?j6ᵣ ?j7ᵣ ?j8ᵣ ?j9ᵣ ?jBᵣ ?_ ?c1ᵣ ?c2ᵣ ?c3ᵣ ?c4ᵣ; (case jAᵣ => exact rfl); (case jFᵣ => exact rfl); (case jKᵣ => exact rfl); (case j1ᵣ => k_asm); (case j2ᵣ => k_asm); (case j3ᵣ => k_asm); (case j4ᵣ => k_asm); (case j5ᵣ => k_asm); (case j6ᵣ => k_is); (case j7ᵣ => k_is); (case j8ᵣ => k_room); (case j9ᵣ => exact binds_K (by k_in) rfl (by k_is) rfl rfl rfl); (case jBᵣ => exact locs rfl); (case c1ᵣ => decide); (case c2ᵣ => exact rfl); (case c3ᵣ => exact rfl); (case c4ᵣ => exact rfl); intro g'ᵣ L'ᵣ h'ᵣ FG'ᵣ F'ᵣ N'ᵣ B'ᵣ X'ᵣ T'ᵣ l1ᵣ; (try k_lt l1ᵣ); (try dsimp only); (try k_lift B'ᵣ))))) | ((with_reducible show ite _ _ _); first | (exfalso; (first | assumption | exact Nat.le_trans (by assumption) (by decide) | omega)) | (refine' ite_yes ?cᵣ ?_; (case cᵣ => (first | (simp only [decide_eq_true_eq, beq_iff_eq, bne_iff_ne, ne_eq]; (first | assumption | exact Nat.le_trans (by assumption) (by decide) | omega)) | (first | assumption | exact Nat.le_trans (by assumption) (by decide) | omega)))) | (refine' ite_no ?cᵣ ?_; (case cᵣ => (first | (simp only [decide_eq_true_eq, beq_iff_eq, bne_iff_ne, ne_eq]; (first | assumption | exact Nat.le_trans (by assumption) (by decide) | omega)) | (first | assumption | exact Nat.le_trans (by assumption) (by decide) | omega))))) | walk1 | (dsimp only; walk1))) | (leave1; walk_say "STEP leave1"; try dsimp only) | fail "no step"))
  refine' genexp_led (c := 469) (P := 465) ?T rfl rfl ?hc ?hcf rfl rfl ?hclos ?hcell rfl rfl rfl ?room ?main ?hs
  case T => k_asm
  case hc => exact (by k_asm : (K w.params).In _) _ _ (by k_is)
  case hcf => exact ⟨_, _, _, _, _, _, _, _, rfl, rfl, rfl, rfl, rfl, rfl, rfl, rfl⟩
  case hclos => rfl
  case hcell => decide
  case room => k_room
  case hs => intro _; with_unfolding_all rfl
  case main =>
    refine' nameX_L ?zF ?zv ?_ ?za ?zb
    case zF => k_asm
    case zv => rfl
    case za => rfl
    case zb => rfl
    refine' ⟨_, _, op, rfl, ?l, ?F, ?N, hop, ?ne, ?lp, hG, notNone #[.ref pd, .none], fun _ v => ∃ t, v = .int 1 t, ?q, ?k⟩
    case F => k_asm
    case l => exact led_list (by k_asm) (by k_mem)
    case N =>
      refine' take_sub ?N2 ?t2
      case N2 => k_asm
      case t2 => repeat (first | exact Take.head | apply Take.tail)
    case lp => k_ne
    case ne => k_all
    case q =>
      intro code h₃ href _ _ _
      refine quiet_one rfl (by decide) rfl fun i v hv => ?_
      rcases two_at hv with rfl | rfl
      · exact .inr ⟨_, rfl⟩
      · exact .inl rfl
    case k =>
      rintro op' a Kb s₅ F5 N5 hop' hG5 hos5 hL5 hb5 X5
      change Gen _ _ _ _ _ 1 _ _ at X5
      clear hG
      (repeat' (first | (k_unfold; (try dsimp only)) | ((try (with_reducible (show wpAny _ _ (exec _ _) _ _ _); k_fold)); (first | ((with_reducible refine tok_gen3 ?_); intro _) | ((with_reducible show wpAny _ _ (call (Value.builtin "sum") _) _ _ _); (k_here; k_dflt (refine' sum_led ?Fᵣ ?Nᵣ ?Gᵣ ?Xᵣ ?Lᵣ ?bᵣ ?hᵣ ?_; (case Fᵣ => k_asm); (case Nᵣ => k_asm); (case Gᵣ => assumption); (case Xᵣ => assumption); (case Lᵣ => assumption); (case bᵣ => assumption); (case hᵣ => (rintro _ _ ⟨_, _, eᵣ⟩; exact eᵣ))); intro s'ᵣ t'ᵣ F'ᵣ N'ᵣ G'ᵣ os'ᵣ)) | walk1 | (dsimp only; walk1))) | (leave1; walk_say "STEP leave1"; try dsimp only) | fail "no step"))
      rename AllBare _ => hG6
      refine' genexp_led (c := 469) (P := 465) ?T rfl rfl ?hc ?hcf rfl rfl ?hclos ?hcell rfl rfl rfl ?room ?main ?hs
      case T => k_asm
      case hc => exact (by k_asm : (K w.params).In _) _ _ (by k_is)
      case hcf => exact ⟨_, _, _, _, _, _, _, _, rfl, rfl, rfl, rfl, rfl, rfl, rfl, rfl⟩
      case hclos => rfl
      case hcell => decide
      case room => k_room
      case hs => intro _; with_unfolding_all rfl
      case main =>
        refine' nameX_L ?zF ?zv ?_ ?za ?zb
        case zF => k_asm
        case zv => rfl
        case za => rfl
        case zb => rfl
        refine' ⟨_, _, op', rfl, ?zl, ?zF, ?zN, hop', ?zne, ?zlp, hG6, fun _ => true, fun _ _ => False, ?zq, ?zk⟩
        case zF => k_asm
        case zl => exact led_list (l := pd) (its := #[]) (n := 0) (by k_asm) (by k_mem)
        case zN =>
          refine' take_sub ?zN2 ?zt2
          case zN2 => k_asm
          case zt2 => repeat (first | exact Take.head | apply Take.tail)
        case zlp => exact hnP (pd, _) hp
        case zne => k_all
        case zq =>
          intro code h₃ href _ _ _
          exact quiet_none rfl
        case zk =>
          rintro op2 a2 Kb2 s6 F6 N6 hop2 hG7 hos7 hL7 hb7 X7
          change Gen _ _ _ _ _ 0 _ _ at X7
          clear hG6 hG5
          (repeat' (first | (k_unfold; (try dsimp only)) | ((try (with_reducible (show wpAny _ _ (exec _ _) _ _ _); k_fold)); (first | ((with_reducible refine tok_gen3 ?_); intro _) | ((with_reducible show wpAny _ _ (call (Value.builtin "any") _) _ _ _); (k_here; k_dflt (refine' any_led ?Fᵣ ?Nᵣ ?Gᵣ ?Xᵣ ?Lᵣ ?bᵣ ?hᵣ ?_; (case Fᵣ => k_asm); (case Nᵣ => k_asm); (case Gᵣ => assumption); (case Xᵣ => assumption); (case Lᵣ => assumption); (case bᵣ => assumption); (case hᵣ => (rintro _ _ ⟨_, _, eᵣ⟩; exact eᵣ))); intro s'ᵣ F'ᵣ N'ᵣ G'ᵣ os'ᵣ)) | walk1 | (dsimp only; walk1))) | (leave1; walk_say "STEP leave1"; try dsimp only) | fail "no step"))
          rename _ ∧ AllLt _ news => la
          trace_state
          refine' hret _ _ _ ?wF (move0_7 ?wN) ?wO ?wG ⟨_, [_, _, _, _, _, _, _], op2, rfl, rfl, hop2, ?wR, ?wL⟩
          case wF => k_asm
          case wN => k_asm
          case wO => exact Eq.trans (by assumption) (Eq.trans hos7 (Eq.trans (by assumption) hos5))
          case wG => assumption
          case wR => exact ⟨_, _, _, _, _, _, _, _, _, _, _, _, _, _, by k_mem, by k_mem⟩
          case wL =>
            repeat (refine List.forall_mem_cons.mpr ⟨⟨by omega, by first | exact la.2 | exact allLt_up la.2 (by omega)⟩, ?_⟩)
            exact fun _ h => nomatch h
-- MySu





/-- succinct roles of the ledger -/
inductive IsSucc (w : World) (fam : Led) (x l : Addr) (th : Int) : Prop
  | mk (dx ud : Addr) (n : Nat) (t1 t2 t3 t4 t5 t6 t7 t8 t9 t10 t11 t12 : Tok) (_ : (x, instObj 588 dx) ∈ fam) (_ : (dx, dictOf [⟨hsh w "keyids", .str "keyids" t1, .ref l⟩, ⟨hsh w "threshold", .str "threshold" t2, .int th t3⟩, ⟨hsh w "unrecognized_fields", .str "unrecognized_fields" t4, .ref ud⟩, ⟨hsh w "bit_length", .str "bit_length" t5, .int 3 t6⟩, ⟨hsh w "name_prefix", .str "name_prefix" t7, .str "b" t8⟩, ⟨hsh w "number_of_bins", .str "number_of_bins" t9, .int 8 t10⟩, ⟨hsh w "suffix_len", .str "suffix_len" t11, .int 1 t12⟩] n) ∈ fam) : IsSucc w fam x l th
theorem move6 {h₀ h : Heap} {L : Addr} {e1 e2 e3 e4 e5 e6 : Addr × Obj} {l : Led} (N : News h₀ L h (e1 :: e2 :: e3 :: e4 :: e5 :: e6 :: l)) : News h₀ L h ([e1, e2, e3, e4, e5, e6] ++ l) := N
inductive SuccCPost (w : World) (l : Addr) (th : Int) (news : Led) (r : Value) (news' : Led) : Prop
  | mk (x : Addr) (fam : Led) (_ : r = .ref x) (_ : news' = fam ++ news) (_ : IsSucc w fam x l th) (_ : ∀ q ∈ fam, AllLt q.1 news) : SuccCPost w l th news r news'
theorem succC_t (w : World) (l : Addr) (vs : List Value) (xs : List PySem.Str) (nn : Nat) (th : Int) (t t1 t2 : Tok) (news : Led) (hl : (l, listOf vs.toArray nn) ∈ news) (hv : StrsAre vs xs) (hd : dd xs = xs) (hz : xs.length ≤ 100) (hth : 1 ≤ th) :
   DoesK w 16 588 [.ref l, .int th t, .int 3 t1, .str "b" t2] news (SuccCPost w l th news) := by
  unfold DoesK
  k_fill
  w_top off
  intro dp un gd cn nm ig ic mo a ccd cl outer base h₀ L m s mean mg mb Q E B F X N T hdp hun hret
  have hz2 : (dd xs).length ≤ 100 := by rw [hd]; exact hz
  have hvl := hv.length
  have hq : (dd xs).length = vs.toArray.size := by rw [hd, List.size_toArray, hvl]
  (repeat' (first | (k_unfold; (try dsimp only)) | ((try (with_reducible (show wpAny _ _ (exec _ _) _ _ _); k_fold)); (first | ((with_reducible refine tok_gen3 ?_); intro _) | ((with_reducible show wpAny _ _ (call (Value.builtin "len") _) _ _ _); (k_here; k_dflt (first | (refine' len_led ?Nᵣ ?mᵣ ?zᵣ ?_; (case Nᵣ => k_asm); (case mᵣ => k_mem); (case zᵣ => first | assumption | (simp only [List.size_toArray]; (first | assumption | exact Nat.le_trans (by assumption) (by decide) | omega)))) | (refine' len_set_led ?Nᵣ ?mᵣ ?oᵣ ?zᵣ ?_; (case Nᵣ => k_asm); (case mᵣ => k_mem); (case oᵣ => assumption); (case zᵣ => assumption))))) | ((with_reducible show wpAny _ _ (call (Value.type "set") _) _ _ _); (k_here; k_dflt (refine' call_set_led ?hhᵣ ?Fᵣ ?Nᵣ ?hmᵣ ?hvᵣ ?zᵣ ?_; (case hhᵣ => rfl); (case Fᵣ => k_asm); (case Nᵣ => k_asm); (case hmᵣ => k_mem); (case hvᵣ => assumption); (case zᵣ => assumption)); intro D'ᵣ h'ᵣ o'ᵣ tk'ᵣ F'ᵣ N'ᵣ hd'ᵣ l1'ᵣ; (try k_lt l1'ᵣ))) | ((with_reducible show wpAny _ _ (call (Value.ref _) _ _) _ _ _); (k_here; ks_any; k_dflt (refine' call_cls ?k1ᵣ ?k2ᵣ ?k3ᵣ ?k4ᵣ ?k5ᵣ ?k6ᵣ ?_; (case k1ᵣ => k_asm); (case k2ᵣ => k_asm); (case k3ᵣ => k_asm); (case k4ᵣ => k_is); (case k5ᵣ => k_is); (case k6ᵣ => k_is); intro x'ᵣ d'ᵣ h'ᵣ F'ᵣ N'ᵣ l1ᵣ l2ᵣ; (try k_lt l1ᵣ); (try k_lt2 l2ᵣ); (refine' ks_code_super ?j1ᵣ ?j2ᵣ ?j3ᵣ ?j4ᵣ ?j5ᵣ ?jAᵣ ?jFᵣ ?jKᵣ ?j6ᵣ ?j7ᵣ ?j8ᵣ ?j9ᵣ ?jBᵣ ?_ ?c1ᵣ ?c2ᵣ ?c3ᵣ ?c4ᵣ; (case jAᵣ => exact rfl); (case jFᵣ => exact rfl); (case jKᵣ => exact rfl); (case j1ᵣ => k_asm); (case j2ᵣ => k_asm); (case j3ᵣ => k_asm); (case j4ᵣ => k_asm); (case j5ᵣ => k_asm); (case j6ᵣ => k_is); (case j7ᵣ => k_is); (case j8ᵣ => k_room); (case j9ᵣ => exact binds_K (by k_in) rfl (by k_is) rfl rfl rfl); (case jBᵣ => exact locs rfl); (case c1ᵣ => decide); (case c2ᵣ => exact rfl); (case c3ᵣ => exact rfl); (case c4ᵣ => exact rfl); intro g'ᵣ L'ᵣ h'ᵣ FG'ᵣ F'ᵣ N'ᵣ B'ᵣ X'ᵣ T'ᵣ l1ᵣ; (try k_lt l1ᵣ); (try dsimp only); (try k_lift B'ᵣ))))) | ((with_reducible show ite _ _ _); first | (exfalso; (first | assumption | exact Nat.le_trans (by assumption) (by decide) | omega)) | (refine' ite_yes ?cᵣ ?_; (case cᵣ => (first | (simp only [decide_eq_true_eq, beq_iff_eq, bne_iff_ne, ne_eq]; (first | assumption | exact Nat.le_trans (by assumption) (by decide) | omega)) | (first | assumption | exact Nat.le_trans (by assumption) (by decide) | omega)))) | (refine' ite_no ?cᵣ ?_; (case cᵣ => (first | (simp only [decide_eq_true_eq, beq_iff_eq, bne_iff_ne, ne_eq]; (first | assumption | exact Nat.le_trans (by assumption) (by decide) | omega)) | (first | assumption | exact Nat.le_trans (by assumption) (by decide) | omega))))) | walk1 | (dsimp only; walk1))) | (leave1; walk_say "STEP leave1"; try dsimp only) | fail "no step"))
  refine' hret _ _ _ _ ?wF (move6 ?wN) ⟨_, [_, _, _, _, _, _], rfl, rfl, ?wR, ?wL⟩
  case wF => k_asm
  case wN => k_asm
  case wR => exact ⟨_, _, _, _, _, _, _, _, _, _, _, _, _, _, _, by k_mem, by k_mem⟩
  case wL =>
    rename ∀ p ∈ news, p.1 < _ => la
    repeat (refine List.forall_mem_cons.mpr ⟨by first | assumption | exact allLt_of la | exact allLt_up (allLt_of la) (by omega) | exact (by assumption : _ ∧ AllLt _ news).2 | exact (by assumption : _ ∧ _ ∧ AllLt _ news).2.2 | exact (by assumption : _ ∧ _ ∧ _ ∧ AllLt _ news).2.2.2 | exact (by assumption : _ ∧ _ ∧ _ ∧ _ ∧ AllLt _ news).2.2.2.2 | exact (by assumption : _ ∧ _ ∧ _ ∧ _ ∧ _ ∧ AllLt _ news).2.2.2.2.2, ?_⟩)
    exact fun _ h => nomatch h
-- MyDs





/-- delegations of the ledger -/
inductive IsDelg (w : World) (fam : Led) (x kd : Addr) (rv sv : Value) : Prop
  | mk (dx ud : Addr) (n : Nat) (t1 t2 t3 t4 : Tok) (_ : (x, instObj 639 dx) ∈ fam) (_ : (dx, dictOf [⟨hsh w "keys", .str "keys" t1, .ref kd⟩, ⟨hsh w "roles", .str "roles" t2, rv⟩, ⟨hsh w "succinct_roles", .str "succinct_roles" t3, sv⟩, ⟨hsh w "unrecognized_fields", .str "unrecognized_fields" t4, .ref ud⟩] n) ∈ fam) : IsDelg w fam x kd rv sv
theorem move1_4 {h₀ h : Heap} {L : Addr} {p e1 e2 e3 e4 : Addr × Obj} {l : Led} (N : News h₀ L h (e1 :: p :: e2 :: e3 :: e4 :: l)) : News h₀ L h (p :: ([e1, e2, e3, e4] ++ l)) :=
  newsSub N (by intro q hq; simp only [List.mem_cons, List.cons_append, List.nil_append] at *; grind)
inductive DelgSPost (w : World) (kd sr : Addr) (news : Led) (r : Value) (news' : Led) : Prop
  | mk (x : Addr) (fam : Led) (op' : Obj) (_ : r = .ref x) (_ : news' = (600, op') :: (fam ++ news)) (_ : PlaceOk op') (_ : IsDelg w fam x kd .none (.ref sr)) (_ : ∀ q ∈ fam, @LT.lt Nat _ 600 q.1 ∧ AllLt q.1 news) : DelgSPost w kd sr news r news'
theorem delgS_t (w : World) (kd sr : Addr) (op : Obj) (news : Led)
   (hop : PlaceOk op) (hnP : ∀ p ∈ news, p.1 ≠ 600) :
   DoesKS w 16 639 [.ref kd, .none, .ref sr] ((600, op) :: news) (DelgSPost w kd sr news) := by
  unfold DoesKS
  k_fill
  w_top off
  intro dp un gd cn nm ig ic mo a ccd cl outer base h₀ L m s mean mg mb Q E B F X N T hG hdp hun hret
  (repeat' (first | (k_unfold; (try dsimp only)) | ((try k_fold); (first | ((with_reducible refine tok_gen3 ?_); intro _) | walk1)) | (dsimp only; walk1) | (leave1; walk_say "STEP leave1"; try dsimp only) | fail "no step"))
  refine' genexp_gen (c := 604) (P := 600) ?T rfl rfl ?hc ?hcf rfl rfl ?hclos ?hcell rfl rfl rfl ?room ?main
  case T => k_asm
  case hc => exact (by k_asm : (K w.params).In _) _ _ (by k_is)
  case hcf => exact ⟨_, _, _, _, _, _, _, _, rfl, rfl, rfl, rfl, rfl, rfl, rfl, rfl⟩
  case hclos => rfl
  case hcell => decide
  case room => k_room
  case main =>
    (repeat' (first | (k_unfold; (try dsimp only)) | ((try k_fold); (first | ((with_reducible refine tok_gen3 ?_); intro _) | walk1)) | (dsimp only; walk1) | (leave1; walk_say "STEP leave1"; try dsimp only) | fail "no step"))
    refine' fold_list_any (its := #[.none, .ref sr]) (n := 0) ?zF ?zN ?zm (Nat.le_of_ble_eq_true rfl) ?_
    case zF => k_asm
    case zN => k_asm
    case zm => k_mem
    intro lr hr Fr9 Nr9 hst9 hlr9
    refine' ⟨_, _, _, op, rfl, hst9, ?F, ?N, hop, ?ne, ?lp, hG, notNone #[.none, .ref sr], fun _ v => ∃ t, v = .int 1 t, ?q, ?k⟩
    case F => k_asm
    case N =>
      refine' take_sub ?N2 ?t2
      case N2 => exact Nr9
      case t2 => repeat (first | exact Take.head | apply Take.tail)
    case lp => 
      rcases hlr9 with rfl | hlr9
      · k_ne
      · exact Nat.ne_of_gt (hlr9 (600, op) (by k_mem))
    case ne => k_all
    case q =>
      intro code h₃ href _ _ _
      refine quiet_one rfl (by decide) rfl fun i v hv => ?_
      rcases two_at hv with rfl | rfl
      · exact .inl rfl
      · exact .inr ⟨_, rfl⟩
    case k =>
      clear hst9 hlr9 Fr9 Nr9
      rintro op' a Kb s₅ F5 N5 hop' hG5 hos5 hL5 hb5 X5
      change Gen _ _ _ _ _ 1 _ _ at X5
      clear hG
      (repeat' (first | (k_unfold; (try dsimp only)) | ((try k_fold); (first | ((with_reducible refine tok_gen3 ?_); intro _) | ((with_reducible show wpAny _ _ (call (Value.builtin "sum") _) _ _ _); (k_here; k_dflt (refine' sum_led ?Fᵣ ?Nᵣ ?Gᵣ ?Xᵣ ?Lᵣ ?bᵣ ?hᵣ ?_; (case Fᵣ => k_asm); (case Nᵣ => k_asm); (case Gᵣ => assumption); (case Xᵣ => assumption); (case Lᵣ => assumption); (case bᵣ => assumption); (case hᵣ => (rintro _ _ ⟨_, _, eᵣ⟩; exact eᵣ))); intro s'ᵣ t'ᵣ F'ᵣ N'ᵣ G'ᵣ os'ᵣ)) | walk1)) | (dsimp only; walk1) | (leave1; walk_say "STEP leave1"; try dsimp only) | fail "no step"))
      rename _ ∧ AllLt _ news => la
      refine' hret _ _ _ ?wF (move1_4 ?wN) ?wO ?wG ⟨_, [_, _, _, _], op', rfl, rfl, hop', ?wR, ?wL⟩
      case wF => k_asm
      case wN => k_asm
      case wO => exact Eq.trans (by assumption) hos5
      case wG => assumption
      case wR => exact ⟨_, _, _, _, _, _, _, by k_mem, by k_mem⟩
      case wL =>
        repeat (refine List.forall_mem_cons.mpr ⟨⟨by omega, by first | exact la.2 | exact allLt_up la.2 (by omega)⟩, ?_⟩)
        exact fun _ h => nomatch h
-- MyDg





def JD (ns : List PySem.Str) (m₀ : PySem.Str → Option Value) (led₀ : Led) (_ : Nat) (m : PySem.Str → Option Value) (led : Led) : Prop := ExSh ns m₀ m ∧ led = led₀
theorem in_topnames {w : World} {A : Around} {E : Value → Shared → Prop} {s : Shared} {h₀ : Heap} {L : Addr} {m : PySem.Str → Option Value} {x : PySem.Str} {u : Tok} {Q : Value → Shared → Prop} (F : Fr h₀ L s.heap m) (X : (K w.params).In h₀)
    (hx : ([Str.ofString "root", Str.ofString "timestamp", Str.ofString "snapshot", Str.ofString "targets"].any (· == x)) = false) (h : Q (.bool false) s) : wpAny (model PySem.Challenge.rw_je0043_01.row.toRowW.1 w) A (compareOp .In (.str x u) (.ref 160)) Q E s := by
  refine in_tuple_strs (ys := [Str.ofString "root", Str.ofString "timestamp", Str.ofString "snapshot", Str.ofString "targets"]) ⟨_, keep_K F X (show _ = some (⟨.type "tuple", none, (.seq #[.str "root" 411, .str "timestamp" 412, .str "snapshot" 413, .str "targets" 414] 0), #[]⟩ : Obj) from by kernel_rfl), rfl, _, rfl⟩ ?_ (by rw [hx]; exact h)
  exact .cons _ _ (.cons _ _ (.cons _ _ (.cons _ _ .nil)))
inductive DelgRPost (w : World) (kd rd : Addr) (news : Led) (r : Value) (news' : Led) : Prop
  | mk (x : Addr) (fam : Led) (op' : Obj) (_ : r = .ref x) (_ : news' = (600, op') :: (fam ++ news)) (_ : PlaceOk op') (_ : IsDelg w fam x kd (.ref rd) .none) (_ : ∀ q ∈ fam, @LT.lt Nat _ 600 q.1 ∧ AllLt q.1 news) : DelgRPost w kd rd news r news'
theorem delgR_t (w : World) (kd rd r1 r2 : Addr) (ord op : Obj) (news : Led) (hrm : (rd, ord) ∈ news) (hrd : ord.IsDictOf (PySem.strKind PM w) [(Str.ofString "r", .ref r1), (Str.ofString "s", .ref r2)]) (hrs : (rd == sysModules) = false)
   (hop : PlaceOk op) (hnP : ∀ p ∈ news, p.1 ≠ 600) :
   DoesKS w 16 639 [.ref kd, .ref rd] ((600, op) :: news) (DelgRPost w kd rd news) := by
  unfold DoesKS
  k_fill
  w_top off
  intro dp un gd cn nm ig ic mo a ccd cl outer base h₀ L m s mean mg mb Q E B F X N T hG hdp hun hret
  (repeat' (first | (k_unfold; (try dsimp only)) | ((try k_fold); (first | ((with_reducible refine tok_gen3 ?_); intro _) | walk1)) | (dsimp only; walk1) | (leave1; walk_say "STEP leave1"; try dsimp only) | fail "no step"))
  refine' genexp_gen (c := 604) (P := 600) ?T rfl rfl ?hc ?hcf rfl rfl ?hclos ?hcell rfl rfl rfl ?room ?main
  case T => k_asm
  case hc => exact (by k_asm : (K w.params).In _) _ _ (by k_is)
  case hcf => exact ⟨_, _, _, _, _, _, _, _, rfl, rfl, rfl, rfl, rfl, rfl, rfl, rfl⟩
  case hclos => rfl
  case hcell => decide
  case room => k_room
  case main =>
    (repeat' (first | (k_unfold; (try dsimp only)) | ((try k_fold); (first | ((with_reducible refine tok_gen3 ?_); intro _) | walk1)) | (dsimp only; walk1) | (leave1; walk_say "STEP leave1"; try dsimp only) | fail "no step"))
    refine' fold_list_any (its := #[.ref rd, .none]) (n := 0) ?zF ?zN ?zm (Nat.le_of_ble_eq_true rfl) ?_
    case zF => k_asm
    case zN => k_asm
    case zm => k_mem
    intro lr hr Fr9 Nr9 hst9 hlr9
    refine' ⟨_, _, _, op, rfl, hst9, ?F, ?N, hop, ?ne, ?lp, hG, notNone #[.ref rd, .none], fun _ v => ∃ t, v = .int 1 t, ?q, ?k⟩
    case F => k_asm
    case N =>
      refine' take_sub ?N2 ?t2
      case N2 => exact Nr9
      case t2 => repeat (first | exact Take.head | apply Take.tail)
    case lp => 
      rcases hlr9 with rfl | hlr9
      · k_ne
      · exact Nat.ne_of_gt (hlr9 (600, op) (by k_mem))
    case ne => k_all
    case q =>
      intro code h₃ href _ _ _
      refine quiet_one rfl (by decide) rfl fun i v hv => ?_
      rcases two_at hv with rfl | rfl
      · exact .inr ⟨_, rfl⟩
      · exact .inl rfl
    case k =>
      clear hst9 hlr9 Fr9 Nr9
      rintro op' a Kb s₅ F5 N5 hop' hG5 hos5 hL5 hb5 X5
      change Gen _ _ _ _ _ 1 _ _ at X5
      clear hG
      (repeat' (first | (k_unfold; (try dsimp only)) | ((try k_fold); (first | ((with_reducible refine tok_gen3 ?_); intro _) | ((with_reducible show wpAny _ _ (exec (Stmt.For _ _ _ _ _) _) _ _ _); (k_here; refine wpAny_For ?_ (by intro _; with_unfolding_all rfl))) | ((with_reducible show wpAny _ _ (call (Value.builtin "sum") _) _ _ _); (k_here; k_dflt (refine' sum_led ?Fᵣ ?Nᵣ ?Gᵣ ?Xᵣ ?Lᵣ ?bᵣ ?hᵣ ?_; (case Fᵣ => k_asm); (case Nᵣ => k_asm); (case Gᵣ => assumption); (case Xᵣ => assumption); (case Lᵣ => assumption); (case bᵣ => assumption); (case hᵣ => (rintro _ _ ⟨_, _, eᵣ⟩; exact eᵣ))); intro s'ᵣ t'ᵣ F'ᵣ N'ᵣ G'ᵣ os'ᵣ)) | walk1)) | (dsimp only; walk1) | (leave1; walk_say "STEP leave1"; try dsimp only) | fail "no step"))
      refine' iterG_dict rfl ?xF ?xN ?xm hrs hrd (by rfl) (by rfl) (by rfl) (@Eq Heap _) (JD ["role"] _ _) rfl (fun _ e _ h => e ▸ h) ⟨exsh_refl _ _, rfl⟩ ?xs ?xt ?xd
      case xF => k_asm
      case xN => k_asm
      case xm => k_mem
      case xs =>
        rintro i m led ⟨-, rfl⟩
        k_mem
      case xt =>
        rintro i k t g m₁ led I oI h tk hk rfl ⟨⟨f, rfl⟩, rfl⟩ hne F1 N1
        obtain rfl | rfl : k = Str.ofString "r" ∨ k = Str.ofString "s" := by
          match i with
          | 0 => exact .inl (Option.some.inj hk).symm
          | 1 => exact .inr (Option.some.inj hk).symm
          | i + 2 => cases hk
        all_goals
          (repeat' (first | (k_unfold; (try dsimp only)) | ((try k_fold); (first | ((with_reducible refine tok_gen3 ?_); intro _) | ((with_reducible show wpAny _ _ (compareOp CmpOp.In (Value.str _ _) (Value.ref _)) _ _ _); (k_here; k_dflt (refine in_topnames (by k_asm) (by k_asm) (by decide) ?_))) | walk1)) | (dsimp only; walk1) | (leave1; walk_say "STEP leave1"; try dsimp only) | fail "no step"))
          refine' turnEndI ?hG ?hF ?hN ?ne ?hJ ?hf
          case hG => exact rfl
          case hF => k_asm
          case hN => k_asm
          case hf => exact Or.inl rfl
          case hJ => exact ⟨exsh_upd (by decide) (exsh_f _ _ _), rfl⟩
          case ne => exact hne
      case xd =>
        rintro g m led h tk rfl ⟨⟨f, rfl⟩, rfl⟩ F1 N1
        dsimp only
        (repeat' (first | (k_unfold; (try dsimp only)) | ((try k_fold); (first | ((with_reducible refine tok_gen3 ?_); intro _) | walk1)) | (dsimp only; walk1) | (leave1; walk_say "STEP leave1"; try dsimp only) | fail "no step"))
        rename _ ∧ AllLt _ news => la
        refine' hret _ _ _ ?wF (move1_4 ?wN) ?wO ?wG ⟨_, [_, _, _, _], op', rfl, rfl, hop', ?wR, ?wL⟩
        case wF => k_asm
        case wN => k_asm
        case wO => exact Eq.trans (by assumption) hos5
        case wG => assumption
        case wR => exact ⟨_, _, _, _, _, _, _, by k_mem, by k_mem⟩
        case wL =>
          repeat (refine List.forall_mem_cons.mpr ⟨⟨by omega, by first | exact la.2 | exact allLt_up la.2 (by omega)⟩, ?_⟩)
          exact fun _ h => nomatch h
-- MyGg





/-- the loop's state -/
inductive GJ (w : World) (kn : Int → Option Addr) (sg : Int → Option PySem.Str) (P : PySem.Str) (ks : List Int) (m₀ : PySem.Str → Option Value) (S U : Addr) (news : Led) (i : Nat) (m : PySem.Str → Option Value) (led : Led) : Prop
  | mk (oS oU : Obj) (f : PySem.Str → Option Value) (_ : m = ShL ["keyid", "key", "sig"] f m₀) (_ : led = (U, oU) :: (S, oS) :: news) (_ : oS.IsDictOf (PySem.strKind PM w) (kvOf kn ((ks.take i).filter (isS kn sg P)))) (_ : oU.IsDictOf (PySem.strKind PM w) (kvOf kn ((ks.take i).filter (isU kn sg P)))) : GJ w kn sg P ks m₀ S U news i m led
inductive GvrPost (w : World) (th : Int) (ks : List Int) (kn : Int → Option Addr) (sg : Int → Option PySem.Str) (P : PySem.Str) (news : Led) (r : Value) (news' : Led) : Prop
  | mk (vr : Addr) (tl : Led) (_ : r = .ref vr) (_ : news' = tl ++ news) (_ : IsVR w (tl ++ news) vr th kn (ks.filter (isS kn sg P)) (ks.filter (isU kn sg P))) : GvrPost w th ks kn sg P news r news'
theorem gvr_t (w : World) (x fD fK rr l sd : Addr) (nm : PySem.Str) (th : Int) (vs : List Value) (nn : Nat) (ks : List Int) (kn : Int → Option Addr) (sg : Int → Option PySem.Str) (P : PySem.Str) (t t0 : Tok) (news : Led)
   (hF : Finds w news x fD fK) (hD : Delegates w news x fD fK nm rr l th kn) (hkm : ∀ k y, 0 ≤ k → k < 5 → kn k = some y → IsKey w news y k) (hl : (l, listOf vs.toArray nn) ∈ news) (hvs : StrsAre vs (ks.map kN)) (h5 : Good5 ks) (hs : SigsIn w news sd sg)
   (hPa : Ascii P) (hPl : P.length ≤ 10) (hsa : ∀ k tx, sg k = some tx → Ascii tx) :
   Does w 14 362 [.ref x, .str nm t0, .bytes (bytesOf P) t, .ref sd] news (GvrPost w th ks kn sg P news) := by
  unfold Does
  k_fill
  w_top off
  show Does w 14 362 _ _ _
  refine' does_of (binds := [("self", .ref x), ("delegated_role", .str nm t0), ("payload", .bytes (bytesOf P) t), ("signatures", .ref sd)]) ?ho ?hcd (fun _ => BindsTo.of_eq ?hb) ?hl ?h1 ?h2 ?h3 ?h4 ?h5 ?h
  case ho => k_is
  case hcd => k_is
  case hb => exact rfl
  case hl => exact locs rfl
  case h1 => exact rfl
  case h2 => exact rfl
  case h3 => exact rfl
  case h4 => decide
  case h5 => decide
  intro dp un gd outer base g L s mean mg mb B F X N T XB TB D hlt hdp hun
  obtain ⟨hM1, hM2, hM3, hM4, hkD, hkK⟩ := hF
  obtain ⟨HD, HK, HN, hA1, tA, hA2⟩ := hD
  have T0 : KtsTurn (frs outer) g g := KtsTurn.refl
  have Tz := T
  with_unfolding_all show wpAny _ _ (execs (_ :: _) _) _ _ _
  refine letAV ?_
  intro Vᵣ Aᵣ
  (repeat' (first | (k_unfold; (try dsimp only)) | ((try (with_reducible (show wpAny _ _ (exec _ _) _ _ _); k_fold)); (first | ((with_reducible refine tok_gen3 ?_); intro _) | ((with_reducible show wpAny _ _ (exec (Stmt.For _ _ _ _ _) _) _ _ _); (k_here; refine wpAny_For ?_ (by intro _; with_unfolding_all rfl))) | ((with_reducible show wpAny _ _ (callWith _ (Value.ref _) _ _ _) _ _ _); (k_here; k_dflt (refine' callWith_K ?Xᵣ ?kᵣ ?_; (case Xᵣ => k_asm); (case kᵣ => assumption); k_whole))) | ((with_reducible show wpAny _ _ (call (Value.ref _) _ _) _ _ _); (k_here; k_dflt (refine' useC (by assumption) ?sᵣ ?Bᵣ ?Fᵣ ?Xᵣ ?Nᵣ ?Tᵣ ?dᵣ ?uᵣ ?_; (case Bᵣ => k_asm); (case Fᵣ => k_asm); (case Xᵣ => k_asm); (case Nᵣ => k_asm); (case Tᵣ => k_asm); (case sᵣ => (intro pᵣ hpᵣ; (repeat (first | exact hpᵣ | refine List.mem_cons_of_mem _ ?_)))); (case dᵣ => ktr_room); (case uᵣ => ((try simp only [units_deeper, units_under_make]); ktr_units)); k_whole; intro h'ᵣ tk'ᵣ F'ᵣ N'ᵣ; (try dsimp only)))) | ((with_reducible show wpAny _ _ (getAttr (Value.ref _) _ _) _ _ _); (k_here; k_dflt (refine' AttrIs.use (by assumption) ?Fᵣ ?Xᵣ ?Nᵣ ?sᵣ ?_; (case Fᵣ => k_asm); (case Xᵣ => k_asm); (case Nᵣ => k_asm); (case sᵣ => (intro pᵣ hpᵣ; (repeat (first | exact hpᵣ | refine List.mem_cons_of_mem _ ?_)))); k_whole); intro _)) | ((with_reducible show wpAny _ _ (getMethod (Value.ref _) _ _) _ _ _); (k_here; k_dflt (refine' MethIs.use (by assumption) ?Fᵣ ?Xᵣ ?Nᵣ ?sᵣ ?_; (case Fᵣ => k_asm); (case Xᵣ => k_asm); (case Nᵣ => k_asm); (case sᵣ => (intro pᵣ hpᵣ; (repeat (first | exact hpᵣ | refine List.mem_cons_of_mem _ ?_)))); k_whole))) | walk1 | (dsimp only; walk1))) | (leave1; walk_say "STEP leave1"; try dsimp only) | fail "no step"))
  obtain ⟨os, svs, hos, hsd, hslo, hsall⟩ := hs
  rename _ ∧ AllLt _ news => h2
  rename Fr g L _ _ => F5
  rename News g L _ _ => N5
  refine' iterL (l := l) (vs := vs) (nn := nn) rfl F5 N5 ?m0 (by rfl) (by rfl) (by rfl) (Turned w (cTop0 dp un gd outer) base outer mean mg mb g) (GJ w kn sg P ks _ _ _ news) ⟨T0, by k_asm, by k_asm, by k_asm, by k_asm⟩ (fun _ h a e => h.T0.none_ a e) ⟨_, _, _, (exsh_refl _ _).choose_spec, rfl, by assumption, by assumption⟩ ?src ?turn ?done
  case m0 => k_mem
  case src =>
    rintro i m led ⟨oS, oU, f, -, rfl, -, -⟩
    k_mem
  case turn =>
    clear F5 N5
    rintro i v g' m₁ led I oI h tk R' TE hv ⟨T1, B1, X1, Tp1, D1⟩ ⟨oS, oU, f, rfl, rfl, hy, hz⟩ hne F1 N1 hTE
    obtain ⟨k, t9, rfl, hki⟩ := names_at hvs hv
    have hkb := h5.bound k (List.mem_of_getElem? hki)
    have hs1 := hsall k hkb.1 hkb.2
    have hI1 : (@Ne Nat _ I) := hne (_, _) List.mem_cons_self
    have hI2 : (@Ne Nat _ I) := hne (_, _) (List.mem_cons_of_mem _ List.mem_cons_self)
    have hyl := kvOf_len (kn := kn) (f := isS kn sg P) (i := i) h5
    have hzl := kvOf_len (kn := kn) (f := isU kn sg P) (i := i) h5
    have hkl := kN_len10 hkb.1 (by omega)
    have Tz1 := Tp1
    cases hkn : kn k with
    | none =>
      have HN1 := HN k hkb.1 hkb.2 hkn
      (repeat' (first | (k_unfold; (try dsimp only)) | ((try (with_reducible (show wpAny _ _ (exec _ _) _ _ _); k_fold)); (first | ((with_reducible refine tok_gen3 ?_); intro _) | ((with_reducible show wpAny _ _ (callWith _ (Value.ref _) _ _ _) _ _ _); (k_here; k_dflt (refine' callWith_K ?Xᵣ ?kᵣ ?_; (case Xᵣ => k_asm); (case kᵣ => assumption); k_whole))) | ((with_reducible show wpAny _ _ (call (Value.ref _) _ _) _ _ _); (k_here; k_dflt (refine' useV ((by assumption : CallsV _ _ _ _ _ _) _ _ ?sᵣ) ?Bᵣ ?Fᵣ ?Xᵣ ?Nᵣ ?Tᵣ ?XBᵣ ?TBᵣ ?Dᵣ ?dᵣ ?uᵣ ?_; (case Bᵣ => k_asm); (case Fᵣ => k_asm); (case Xᵣ => k_asm); (case Nᵣ => k_asm); (case Tᵣ => k_asm); (case XBᵣ => k_asm); (case TBᵣ => k_asm); (case Dᵣ => k_asm); (case sᵣ => (intro pᵣ hpᵣ; (repeat (first | exact hpᵣ | refine List.mem_cons_of_mem _ ?_)))); (case dᵣ => ktr_room); (case uᵣ => ((try simp only [units_deeper, units_under_make]); ktr_units)); k_whole; intro e9ᵣ h'ᵣ tk'ᵣ g9ᵣ F9ᵣ R9ᵣ R9'ᵣ U9ᵣ; (try dsimp only)))) | ((with_reducible show wpAny _ _ (getMethod (Value.ref _) _ _) _ _ _); (k_here; k_dflt (refine' MethIs.use (by assumption) ?Fᵣ ?Xᵣ ?Nᵣ ?sᵣ ?_; (case Fᵣ => k_asm); (case Xᵣ => k_asm); (case Nᵣ => k_asm); (case sᵣ => (intro pᵣ hpᵣ; (repeat (first | exact hpᵣ | refine List.mem_cons_of_mem _ ?_)))); k_whole))) | walk1 | (dsimp only; walk1))) | (leave1; walk_say "STEP leave1"; try dsimp only) | fail "no step"))
      refine' hTE _ _ _ _ _ _ ?hG ?hF ?hN ?ne ?hJ (.inr rfl)
      case hG => exact ⟨by assumption, by assumption, by assumption, by assumption, by assumption⟩
      case hF => k_asm
      case hN => k_asm
      case hJ => exact ⟨_, _, _, (exsh_upd (by decide) (exsh_f _ _ _)).choose_spec, rfl, kvOf_skip hki (isS_no hkn) hy, kvOf_skip hki (isU_no hkn) hz⟩
      case ne => exact List.forall_mem_cons.mpr ⟨hI1, List.forall_mem_cons.mpr ⟨hI2, fun p hp => hne p (List.mem_cons_of_mem _ (List.mem_cons_of_mem _ hp))⟩⟩
    | some y =>
      have HK1 := HK k y hkb.1 hkb.2 hkn
      obtain ⟨hk0, hk5⟩ := hkb
      rcases hs1 with ⟨hsg, hsv⟩ | ⟨tx, z, hsg, hsv, hsig⟩
      · (repeat' (first | (k_unfold; (try dsimp only)) | ((try (with_reducible (show wpAny _ _ (exec _ _) _ _ _); k_fold)); (first | ((with_reducible refine tok_gen3 ?_); intro _) | ((with_reducible show wpAny _ _ (compareOp CmpOp.NotIn (Value.str _ _) (Value.ref _)) _ _ _); (k_here; k_dflt (first | refine kdg_notin (knd := PySem.strKind _ _) (by k_asm) (by k_mem) (by k_asm) (by k_asm) (strKind_is _ _ _ _) true (isSome_of (by first | with_reducible assumption | assumption | rfl)) ?_ | refine kdg_notin (knd := PySem.strKind _ _) (by k_asm) (by k_mem) (by k_asm) (by k_asm) (strKind_is _ _ _ _) false (isNone_of (by first | with_reducible assumption | assumption | rfl)) ?_))) | ((with_reducible show wpAny _ _ (setItem (Value.ref _) (Value.str _ _) _) _ _ _); (k_here; k_dflt (refine' kda_set (knd := PySem.strKind _ _) ?Fᵣ ?Nᵣ ?Uᵣ ?dᵣ (strKind_is _ _ _ _) ?zᵣ ?_; (case Fᵣ => k_asm); (case Nᵣ => k_asm); (case Uᵣ => k_updF); (case dᵣ => k_asm); (case zᵣ => (rw [sizeLine_eq]; (first | assumption | exact Nat.le_trans (by assumption) (by decide) | omega)))); intro h'ᵣ o'ᵣ F'ᵣ N'ᵣ hd'ᵣ; (try dsimp only at N'ᵣ))) | ((with_reducible show wpAny _ _ (callWith _ (Value.ref _) _ _ _) _ _ _); (k_here; k_dflt (refine' callWith_K ?Xᵣ ?kᵣ ?_; (case Xᵣ => k_asm); (case kᵣ => assumption); k_whole))) | ((with_reducible show wpAny _ _ (call (Value.ref _) _ _) _ _ _); (k_here; k_dflt (refine' useC (by assumption) ?sᵣ ?Bᵣ ?Fᵣ ?Xᵣ ?Nᵣ ?Tᵣ ?dᵣ ?uᵣ ?_; (case Bᵣ => k_asm); (case Fᵣ => k_asm); (case Xᵣ => k_asm); (case Nᵣ => k_asm); (case Tᵣ => k_asm); (case sᵣ => (intro pᵣ hpᵣ; (repeat (first | exact hpᵣ | refine List.mem_cons_of_mem _ ?_)))); (case dᵣ => ktr_room); (case uᵣ => ((try simp only [units_deeper, units_under_make]); ktr_units)); k_whole; intro h'ᵣ tk'ᵣ F'ᵣ N'ᵣ; (try dsimp only)))) | ((with_reducible show wpAny _ _ (getMethod (Value.ref _) _ _) _ _ _); (k_here; k_dflt (refine' MethIs.use (by assumption) ?Fᵣ ?Xᵣ ?Nᵣ ?sᵣ ?_; (case Fᵣ => k_asm); (case Xᵣ => k_asm); (case Nᵣ => k_asm); (case sᵣ => (intro pᵣ hpᵣ; (repeat (first | exact hpᵣ | refine List.mem_cons_of_mem _ ?_)))); k_whole))) | walk1 | (dsimp only; walk1))) | (leave1; walk_say "STEP leave1"; try dsimp only) | fail "no step"))
        refine' hTE _ _ _ _ _ _ ?hG ?hF ?hN ?ne ?hJ (.inr rfl)
        case hG => exact ⟨by assumption, by assumption, by assumption, by assumption, by assumption⟩
        case hF => k_asm
        case hN => k_asm
        case hJ => exact ⟨_, _, _, (exsh_upd (by decide) (exsh_upd (by decide) (exsh_f _ _ _))).choose_spec, rfl, kvOf_skip hki (isS_none hsg) hy, kvOf_step h5 hki (isU_none hkn hsg) hkn (by assumption)⟩
        case ne => exact List.forall_mem_cons.mpr ⟨hI1, List.forall_mem_cons.mpr ⟨hI2, fun p hp => hne p (List.mem_cons_of_mem _ (List.mem_cons_of_mem _ hp))⟩⟩
      · obtain ⟨dy, uy, ouy, ny, t1, t2, t3, t4, t5, hy1, hy2, hy3, hy4⟩ := hsig
        have ha1 := ascii_pN k hk0 (by omega)
        have ha2 := hsa _ _ hsg
        have hz1 := pN_len10 k hk0 (by omega)
        obtain ⟨dk, kv, ukd, okv, ouk, nk, q1, q2, q3, q4, q5, q6, q7, q8, q9, hq1, hq2, hq3, hq4, hq5, hq6, hq7, hq8⟩ := hkm k y hk0 hk5 hkn
        (repeat' (first | (k_unfold; (try dsimp only)) | ((try (with_reducible (show wpAny _ _ (exec _ _) _ _ _); k_fold)); (first | ((with_reducible refine tok_gen3 ?_); intro _) | ((with_reducible show wpAny _ _ (binaryOp Operator.Add (Value.bytes _ _) (Value.bytes _ _)) _ _ _); (k_here; k_dflt (refine KBy.add_bytes (by simp only [Array.size_append, bytesOf_size, List.size_toArray, List.length_cons, List.length_nil]; (first | assumption | exact Nat.le_trans (by assumption) (by decide) | omega)) ?_; intro _ _))) | ((with_reducible show wpAny _ _ (compareOp CmpOp.NotIn (Value.str _ _) (Value.ref _)) _ _ _); (k_here; k_dflt (first | refine kdg_notin (knd := PySem.strKind _ _) (by k_asm) (by k_mem) (by k_asm) (by k_asm) (strKind_is _ _ _ _) true (isSome_of (by first | with_reducible assumption | assumption | rfl)) ?_ | refine kdg_notin (knd := PySem.strKind _ _) (by k_asm) (by k_mem) (by k_asm) (by k_asm) (strKind_is _ _ _ _) false (isNone_of (by first | with_reducible assumption | assumption | rfl)) ?_))) | ((with_reducible show wpAny _ _ (setItem (Value.ref _) (Value.str _ _) _) _ _ _); (k_here; k_dflt (refine' kda_set (knd := PySem.strKind _ _) ?Fᵣ ?Nᵣ ?Uᵣ ?dᵣ (strKind_is _ _ _ _) ?zᵣ ?_; (case Fᵣ => k_asm); (case Nᵣ => k_asm); (case Uᵣ => k_updF); (case dᵣ => k_asm); (case zᵣ => (rw [sizeLine_eq]; (first | assumption | exact Nat.le_trans (by assumption) (by decide) | omega)))); intro h'ᵣ o'ᵣ F'ᵣ N'ᵣ hd'ᵣ; (try dsimp only at N'ᵣ))) | ((with_reducible show wpAny _ _ (callWith _ (Value.ref _) _ _ _) _ _ _); (k_here; k_dflt (refine' callWith_K ?Xᵣ ?kᵣ ?_; (case Xᵣ => k_asm); (case kᵣ => assumption); k_whole))) | ((with_reducible show wpAny _ _ (call (Value.ref _) _ _) _ _ _); (k_here; k_dflt (refine' useC (by assumption) ?sᵣ ?Bᵣ ?Fᵣ ?Xᵣ ?Nᵣ ?Tᵣ ?dᵣ ?uᵣ ?_; (case Bᵣ => k_asm); (case Fᵣ => k_asm); (case Xᵣ => k_asm); (case Nᵣ => k_asm); (case Tᵣ => k_asm); (case sᵣ => (intro pᵣ hpᵣ; (repeat (first | exact hpᵣ | refine List.mem_cons_of_mem _ ?_)))); (case dᵣ => ktr_room); (case uᵣ => ((try simp only [units_deeper, units_under_make]); ktr_units)); k_whole; intro h'ᵣ tk'ᵣ F'ᵣ N'ᵣ; (try dsimp only)))) | ((with_reducible show wpAny _ _ (getMethod (Value.ref _) _ _) _ _ _); (k_here; k_dflt (refine' MethIs.use (by assumption) ?Fᵣ ?Xᵣ ?Nᵣ ?sᵣ ?_; (case Fᵣ => k_asm); (case Xᵣ => k_asm); (case Nᵣ => k_asm); (case sᵣ => (intro pᵣ hpᵣ; (repeat (first | exact hpᵣ | refine List.mem_cons_of_mem _ ?_)))); k_whole))) | ((with_reducible show wpAny _ _ (call (Value.builtin "str.encode") _) _ _ _); (k_here; k_dflt (refine encOk_of (by assumption) _ _ _ _ _ _ _ _ ?_; intro _ _))) | ((with_reducible show wpAny _ _ (getMethod (Value.str _ _) _ _) _ _ _); (k_here; with_reducible refine gm_encode ?_)) | (((with_reducible show _ ∧ _); (with_reducible show List.length _ ≤ sizeLine ∧ _); refine And.intro (by rw [sizeLine_eq]; simp only [List.length_cons, List.length_nil]; (first | assumption | exact Nat.le_trans (by assumption) (by decide) | omega)) ?_)) | ((k_here; k_dflt (first | ((with_reducible show wpAny _ _ (subscriptTail _ _ (Value.ref _) (Value.str _ _)) _ _ _); refine kda_item (knd := PySem.strKind _ _) (by k_asm) (by k_mem) (by k_asm) (strKind_is _ _ _ _) (by first | with_reducible assumption | assumption | rfl) ?_) | ((with_reducible show wpAny _ _ (subscriptTail _ _ (Value.ref _) (Value.int _ _)) _ _ _); refine' item_int ?Nᵣ ?mᵣ ?vᵣ ?aᵣ ?bᵣ ?zᵣ ?_; (case Nᵣ => k_asm); (case mᵣ => k_mem); (case vᵣ => assumption); (case aᵣ => first | assumption | exact Nat.le_trans (by assumption) (by decide) | omega); (case bᵣ => (simp only [decide_eq_true_eq, List.size_toArray] at *; first | assumption | exact Nat.le_trans (by assumption) (by decide) | omega)); (case zᵣ => (first | assumption | exact Nat.le_trans (by assumption) (by decide) | omega)); k_whole; intro _ _)))) | walk1 | (dsimp only; walk1))) | (leave1; walk_say "STEP leave1"; try dsimp only) | fail "no step"))
        · have e9 := want_ne_true hPa hPl ha2 hk0 (by omega) (by assumption)
          refine' hTE _ _ _ _ _ _ ?hG ?hF ?hN ?ne ?hJ (.inl rfl)
          case hG => exact ⟨by assumption, by assumption, by assumption, by assumption, by assumption⟩
          case hF => k_asm
          case hN => k_asm
          case hJ => exact ⟨_, _, _, (exsh_upd (by decide) (exsh_upd (by decide) (exsh_upd (by decide) (exsh_f _ _ _)))).choose_spec, rfl, kvOf_skip hki (isS_not hsg e9) hy, kvOf_step h5 hki (isU_not hkn hsg e9) hkn (by assumption)⟩
          case ne => exact List.forall_mem_cons.mpr ⟨hI1, List.forall_mem_cons.mpr ⟨hI2, fun p hp => hne p (List.mem_cons_of_mem _ (List.mem_cons_of_mem _ hp))⟩⟩
        · have e9 := want_ne_false hPa hPl ha2 hk0 (by omega) (by assumption)
          refine' hTE _ _ _ _ _ _ ?hG ?hF ?hN ?ne ?hJ (.inl rfl)
          case hG => exact ⟨by assumption, by assumption, by assumption, by assumption, by assumption⟩
          case hF => k_asm
          case hN => k_asm
          case hJ => exact ⟨_, _, _, (exsh_upd (by decide) (exsh_upd (by decide) (exsh_upd (by decide) (exsh_f _ _ _)))).choose_spec, rfl, kvOf_step h5 hki (isS_yes hkn hsg e9) hkn (by assumption), kvOf_skip hki (isU_yes hsg e9) hz⟩
          case ne => exact List.forall_mem_cons.mpr ⟨hI1, List.forall_mem_cons.mpr ⟨hI2, fun p hp => hne p (List.mem_cons_of_mem _ (List.mem_cons_of_mem _ hp))⟩⟩
  case done =>
    rintro g' m led h tk ⟨T1, B1, X1, Tp1, D1⟩ ⟨oS, oU, f, rfl, rfl, hy, hz⟩ F1 N1
    have hn := hvs.length
    rw [List.length_map] at hn
    rw [hn, List.take_length] at hy hz
    dsimp only
    have Tz1 := Tp1
    (repeat' (first | (k_unfold; (try dsimp only)) | ((try (with_reducible (show wpAny _ _ (exec _ _) _ _ _); k_fold)); (first | ((with_reducible refine tok_gen3 ?_); intro _) | ((with_reducible show wpAny _ _ (getAttr (Value.ref _) _ _) _ _ _); (k_here; k_dflt (refine' AttrIs.use (by assumption) ?Fᵣ ?Xᵣ ?Nᵣ ?sᵣ ?_; (case Fᵣ => k_asm); (case Xᵣ => k_asm); (case Nᵣ => k_asm); (case sᵣ => (intro pᵣ hpᵣ; (repeat (first | exact hpᵣ | refine List.mem_cons_of_mem _ ?_)))); k_whole); intro _)) | walk1 | (dsimp only; walk1))) | (leave1; walk_say "STEP leave1"; try dsimp only) | fail "no step"))
    exact endsT _ T1 (by k_asm) (by k_asm) ⟨_, [_, _, _, _], rfl, rfl, _, _, _, _, _, _, _, _, _, _, List.mem_cons_self, by k_mem, by k_mem, hy, by assumption, by k_mem, hz, by assumption⟩
-- MyNg


theorem raisedOk_t (w : World) (x fD fK sd : Addr) (nm : PySem.Str) (th : Int) (kn : Int → Option Addr) (ss us : List Int) (t t0 : Tok) (pb : Array UInt8) (news : Led)
   (hF : Finds w news x fD fK) (hl5 : ss.length ≤ 5) (ht1 : 1 ≤ th) (ht2 : th ≤ 4) (hnl : nm.length ≤ 10)
   (H : GvrAll w news x sd nm pb th kn ss us) :
   Does w 22 776 [.ref x, .str nm t0, .bytes pb t, .ref sd] news (fun r news' => ∃ u, r = .int (if th ≤ (ss.length : Int) then 0 else 1) u ∧ news' = news) := by
  unfold Does
  k_fill
  w_top off
  show Does w 22 776 _ _ _
  refine' does_of (binds := [("delegator", .ref x), ("name", .str nm t0), ("payload", .bytes pb t), ("signatures", .ref sd)]) ?ho ?hcd (fun _ => BindsTo.of_eq ?hb) ?hl ?h1 ?h2 ?h3 ?h4 ?h5 ?h
  case ho => k_is
  case hcd => k_is
  case hb => exact rfl
  case hl => exact locs rfl
  case h1 => exact rfl
  case h2 => exact rfl
  case h3 => exact rfl
  case h4 => decide
  case h5 => decide
  intro dp un gd outer base g L s mean mg mb B F X N T XB TB D hlt hdp hun
  obtain ⟨hM1, hM2, hM3, hM4, hkD, hkK⟩ := hF
  have T0 : KtsTurn (frs outer) g g := KtsTurn.refl
  have Tz := T
  with_unfolding_all show wpAny _ _ (execs (_ :: _) _) _ _ _
  refine letAV ?_
  intro Vᵣ Aᵣ
  (repeat' (first | (k_unfold; (try dsimp only)) | ((try (with_reducible (show wpAny _ _ (exec _ _) _ _ _); k_fold)); (first | ((with_reducible refine tok_gen3 ?_); intro _) | ((with_reducible show wpAny _ _ (getMethod (Value.ref _) _ _) _ _ _); (k_here; k_dflt (refine' MethIs.use (by assumption) ?Fᵣ ?Xᵣ ?Nᵣ ?sᵣ ?_; (case Fᵣ => k_asm); (case Xᵣ => k_asm); (case Nᵣ => k_asm); (case sᵣ => (intro pᵣ hpᵣ; (repeat (first | exact hpᵣ | refine List.mem_cons_of_mem _ ?_)))); k_whole))) | ((k_here; (with_reducible show wpAny _ _ (call (Value.ref 362) _) _ _ _); k_dflt (refine' useT ((by assumption : GvrAll _ _ _ _ _ _ _ _ _ _) _ _ _ (fun _ h => h)) ?Bᵣ ?Fᵣ ?Xᵣ ?Nᵣ ?Tᵣ ?XBᵣ ?TBᵣ ?Dᵣ ?dᵣ ?uᵣ ?_; (case Bᵣ => k_asm); (case Fᵣ => k_asm); (case Xᵣ => k_asm); (case Nᵣ => k_asm); (case Tᵣ => k_asm); (case XBᵣ => k_asm); (case TBᵣ => k_asm); (case Dᵣ => k_asm); (case dᵣ => ktr_room); (case uᵣ => ((try simp only [units_deeper, units_under_make]); ktr_units)); k_whole; rintro _ h'ᵣ g'ᵣ tk'ᵣ _ t'ᵣ b'ᵣ F'ᵣ x'ᵣ p'ᵣ d'ᵣ N'ᵣ ⟨vrᵣ, e1ᵣ, hsub9ᵣ, dv9ᵣ, S9ᵣ, U9ᵣ, oS9ᵣ, oU9ᵣ, n9ᵣ, u1ᵣ, u2ᵣ, u3ᵣ, u4ᵣ, hv1ᵣ, hv2ᵣ, hv3ᵣ, hv4ᵣ, hv5ᵣ, hv6ᵣ, hv7ᵣ, hv8ᵣ⟩; subst e1ᵣ; (try dsimp only)))) | ((with_reducible show wpAny _ _ (call (Value.builtin "len") _) _ _ _); (k_here; k_dflt (refine' len_kv_led ?Nᵣ ?mᵣ ?dᵣ ?loᵣ ?zᵣ ?_; (case Nᵣ => k_asm); (case mᵣ => k_mem); (case dᵣ => assumption); (case loᵣ => assumption); (case zᵣ => (first | assumption | exact Nat.le_trans (by assumption) (by decide) | omega))))) | ((with_reducible show wpAny _ _ (formatField (Value.str _ _) _) _ _ _); (k_here; refine' fmt_any ?hzᵣ ?_; (case hzᵣ => first | (rw [sizeLine_eq]; (first | assumption | exact Nat.le_trans (by assumption) (by decide) | omega)) | size_fits | decide +kernel); intro _ _)) | (((with_reducible show _ ∧ _); (with_reducible show List.length _ ≤ sizeLine ∧ _); refine And.intro (by rw [sizeLine_eq]; simp only [List.length_cons, List.length_nil]; (first | assumption | exact Nat.le_trans (by assumption) (by decide) | omega)) ?_)) | ((k_here; (first | (with_reducible show wpAny _ _ (joinParts _ []) _ _ _) | (with_reducible show wpAny _ _ (joinParts _ (evalEach [] _)) _ _ _)); k_dflt (refine' joinParts_any ?zᵣ ?_; (case zᵣ => (refine' Nat.le_trans ?ktaᵣ ?ktbᵣ; (case ktaᵣ => kt_len); (case ktbᵣ => (rw [sizeLine_eq]; decide +kernel)))); intro _ _ _ _))) | (((with_reducible show _ ∧ _); (with_reducible show PySem.Str.length (_ ++ _) ≤ sizeLine ∧ wpAny _ _ (joinParts _ _) _ _ _); k_dflt (refine' And.intro ?zᵣ ?_; (case zᵣ => (refine' Nat.le_trans ?ktaᵣ ?ktbᵣ; (case ktaᵣ => kt_len); (case ktbᵣ => (rw [sizeLine_eq]; decide +kernel))))))) | walk1 | (dsimp only; walk1))) | (leave1; walk_say "STEP leave1"; try dsimp only) | fail "no step"))
  · rename ∀ p ∈ news, p ∈ _ => hsub
    refine' endsT news ?zT ?zF (newsSub ?zN hsub) ⟨_, ?zV, rfl⟩
    case zF => k_asm
    case zN => k_asm
    case zT => assumption
    case zV => rw [if_pos (by omega)]
  · rename KtsTurn (frs (_ :: outer)) _ _ => tt9
    obtain ⟨kg, k1, k2, k3, k4, k5, k6⟩ := turn_up (by rfl) (by assumption : Fr g L _ _) B XB TB D tt9
    clear F
    (repeat' (first | (k_unfold; (try dsimp only)) | ((try (with_reducible (show wpAny _ _ (exec _ _) _ _ _); k_fold)); (first | ((with_reducible refine tok_gen3 ?_); intro _) | walk1 | (dsimp only; walk1))) | (leave1; walk_say "STEP leave1"; try dsimp only) | fail "no step"))
    rename ∀ p ∈ news, p ∈ _ => hsub
    refine' endsT news ?zT ?zF (newsSub ?zN hsub) ⟨_, ?zV, rfl⟩
    case zF => k_asm
    case zN => k_asm
    case zT => assumption
    case zV => rw [if_neg (by omega)]
-- MyOg


theorem raisedBad_t (w : World) (x fD fK sd : Addr) (nm : PySem.Str) (t t0 : Tok) (pb : Array UInt8) (news : Led)
   (hF : Finds w news x fD fK) (hV : CallsV w 6 news fD x nm) :
   Does w 22 776 [.ref x, .str nm t0, .bytes pb t, .ref sd] news (fun r news' => ∃ u, r = .int 2 u ∧ news' = news) := by
  unfold Does
  k_fill
  w_top off
  show Does w 22 776 _ _ _
  refine' does_of (binds := [("delegator", .ref x), ("name", .str nm t0), ("payload", .bytes pb t), ("signatures", .ref sd)]) ?ho ?hcd (fun _ => BindsTo.of_eq ?hb) ?hl ?h1 ?h2 ?h3 ?h4 ?h5 ?h
  case ho => k_is
  case hcd => k_is
  case hb => exact rfl
  case hl => exact locs rfl
  case h1 => exact rfl
  case h2 => exact rfl
  case h3 => exact rfl
  case h4 => decide
  case h5 => decide
  intro dp un gd outer base g L s mean mg mb B F X N T XB TB D hlt hdp hun
  obtain ⟨hM1, hM2, hM3, hM4, hkD, hkK⟩ := hF
  have T0 : KtsTurn (frs outer) g g := KtsTurn.refl
  have Tz := T
  with_unfolding_all show wpAny _ _ (execs (_ :: _) _) _ _ _
  refine letAV ?_
  intro Vᵣ Aᵣ
  (repeat' (first | (k_unfold; (try dsimp only)) | ((try (with_reducible (show wpAny _ _ (exec _ _) _ _ _); k_fold)); (first | ((with_reducible refine tok_gen3 ?_); intro _) | ((with_reducible show wpAny _ _ (call (Value.ref _) _ _) _ _ _); (k_here; k_dflt (refine' useV ((by assumption : CallsV _ _ _ _ _ _) _ _ ?sᵣ) ?Bᵣ ?Fᵣ ?Xᵣ ?Nᵣ ?Tᵣ ?XBᵣ ?TBᵣ ?Dᵣ ?dᵣ ?uᵣ ?_; (case Bᵣ => k_asm); (case Fᵣ => k_asm); (case Xᵣ => k_asm); (case Nᵣ => k_asm); (case Tᵣ => k_asm); (case XBᵣ => k_asm); (case TBᵣ => k_asm); (case Dᵣ => k_asm); (case sᵣ => (intro pᵣ hpᵣ; (repeat (first | exact hpᵣ | refine List.mem_cons_of_mem _ ?_)))); (case dᵣ => ktr_room); (case uᵣ => ((try simp only [units_deeper, units_under_make]); ktr_units)); k_whole; intro e9ᵣ h'ᵣ tk'ᵣ g9ᵣ F9ᵣ R9ᵣ R9'ᵣ U9ᵣ; (try dsimp only)))) | ((with_reducible show wpAny _ _ (callWith _ (Value.ref _) _ _ _) _ _ _); (k_here; k_dflt (refine' callWith_K ?Xᵣ ?kᵣ ?_; (case Xᵣ => k_asm); (case kᵣ => assumption); k_whole))) | ((with_reducible show wpAny _ _ (getMethod (Value.ref _) _ _) _ _ _); (k_here; k_dflt (refine' MethIs.use (by assumption) ?Fᵣ ?Xᵣ ?Nᵣ ?sᵣ ?_; (case Fᵣ => k_asm); (case Xᵣ => k_asm); (case Nᵣ => k_asm); (case sᵣ => (intro pᵣ hpᵣ; (repeat (first | exact hpᵣ | refine List.mem_cons_of_mem _ ?_)))); k_whole))) | walk1 | (dsimp only; walk1))) | (leave1; walk_say "STEP leave1"; try dsimp only) | fail "no step"))
  refine' endsT news ?zT ?zF (newsSub ?zN ?zS) ⟨_, rfl, rfl⟩
  case zF => k_asm
  case zT => first | assumption | exact KtsTurn.refl
  case zN => k_asm
  case zS =>
    intro p hp
    repeat (first | exact hp | refine List.mem_cons_of_mem _ ?_)
-- MyRt


theorem endsPV {w : World} : True := trivial
theorem root_finds (w : World) (x kd rr : Addr) (v : Int) (news : Led) (hx : IsRoot w news x kd rr v) : Finds w news x 434 441 := by
  obtain ⟨dx, rd, ud, r1, r2, r3, ord, n, sv, t1, t2, t3, t4, t5, t6, t7, t8, t9, t10, t11, hx1, hx2, hx3, hx4, hx5⟩ := hx
  refine' ⟨?a, ?b, ?c, ?d, ?e, ?f⟩
  case e => kernel_rfl
  case f => kernel_rfl
  all_goals
    unfold MethIs
    k_fill
    w_top off
    intro A E s pl Q h₀ L m F X N hQ
    walk1
    exact hQ
theorem role_attr (w : World) (rr l : Addr) (th : Int) (news : Led) (hr : IsRole w news rr l th) : AttrIs w news rr "keyids" (.ref l) ∧ ∃ t, AttrIs w news rr "threshold" (.int th t) := by
  obtain ⟨dr, ur, our, nr, s1, s2, s3, s4, hr1, hr2, hr3, hr4⟩ := hr
  refine' ⟨?a, s3, ?b⟩
  all_goals
    unfold AttrIs
    k_fill
    w_top off
    intro A E s expr Q h₀ L m F X N hQ
    walk1
    exact hQ _
theorem root_role (w : World) (x kd rr : Addr) (v : Int) (news : Led) (hx : IsRoot w news x kd rr v) : CallsTo w 6 news 434 x "root" rr := by
  intro led t hs
  obtain ⟨dx, rd, ud, r1, r2, r3, ord, n, sv, t1, t2, t3, t4, t5, t6, t7, t8, t9, t10, t11, hx1, hx2, hx3, hx4, hx5⟩ := hx.mono hs
  clear hs
  unfold DoesP
  k_fill
  w_top off
  show DoesP w 6 434 _ _ _
  refine' doesP_of (binds := [("self", .ref x), ("delegated_role", .str "root" t)]) ?ho ?hcd (fun _ => BindsTo.of_eq ?hb) ?hl ?h1 ?h2 ?h3 ?h4 ?h5 ?h
  case ho => k_is
  case hcd => k_is
  case hb => exact rfl
  case hl => exact locs rfl
  case h1 => exact rfl
  case h2 => exact rfl
  case h3 => exact rfl
  case h4 => decide
  case h5 => decide
  intro dp un gd outer base g L s mean mg mb B F X N T hlt hdp hun
  with_unfolding_all show wpAny _ _ (execs (_ :: _) _) _ _ _
  refine letAV ?_
  intro Vᵣ Aᵣ
  (repeat' (first | (k_unfold; (try dsimp only)) | ((try (with_reducible (show wpAny _ _ (exec _ _) _ _ _); k_fold)); (first | ((with_reducible refine tok_gen3 ?_); intro _) | ((with_reducible show wpAny _ _ (compareOp CmpOp.NotIn (Value.str _ _) (Value.ref _)) _ _ _); (k_here; k_dflt (first | refine kdg_notin (knd := PySem.strKind _ _) (by k_asm) (by k_mem) (by k_asm) (by k_asm) (strKind_is _ _ _ _) true (isSome_of (by first | with_reducible assumption | assumption | rfl)) ?_ | refine kdg_notin (knd := PySem.strKind _ _) (by k_asm) (by k_mem) (by k_asm) (by k_asm) (strKind_is _ _ _ _) false (isNone_of (by first | with_reducible assumption | assumption | rfl)) ?_))) | ((k_here; k_dflt (first | ((with_reducible show wpAny _ _ (subscriptTail _ _ (Value.ref _) (Value.str _ _)) _ _ _); refine kda_item (knd := PySem.strKind _ _) (by k_asm) (by k_mem) (by k_asm) (strKind_is _ _ _ _) (by first | with_reducible assumption | assumption | rfl) ?_) | ((with_reducible show wpAny _ _ (subscriptTail _ _ (Value.ref _) (Value.int _ _)) _ _ _); refine' item_int ?Nᵣ ?mᵣ ?vᵣ ?aᵣ ?bᵣ ?zᵣ ?_; (case Nᵣ => k_asm); (case mᵣ => k_mem); (case vᵣ => assumption); (case aᵣ => first | assumption | exact Nat.le_trans (by assumption) (by decide) | omega); (case bᵣ => (simp only [decide_eq_true_eq, List.size_toArray] at *; first | assumption | exact Nat.le_trans (by assumption) (by decide) | omega)); (case zᵣ => (first | assumption | exact Nat.le_trans (by assumption) (by decide) | omega)); k_whole; intro _ _)))) | walk1 | (dsimp only; walk1))) | (leave1; walk_say "STEP leave1"; try dsimp only) | fail "no step"))
  exact endsP led (by k_asm) (by k_asm) ⟨rfl, rfl⟩
theorem root_key (w : World) (x kd rr : Addr) (v : Int) (news : Led) (kn : Int → Option Addr) (hx : IsRoot w news x kd rr v) (hk : KeysIn w news kd kn) (k : Int) (y : Addr) (h0 : 0 ≤ k) (h1 : k < 5) (hy : kn k = some y) : CallsTo w 6 news 441 x (kN k) y := by
  intro led t hs
  obtain ⟨dx, rd, ud, r1, r2, r3, ord, n, sv, t1, t2, t3, t4, t5, t6, t7, t8, t9, t10, t11, hx1, hx2, hx3, hx4, hx5⟩ := hx.mono hs
  obtain ⟨ok, kvs, hok, hkd, hlo, hkall⟩ := hk.mono hs
  have hk1 := (hkall k h0 h1).1
  rw [hy] at hk1
  replace hk1 : valueAt kvs (kN k) = some (.ref y) := hk1
  clear hs hkall hk
  unfold DoesP
  k_fill
  w_top off
  show DoesP w 6 441 _ _ _
  refine' doesP_of (binds := [("self", .ref x), ("keyid", .str (kN k) t)]) ?ho ?hcd (fun _ => BindsTo.of_eq ?hb) ?hl ?h1 ?h2 ?h3 ?h4 ?h5 ?h
  case ho => k_is
  case hcd => k_is
  case hb => exact rfl
  case hl => exact locs rfl
  case h1 => exact rfl
  case h2 => exact rfl
  case h3 => exact rfl
  case h4 => decide
  case h5 => decide
  intro dp un gd outer base g L s mean mg mb B F X N T hlt hdp hun
  with_unfolding_all show wpAny _ _ (execs (_ :: _) _) _ _ _
  refine letAV ?_
  intro Vᵣ Aᵣ
  (repeat' (first | (k_unfold; (try dsimp only)) | ((try (with_reducible (show wpAny _ _ (exec _ _) _ _ _); k_fold)); (first | ((with_reducible refine tok_gen3 ?_); intro _) | ((with_reducible show wpAny _ _ (compareOp CmpOp.NotIn (Value.str _ _) (Value.ref _)) _ _ _); (k_here; k_dflt (first | refine kdg_notin (knd := PySem.strKind _ _) (by k_asm) (by k_mem) (by k_asm) (by k_asm) (strKind_is _ _ _ _) true (isSome_of (by first | with_reducible assumption | assumption | rfl)) ?_ | refine kdg_notin (knd := PySem.strKind _ _) (by k_asm) (by k_mem) (by k_asm) (by k_asm) (strKind_is _ _ _ _) false (isNone_of (by first | with_reducible assumption | assumption | rfl)) ?_))) | ((k_here; k_dflt (first | ((with_reducible show wpAny _ _ (subscriptTail _ _ (Value.ref _) (Value.str _ _)) _ _ _); refine kda_item (knd := PySem.strKind _ _) (by k_asm) (by k_mem) (by k_asm) (strKind_is _ _ _ _) (by first | with_reducible assumption | assumption | rfl) ?_) | ((with_reducible show wpAny _ _ (subscriptTail _ _ (Value.ref _) (Value.int _ _)) _ _ _); refine' item_int ?Nᵣ ?mᵣ ?vᵣ ?aᵣ ?bᵣ ?zᵣ ?_; (case Nᵣ => k_asm); (case mᵣ => k_mem); (case vᵣ => assumption); (case aᵣ => first | assumption | exact Nat.le_trans (by assumption) (by decide) | omega); (case bᵣ => (simp only [decide_eq_true_eq, List.size_toArray] at *; first | assumption | exact Nat.le_trans (by assumption) (by decide) | omega)); (case zᵣ => (first | assumption | exact Nat.le_trans (by assumption) (by decide) | omega)); k_whole; intro _ _)))) | walk1 | (dsimp only; walk1))) | (leave1; walk_say "STEP leave1"; try dsimp only) | fail "no step"))
  exact endsP led (by k_asm) (by k_asm) ⟨rfl, rfl⟩
theorem root_nokey (w : World) (x kd rr : Addr) (v : Int) (news : Led) (kn : Int → Option Addr) (hx : IsRoot w news x kd rr v) (hk : KeysIn w news kd kn) (k : Int) (h0 : 0 ≤ k) (h1 : k < 5) (hy : kn k = none) : CallsV w 6 news 441 x (kN k) := by
  intro led t hs
  obtain ⟨dx, rd, ud, r1, r2, r3, ord, n, sv, t1, t2, t3, t4, t5, t6, t7, t8, t9, t10, t11, hx1, hx2, hx3, hx4, hx5⟩ := hx.mono hs
  obtain ⟨ok, kvs, hok, hkd, hlo, hkall⟩ := hk.mono hs
  have hk1 := (hkall k h0 h1).1
  rw [hy] at hk1
  replace hk1 : valueAt kvs (kN k) = none := hk1
  have hkl := kN_len10 h0 (by omega : k < 6)
  clear hs hkall hk
  unfold RaisesV
  k_fill
  w_top off
  show RaisesV w 6 441 _ _
  refine' raises_of (binds := [("self", .ref x), ("keyid", .str (kN k) t)]) ?ho ?hcd (fun _ => BindsTo.of_eq ?hb) ?hl ?h1 ?h2 ?h3 ?h4 ?h5 ?h
  case ho => k_is
  case hcd => k_is
  case hb => exact rfl
  case hl => exact locs rfl
  case h1 => exact rfl
  case h2 => exact rfl
  case h3 => exact rfl
  case h4 => decide
  case h5 => decide
  intro dp un gd outer base g L s mean mg mb Q E B F X N T XB TB D hlt hdp hun hE
  have Tz := T
  with_unfolding_all show wpAny _ _ (execs (_ :: _) _) _ _ _
  refine letAV ?_
  intro Vᵣ Aᵣ
  (repeat' (first | (k_unfold; (try dsimp only)) | ((try (with_reducible (show wpAny _ _ (exec _ _) _ _ _); k_fold)); (first | ((with_reducible refine tok_gen3 ?_); intro _) | ((with_reducible show wpAny _ _ (compareOp CmpOp.NotIn (Value.str _ _) (Value.ref _)) _ _ _); (k_here; k_dflt (first | refine kdg_notin (knd := PySem.strKind _ _) (by k_asm) (by k_mem) (by k_asm) (by k_asm) (strKind_is _ _ _ _) true (isSome_of (by first | with_reducible assumption | assumption | rfl)) ?_ | refine kdg_notin (knd := PySem.strKind _ _) (by k_asm) (by k_mem) (by k_asm) (by k_asm) (strKind_is _ _ _ _) false (isNone_of (by first | with_reducible assumption | assumption | rfl)) ?_))) | ((with_reducible show wpAny _ _ (formatField (Value.str _ _) _) _ _ _); (k_here; refine' fmt_any ?hzᵣ ?_; (case hzᵣ => first | (rw [sizeLine_eq]; (first | assumption | exact Nat.le_trans (by assumption) (by decide) | omega)) | size_fits | decide +kernel); intro _ _)) | ((k_here; (first | (with_reducible show wpAny _ _ (joinParts _ []) _ _ _) | (with_reducible show wpAny _ _ (joinParts _ (evalEach [] _)) _ _ _)); k_dflt (refine' joinParts_any ?zᵣ ?_; (case zᵣ => (refine' Nat.le_trans ?ktaᵣ ?ktbᵣ; (case ktaᵣ => kt_len); (case ktbᵣ => (rw [sizeLine_eq]; decide +kernel)))); intro _ _ _ _))) | (((with_reducible show _ ∧ _); (with_reducible show PySem.Str.length (_ ++ _) ≤ sizeLine ∧ wpAny _ _ (joinParts _ _) _ _ _); k_dflt (refine' And.intro ?zᵣ ?_; (case zᵣ => (refine' Nat.le_trans ?ktaᵣ ?ktbᵣ; (case ktaᵣ => kt_len); (case ktbᵣ => (rw [sizeLine_eq]; decide +kernel))))))) | walk1 | (dsimp only; walk1))) | (leave1; walk_say "STEP leave1"; try dsimp only) | fail "no step"))
  exact hE _ _ _ (by assumption) (by assumption) (by assumption)
theorem root_bad (w : World) (x kd rr : Addr) (v : Int) (news : Led) (hx : IsRoot w news x kd rr v) : CallsV w 6 news 434 x "r" := by
  intro led t hs
  obtain ⟨dx, rd, ud, r1, r2, r3, ord, n, sv, t1, t2, t3, t4, t5, t6, t7, t8, t9, t10, t11, hx1, hx2, hx3, hx4, hx5⟩ := hx.mono hs
  clear hs
  unfold RaisesV
  k_fill
  w_top off
  show RaisesV w 6 434 _ _
  refine' raises_of (binds := [("self", .ref x), ("delegated_role", .str "r" t)]) ?ho ?hcd (fun _ => BindsTo.of_eq ?hb) ?hl ?h1 ?h2 ?h3 ?h4 ?h5 ?h
  case ho => k_is
  case hcd => k_is
  case hb => exact rfl
  case hl => exact locs rfl
  case h1 => exact rfl
  case h2 => exact rfl
  case h3 => exact rfl
  case h4 => decide
  case h5 => decide
  intro dp un gd outer base g L s mean mg mb Q E B F X N T XB TB D hlt hdp hun hE
  have Tz := T
  with_unfolding_all show wpAny _ _ (execs (_ :: _) _) _ _ _
  refine letAV ?_
  intro Vᵣ Aᵣ
  (repeat' (first | (k_unfold; (try dsimp only)) | ((try (with_reducible (show wpAny _ _ (exec _ _) _ _ _); k_fold)); (first | ((with_reducible refine tok_gen3 ?_); intro _) | ((with_reducible show wpAny _ _ (compareOp CmpOp.NotIn (Value.str _ _) (Value.ref _)) _ _ _); (k_here; k_dflt (first | refine kdg_notin (knd := PySem.strKind _ _) (by k_asm) (by k_mem) (by k_asm) (by k_asm) (strKind_is _ _ _ _) true (isSome_of (by first | with_reducible assumption | assumption | rfl)) ?_ | refine kdg_notin (knd := PySem.strKind _ _) (by k_asm) (by k_mem) (by k_asm) (by k_asm) (strKind_is _ _ _ _) false (isNone_of (by first | with_reducible assumption | assumption | rfl)) ?_))) | ((with_reducible show wpAny _ _ (formatField (Value.str _ _) _) _ _ _); (k_here; refine' fmt_any ?hzᵣ ?_; (case hzᵣ => first | (rw [sizeLine_eq]; (first | assumption | exact Nat.le_trans (by assumption) (by decide) | omega)) | size_fits | decide +kernel); intro _ _)) | ((k_here; (first | (with_reducible show wpAny _ _ (joinParts _ []) _ _ _) | (with_reducible show wpAny _ _ (joinParts _ (evalEach [] _)) _ _ _)); k_dflt (refine' joinParts_any ?zᵣ ?_; (case zᵣ => (refine' Nat.le_trans ?ktaᵣ ?ktbᵣ; (case ktaᵣ => kt_len); (case ktbᵣ => (rw [sizeLine_eq]; decide +kernel)))); intro _ _ _ _))) | (((with_reducible show _ ∧ _); (with_reducible show PySem.Str.length (_ ++ _) ≤ sizeLine ∧ wpAny _ _ (joinParts _ _) _ _ _); k_dflt (refine' And.intro ?zᵣ ?_; (case zᵣ => (refine' Nat.le_trans ?ktaᵣ ?ktbᵣ; (case ktaᵣ => kt_len); (case ktbᵣ => (rw [sizeLine_eq]; decide +kernel))))))) | walk1 | (dsimp only; walk1))) | (leave1; walk_say "STEP leave1"; try dsimp only) | fail "no step"))
  exact hE _ _ _ (by assumption) (by assumption) (by assumption)
theorem root_delegates (w : World) (x kd rr l : Addr) (v th : Int) (news : Led) (kn : Int → Option Addr) (hx : IsRoot w news x kd rr v) (hr : IsRole w news rr l th) (hk : KeysIn w news kd kn) : Delegates w news x 434 441 "root" rr l th kn :=
  ⟨root_role w x kd rr v news hx, fun k y h0 h1 hy => root_key w x kd rr v news kn hx hk k y h0 h1 hy, fun k h0 h1 hy => root_nokey w x kd rr v news kn hx hk k h0 h1 hy, (role_attr w rr l th news hr).1, (role_attr w rr l th news hr).2⟩
-- MyRa



theorem IsTarg.mono {w : World} {fam fam' : Led} {x : Addr} {dv : Value} (h : IsTarg w fam x dv) (hs : ∀ p ∈ fam, p ∈ fam') : IsTarg w fam' x dv := by
  obtain ⟨dx, td, ud, n, sv, t1, t2, t3, t4, t5, t6, t7, t8, t9, h1, h2⟩ := h
  exact ⟨dx, td, ud, n, sv, t1, t2, t3, t4, t5, t6, t7, t8, t9, hs _ h1, hs _ h2⟩
theorem IsDelg.mono {w : World} {fam fam' : Led} {x kd : Addr} {rv sv : Value} (h : IsDelg w fam x kd rv sv) (hs : ∀ p ∈ fam, p ∈ fam') : IsDelg w fam' x kd rv sv := by
  obtain ⟨dx, ud, n, t1, t2, t3, t4, h1, h2⟩ := h
  exact ⟨dx, ud, n, t1, t2, t3, t4, hs _ h1, hs _ h2⟩
theorem IsDRole.mono {w : World} {fam fam' : Led} {x l : Addr} {th : Int} (h : IsDRole w fam x l th) (hs : ∀ p ∈ fam, p ∈ fam') : IsDRole w fam' x l th := by
  obtain ⟨dx, ud, pd, n, nt, t1, t2, t3, t4, t5, t6, t7, t8, t9, h1, h2⟩ := h
  exact ⟨dx, ud, pd, n, nt, t1, t2, t3, t4, t5, t6, t7, t8, t9, hs _ h1, hs _ h2⟩
theorem IsSucc.mono {w : World} {fam fam' : Led} {x l : Addr} {th : Int} (h : IsSucc w fam x l th) (hs : ∀ p ∈ fam, p ∈ fam') : IsSucc w fam' x l th := by
  obtain ⟨dx, ud, n, t1, t2, t3, t4, t5, t6, t7, t8, t9, t10, t11, t12, h1, h2⟩ := h
  exact ⟨dx, ud, n, t1, t2, t3, t4, t5, t6, t7, t8, t9, t10, t11, t12, hs _ h1, hs _ h2⟩
theorem targ_finds (w : World) (x : Addr) (dv : Value) (news : Led) (hx : IsTarg w news x dv) : Finds w news x 707 714 := by
  obtain ⟨dx, td, ud, n, sv, t1, t2, t3, t4, t5, t6, t7, t8, t9, hx1, hx2⟩ := hx
  refine' ⟨?a, ?b, ?c, ?d, ?e, ?f⟩
  case e => kernel_rfl
  case f => kernel_rfl
  all_goals
    unfold MethIs
    k_fill
    w_top off
    intro A E s pl Q h₀ L m F X N hQ
    walk1
    exact hQ
theorem drole_attr (w : World) (rr l : Addr) (th : Int) (news : Led) (hr : IsDRole w news rr l th) : AttrIs w news rr "keyids" (.ref l) ∧ ∃ t, AttrIs w news rr "threshold" (.int th t) := by
  obtain ⟨dx, ud, pd, n, nt, t1, t2, t3, t4, t5, t6, t7, t8, t9, h1, h2⟩ := hr
  refine' ⟨?a, t3, ?b⟩
  all_goals
    unfold AttrIs
    k_fill
    w_top off
    intro A E s expr Q h₀ L m F X N hQ
    walk1
    exact hQ _
theorem succ_attr (w : World) (rr l : Addr) (th : Int) (news : Led) (hr : IsSucc w news rr l th) : AttrIs w news rr "keyids" (.ref l) ∧ ∃ t, AttrIs w news rr "threshold" (.int th t) := by
  obtain ⟨dx, ud, n, t1, t2, t3, t4, t5, t6, t7, t8, t9, t10, t11, t12, h1, h2⟩ := hr
  refine' ⟨?a, t3, ?b⟩
  all_goals
    unfold AttrIs
    k_fill
    w_top off
    intro A E s expr Q h₀ L m F X N hQ
    walk1
    exact hQ _
theorem targ_key (w : World) (x dl kd : Addr) (rv sv : Value) (news : Led) (kn : Int → Option Addr) (hx : IsTarg w news x (.ref dl)) (hdl : IsDelg w news dl kd rv sv) (hk : KeysIn w news kd kn) (k : Int) (y : Addr) (h0 : 0 ≤ k) (h1 : k < 5) (hy : kn k = some y) : CallsTo w 6 news 714 x (kN k) y := by
  intro led t hs
  obtain ⟨dx, td, ud, n, sv, t1, t2, t3, t4, t5, t6, t7, t8, t9, hx1, hx2⟩ := hx.mono hs
  obtain ⟨ddl, udl, ndl, q1, q2, q3, q4, hd1, hd2⟩ := hdl.mono hs
  obtain ⟨ok, kvs, hok, hkd, hlo, hkall⟩ := hk.mono hs
  have hk1 := (hkall k h0 h1).1
  rw [hy] at hk1
  replace hk1 : valueAt kvs (kN k) = some (.ref y) := hk1
  clear hs hkall hk
  unfold DoesP
  k_fill
  w_top off
  show DoesP w 6 714 _ _ _
  refine' doesP_of (binds := [("self", .ref x), ("keyid", .str (kN k) t)]) ?ho ?hcd (fun _ => BindsTo.of_eq ?hb) ?hl ?h1 ?h2 ?h3 ?h4 ?h5 ?h
  case ho => k_is
  case hcd => k_is
  case hb => exact rfl
  case hl => exact locs rfl
  case h1 => exact rfl
  case h2 => exact rfl
  case h3 => exact rfl
  case h4 => decide
  case h5 => decide
  intro dp un gd outer base g L s mean mg mb B F X N T hlt hdp hun
  with_unfolding_all show wpAny _ _ (execs (_ :: _) _) _ _ _
  refine letAV ?_
  intro Vᵣ Aᵣ
  (repeat' (first | (k_unfold; (try dsimp only)) | ((try (with_reducible (show wpAny _ _ (exec _ _) _ _ _); k_fold)); (first | ((with_reducible refine tok_gen3 ?_); intro _) | ((with_reducible show wpAny _ _ (compareOp CmpOp.NotIn (Value.str _ _) (Value.ref _)) _ _ _); (k_here; k_dflt (first | refine kdg_notin (knd := PySem.strKind _ _) (by k_asm) (by k_mem) (by k_asm) (by k_asm) (strKind_is _ _ _ _) true (isSome_of (by first | with_reducible assumption | assumption | rfl)) ?_ | refine kdg_notin (knd := PySem.strKind _ _) (by k_asm) (by k_mem) (by k_asm) (by k_asm) (strKind_is _ _ _ _) false (isNone_of (by first | with_reducible assumption | assumption | rfl)) ?_))) | ((k_here; k_dflt (first | ((with_reducible show wpAny _ _ (subscriptTail _ _ (Value.ref _) (Value.str _ _)) _ _ _); refine kda_item (knd := PySem.strKind _ _) (by k_asm) (by k_mem) (by k_asm) (strKind_is _ _ _ _) (by first | with_reducible assumption | assumption | rfl) ?_) | ((with_reducible show wpAny _ _ (subscriptTail _ _ (Value.ref _) (Value.int _ _)) _ _ _); refine' item_int ?Nᵣ ?mᵣ ?vᵣ ?aᵣ ?bᵣ ?zᵣ ?_; (case Nᵣ => k_asm); (case mᵣ => k_mem); (case vᵣ => assumption); (case aᵣ => first | assumption | exact Nat.le_trans (by assumption) (by decide) | omega); (case bᵣ => (simp only [decide_eq_true_eq, List.size_toArray] at *; first | assumption | exact Nat.le_trans (by assumption) (by decide) | omega)); (case zᵣ => (first | assumption | exact Nat.le_trans (by assumption) (by decide) | omega)); k_whole; intro _ _)))) | walk1 | (dsimp only; walk1))) | (leave1; walk_say "STEP leave1"; try dsimp only) | fail "no step"))
  exact endsP led (by k_asm) (by k_asm) ⟨rfl, rfl⟩
theorem targ_nokey (w : World) (x dl kd : Addr) (rv sv : Value) (news : Led) (kn : Int → Option Addr) (hx : IsTarg w news x (.ref dl)) (hdl : IsDelg w news dl kd rv sv) (hk : KeysIn w news kd kn) (k : Int) (h0 : 0 ≤ k) (h1 : k < 5) (hy : kn k = none) : CallsV w 6 news 714 x (kN k) := by
  intro led t hs
  obtain ⟨dx, td, ud, n, sv, t1, t2, t3, t4, t5, t6, t7, t8, t9, hx1, hx2⟩ := hx.mono hs
  obtain ⟨ddl, udl, ndl, q1, q2, q3, q4, hd1, hd2⟩ := hdl.mono hs
  obtain ⟨ok, kvs, hok, hkd, hlo, hkall⟩ := hk.mono hs
  have hk1 := (hkall k h0 h1).1
  rw [hy] at hk1
  replace hk1 : valueAt kvs (kN k) = none := hk1
  have hkl := kN_len10 h0 (by omega : k < 6)
  clear hs hkall hk
  unfold RaisesV
  k_fill
  w_top off
  show RaisesV w 6 714 _ _
  refine' raises_of (binds := [("self", .ref x), ("keyid", .str (kN k) t)]) ?ho ?hcd (fun _ => BindsTo.of_eq ?hb) ?hl ?h1 ?h2 ?h3 ?h4 ?h5 ?h
  case ho => k_is
  case hcd => k_is
  case hb => exact rfl
  case hl => exact locs rfl
  case h1 => exact rfl
  case h2 => exact rfl
  case h3 => exact rfl
  case h4 => decide
  case h5 => decide
  intro dp un gd outer base g L s mean mg mb Q E B F X N T XB TB D hlt hdp hun hE
  have Tz := T
  with_unfolding_all show wpAny _ _ (execs (_ :: _) _) _ _ _
  refine letAV ?_
  intro Vᵣ Aᵣ
  (repeat' (first | (k_unfold; (try dsimp only)) | ((try (with_reducible (show wpAny _ _ (exec _ _) _ _ _); k_fold)); (first | ((with_reducible refine tok_gen3 ?_); intro _) | ((with_reducible show wpAny _ _ (compareOp CmpOp.NotIn (Value.str _ _) (Value.ref _)) _ _ _); (k_here; k_dflt (first | refine kdg_notin (knd := PySem.strKind _ _) (by k_asm) (by k_mem) (by k_asm) (by k_asm) (strKind_is _ _ _ _) true (isSome_of (by first | with_reducible assumption | assumption | rfl)) ?_ | refine kdg_notin (knd := PySem.strKind _ _) (by k_asm) (by k_mem) (by k_asm) (by k_asm) (strKind_is _ _ _ _) false (isNone_of (by first | with_reducible assumption | assumption | rfl)) ?_))) | ((with_reducible show wpAny _ _ (formatField (Value.str _ _) _) _ _ _); (k_here; refine' fmt_any ?hzᵣ ?_; (case hzᵣ => first | (rw [sizeLine_eq]; (first | assumption | exact Nat.le_trans (by assumption) (by decide) | omega)) | size_fits | decide +kernel); intro _ _)) | ((k_here; (first | (with_reducible show wpAny _ _ (joinParts _ []) _ _ _) | (with_reducible show wpAny _ _ (joinParts _ (evalEach [] _)) _ _ _)); k_dflt (refine' joinParts_any ?zᵣ ?_; (case zᵣ => (refine' Nat.le_trans ?ktaᵣ ?ktbᵣ; (case ktaᵣ => kt_len); (case ktbᵣ => (rw [sizeLine_eq]; decide +kernel)))); intro _ _ _ _))) | (((with_reducible show _ ∧ _); (with_reducible show PySem.Str.length (_ ++ _) ≤ sizeLine ∧ wpAny _ _ (joinParts _ _) _ _ _); k_dflt (refine' And.intro ?zᵣ ?_; (case zᵣ => (refine' Nat.le_trans ?ktaᵣ ?ktbᵣ; (case ktaᵣ => kt_len); (case ktbᵣ => (rw [sizeLine_eq]; decide +kernel))))))) | walk1 | (dsimp only; walk1))) | (leave1; walk_say "STEP leave1"; try dsimp only) | fail "no step"))
  exact hE _ _ _ (by assumption) (by assumption) (by assumption)
theorem targR_role (w : World) (x : Addr) (dl kd rd rr rs l : Addr) (th : Int) (ord : Obj) (news : Led) (hx : IsTarg w news x (.ref dl)) (hdl : IsDelg w news dl kd (.ref rd) .none) (hrd : (rd, ord) ∈ news) (hro : ord.IsDictOf (PySem.strKind PM w) [(Str.ofString "r", .ref rr), (Str.ofString "s", .ref rs)]) (hrl : (rd == sysModules) = false) (hrr : IsDRole w news rr l th) : CallsTo w 6 news 707 x "r" rr := by
  intro led t hs
  obtain ⟨dx, td, ud, n, sv, t1, t2, t3, t4, t5, t6, t7, t8, t9, hx1, hx2⟩ := hx.mono hs
  obtain ⟨ddl, udl, ndl, q1, q2, q3, q4, hd1, hd2⟩ := hdl.mono hs
  have hrd' := hs _ hrd
  obtain ⟨drr, urr, prr, nrr, ntr, p1, p2, p3, p4, p5, p6, p7, p8, p9, hr1, hr2⟩ := hrr.mono hs
  clear hs
  unfold DoesP
  k_fill
  w_top off
  show DoesP w 6 707 _ _ _
  refine' doesP_of (binds := [("self", .ref x), ("delegated_role", .str "r" t)]) ?ho ?hcd (fun _ => BindsTo.of_eq ?hb) ?hl ?h1 ?h2 ?h3 ?h4 ?h5 ?h
  case ho => k_is
  case hcd => k_is
  case hb => exact rfl
  case hl => exact locs rfl
  case h1 => exact rfl
  case h2 => exact rfl
  case h3 => exact rfl
  case h4 => decide
  case h5 => decide
  intro dp un gd outer base g L s mean mg mb B F X N T hlt hdp hun
  with_unfolding_all show wpAny _ _ (execs (_ :: _) _) _ _ _
  refine letAV ?_
  intro Vᵣ Aᵣ
  (repeat' (first | (k_unfold; (try dsimp only)) | ((try (with_reducible (show wpAny _ _ (exec _ _) _ _ _); k_fold)); (first | ((with_reducible refine tok_gen3 ?_); intro _) | ((with_reducible show wpAny _ _ (call (Value.builtin "dict.get") _) _ _ _); (k_here; k_dflt (first | refine kdg_get1 (knd := PySem.strKind _ _) (by k_asm) (by k_mem) (by k_asm) (by k_asm) (strKind_is _ _ _ _) (some _) (by rfl) ?_ | refine kdg_get1 (knd := PySem.strKind _ _) (by k_asm) (by k_mem) (by k_asm) (by k_asm) (strKind_is _ _ _ _) none (by rfl) ?_); (try dsimp only [Option.getD]))) | ((k_here; (with_reducible show wpAny _ _ (getMethod (Value.ref _) (Str.ofString "get") _) _ _ _); k_dflt (refine kdg_method (knd := PySem.strKind _ _) (by k_asm) (by k_mem) (by k_asm) ?_))) | walk1 | (dsimp only; walk1))) | (leave1; walk_say "STEP leave1"; try dsimp only) | fail "no step"))
  exact endsP led (by k_asm) (by k_asm) ⟨rfl, rfl⟩
theorem targR_bad (w : World) (x : Addr) (dl kd rd rr rs : Addr) (ord : Obj) (news : Led) (hx : IsTarg w news x (.ref dl)) (hdl : IsDelg w news dl kd (.ref rd) .none) (hrd : (rd, ord) ∈ news) (hro : ord.IsDictOf (PySem.strKind PM w) [(Str.ofString "r", .ref rr), (Str.ofString "s", .ref rs)]) (hrl : (rd == sysModules) = false) : CallsV w 6 news 707 x "q" := by
  intro led t hs
  obtain ⟨dx, td, ud, n, sv, t1, t2, t3, t4, t5, t6, t7, t8, t9, hx1, hx2⟩ := hx.mono hs
  obtain ⟨ddl, udl, ndl, q1, q2, q3, q4, hd1, hd2⟩ := hdl.mono hs
  have hrd' := hs _ hrd
  clear hs
  unfold RaisesV
  k_fill
  w_top off
  show RaisesV w 6 707 _ _
  refine' raises_of (binds := [("self", .ref x), ("delegated_role", .str "q" t)]) ?ho ?hcd (fun _ => BindsTo.of_eq ?hb) ?hl ?h1 ?h2 ?h3 ?h4 ?h5 ?h
  case ho => k_is
  case hcd => k_is
  case hb => exact rfl
  case hl => exact locs rfl
  case h1 => exact rfl
  case h2 => exact rfl
  case h3 => exact rfl
  case h4 => decide
  case h5 => decide
  intro dp un gd outer base g L s mean mg mb Q E B F X N T XB TB D hlt hdp hun hE
  have Tz := T
  with_unfolding_all show wpAny _ _ (execs (_ :: _) _) _ _ _
  refine letAV ?_
  intro Vᵣ Aᵣ
  (repeat' (first | (k_unfold; (try dsimp only)) | ((try (with_reducible (show wpAny _ _ (exec _ _) _ _ _); k_fold)); (first | ((with_reducible refine tok_gen3 ?_); intro _) | ((with_reducible show wpAny _ _ (call (Value.builtin "dict.get") _) _ _ _); (k_here; k_dflt (first | refine kdg_get1 (knd := PySem.strKind _ _) (by k_asm) (by k_mem) (by k_asm) (by k_asm) (strKind_is _ _ _ _) (some _) (by rfl) ?_ | refine kdg_get1 (knd := PySem.strKind _ _) (by k_asm) (by k_mem) (by k_asm) (by k_asm) (strKind_is _ _ _ _) none (by rfl) ?_); (try dsimp only [Option.getD]))) | ((k_here; (with_reducible show wpAny _ _ (getMethod (Value.ref _) (Str.ofString "get") _) _ _ _); k_dflt (refine kdg_method (knd := PySem.strKind _ _) (by k_asm) (by k_mem) (by k_asm) ?_))) | ((with_reducible show wpAny _ _ (formatField (Value.str _ _) _) _ _ _); (k_here; refine' fmt_any ?hzᵣ ?_; (case hzᵣ => first | (rw [sizeLine_eq]; (first | assumption | exact Nat.le_trans (by assumption) (by decide) | omega)) | size_fits | decide +kernel); intro _ _)) | ((k_here; (first | (with_reducible show wpAny _ _ (joinParts _ []) _ _ _) | (with_reducible show wpAny _ _ (joinParts _ (evalEach [] _)) _ _ _)); k_dflt (refine' joinParts_any ?zᵣ ?_; (case zᵣ => (refine' Nat.le_trans ?ktaᵣ ?ktbᵣ; (case ktaᵣ => kt_len); (case ktbᵣ => (rw [sizeLine_eq]; decide +kernel)))); intro _ _ _ _))) | (((with_reducible show _ ∧ _); (with_reducible show PySem.Str.length (_ ++ _) ≤ sizeLine ∧ wpAny _ _ (joinParts _ _) _ _ _); k_dflt (refine' And.intro ?zᵣ ?_; (case zᵣ => (refine' Nat.le_trans ?ktaᵣ ?ktbᵣ; (case ktaᵣ => kt_len); (case ktbᵣ => (rw [sizeLine_eq]; decide +kernel))))))) | walk1 | (dsimp only; walk1))) | (leave1; walk_say "STEP leave1"; try dsimp only) | fail "no step"))
  exact hE _ _ _ (by assumption) (by assumption) (by assumption)
theorem targN_bad (w : World) (x : Addr) (news : Led) (hx : IsTarg w news x .none) : CallsV w 6 news 707 x "r" := by
  intro led t hs
  obtain ⟨dx, td, ud, n, sv, t1, t2, t3, t4, t5, t6, t7, t8, t9, hx1, hx2⟩ := hx.mono hs
  clear hs
  unfold RaisesV
  k_fill
  w_top off
  show RaisesV w 6 707 _ _
  refine' raises_of (binds := [("self", .ref x), ("delegated_role", .str "r" t)]) ?ho ?hcd (fun _ => BindsTo.of_eq ?hb) ?hl ?h1 ?h2 ?h3 ?h4 ?h5 ?h
  case ho => k_is
  case hcd => k_is
  case hb => exact rfl
  case hl => exact locs rfl
  case h1 => exact rfl
  case h2 => exact rfl
  case h3 => exact rfl
  case h4 => decide
  case h5 => decide
  intro dp un gd outer base g L s mean mg mb Q E B F X N T XB TB D hlt hdp hun hE
  have Tz := T
  with_unfolding_all show wpAny _ _ (execs (_ :: _) _) _ _ _
  refine letAV ?_
  intro Vᵣ Aᵣ
  (repeat' (first | (k_unfold; (try dsimp only)) | ((try (with_reducible (show wpAny _ _ (exec _ _) _ _ _); k_fold)); (first | ((with_reducible refine tok_gen3 ?_); intro _) | walk1 | (dsimp only; walk1))) | (leave1; walk_say "STEP leave1"; try dsimp only) | fail "no step"))
  exact hE _ _ _ (by assumption) (by assumption) (by assumption)
-- MyRd



theorem isdel_t (w : World) (sr l : Addr) (th k : Int) (t : Tok) (news : Led) (h0 : 0 ≤ k) (h1 : k < 9) (hsr : IsSucc w news sr l th) :
   DoesP w 4 585 [.ref sr, .str (bN k) t] news (fun r news' => r = .bool (decide (k < 8)) ∧ news' = news) := by
  obtain ⟨dsr, usr, nsr, p1, p2, p3, p4, p5, p6, p7, p8, p9, p10, p11, p12, hs1, hs2⟩ := hsr
  unfold DoesP
  k_fill
  w_top off
  show DoesP w 4 585 _ _ _
  refine' doesP_of (binds := [("self", .ref sr), ("role_name", .str (bN k) t)]) ?ho ?hcd (fun _ => BindsTo.of_eq ?hb) ?hl ?h1 ?h2 ?h3 ?h4 ?h5 ?h
  case ho => k_is
  case hcd => k_is
  case hb => exact rfl
  case hl => exact locs rfl
  case h1 => exact rfl
  case h2 => exact rfl
  case h3 => exact rfl
  case h4 => decide
  case h5 => decide
  intro dp un gd outer base g L s mean mg mb B F X N T hlt hdp hun
  with_unfolding_all show wpAny _ _ (execs (_ :: _) _) _ _ _
  refine letAV ?_
  intro Vᵣ Aᵣ
  obtain ⟨hb1, hb2, hb3⟩ := bN_len k h0 (by omega)
  obtain ⟨hs1', hs2'⟩ := bN_starts k h0 (by omega)
  (repeat' (first | (k_unfold; (try dsimp only)) | ((try (with_reducible (show wpAny _ _ (exec _ _) _ _ _); k_fold)); (first | ((with_reducible refine tok_gen3 ?_); intro _) | ((with_reducible show wpAny _ _ (subscriptTail _ _ (Value.str _ _) (Value.ref _)) _ _ _); (k_here; (with_reducible rename Fr _ _ _ _ => F'ᵣ); (with_reducible rename News _ _ _ _ => N'ᵣ); k_dflt (refine' bN_tail (s := ⟨_, _, _, _, _⟩) F'ᵣ N'ᵣ ?aᵣ ?bᵣ ?_; (case aᵣ => assumption); (case bᵣ => (first | assumption | exact Nat.le_trans (by assumption) (by decide) | omega))); intro _ _ _ _ _)) | ((with_reducible show wpAny _ _ (call (Value.type "int") _) _ _ _); (k_here; k_dflt (refine call_int16' _ rfl (by assumption) (by (first | assumption | exact Nat.le_trans (by assumption) (by decide) | omega)) ?_); intro _ _)) | ((with_reducible show ite _ _ _); first | (refine' ite_yes ?cᵣ ?_; (case cᵣ => with_reducible assumption)) | (refine' ite_no ?cᵣ ?_; (case cᵣ => with_reducible assumption))) | ((with_reducible show ite _ _ _); first | (exfalso; (first | assumption | exact Nat.le_trans (by assumption) (by decide) | omega)) | (refine' ite_yes ?cᵣ ?_; (case cᵣ => (first | (simp only [decide_eq_true_eq, beq_iff_eq, bne_iff_ne, ne_eq]; (first | assumption | exact Nat.le_trans (by assumption) (by decide) | omega)) | (first | assumption | exact Nat.le_trans (by assumption) (by decide) | omega)))) | (refine' ite_no ?cᵣ ?_; (case cᵣ => (first | (simp only [decide_eq_true_eq, beq_iff_eq, bne_iff_ne, ne_eq]; (first | assumption | exact Nat.le_trans (by assumption) (by decide) | omega)) | (first | assumption | exact Nat.le_trans (by assumption) (by decide) | omega))))) | walk1 | (dsimp only; walk1))) | (leave1; walk_say "STEP leave1"; try dsimp only) | fail "no step"))
  exact endsP news (by k_asm) (by k_asm) ⟨rfl, rfl⟩
-- MyRs



theorem targS_bad (w : World) (x : Addr) (dl kd sr l : Addr) (th : Int) (news : Led) (hx : IsTarg w news x (.ref dl)) (hdl : IsDelg w news dl kd .none (.ref sr)) (hsr : IsSucc w news sr l th) : CallsV w 6 news 707 x "b-8" := by
  intro led t hs
  rw [show (Str.ofString "b-8" : PySem.Str) = bN 8 from by decide +kernel]
  obtain ⟨dx, td, ud, n, sv, t1, t2, t3, t4, t5, t6, t7, t8, t9, hx1, hx2⟩ := hx.mono hs
  obtain ⟨ddl, udl, ndl, q1, q2, q3, q4, hd1, hd2⟩ := hdl.mono hs
  have hsr' := hsr.mono hs
  obtain ⟨dsr, usr, nsr, p1, p2, p3, p4, p5, p6, p7, p8, p9, p10, p11, p12, hs1, hs2⟩ := hsr.mono hs
  have h0 : (0 : Int) ≤ 8 := by decide
  have h9 : (8 : Int) < 9 := by decide
  have hk8 : ¬ (decide ((8 : Int) < 8)) = true := by decide
  clear hs
  unfold RaisesV
  k_fill
  w_top off
  show RaisesV w 6 707 _ _
  refine' raises_of (binds := [("self", .ref x), ("delegated_role", .str (bN 8) t)]) ?ho ?hcd (fun _ => BindsTo.of_eq ?hb) ?hl ?h1 ?h2 ?h3 ?h4 ?h5 ?h
  case ho => k_is
  case hcd => k_is
  case hb => exact rfl
  case hl => exact locs rfl
  case h1 => exact rfl
  case h2 => exact rfl
  case h3 => exact rfl
  case h4 => decide
  case h5 => decide
  intro dp un gd outer base g L s mean mg mb Q E B F X N T XB TB D hlt hdp hun hE
  have Tz := T
  with_unfolding_all show wpAny _ _ (execs (_ :: _) _) _ _ _
  refine letAV ?_
  intro Vᵣ Aᵣ
  (repeat' (first | (k_unfold; (try dsimp only)) | ((try (with_reducible (show wpAny _ _ (exec _ _) _ _ _); k_fold)); (first | ((with_reducible refine tok_gen3 ?_); intro _) | ((k_here; (with_reducible show wpAny _ _ (call (Value.ref 585) _) _ _ _); k_dflt (refine' useP (isdel_t _ _ _ _ _ _ _ ?h0ᵣ ?h1ᵣ ?h2ᵣ) ?Bᵣ ?Fᵣ ?Xᵣ ?Nᵣ ?Tᵣ ?dᵣ ?uᵣ ?_; (case Bᵣ => k_asm); (case Fᵣ => k_asm); (case Xᵣ => k_asm); (case Nᵣ => k_asm); (case Tᵣ => k_asm); (case h2ᵣ => assumption); (case h0ᵣ => assumption); (case h1ᵣ => assumption); (case dᵣ => ktr_room); (case uᵣ => ((try simp only [units_deeper, units_under_make]); ktr_units)); k_whole; rintro _ h'ᵣ tk'ᵣ _ F'ᵣ N'ᵣ ⟨e1ᵣ, e2ᵣ⟩; subst e1ᵣ; subst e2ᵣ; (try dsimp only)))) | ((with_reducible show wpAny _ _ (formatField (Value.str _ _) _) _ _ _); (k_here; refine' fmt_any ?hzᵣ ?_; (case hzᵣ => first | (rw [sizeLine_eq]; (first | assumption | exact Nat.le_trans (by assumption) (by decide) | omega)) | size_fits | decide +kernel); intro _ _)) | ((with_reducible show ite _ _ _); first | (refine' ite_yes ?cᵣ ?_; (case cᵣ => with_reducible assumption)) | (refine' ite_no ?cᵣ ?_; (case cᵣ => with_reducible assumption))) | ((with_reducible show ite _ _ _); first | (exfalso; (first | assumption | exact Nat.le_trans (by assumption) (by decide) | omega)) | (refine' ite_yes ?cᵣ ?_; (case cᵣ => (first | (simp only [decide_eq_true_eq, beq_iff_eq, bne_iff_ne, ne_eq]; (first | assumption | exact Nat.le_trans (by assumption) (by decide) | omega)) | (first | assumption | exact Nat.le_trans (by assumption) (by decide) | omega)))) | (refine' ite_no ?cᵣ ?_; (case cᵣ => (first | (simp only [decide_eq_true_eq, beq_iff_eq, bne_iff_ne, ne_eq]; (first | assumption | exact Nat.le_trans (by assumption) (by decide) | omega)) | (first | assumption | exact Nat.le_trans (by assumption) (by decide) | omega))))) | ((k_here; (first | (with_reducible show wpAny _ _ (joinParts _ []) _ _ _) | (with_reducible show wpAny _ _ (joinParts _ (evalEach [] _)) _ _ _)); k_dflt (refine' joinParts_any ?zᵣ ?_; (case zᵣ => (refine' Nat.le_trans ?ktaᵣ ?ktbᵣ; (case ktaᵣ => kt_len); (case ktbᵣ => (rw [sizeLine_eq]; decide +kernel)))); intro _ _ _ _))) | (((with_reducible show _ ∧ _); (with_reducible show PySem.Str.length (_ ++ _) ≤ sizeLine ∧ wpAny _ _ (joinParts _ _) _ _ _); k_dflt (refine' And.intro ?zᵣ ?_; (case zᵣ => (refine' Nat.le_trans ?ktaᵣ ?ktbᵣ; (case ktaᵣ => kt_len); (case ktbᵣ => (rw [sizeLine_eq]; decide +kernel))))))) | walk1 | (dsimp only; walk1))) | (leave1; walk_say "STEP leave1"; try dsimp only) | fail "no step"))
  exact hE _ _ _ (by assumption) (by assumption) (by assumption)
-- MyRp



theorem targS_role (w : World) (x : Addr) (dl kd sr l : Addr) (th k : Int) (news : Led) (h0 : 0 ≤ k) (h1 : k < 8) (hx : IsTarg w news x (.ref dl)) (hdl : IsDelg w news dl kd .none (.ref sr)) (hsr : IsSucc w news sr l th) : CallsTo w 6 news 707 x (bN k) sr := by
  intro led t hs
  obtain ⟨dx, td, ud, n, sv, t1, t2, t3, t4, t5, t6, t7, t8, t9, hx1, hx2⟩ := hx.mono hs
  obtain ⟨ddl, udl, ndl, q1, q2, q3, q4, hd1, hd2⟩ := hdl.mono hs
  have hsr' := hsr.mono hs
  obtain ⟨dsr, usr, nsr, p1, p2, p3, p4, p5, p6, p7, p8, p9, p10, p11, p12, hs1, hs2⟩ := hsr.mono hs
  have h9 : k < 9 := by omega
  have hk8 : (decide (k < 8)) = true := decide_eq_true h1
  clear hs
  unfold DoesP
  k_fill
  w_top off
  show DoesP w 6 707 _ _ _
  refine' doesP_of (binds := [("self", .ref x), ("delegated_role", .str (bN k) t)]) ?ho ?hcd (fun _ => BindsTo.of_eq ?hb) ?hl ?h1 ?h2 ?h3 ?h4 ?h5 ?h
  case ho => k_is
  case hcd => k_is
  case hb => exact rfl
  case hl => exact locs rfl
  case h1 => exact rfl
  case h2 => exact rfl
  case h3 => exact rfl
  case h4 => decide
  case h5 => decide
  intro dp un gd outer base g L s mean mg mb B F X N T hlt hdp hun
  with_unfolding_all show wpAny _ _ (execs (_ :: _) _) _ _ _
  refine letAV ?_
  intro Vᵣ Aᵣ
  (repeat' (first | (k_unfold; (try dsimp only)) | ((try (with_reducible (show wpAny _ _ (exec _ _) _ _ _); k_fold)); (first | ((with_reducible refine tok_gen3 ?_); intro _) | ((k_here; (with_reducible show wpAny _ _ (call (Value.ref 585) _) _ _ _); k_dflt (refine' useP (isdel_t _ _ _ _ _ _ _ ?h0ᵣ ?h1ᵣ ?h2ᵣ) ?Bᵣ ?Fᵣ ?Xᵣ ?Nᵣ ?Tᵣ ?dᵣ ?uᵣ ?_; (case Bᵣ => k_asm); (case Fᵣ => k_asm); (case Xᵣ => k_asm); (case Nᵣ => k_asm); (case Tᵣ => k_asm); (case h2ᵣ => assumption); (case h0ᵣ => assumption); (case h1ᵣ => assumption); (case dᵣ => ktr_room); (case uᵣ => ((try simp only [units_deeper, units_under_make]); ktr_units)); k_whole; rintro _ h'ᵣ tk'ᵣ _ F'ᵣ N'ᵣ ⟨e1ᵣ, e2ᵣ⟩; subst e1ᵣ; subst e2ᵣ; (try dsimp only)))) | walk1 | (dsimp only; walk1))) | (leave1; walk_say "STEP leave1"; try dsimp only) | fail "no step"))
  exact endsP _ (by k_asm) (by k_asm) ⟨rfl, rfl⟩
-- MyGa
theorem MethIs.mono {w : World} {a b : Led} {x f : Addr} {n : PySem.Str} (h : MethIs w a x n f) (hs : ∀ p ∈ a, p ∈ b) : MethIs w b x n f := fun _ _ _ _ _ _ _ _ F X N hQ => h.use F X N hs hQ
theorem AttrIs.mono {w : World} {a b : Led} {x : Addr} {n : PySem.Str} {v : Value} (h : AttrIs w a x n v) (hs : ∀ p ∈ a, p ∈ b) : AttrIs w b x n v := fun _ _ _ _ _ _ _ _ F X N hQ => h.use F X N hs hQ
theorem Finds.mono {w : World} {a b : Led} {x fD fK : Addr} (h : Finds w a x fD fK) (hs : ∀ p ∈ a, p ∈ b) : Finds w b x fD fK := ⟨h.vd.mono hs, h.gv.mono hs, h.gd.mono hs, h.gk.mono hs, h.kd, h.kk⟩
theorem CallsTo.mono {w : World} {dn : Nat} {a b : Led} {f x r : Addr} {n : PySem.Str} (h : CallsTo w dn a f x n r) (hs : ∀ p ∈ a, p ∈ b) : CallsTo w dn b f x n r := fun led t hl => h led t fun p hp => hl p (hs p hp)
theorem CallsV.mono {w : World} {dn : Nat} {a b : Led} {f x : Addr} {n : PySem.Str} (h : CallsV w dn a f x n) (hs : ∀ p ∈ a, p ∈ b) : CallsV w dn b f x n := fun led t hl => h led t fun p hp => hl p (hs p hp)
theorem Delegates.mono {w : World} {a b : Led} {x fD fK rr l : Addr} {nm : PySem.Str} {th : Int} {kn : Int → Option Addr} (h : Delegates w a x fD fK nm rr l th kn) (hs : ∀ p ∈ a, p ∈ b) : Delegates w b x fD fK nm rr l th kn :=
  ⟨h.role.mono hs, fun k y h0 h1 hy => (h.key k y h0 h1 hy).mono hs, fun k h0 h1 hy => (h.nokey k h0 h1 hy).mono hs, h.keyids.mono hs, let ⟨t, ht⟩ := h.threshold; ⟨t, ht.mono hs⟩⟩
theorem keys_are {w : World} {a : Led} {kd : Addr} {kn : Int → Option Addr} (h : KeysIn w a kd kn) : ∀ k y, 0 ≤ k → k < 5 → kn k = some y → IsKey w a y k := fun k y h0 h1 hy => let ⟨_, _, _, _, _, hall⟩ := h; (hall k h0 h1).2 y hy
theorem gvrAll_of {w : World} {nl : Led} {x fD fK rr l kd sd : Addr} {nm : PySem.Str} {th : Int} {vs : List Value} {nn : Nat} {ks : List Int} {kn : Int → Option Addr} {sg : Int → Option PySem.Str} {P : PySem.Str}
    (hF : Finds w nl x fD fK) (hD : Delegates w nl x fD fK nm rr l th kn) (hk : KeysIn w nl kd kn) (hl : (l, listOf vs.toArray nn) ∈ nl) (hvs : StrsAre vs (ks.map kN)) (h5 : Good5 ks) (hs : SigsIn w nl sd sg)
    (hPa : Ascii P) (hPl : P.length ≤ 10) (hsa : ∀ k tx, sg k = some tx → Ascii tx) : GvrAll w nl x sd nm (bytesOf P) th kn (ks.filter (isS kn sg P)) (ks.filter (isU kn sg P)) := by
  intro led t t0 hsub dp un gd cn nm' ig ic mo a ccd cl outer A₀ base h₀ L m s mean mg mb Q E B F X N T XB TB D hd hu h
  refine useT (gvr_t w x fD fK rr l sd nm th vs nn ks kn sg P t t0 led (hF.mono hsub) (hD.mono hsub) (keys_are (hk.mono hsub)) (hsub _ hl) hvs h5 (hs.mono hsub) hPa hPl hsa) B F X N T XB TB D hd hu ?_
  rintro r h' g' tk' news' t' b' F' x' p' d' N' ⟨vr, tl, rfl, rfl, hv⟩
  exact h _ _ _ _ _ t' b' F' x' p' d' N' ⟨vr, rfl, fun p hp => List.mem_append_right _ hp, hv⟩
theorem GvrAll.mono {w : World} {a b : Led} {x sd : Addr} {nm : PySem.Str} {pb : Array UInt8} {th : Int} {kn : Int → Option Addr} {ss us : List Int} (h : GvrAll w a x sd nm pb th kn ss us) (hs : ∀ p ∈ a, p ∈ b) : GvrAll w b x sd nm pb th kn ss us := fun led t t0 hl => h led t t0 fun p hp => hl p (hs p hp)
theorem raisedOk_u (w : World) (x fD fK sd : Addr) (nm : PySem.Str) (th : Int) (kn : Int → Option Addr) (ss us : List Int) (t t0 : Tok) (pb : Array UInt8) (nl news : Led)
   (hF : Finds w nl x fD fK) (hl5 : ss.length ≤ 5) (ht1 : 1 ≤ th) (ht2 : th ≤ 4) (hnl : nm.length ≤ 10) (H : GvrAll w nl x sd nm pb th kn ss us) (hs : ∀ p ∈ nl, p ∈ news) :
   Does w 22 776 [.ref x, .str nm t0, .bytes pb t, .ref sd] news (fun r news' => ∃ u rv, r = .int rv u ∧ ((th ≤ (ss.length : Int) ∧ rv = 0) ∨ ((ss.length : Int) < th ∧ rv = 1)) ∧ news' = news) := by
  intro dp un gd cn nm' ig ic mo a ccd cl outer A₀ base h₀ L m s mean mg mb Q E B F X N T XB TB D hd hu h
  refine useT (raisedOk_t w x fD fK sd nm th kn ss us t t0 pb news (hF.mono hs) hl5 ht1 ht2 hnl (H.mono hs)) B F X N T XB TB D hd hu ?_
  rintro r h' g' tk' news' t' b' F' x' p' d' N' ⟨u, rfl, rfl⟩
  refine h _ _ _ _ _ t' b' F' x' p' d' N' ⟨u, _, rfl, ?_, rfl⟩
  by_cases e : th ≤ (ss.length : Int)
  · exact .inl ⟨e, if_pos e⟩
  · exact .inr ⟨by omega, if_neg e⟩
theorem raisedBad_u (w : World) (x fD fK sd : Addr) (nm : PySem.Str) (t t0 : Tok) (pb : Array UInt8) (nl news : Led) (hF : Finds w nl x fD fK) (hV : CallsV w 6 nl fD x nm) (hs : ∀ p ∈ nl, p ∈ news) :
   Does w 22 776 [.ref x, .str nm t0, .bytes pb t, .ref sd] news (fun r news' => ∃ u, r = .int 2 u ∧ news' = news) :=
  raisedBad_t w x fD fK sd nm t t0 pb news (hF.mono hs) (hV.mono hs)
def JD2 (ns : List PySem.Str) (m₀ : PySem.Str → Option Value) (led₀ : Led) (_ : Nat) (m : PySem.Str → Option Value) (led : Led) : Prop := ExSh ns m₀ m ∧ led = led₀
section
-- MyTr


/-- the three tables of places at the end -/
def Tabs3 (led : Led) : Prop := ∃ o1 o2 o3, (177, o1) ∈ led ∧ (465, o2) ∈ led ∧ (600, o3) ∈ led ∧ PlaceOk o1 ∧ PlaceOk o2 ∧ PlaceOk o3
local macro_rules | `(tactic| k_mem) => `(tactic| first | exact List.mem_cons_self | (refine List.mem_cons_of_mem _ ?_; k_mem) | assumption | (refine sub_mem (by assumption) ?_; k_mem) | ktr_member)
local macro_rules | `(tactic| k_all) => `(tactic| (intro p hp; (repeat (first | exact hp | refine List.mem_cons_of_mem _ ?_ | refine sub_mem (by assumption) ?_))))

theorem rest_t {w : World} {dp un : Nat} {gd : Option (List Code)} {outer : List Env} {base g : Heap} {L : Addr} {s : Shared} {mean : ExcName → Option Value} {mg mb : Str → Option Value}
   {x l kd sd ln : Addr} {nm nm2 : PySem.Str} {th : Int} {t1 t2 t3 t4 : Tok} {vs : List Value} {nn : Nat} {ks : List Int} {kn : Int → Option Addr} {sg : Int → Option PySem.Str} {P : PySem.Str} {mr : Str → Option Value} {op : Obj} {nl : Led} {Q : Flow → Shared → Prop}
   (B : Below (cTop0 dp un gd outer) base outer g)
   (F : Fr g L s.heap (fun y => if y = Str.ofString "names" then some (.ref ln) else if y = Str.ofString "other" then some (.str nm2 t2) else if y = Str.ofString "targets" then some (.ref x) else mr y))
   (X : (K w.params).In g) (N : News g L s.heap ((177, op) :: nl)) (T : TopM mean mg mb g) (XB : (K w.params).In base) (TB : TopM mean mg mb base) (D : KtsDicts (frs outer) g) (hG : AllBare s.gens) (hdp : dp + 30 < recursionLimit) (hun : un + 20 * 30 < cLine)
   (hr1 : mr (Str.ofString "role") = some (.ref l)) (hr2 : mr (Str.ofString "threshold") = some (.int th t3)) (hr3 : mr (Str.ofString "keys") = some (.ref kd)) (hr4 : mr (Str.ofString "payload") = some (.bytes (bytesOf P) t4)) (hr5 : mr (Str.ofString "signatures") = some (.ref sd))
   (hop : PlaceOk op) (h177 : ∀ p ∈ nl, p.1 ≠ 177) (hln : (ln, listOf #[.str nm t1] 0) ∈ nl) (hF : Finds w nl x 707 714) (hgv : GvrAll w nl x sd nm (bytesOf P) th kn (ks.filter (isS kn sg P)) (ks.filter (isU kn sg P))) (hV : CallsV w 6 nl 707 x nm2)
   (hl : (l, listOf vs.toArray nn) ∈ nl) (hvs : StrsAre vs (ks.map kN)) (h5 : Good5 ks) (hk : KeysIn w nl kd kn) (hs : SigsIn w nl sd sg) (hP : DecOk (bytesOf P) P) (hPl : P.length ≤ 10) (ht1 : 1 ≤ th) (ht2 : th ≤ 4) (hnl : nm.length ≤ 10)
   (hQ : ∀ s' g' m' led', KtsTurn (frs outer) g g' → Fr g' L s'.heap m' → News g' L s'.heap led' → s'.os = s.os → AllBare s'.gens → (∃ op', (177, op') ∈ led' ∧ PlaceOk op') → (∀ p ∈ nl, p ∈ led') → Q (.ret (.bool true)) s') :
   wpAny (model PySem.Challenge.rw_je0043_01.row.toRowW.1 w) ((cTop0 dp un gd outer).deeper (envOf "_law_targets" ⟨.function, (("w", .local) :: ("payload", .local) :: ("signatures", .local) :: ("role", .local) :: ("threshold", .local) :: ("keys", .local) :: ("roles", .local) :: ("targets", .local) :: ("names", .local) :: ("other", .local) :: ("due", .local) :: ("name", .local) :: ("_law_role", .globalImplicit) :: ("_law_next", .globalImplicit) :: ("_law_keys", .globalImplicit) :: ("DelegatedRole", .globalImplicit) :: ("list", .globalImplicit) :: ("Targets", .globalImplicit) :: ("Delegations", .globalImplicit) :: ("dict", .globalImplicit) :: ("SuccinctRoles", .globalImplicit) :: ("str", .globalImplicit) :: ("len", .globalImplicit) :: ("_law_due", .globalImplicit) :: ("_law_is", .globalImplicit) :: ("_law_raised", .globalImplicit) :: []), false, false, []⟩ L 788 (.ref 787)))
     (execs ((topB 32).drop 2) (envOf "_law_targets" ⟨.function, (("w", .local) :: ("payload", .local) :: ("signatures", .local) :: ("role", .local) :: ("threshold", .local) :: ("keys", .local) :: ("roles", .local) :: ("targets", .local) :: ("names", .local) :: ("other", .local) :: ("due", .local) :: ("name", .local) :: ("_law_role", .globalImplicit) :: ("_law_next", .globalImplicit) :: ("_law_keys", .globalImplicit) :: ("DelegatedRole", .globalImplicit) :: ("list", .globalImplicit) :: ("Targets", .globalImplicit) :: ("Delegations", .globalImplicit) :: ("dict", .globalImplicit) :: ("SuccinctRoles", .globalImplicit) :: ("str", .globalImplicit) :: ("len", .globalImplicit) :: ("_law_due", .globalImplicit) :: ("_law_is", .globalImplicit) :: ("_law_raised", .globalImplicit) :: []), false, false, []⟩ L 788 (.ref 787))) Q (fun _ _ => False) s := by
  revert X
  k_fill
  w_top off
  intro X
  have T0 : KtsTurn (frs outer) g g := KtsTurn.refl
  have Tz := T
  obtain ⟨hM1, hM2, hM3, hM4, hkD, hkK⟩ := id hF
  have hfl := filter_len5 (f := isS kn sg P) h5
  with_unfolding_all show wpAny _ _ (execs (_ :: _) _) _ _ _
  refine letAV ?_
  intro Vᵣ Aᵣ
  (repeat' (first | (k_unfold; (try dsimp only)) | ((try (with_reducible (show wpAny _ _ (exec _ _) _ _ _); k_fold)); (first | ((with_reducible refine tok_gen3 ?_); intro _) | ((with_reducible show wpAny _ _ (exec (Stmt.For _ _ _ _ _) _) _ _ _); (k_here; refine wpAny_For ?_ (by intro _; with_unfolding_all rfl))) | ((with_reducible show wpAny _ _ (call (Value.builtin "len") _) _ _ _); (k_here; k_dflt (refine' len_strs_led ?Nᵣ ?mᵣ ?dᵣ ?zᵣ ?_; (case Nᵣ => k_asm); (case mᵣ => k_mem); (case dᵣ => assumption); (case zᵣ => (first | assumption | exact Nat.le_trans (by assumption) (by decide) | omega))))) | ((k_here; (with_reducible show wpAny _ _ (call (Value.ref 764) _) _ _ _); k_dflt (refine' useP (due_t _ _ _ _ _ _ _ _ _ _ _ _ _ ?h1ᵣ ?h2ᵣ ?h3ᵣ ?h4ᵣ ?h5ᵣ ?h6ᵣ ?h7ᵣ) ?Bᵣ ?Fᵣ ?Xᵣ ?Nᵣ ?Tᵣ ?dᵣ ?uᵣ ?_; (case Bᵣ => k_asm); (case Fᵣ => k_asm); (case Xᵣ => k_asm); (case Nᵣ => k_asm); (case Tᵣ => k_asm); (case h1ᵣ => k_mem); (case h2ᵣ => assumption); (case h3ᵣ => assumption); (case h4ᵣ => (refine KeysIn.mono (by assumption) ?_; k_all)); (case h5ᵣ => (refine SigsIn.mono (by assumption) ?_; k_all)); (case h6ᵣ => assumption); (case h7ᵣ => assumption); (case dᵣ => ktr_room); (case uᵣ => ((try simp only [units_deeper, units_under_make]); ktr_units)); k_whole; rintro _ h'ᵣ tk'ᵣ _ F'ᵣ N'ᵣ ⟨T9ᵣ, S9ᵣ, U9ᵣ, ys9ᵣ, zs9ᵣ, n19ᵣ, n29ᵣ, n39ᵣ, e19ᵣ, e29ᵣ, hs9ᵣ, hu9ᵣ⟩; subst e19ᵣ; subst e29ᵣ; (try dsimp only)))) | ((with_reducible show wpAny _ _ (eval (Expr.Name _ _) _) _ _ _); (k_here; k_dflt (refine' nameX_L ?Fᵣ ?vᵣ ?_ ?aᵣ ?bᵣ; (case Fᵣ => k_asm); (case aᵣ => rfl); (case bᵣ => rfl); (case vᵣ => first | rfl | assumption); k_whole))) | walk1 | (dsimp only; walk1))) | (leave1; walk_say "STEP leave1"; try dsimp only) | fail "no step"))
  rename Fr g L _ _ => F5
  rename News g L _ _ => N5
  replace N5 := newsSub (news' := (177, op) :: nl) N5 (by k_all)
  refine' iterL (l := ln) (vs := [.str nm t1]) (nn := 0) rfl F5 N5 (List.mem_cons_of_mem _ hln) (by rfl) (by rfl) (by rfl) (Turned w (cTop0 dp un gd outer) base outer mean mg mb g) (JD2 ["name"] _ _) ⟨T0, B, X, T, D⟩ (fun _ h a e => h.T0.none_ a e) ⟨exsh_refl _ _, rfl⟩ ?src ?turn ?done
  case src =>
    rintro i m led ⟨-, rfl⟩
    exact List.mem_cons_of_mem _ hln
  case turn =>
    clear F5 N5
    rintro i v g' m₁ led I oI h tk R' TE hv ⟨T1, B1, X1, Tp1, D1⟩ ⟨⟨f, rfl⟩, rfl⟩ hne F1 N1 hTE
    obtain rfl : v = .str nm t1 := by
      match i with
      | 0 => exact (Option.some.inj hv).symm
      | i + 1 => cases hv
    have Tz1 := Tp1
    (repeat' (first | (k_unfold; (try dsimp only)) | ((try (with_reducible (show wpAny _ _ (exec _ _) _ _ _); k_fold)); (first | ((with_reducible refine tok_gen3 ?_); intro _) | ((k_here; (with_reducible show wpAny _ _ (call (Value.ref 776) _) _ _ _); k_dflt (refine' useT (raisedOk_u _ _ _ _ _ _ _ _ _ _ _ _ _ _ _ ?h0ᵣ ?h1ᵣ ?h2ᵣ ?h3ᵣ ?h4ᵣ ?h5ᵣ ?h6ᵣ) ?Bᵣ ?Fᵣ ?Xᵣ ?Nᵣ ?Tᵣ ?XBᵣ ?TBᵣ ?Dᵣ ?dᵣ ?uᵣ ?_; (case Bᵣ => k_asm); (case Fᵣ => k_asm); (case Xᵣ => k_asm); (case Nᵣ => k_asm); (case Tᵣ => k_asm); (case XBᵣ => k_asm); (case TBᵣ => k_asm); (case Dᵣ => k_asm); (case h5ᵣ => assumption); (case h0ᵣ => assumption); (case h1ᵣ => (first | assumption | exact Nat.le_trans (by assumption) (by decide) | omega)); (case h2ᵣ => assumption); (case h3ᵣ => assumption); (case h4ᵣ => assumption); (case h6ᵣ => k_all); (case dᵣ => ktr_room); (case uᵣ => ((try simp only [units_deeper, units_under_make]); ktr_units)); k_whole; rintro _ h'ᵣ g'ᵣ tk'ᵣ led9ᵣ t'ᵣ b'ᵣ F'ᵣ x'ᵣ p'ᵣ d'ᵣ N'ᵣ ⟨u9ᵣ, rv9ᵣ, e1ᵣ, hrv9ᵣ, e2ᵣ⟩; subst e1ᵣ; subst e2ᵣ; (try dsimp only)))) | ((k_here; (with_reducible show wpAny _ _ (call (Value.ref 769) _) _ _ _); k_dflt (refine' useP (is_t _ _ _ _ _ _ _ _ _ _ _ _ _ _ _ _ ?h0ᵣ ?h1ᵣ ?h2ᵣ ?h3ᵣ ?h4ᵣ ?h5ᵣ ?h6ᵣ ?h7ᵣ) ?Bᵣ ?Fᵣ ?Xᵣ ?Nᵣ ?Tᵣ ?dᵣ ?uᵣ ?_; (case Bᵣ => k_asm); (case Fᵣ => k_asm); (case Xᵣ => k_asm); (case Nᵣ => k_asm); (case Tᵣ => k_asm); (case h0ᵣ => assumption); (case h1ᵣ => k_mem); (case h2ᵣ => assumption); (case h3ᵣ => assumption); (case h4ᵣ => (refine KeysIn.mono (by assumption) ?_; k_all)); (case h5ᵣ => (refine SigsIn.mono (by assumption) ?_; k_all)); (case h6ᵣ => assumption); (case h7ᵣ => assumption); (case dᵣ => ktr_room); (case uᵣ => ((try simp only [units_deeper, units_under_make]); ktr_units)); k_whole; rintro _ h'ᵣ tk'ᵣ _ F'ᵣ N'ᵣ ⟨e19ᵣ, e29ᵣ⟩; subst e19ᵣ; subst e29ᵣ; (try dsimp only)))) | ((with_reducible show wpAny _ _ (getMethod (Value.ref _) _ _) _ _ _); (k_here; k_dflt (refine' MethIs.use (by assumption) ?Fᵣ ?Xᵣ ?Nᵣ ?sᵣ ?_; (case Fᵣ => k_asm); (case Xᵣ => k_asm); (case Nᵣ => k_asm); (case sᵣ => k_all); k_whole))) | ((k_here; (with_reducible show wpAny _ _ (call (Value.ref 362) _) _ _ _); k_dflt (refine' useT ((by assumption : GvrAll _ _ _ _ _ _ _ _ _ _) _ _ _ ?hsubᵣ) ?Bᵣ ?Fᵣ ?Xᵣ ?Nᵣ ?Tᵣ ?XBᵣ ?TBᵣ ?Dᵣ ?dᵣ ?uᵣ ?_; (case Bᵣ => k_asm); (case Fᵣ => k_asm); (case Xᵣ => k_asm); (case Nᵣ => k_asm); (case Tᵣ => k_asm); (case XBᵣ => k_asm); (case TBᵣ => k_asm); (case Dᵣ => k_asm); (case hsubᵣ => k_all); (case dᵣ => ktr_room); (case uᵣ => ((try simp only [units_deeper, units_under_make]); ktr_units)); k_whole; rintro _ h'ᵣ g'ᵣ tk'ᵣ led9ᵣ t'ᵣ b'ᵣ F'ᵣ x'ᵣ p'ᵣ d'ᵣ N'ᵣ ⟨vrᵣ, e1ᵣ, hsub9ᵣ, hvr9ᵣ⟩; subst e1ᵣ; (try dsimp only)))) | ((with_reducible show wpAny _ _ (eval (Expr.Name _ _) _) _ _ _); (k_here; k_dflt (refine' nameX_L ?Fᵣ ?vᵣ ?_ ?aᵣ ?bᵣ; (case Fᵣ => k_asm); (case aᵣ => rfl); (case bᵣ => rfl); (case vᵣ => first | rfl | assumption); k_whole))) | ((with_reducible show ite _ _ _); first | (exfalso; (first | assumption | exact Nat.le_trans (by assumption) (by decide) | omega)) | (refine' ite_yes ?cᵣ ?_; (case cᵣ => (first | (simp only [decide_eq_true_eq, beq_iff_eq, bne_iff_ne, ne_eq]; (first | assumption | exact Nat.le_trans (by assumption) (by decide) | omega)) | (first | assumption | exact Nat.le_trans (by assumption) (by decide) | omega)))) | (refine' ite_no ?cᵣ ?_; (case cᵣ => (first | (simp only [decide_eq_true_eq, beq_iff_eq, bne_iff_ne, ne_eq]; (first | assumption | exact Nat.le_trans (by assumption) (by decide) | omega)) | (first | assumption | exact Nat.le_trans (by assumption) (by decide) | omega))))) | walk1 | (dsimp only; walk1))) | (leave1; walk_say "STEP leave1"; try dsimp only) | fail "no step"))
    all_goals
      refine' hTE _ _ _ _ ((177, op) :: nl) _ ?hG ?hF ?hN (fun p hp => hne p hp) ?hJ (.inl rfl)
      case hG => exact ⟨KtsTurn.trans (KtsTurn.trans T1 (by assumption)) (by assumption), by assumption, by assumption, by assumption, by assumption⟩
      case hF => k_asm
      case hN => exact newsSub (by k_asm) (by assumption)
      case hJ => exact ⟨exsh_upd (by decide) (exsh_f _ _ _), rfl⟩
  case done =>
    rintro g' m led h tk ⟨T1, B1, X1, Tp1, D1⟩ ⟨⟨f, rfl⟩, rfl⟩ F1 N1
    have Tz1 := Tp1
    clear F5 N5
    dsimp only
    (repeat' (first | (k_unfold; (try dsimp only)) | ((try (with_reducible (show wpAny _ _ (exec _ _) _ _ _); k_fold)); (first | ((with_reducible refine tok_gen3 ?_); intro _) | ((k_here; (with_reducible show wpAny _ _ (call (Value.ref 717) _) _ _ _); k_dflt (refine' useKS (targN_t _ _ _ _ _ _ ?hopᵣ ?hnPᵣ) ?Bᵣ ?Fᵣ ?Xᵣ (take_sub ?Nᵣ ?tᵣ) ?Tᵣ ?Gᵣ ?dᵣ ?uᵣ ?_; (case Bᵣ => k_asm); (case Fᵣ => k_asm); (case Xᵣ => k_asm); (case Nᵣ => k_asm); (case Tᵣ => k_asm); (case Gᵣ => k_asm); (case tᵣ => repeat (first | exact Take.head | apply Take.tail)); (case hopᵣ => assumption); (case hnPᵣ => assumption); (case dᵣ => ktr_room); (case uᵣ => ((try simp only [units_deeper, units_under_make]); ktr_units)); k_whole; rintro _ s9ᵣ _ F'ᵣ N'ᵣ os9ᵣ bare9ᵣ ⟨x9ᵣ, fam9ᵣ, op9ᵣ, e1ᵣ, e2ᵣ, hop9ᵣ, hIT9ᵣ, hab9ᵣ⟩; subst e1ᵣ; subst e2ᵣ; (try dsimp only); refine marked3 ?_))) | ((k_here; (with_reducible show wpAny _ _ (call (Value.ref 776) _) _ _ _); k_dflt (refine' useT (raisedBad_u _ _ _ _ _ _ _ _ _ _ _ ?h0ᵣ ?h5ᵣ ?h6ᵣ) ?Bᵣ ?Fᵣ ?Xᵣ ?Nᵣ ?Tᵣ ?XBᵣ ?TBᵣ ?Dᵣ ?dᵣ ?uᵣ ?_; (case Bᵣ => k_asm); (case Fᵣ => k_asm); (case Xᵣ => k_asm); (case Nᵣ => k_asm); (case Tᵣ => k_asm); (case XBᵣ => k_asm); (case TBᵣ => k_asm); (case Dᵣ => k_asm); (case h5ᵣ => assumption); (case h0ᵣ => assumption); (case h6ᵣ => k_all); (case dᵣ => ktr_room); (case uᵣ => ((try simp only [units_deeper, units_under_make]); ktr_units)); k_whole; rintro _ h'ᵣ g'ᵣ tk'ᵣ led9ᵣ t'ᵣ b'ᵣ F'ᵣ x'ᵣ p'ᵣ d'ᵣ N'ᵣ ⟨u9ᵣ, e1ᵣ, e2ᵣ⟩; subst e1ᵣ; subst e2ᵣ; (try dsimp only)))) | ((with_reducible show wpAny _ _ (eval (Expr.Name _ _) _) _ _ _); (k_here; k_dflt (refine' nameX_L ?Fᵣ ?vᵣ ?_ ?aᵣ ?bᵣ; (case Fᵣ => k_asm); (case aᵣ => rfl); (case bᵣ => rfl); (case vᵣ => first | rfl | assumption); k_whole))) | walk1 | (dsimp only; walk1))) | (leave1; walk_say "STEP leave1"; try dsimp only) | fail "no step"))
    unfold Marked3
    rename IsTarg w _ _ _ => hIT
    rename List (Addr × Obj) => fam9
    have hF9 := targ_finds w _ _ _ hIT
    have hV9 := targN_bad w _ _ hIT
    have hsub9 : ∀ p ∈ fam9, p ∈ fam9 ++ nl := fun p hp => List.mem_append_left _ hp
    (repeat' (first | (k_unfold; (try dsimp only)) | ((try (with_reducible (show wpAny _ _ (exec _ _) _ _ _); k_fold)); (first | ((with_reducible refine tok_gen3 ?_); intro _) | ((k_here; (with_reducible show wpAny _ _ (call (Value.ref 776) _) _ _ _); k_dflt (refine' useT (raisedBad_u _ _ _ _ _ _ _ _ _ _ _ ?h0ᵣ ?h5ᵣ ?h6ᵣ) ?Bᵣ ?Fᵣ ?Xᵣ ?Nᵣ ?Tᵣ ?XBᵣ ?TBᵣ ?Dᵣ ?dᵣ ?uᵣ ?_; (case Bᵣ => k_asm); (case Fᵣ => k_asm); (case Xᵣ => k_asm); (case Nᵣ => k_asm); (case Tᵣ => k_asm); (case XBᵣ => k_asm); (case TBᵣ => k_asm); (case Dᵣ => k_asm); (case h5ᵣ => assumption); (case h0ᵣ => assumption); (case h6ᵣ => k_all); (case dᵣ => ktr_room); (case uᵣ => ((try simp only [units_deeper, units_under_make]); ktr_units)); k_whole; rintro _ h'ᵣ g'ᵣ tk'ᵣ led9ᵣ t'ᵣ b'ᵣ F'ᵣ x'ᵣ p'ᵣ d'ᵣ N'ᵣ ⟨u9ᵣ, e1ᵣ, e2ᵣ⟩; subst e1ᵣ; subst e2ᵣ; (try dsimp only)))) | ((with_reducible show wpAny _ _ (eval (Expr.Name _ _) _) _ _ _); (k_here; k_dflt (refine' nameX_L ?Fᵣ ?vᵣ ?_ ?aᵣ ?bᵣ; (case Fᵣ => k_asm); (case aᵣ => rfl); (case bᵣ => rfl); (case vᵣ => first | rfl | assumption); k_whole))) | walk1 | (dsimp only; walk1))) | (leave1; walk_say "STEP leave1"; try dsimp only) | fail "no step"))
    exact hQ _ _ _ _ (KtsTurn.trans (KtsTurn.trans T1 (by assumption)) (by assumption)) (by k_asm) (by k_asm) (by assumption) (by assumption) ⟨_, List.mem_cons_self, by assumption⟩ (fun p hp => List.mem_cons_of_mem _ (List.mem_append_right _ hp))
end
section
-- MyTt

local macro_rules | `(tactic| k_all) => `(tactic| (refine List.forall_mem_cons.mpr ⟨?a, ?b⟩; (case a => k_ne); (case b => k_all)))





theorem targets_t (w : World) (d rw sd : Addr) (o op o4 o6 : Obj) (sg : Int → Option PySem.Str) (P : PySem.Str) (t : Tok) (news : Led) (W : WD w o rw) (R : RowIn news rw) (hsep : ∀ p ∈ news, p.1 ≠ d) (hop : PlaceOk op) (ho4 : PlaceOk o4) (ho6 : PlaceOk o6)
   (h177 : ∀ p ∈ news, p.1 ≠ 177) (h465 : ∀ p ∈ news, p.1 ≠ 465) (h600 : ∀ p ∈ news, p.1 ≠ 600) (hd177 : (@Ne Nat 177 d)) (hd465 : (@Ne Nat 465 d)) (hd600 : (@Ne Nat 600 d))
   (hs : SigsIn w news sd sg) (hPa : Ascii P) (hP : DecOk (bytesOf P) P) (hPl : P.length ≤ 10) (hsa : ∀ k tx, sg k = some tx → Ascii tx) :
   DoesZ w 40 788 [.ref d, .bytes (bytesOf P) t, .ref sd] ((d, o) :: (177, op) :: (465, o4) :: (600, o6) :: news) (fun r news' => r = .bool true ∧ Tabs3 news') := by
  unfold DoesZ
  k_fill
  w_top off
  show DoesZ w 40 788 _ _ _
  refine' doesZ_of (binds := [("w", .ref d), ("payload", .bytes (bytesOf P) t), ("signatures", .ref sd)]) ?ho ?hcd (fun _ => BindsTo.of_eq ?hb) ?hl ?h1 ?h2 ?h3 ?h4 ?h5 ?h
  case ho => k_is
  case hcd => k_is
  case hb => exact rfl
  case hl => exact locs rfl
  case h1 => exact rfl
  case h2 => exact rfl
  case h3 => exact rfl
  case h4 => decide
  case h5 => decide
  intro dp un gd outer base g L s mean mg mb B F X N T XB TB D hG hlt hdp hun
  have Tz := T
  with_unfolding_all show wpAny _ _ (execs (_ :: _) _) _ _ _
  refine letAV ?_
  intro Vᵣ Aᵣ
  (repeat' (first | (k_unfold; (try dsimp only)) | ((try k_fold); (first | ((with_reducible refine tok_gen3 ?_); intro _) | ((k_here; (with_reducible show wpAny _ _ (call (Value.ref 750) _) _ _ _); k_dflt (refine' useP (keys_t _ _ _ _ _ ?Wᵣ ?Rᵣ ?sᵣ) ?Bᵣ ?Fᵣ ?Xᵣ (take_sub ?Nᵣ ?tᵣ) ?Tᵣ ?dᵣ ?uᵣ ?_; (case Bᵣ => k_asm); (case Fᵣ => k_asm); (case Xᵣ => k_asm); (case Nᵣ => k_asm); (case Tᵣ => k_asm); (case tᵣ => repeat (first | exact Take.head | apply Take.tail)); (case Wᵣ => assumption); (case Rᵣ => (repeat (first | assumption | apply RowIn.cons))); (case sᵣ => k_all); (case dᵣ => ktr_room); (case uᵣ => ((try simp only [units_deeper, units_under_make]); ktr_units)); k_whole; rintro _ h'ᵣ tk'ᵣ _ F'ᵣ N'ᵣ ⟨kd9ᵣ, o9ᵣ, kn9ᵣ, fam9ᵣ, e1ᵣ, e2ᵣ, W9ᵣ, hf9ᵣ, hk9ᵣ, hab9ᵣ⟩; subst e1ᵣ; subst e2ᵣ; (try dsimp only); refine marked3 ?_))) | ((k_here; (with_reducible show wpAny _ _ (call (Value.ref 745) _) _ _ _); k_dflt (refine' useP (role_t _ _ _ _ _ ?Wᵣ ?Rᵣ ?sᵣ) ?Bᵣ ?Fᵣ ?Xᵣ (take_sub ?Nᵣ ?tᵣ) ?Tᵣ ?dᵣ ?uᵣ ?_; (case Bᵣ => k_asm); (case Fᵣ => k_asm); (case Xᵣ => k_asm); (case Nᵣ => k_asm); (case Tᵣ => k_asm); (case tᵣ => repeat (first | exact Take.head | apply Take.tail)); (case Wᵣ => assumption); (case Rᵣ => (repeat (first | assumption | apply RowIn.cons))); (case sᵣ => k_all); (case dᵣ => ktr_room); (case uᵣ => ((try simp only [units_deeper, units_under_make]); ktr_units)); k_whole; rintro _ h'ᵣ tk'ᵣ _ F'ᵣ N'ᵣ ⟨D9ᵣ, vs9ᵣ, n9ᵣ, o9ᵣ, ks9ᵣ, e1ᵣ, e2ᵣ, hs9ᵣ, hg9ᵣ, W9ᵣ, hn9ᵣ, hl9ᵣ⟩; subst e1ᵣ; subst e2ᵣ; (try simp only [List.forall_mem_cons] at hl9ᵣ); (try dsimp only)))) | ((k_here; (with_reducible show wpAny _ _ (call (Value.ref 733) _) _ _ _); k_dflt (refine' next_use ?Bᵣ ?Fᵣ ?Xᵣ ?Nᵣ ?Tᵣ ?tᵣ ?dᵣ ?uᵣ ?mᵣ ?Wᵣ ?Rᵣ ?sᵣ ?_; (case Bᵣ => k_asm); (case Fᵣ => k_asm); (case Xᵣ => k_asm); (case Nᵣ => k_asm); (case Tᵣ => k_asm); (case tᵣ => repeat (first | exact Take.head | apply Take.tail)); (case dᵣ => ktr_room); (case uᵣ => ktr_units); (case mᵣ => decide); (case Wᵣ => assumption); (case Rᵣ => (repeat (first | assumption | apply RowIn.cons))); (case sᵣ => k_all); k_whole; intro v9ᵣ u9ᵣ o9ᵣ h9ᵣ tk9ᵣ hv0ᵣ hv1ᵣ F9ᵣ N9ᵣ W9ᵣ; (try dsimp only)))) | walk1)) | (dsimp only; walk1) | (leave1; walk_say "STEP leave1"; try dsimp only) | fail "no step"))
  unfold Marked3
  rename KeysN _ _ _ _ => hk9
  rename WD _ _ _ => W9
  rename ∀ p ∈ (_ : Led), p.1 ≠ d => hf9
  rename ∀ q ∈ (_ : Led), AllLt q.1 _ => hab9
  rename News g L _ ((d, _) :: (_ ++ _)) => N9
  rename StrsAre _ _ => hs9
  rename Good5 _ => hg9
  rename (_ ∧ _ ∧ _ ∧ ∀ p ∈ news, p.1 ≠ _) => hl9
  replace N9 := fam_up4 N9
  have ha8 := nl_ne (fun p hp => Nat.ne_of_gt (hab9 p hp).1) hl9.2.2.2
  have hb8 := nl_ne (fun p hp => Nat.ne_of_gt (hab9 p hp).2.1) h177
  have hc8 := nl_ne (fun p hp => Nat.ne_of_gt (hab9 p hp).2.2.1) h465
  have he8 := nl_ne (fun p hp => Nat.ne_of_gt (hab9 p hp).2.2.2.1) h600
  have hd8 := nl_ne hf9 hsep
  rename Led => famK
  obtain ⟨nl, hnl⟩ : ∃ nl, nl = famK ++ news := ⟨_, rfl⟩
  rw [← hnl] at N9 ha8 hb8 hc8 he8 hd8
  have R8 : RowIn nl rw := R.mono fun p hp => hnl ▸ List.mem_append_right _ hp
  have hk8 : KeysN w nl _ _ := hk9.mono fun p hp => hnl ▸ List.mem_append_left _ hp
  have hs8 : SigsIn w nl _ _ := hs.mono fun p hp => hnl ▸ List.mem_append_right _ hp
  have hD1 : (@Ne Nat 177 _) := hl9.1
  have hD2 : (@Ne Nat 465 _) := hl9.2.1
  have hD3 : (@Ne Nat 600 _) := hl9.2.2.1
  obtain ⟨ok, kvs, hok, hkd, hlo, hkz, hkall⟩ := id hk8
  have hl5 := hs9.length
  rw [List.length_map] at hl5
  have hg5 := hg9.len
  clear hab9 hf9 hk9
  have hos : s.os = s.os := rfl
  (repeat' (first | (k_unfold; (try dsimp only)) | ((try k_fold); (first | ((with_reducible refine tok_gen3 ?_); intro _) | ((k_here; (with_reducible show wpAny _ _ (call (Value.ref 588) _) _ _ _); (with_reducible rename StrsAre _ (List.map kN _) => hs7); k_dflt (refine' useK (succC_t _ _ _ _ _ _ _ _ _ _ ?hlᵣ hs7 (names_dd (by assumption)) ?zzᵣ ?ztᵣ) ?Bᵣ ?Fᵣ ?Xᵣ ?Nᵣ ?Tᵣ ?dᵣ ?uᵣ ?_; (case Bᵣ => k_asm); (case Fᵣ => k_asm); (case Xᵣ => k_asm); (case Nᵣ => k_asm); (case Tᵣ => k_asm); (case hlᵣ => k_mem); (case zzᵣ => (rw [List.length_map]; (first | assumption | exact Nat.le_trans (by assumption) (by decide) | omega))); (case ztᵣ => (first | assumption | exact Nat.le_trans (by assumption) (by decide) | omega)); (case dᵣ => ktr_room); (case uᵣ => ((try simp only [units_deeper, units_under_make]); ktr_units)); k_whole); rintro _ h'ᵣ tk'ᵣ _ F'ᵣ N'ᵣ ⟨x9ᵣ, fam9ᵣ, e1ᵣ, e2ᵣ, hIR9ᵣ, hab9ᵣ⟩; subst e1ᵣ; subst e2ᵣ; (try dsimp only); refine marked3 ?_)) | ((k_here; (with_reducible show wpAny _ _ (call (Value.ref 514) _) _ _ _); k_dflt (first | (refine' useKS (droleC_t _ _ _ [] [] _ _ _ _ _ _ _ ?hlᵣ ?hpᵣ .nil rfl (by decide) ?ztᵣ ?hopᵣ ?hnPᵣ) ?Bᵣ ?Fᵣ ?Xᵣ (take_sub ?Nᵣ ?tᵣ) ?Tᵣ ?Gᵣ ?dᵣ ?uᵣ ?_; (case Bᵣ => k_asm); (case Fᵣ => k_asm); (case Xᵣ => k_asm); (case Nᵣ => k_asm); (case Tᵣ => k_asm); (case Gᵣ => k_asm); (case tᵣ => repeat (first | exact Take.head | apply Take.tail)); (case hlᵣ => k_mem); (case hpᵣ => k_mem); (case ztᵣ => (first | assumption | exact Nat.le_trans (by assumption) (by decide) | omega)); (case hopᵣ => assumption); (case hnPᵣ => k_all); (case dᵣ => ktr_room); (case uᵣ => ((try simp only [units_deeper, units_under_make]); ktr_units)); k_whole) | ((with_reducible rename StrsAre _ (List.map kN _) => hs7); refine' useKS (droleC_t _ _ _ _ _ _ _ _ _ _ _ _ ?hlᵣ ?hpᵣ hs7 (names_dd (by assumption)) ?zzᵣ ?ztᵣ ?hopᵣ ?hnPᵣ) ?Bᵣ ?Fᵣ ?Xᵣ (take_sub ?Nᵣ ?tᵣ) ?Tᵣ ?Gᵣ ?dᵣ ?uᵣ ?_; (case Bᵣ => k_asm); (case Fᵣ => k_asm); (case Xᵣ => k_asm); (case Nᵣ => k_asm); (case Tᵣ => k_asm); (case Gᵣ => k_asm); (case tᵣ => repeat (first | exact Take.head | apply Take.tail)); (case hlᵣ => k_mem); (case hpᵣ => k_mem); (case zzᵣ => (rw [List.length_map]; (first | assumption | exact Nat.le_trans (by assumption) (by decide) | omega))); (case ztᵣ => (first | assumption | exact Nat.le_trans (by assumption) (by decide) | omega)); (case hopᵣ => assumption); (case hnPᵣ => k_all); (case dᵣ => ktr_room); (case uᵣ => ((try simp only [units_deeper, units_under_make]); ktr_units)); k_whole)); rintro _ s9ᵣ _ F'ᵣ N'ᵣ os9ᵣ bare9ᵣ ⟨x9ᵣ, fam9ᵣ, op9ᵣ, e1ᵣ, e2ᵣ, hop9ᵣ, hIR9ᵣ, hab9ᵣ⟩; subst e1ᵣ; subst e2ᵣ; (try dsimp only); refine marked3 ?_)) | ((with_reducible show wpAny _ _ (call (Value.type "dict") _) _ _ _); (k_here; k_dflt (refine' dict_copy_led ?Fᵣ ?Nᵣ ?bᵣ ?hmᵣ ?loᵣ ?hdᵣ ?zᵣ ?_; (case Fᵣ => k_asm); (case Nᵣ => k_asm); (case hmᵣ => k_mem); (case loᵣ => assumption); (case hdᵣ => assumption); (case bᵣ => exact modules_low (Top.nolimit (by k_asm))); (case zᵣ => assumption)); intro D'ᵣ h'ᵣ o'ᵣ F'ᵣ N'ᵣ lo'ᵣ hd'ᵣ hl'ᵣ; (try k_lt hl'ᵣ))) | ((k_here; (with_reducible show wpAny _ _ (call (Value.type _) [Value.ref _]) _ _ _); k_dflt (refine' list_copy_led ?Fᵣ ?Nᵣ ?bᵣ ?zᵣ ?_; (case Fᵣ => k_asm); (case Nᵣ => k_asm); (case bᵣ => k_mem); (case zᵣ => (first | assumption | exact Nat.le_trans (by assumption) (by decide) | omega))); intro D'ᵣ c'ᵣ h'ᵣ F'ᵣ N'ᵣ l1ᵣ; (try k_lt l1ᵣ); (try k_sweep))) | ((k_here; (with_reducible show wpAny _ _ (call (Value.ref 733) _) _ _ _); k_dflt (refine' next_use ?Bᵣ ?Fᵣ ?Xᵣ ?Nᵣ ?Tᵣ ?tᵣ ?dᵣ ?uᵣ ?mᵣ ?Wᵣ ?Rᵣ ?sᵣ ?_; (case Bᵣ => k_asm); (case Fᵣ => k_asm); (case Xᵣ => k_asm); (case Nᵣ => k_asm); (case Tᵣ => k_asm); (case tᵣ => repeat (first | exact Take.head | apply Take.tail)); (case dᵣ => ktr_room); (case uᵣ => ktr_units); (case mᵣ => decide); (case Wᵣ => assumption); (case Rᵣ => (repeat (first | assumption | apply RowIn.cons))); (case sᵣ => k_all); k_whole; intro v9ᵣ u9ᵣ o9ᵣ h9ᵣ tk9ᵣ hv0ᵣ hv1ᵣ F9ᵣ N9ᵣ W9ᵣ; (try dsimp only)))) | walk1)) | (dsimp only; walk1) | (leave1; walk_say "STEP leave1"; try dsimp only) | fail "no step"))
  · skip
    unfold Marked3
    rename News g L _ ((465, _) :: (_ ++ _)) => N5
    rename ∀ q ∈ (_ : Led), _ ∧ AllLt q.1 _ => hab5
    rename IsDRole w _ _ _ _ => hR1
    obtain ⟨nl2, hnl2, N6, hne2, hne2', hs2, hf2⟩ := led_in N5 (by (repeat apply Cut.cons); exact Cut.nil) hab5
    simp only [List.cons_append, List.nil_append] at N6
    replace hR1 := hR1.mono hf2
    replace ha8 := hne2 _ _ ha8 (by k_mem)
    replace hb8 := hne2 177 _ hb8 (by k_mem)
    replace he8 := hne2 600 _ he8 (by k_mem)
    replace hd8 := hne2 d _ hd8 (by k_mem)
    replace hc8 := hne2' hc8
    replace R8 := R8.mono hs2
    replace hs8 := hs8.mono hs2
    replace hk8 := hk8.mono hs2
    replace hkall := fun k a b => And.intro (hkall k a b).1 (fun x hx => ((hkall k a b).2 x hx).mono hs2)
    rename Shared.os _ = Shared.os _ => ho9
    replace hos := Eq.trans ho9 hos
    replace hok := hs2 _ hok
    rename Obj.IsDictOf _ _ [] => hde
    have hx1 := ne_dict hne2 hde (by k_mem) (by k_all)
    clear N5 hab5
    (repeat' (first | (k_unfold; (try dsimp only)) | ((try k_fold); (first | ((with_reducible refine tok_gen3 ?_); intro _) | ((k_here; (with_reducible show wpAny _ _ (call (Value.ref 514) _) _ _ _); k_dflt (first | (refine' useKS (droleC_t _ _ _ [] [] _ _ _ _ _ _ _ ?hlᵣ ?hpᵣ .nil rfl (by decide) ?ztᵣ ?hopᵣ ?hnPᵣ) ?Bᵣ ?Fᵣ ?Xᵣ (take_sub ?Nᵣ ?tᵣ) ?Tᵣ ?Gᵣ ?dᵣ ?uᵣ ?_; (case Bᵣ => k_asm); (case Fᵣ => k_asm); (case Xᵣ => k_asm); (case Nᵣ => k_asm); (case Tᵣ => k_asm); (case Gᵣ => k_asm); (case tᵣ => repeat (first | exact Take.head | apply Take.tail)); (case hlᵣ => k_mem); (case hpᵣ => k_mem); (case ztᵣ => (first | assumption | exact Nat.le_trans (by assumption) (by decide) | omega)); (case hopᵣ => assumption); (case hnPᵣ => k_all); (case dᵣ => ktr_room); (case uᵣ => ((try simp only [units_deeper, units_under_make]); ktr_units)); k_whole) | ((with_reducible rename StrsAre _ (List.map kN _) => hs7); refine' useKS (droleC_t _ _ _ _ _ _ _ _ _ _ _ _ ?hlᵣ ?hpᵣ hs7 (names_dd (by assumption)) ?zzᵣ ?ztᵣ ?hopᵣ ?hnPᵣ) ?Bᵣ ?Fᵣ ?Xᵣ (take_sub ?Nᵣ ?tᵣ) ?Tᵣ ?Gᵣ ?dᵣ ?uᵣ ?_; (case Bᵣ => k_asm); (case Fᵣ => k_asm); (case Xᵣ => k_asm); (case Nᵣ => k_asm); (case Tᵣ => k_asm); (case Gᵣ => k_asm); (case tᵣ => repeat (first | exact Take.head | apply Take.tail)); (case hlᵣ => k_mem); (case hpᵣ => k_mem); (case zzᵣ => (rw [List.length_map]; (first | assumption | exact Nat.le_trans (by assumption) (by decide) | omega))); (case ztᵣ => (first | assumption | exact Nat.le_trans (by assumption) (by decide) | omega)); (case hopᵣ => assumption); (case hnPᵣ => k_all); (case dᵣ => ktr_room); (case uᵣ => ((try simp only [units_deeper, units_under_make]); ktr_units)); k_whole)); rintro _ s9ᵣ _ F'ᵣ N'ᵣ os9ᵣ bare9ᵣ ⟨x9ᵣ, fam9ᵣ, op9ᵣ, e1ᵣ, e2ᵣ, hop9ᵣ, hIR9ᵣ, hab9ᵣ⟩; subst e1ᵣ; subst e2ᵣ; (try dsimp only); refine marked3 ?_)) | walk1)) | (dsimp only; walk1) | (leave1; walk_say "STEP leave1"; try dsimp only) | fail "no step"))
    unfold Marked3
    rename News g L _ ((465, _) :: (_ ++ _)) => N5
    rename ∀ q ∈ (_ : Led), _ ∧ AllLt q.1 _ => hab5
    rename IsDRole w _ _ _ 1 => hR2
    obtain ⟨nl3, hnl2, N6, hne2, hne2', hs2, hf2⟩ := led_in N5 (by (repeat apply Cut.cons); exact Cut.nil) hab5
    simp only [List.cons_append, List.nil_append] at N6
    replace hR2 := hR2.mono hf2
    replace ha8 := hne2 _ _ ha8 (by k_mem)
    replace hb8 := hne2 177 _ hb8 (by k_mem)
    replace he8 := hne2 600 _ he8 (by k_mem)
    replace hd8 := hne2 d _ hd8 (by k_mem)
    replace hc8 := hne2' hc8
    replace R8 := R8.mono hs2
    replace hs8 := hs8.mono hs2
    replace hk8 := hk8.mono hs2
    replace hkall := fun k a b => And.intro (hkall k a b).1 (fun x hx => ((hkall k a b).2 x hx).mono hs2)
    rename Shared.os _ = Shared.os _ => ho9
    replace hos := Eq.trans ho9 hos
    replace hok := hs2 _ hok
    replace hR1 := hR1.mono hs2
    replace hx1 := hne2 _ _ hx1 (by k_mem)
    clear N5 hab5
    (repeat' (first | (k_unfold; (try dsimp only)) | ((try k_fold); (first | ((with_reducible refine tok_gen3 ?_); intro _) | ((k_here; (with_reducible show wpAny _ _ (call (Value.ref 639) _) _ _ _); k_dflt (refine' useKS (delgR_t _ _ _ _ _ _ _ _ ?hrᵣ ?hdᵣ ?hsᵣ ?hopᵣ ?hnPᵣ) ?Bᵣ ?Fᵣ ?Xᵣ (take_sub ?Nᵣ ?tᵣ) ?Tᵣ ?Gᵣ ?dᵣ ?uᵣ ?_; (case Bᵣ => k_asm); (case Fᵣ => k_asm); (case Xᵣ => k_asm); (case Nᵣ => k_asm); (case Tᵣ => k_asm); (case Gᵣ => k_asm); (case tᵣ => repeat (first | exact Take.head | apply Take.tail)); (case hrᵣ => k_mem); (case hdᵣ => assumption); (case hsᵣ => assumption); (case hopᵣ => assumption); (case hnPᵣ => k_all); (case dᵣ => ktr_room); (case uᵣ => ((try simp only [units_deeper, units_under_make]); ktr_units)); k_whole); rintro _ s9ᵣ _ F'ᵣ N'ᵣ os9ᵣ bare9ᵣ ⟨x9ᵣ, fam9ᵣ, op9ᵣ, e1ᵣ, e2ᵣ, hop9ᵣ, hIR9ᵣ, hab9ᵣ⟩; subst e1ᵣ; subst e2ᵣ; (try dsimp only); refine marked3 ?_)) | ((with_reducible show wpAny _ _ (call (Value.type "dict") _) _ _ _); (k_here; k_dflt (refine' dict_copy_led ?Fᵣ ?Nᵣ ?bᵣ ?hmᵣ ?loᵣ ?hdᵣ ?zᵣ ?_; (case Fᵣ => k_asm); (case Nᵣ => k_asm); (case hmᵣ => k_mem); (case loᵣ => assumption); (case hdᵣ => assumption); (case bᵣ => exact modules_low (Top.nolimit (by k_asm))); (case zᵣ => assumption)); intro D'ᵣ h'ᵣ o'ᵣ F'ᵣ N'ᵣ lo'ᵣ hd'ᵣ hl'ᵣ; (try k_lt hl'ᵣ))) | walk1)) | (dsimp only; walk1) | (leave1; walk_say "STEP leave1"; try dsimp only) | fail "no step"))
    unfold Marked3
    rename News g L _ ((600, _) :: (_ ++ _)) => N5
    rename ∀ q ∈ (_ : Led), _ ∧ AllLt q.1 _ => hab5
    rename IsDelg w _ _ _ _ _ => hDl
    obtain ⟨nl4, hnl2, N6, hne2, hne2', hs2, hf2⟩ := led_in N5 (by (repeat apply Cut.cons); exact Cut.nil) hab5
    simp only [List.cons_append, List.nil_append] at N6
    replace hDl := hDl.mono hf2
    replace ha8 := hne2 _ _ ha8 (by k_mem)
    replace hb8 := hne2 177 _ hb8 (by k_mem)
    replace hc8 := hne2 465 _ hc8 (by k_mem)
    replace hd8 := hne2 d _ hd8 (by k_mem)
    replace he8 := hne2' he8
    replace R8 := R8.mono hs2
    replace hs8 := hs8.mono hs2
    replace hk8 := hk8.mono hs2
    replace hkall := fun k a b => And.intro (hkall k a b).1 (fun x hx => ((hkall k a b).2 x hx).mono hs2)
    rename Shared.os _ = Shared.os _ => ho9
    replace hos := Eq.trans ho9 hos
    replace hok := hs2 _ hok
    replace hR1 := hR1.mono hs2
    replace hR2 := hR2.mono hs2
    clear N5 hab5
    (repeat' (first | (k_unfold; (try dsimp only)) | ((try k_fold); (first | ((with_reducible refine tok_gen3 ?_); intro _) | ((k_here; (with_reducible show wpAny _ _ (call (Value.ref 717) _) _ _ _); k_dflt (refine' useKS (targC_t _ _ _ _ _ _ _ _ ?hopᵣ ?hnPᵣ) ?Bᵣ ?Fᵣ ?Xᵣ (take_sub ?Nᵣ ?tᵣ) ?Tᵣ ?Gᵣ ?dᵣ ?uᵣ ?_; (case Bᵣ => k_asm); (case Fᵣ => k_asm); (case Xᵣ => k_asm); (case Nᵣ => k_asm); (case Tᵣ => k_asm); (case Gᵣ => k_asm); (case tᵣ => repeat (first | exact Take.head | apply Take.tail)); (case hopᵣ => assumption); (case hnPᵣ => k_all); (case dᵣ => ktr_room); (case uᵣ => ((try simp only [units_deeper, units_under_make]); ktr_units)); k_whole); rintro _ s9ᵣ _ F'ᵣ N'ᵣ os9ᵣ bare9ᵣ ⟨x9ᵣ, fam9ᵣ, op9ᵣ, e1ᵣ, e2ᵣ, hop9ᵣ, hIR9ᵣ, hab9ᵣ⟩; subst e1ᵣ; subst e2ᵣ; (try dsimp only); refine marked3 ?_)) | walk1)) | (dsimp only; walk1) | (leave1; walk_say "STEP leave1"; try dsimp only) | fail "no step"))
    unfold Marked3
    rename News g L _ ((177, _) :: (_ ++ _)) => N5
    rename ∀ q ∈ (_ : Led), _ ∧ AllLt q.1 _ => hab5
    rename IsTarg w _ _ _ => hTg
    obtain ⟨nl5, hnl2, N6, hne2, hne2', hs2, hf2⟩ := led_in N5 (by (repeat apply Cut.cons); exact Cut.nil) hab5
    simp only [List.cons_append, List.nil_append] at N6
    replace hTg := hTg.mono hf2
    replace ha8 := hne2 _ _ ha8 (by k_mem)
    replace hc8 := hne2 465 _ hc8 (by k_mem)
    replace he8 := hne2 600 _ he8 (by k_mem)
    replace hd8 := hne2 d _ hd8 (by k_mem)
    replace hb8 := hne2' hb8
    replace R8 := R8.mono hs2
    replace hs8 := hs8.mono hs2
    replace hk8 := hk8.mono hs2
    replace hkall := fun k a b => And.intro (hkall k a b).1 (fun x hx => ((hkall k a b).2 x hx).mono hs2)
    rename Shared.os _ = Shared.os _ => ho9
    replace hos := Eq.trans ho9 hos
    replace hok := hs2 _ hok
    replace hR1 := hR1.mono hs2
    replace hR2 := hR2.mono hs2
    replace hDl := hDl.mono hs2
    clear N5 hab5
    (repeat' (first | (k_unfold; (try dsimp only)) | ((try k_fold); (first | ((with_reducible refine tok_gen3 ?_); intro _) | ((k_here; (with_reducible show wpAny _ _ (execs (Stmt.Assign [Expr.Name (Str.ofString "due") _] _ _ :: _) _) _ _ _); refine marked3 ?_)) | walk1)) | (dsimp only; walk1) | (leave1; walk_say "STEP leave1"; try dsimp only) | fail "no step"))
    unfold Marked3
    rename News g L _ _ => N5
    rename Obj.IsDictOf _ _ [(_, _), (_, _)] => hro
    rename Obj.IsDictOf _ _ kvs => hdk
    rename StrsAre _ (List.map kN _) => hsF
    obtain ⟨RL, hRL, N7, hm⟩ := take_name (p := (177, _)) N5 (by repeat (first | exact Take.head | apply Take.tail))
    have hS : ∀ p ∈ nl5, p ∈ RL := fun p hp => hm p (by (repeat (first | exact hp | refine List.mem_cons_of_mem _ ?_)))
    have h7 : ∀ p ∈ RL, p.1 ≠ 177 := by rw [hRL]; k_all
    clear hRL
    have hT := hTg.mono hS
    have hDD := hDl.mono hS
    have hkc : KeysIn w RL _ _ := ⟨_, kvs, hm _ (by k_mem), hdk, by assumption, fun k a b => ⟨(hkall k a b).1, fun x hx => ((hkall k a b).2 x hx).mono hS⟩⟩
    have hfin := targ_finds w _ _ _ hT
    have hRR := hR1.mono hS
    have hdel : Delegates w RL _ 707 714 "r" _ _ _ _ := ⟨targR_role w _ _ _ _ _ _ _ _ _ _ hT hDD (hm _ (by k_mem)) hro (by assumption) hRR, fun k y a b c => targ_key w _ _ _ _ _ _ _ hT hDD hkc k y a b c, fun k a b c => targ_nokey w _ _ _ _ _ _ _ hT hDD hkc k a b c, (drole_attr w _ _ _ _ hRR).1, (drole_attr w _ _ _ _ hRR).2⟩
    have hgv := gvrAll_of hfin hdel hkc (hm _ (by k_mem)) hsF hg9 (hs8.mono hS) hPa hPl hsa
    have hbad := targR_bad w _ _ _ _ _ _ _ _ hT hDD (hm _ (by k_mem)) hro (by assumption)
    refine' rest_t B ?zF X N7 T XB TB D (by assumption) (by omega) (by omega) ?r1 ?r2 ?r3 ?r4 ?r5 (by assumption) h7 (hm _ (by k_mem)) hfin hgv hbad ?zl hsF hg9 ((hk8.mono hS).toIn) (hs8.mono hS) hP hPl (by omega) (by omega) (by decide) (fun s' g' m' led' t F N os bare h1 h2 => ⟨g', m', led', t, F, N, os.trans hos, bare, rfl, let ⟨o1, i1, j1⟩ := h1; ⟨o1, _, _, i1, h2 _ (hm (465, _) (by k_mem)), h2 _ (hm (600, _) (by k_mem)), j1, by assumption, by assumption⟩⟩)
    case zF => k_asm
    case r1 => rfl
    case r2 => rfl
    case r3 => rfl
    case r4 => rfl
    case r5 => rfl
    case zl => exact hm _ (by k_mem)
  · skip
    unfold Marked3
    rename News g L _ ((_ : Led) ++ _) => N5
    rename ∀ q ∈ (_ : Led), AllLt q.1 _ => hab5
    rename IsSucc w _ _ _ _ => hR1
    obtain ⟨nl2, hnl2, N6, hne2, hs2, hf2⟩ := led_in0 N5 (by (repeat apply Cut.cons); exact Cut.nil) hab5
    simp only [List.cons_append, List.nil_append] at N6
    replace hR1 := hR1.mono hf2
    replace ha8 := hne2 _ _ ha8 (by k_mem)
    replace hb8 := hne2 177 _ hb8 (by k_mem)
    replace hc8 := hne2 465 _ hc8 (by k_mem)
    replace he8 := hne2 600 _ he8 (by k_mem)
    replace hd8 := hne2 d _ hd8 (by k_mem)
    replace R8 := R8.mono hs2
    replace hok := hs2 _ hok
    replace hs8 := hs8.mono hs2
    replace hk8 := hk8.mono hs2
    replace hkall := fun k a b => And.intro (hkall k a b).1 (fun x hx => ((hkall k a b).2 x hx).mono hs2)
    clear N5 hab5
    (repeat' (first | (k_unfold; (try dsimp only)) | ((try k_fold); (first | ((with_reducible refine tok_gen3 ?_); intro _) | ((k_here; (with_reducible show wpAny _ _ (call (Value.ref 639) [_, Value.none, _]) _ _ _); k_dflt (refine' useKS (delgS_t _ _ _ _ _ ?hopᵣ ?hnPᵣ) ?Bᵣ ?Fᵣ ?Xᵣ (take_sub ?Nᵣ ?tᵣ) ?Tᵣ ?Gᵣ ?dᵣ ?uᵣ ?_; (case Bᵣ => k_asm); (case Fᵣ => k_asm); (case Xᵣ => k_asm); (case Nᵣ => k_asm); (case Tᵣ => k_asm); (case Gᵣ => k_asm); (case tᵣ => repeat (first | exact Take.head | apply Take.tail)); (case hopᵣ => assumption); (case hnPᵣ => k_all); (case dᵣ => ktr_room); (case uᵣ => ((try simp only [units_deeper, units_under_make]); ktr_units)); k_whole); rintro _ s9ᵣ _ F'ᵣ N'ᵣ os9ᵣ bare9ᵣ ⟨x9ᵣ, fam9ᵣ, op9ᵣ, e1ᵣ, e2ᵣ, hop9ᵣ, hIR9ᵣ, hab9ᵣ⟩; subst e1ᵣ; subst e2ᵣ; (try dsimp only); refine marked3 ?_)) | walk1)) | (dsimp only; walk1) | (leave1; walk_say "STEP leave1"; try dsimp only) | fail "no step"))
    unfold Marked3
    rename News g L _ ((600, _) :: (_ ++ _)) => N5
    rename ∀ q ∈ (_ : Led), _ ∧ AllLt q.1 _ => hab5
    rename IsDelg w _ _ _ _ _ => hDl
    obtain ⟨nl4, hnl2, N6, hne2, hne2', hs2, hf2⟩ := led_in N5 (by (repeat apply Cut.cons); exact Cut.nil) hab5
    simp only [List.cons_append, List.nil_append] at N6
    replace hDl := hDl.mono hf2
    replace ha8 := hne2 _ _ ha8 (by k_mem)
    replace hb8 := hne2 177 _ hb8 (by k_mem)
    replace hc8 := hne2 465 _ hc8 (by k_mem)
    replace hd8 := hne2 d _ hd8 (by k_mem)
    replace he8 := hne2' he8
    replace R8 := R8.mono hs2
    replace hok := hs2 _ hok
    replace hs8 := hs8.mono hs2
    replace hk8 := hk8.mono hs2
    replace hkall := fun k a b => And.intro (hkall k a b).1 (fun x hx => ((hkall k a b).2 x hx).mono hs2)
    replace hR1 := hR1.mono hs2
    rename Shared.os _ = Shared.os _ => ho9
    replace hos := Eq.trans ho9 hos
    clear N5 hab5
    (repeat' (first | (k_unfold; (try dsimp only)) | ((try k_fold); (first | ((with_reducible refine tok_gen3 ?_); intro _) | ((k_here; (with_reducible show wpAny _ _ (call (Value.ref 717) _) _ _ _); k_dflt (refine' useKS (targC_t _ _ _ _ _ _ _ _ ?hopᵣ ?hnPᵣ) ?Bᵣ ?Fᵣ ?Xᵣ (take_sub ?Nᵣ ?tᵣ) ?Tᵣ ?Gᵣ ?dᵣ ?uᵣ ?_; (case Bᵣ => k_asm); (case Fᵣ => k_asm); (case Xᵣ => k_asm); (case Nᵣ => k_asm); (case Tᵣ => k_asm); (case Gᵣ => k_asm); (case tᵣ => repeat (first | exact Take.head | apply Take.tail)); (case hopᵣ => assumption); (case hnPᵣ => k_all); (case dᵣ => ktr_room); (case uᵣ => ((try simp only [units_deeper, units_under_make]); ktr_units)); k_whole); rintro _ s9ᵣ _ F'ᵣ N'ᵣ os9ᵣ bare9ᵣ ⟨x9ᵣ, fam9ᵣ, op9ᵣ, e1ᵣ, e2ᵣ, hop9ᵣ, hIR9ᵣ, hab9ᵣ⟩; subst e1ᵣ; subst e2ᵣ; (try dsimp only); refine marked3 ?_)) | walk1)) | (dsimp only; walk1) | (leave1; walk_say "STEP leave1"; try dsimp only) | fail "no step"))
    unfold Marked3
    rename News g L _ ((177, _) :: (_ ++ _)) => N5
    rename ∀ q ∈ (_ : Led), _ ∧ AllLt q.1 _ => hab5
    rename IsTarg w _ _ _ => hTg
    obtain ⟨nl5, hnl2, N6, hne2, hne2', hs2, hf2⟩ := led_in N5 (by (repeat apply Cut.cons); exact Cut.nil) hab5
    simp only [List.cons_append, List.nil_append] at N6
    replace hTg := hTg.mono hf2
    replace ha8 := hne2 _ _ ha8 (by k_mem)
    replace hc8 := hne2 465 _ hc8 (by k_mem)
    replace he8 := hne2 600 _ he8 (by k_mem)
    replace hd8 := hne2 d _ hd8 (by k_mem)
    replace hb8 := hne2' hb8
    replace R8 := R8.mono hs2
    replace hok := hs2 _ hok
    replace hs8 := hs8.mono hs2
    replace hk8 := hk8.mono hs2
    replace hkall := fun k a b => And.intro (hkall k a b).1 (fun x hx => ((hkall k a b).2 x hx).mono hs2)
    replace hR1 := hR1.mono hs2
    replace hDl := hDl.mono hs2
    rename Shared.os _ = Shared.os _ => ho9
    replace hos := Eq.trans ho9 hos
    clear N5 hab5
    (repeat' (first | (k_unfold; (try dsimp only)) | ((try k_fold); (first | ((with_reducible refine tok_gen3 ?_); intro _) | ((k_here; (with_reducible show wpAny _ _ (execs (Stmt.Assign [Expr.Name (Str.ofString "due") _] _ _ :: _) _) _ _ _); refine marked3 ?_)) | ((k_here; (with_reducible show wpAny _ _ (call (Value.ref 733) _) _ _ _); k_dflt (refine' next_use ?Bᵣ ?Fᵣ ?Xᵣ ?Nᵣ ?Tᵣ ?tᵣ ?dᵣ ?uᵣ ?mᵣ ?Wᵣ ?Rᵣ ?sᵣ ?_; (case Bᵣ => k_asm); (case Fᵣ => k_asm); (case Xᵣ => k_asm); (case Nᵣ => k_asm); (case Tᵣ => k_asm); (case tᵣ => repeat (first | exact Take.head | apply Take.tail)); (case dᵣ => ktr_room); (case uᵣ => ktr_units); (case mᵣ => decide); (case Wᵣ => assumption); (case Rᵣ => (repeat (first | assumption | apply RowIn.cons))); (case sᵣ => k_all); k_whole; intro v9ᵣ u9ᵣ o9ᵣ h9ᵣ tk9ᵣ hv0ᵣ hv1ᵣ F9ᵣ N9ᵣ W9ᵣ; (try dsimp only)))) | walk1)) | (dsimp only; walk1) | (leave1; walk_say "STEP leave1"; try dsimp only) | fail "no step"))
    unfold Marked3
    rename News g L _ _ => N5
    rename _ < 8 => hv8
    rename Obj.IsDictOf _ _ kvs => hdk
    rename StrsAre _ (List.map kN _) => hsF
    obtain ⟨RL, hRL, N7, hm⟩ := take_name (p := (177, _)) N5 (by repeat (first | exact Take.head | apply Take.tail))
    have hS : ∀ p ∈ nl5, p ∈ RL := fun p hp => hm p (by (repeat (first | exact hp | refine List.mem_cons_of_mem _ ?_)))
    have h7 : ∀ p ∈ RL, p.1 ≠ 177 := by rw [hRL]; k_all
    clear hRL
    have hT := hTg.mono hS
    have hDD := hDl.mono hS
    have hkc : KeysIn w RL _ _ := ⟨_, kvs, hm _ (by k_mem), hdk, by assumption, fun k a b => ⟨(hkall k a b).1, fun x hx => ((hkall k a b).2 x hx).mono hS⟩⟩
    have hfin := targ_finds w _ _ _ hT
    have hRR := hR1.mono hS
    have hdel : Delegates w RL _ 707 714 (bN _) _ _ _ _ := ⟨targS_role w _ _ _ _ _ _ _ _ (by assumption) hv8 hT hDD hRR, fun k y a b c => targ_key w _ _ _ _ _ _ _ hT hDD hkc k y a b c, fun k a b c => targ_nokey w _ _ _ _ _ _ _ hT hDD hkc k a b c, (succ_attr w _ _ _ _ hRR).1, (succ_attr w _ _ _ _ hRR).2⟩
    have hgv := gvrAll_of hfin hdel hkc (hm _ (by k_mem)) hsF hg9 (hs8.mono hS) hPa hPl hsa
    have hbad := targS_bad w _ _ _ _ _ _ _ hT hDD hRR
    have hbl := (bN_len _ (by assumption) (Int.lt_trans hv8 (by decide))).2.1
    refine' rest_t B ?zF X N7 T XB TB D (by assumption) (by omega) (by omega) ?r1 ?r2 ?r3 ?r4 ?r5 (by assumption) h7 (hm _ (by k_mem)) hfin hgv hbad ?zl hsF hg9 ((hk8.mono hS).toIn) (hs8.mono hS) hP hPl (by omega) (by omega) hbl (fun s' g' m' led' t F N os bare h1 h2 => ⟨g', m', led', t, F, N, os.trans hos, bare, rfl, let ⟨o1, i1, j1⟩ := h1; ⟨o1, _, _, i1, h2 _ (hm (465, _) (by k_mem)), h2 _ (hm (600, _) (by k_mem)), j1, by assumption, by assumption⟩⟩)
    case zF => k_asm
    case r1 => rfl
    case r2 => rfl
    case r3 => rfl
    case r4 => rfl
    case r5 => rfl
    case zl => exact hm _ (by k_mem)
-- MySs
/-- the text of a value -/
def txt : Value → PySem.Str
  | .str k _ => k
  | _ => ⟨#[]⟩
/-- is the order of a set told by the world's text? -/
abbrev ByText (w : World) : Bool := w.params.followText "set-order"
/-- the entries and the table of a set of texts whose maker is told -/
structure SetT (prog : Program) (w : World) (es : Array (Int × Value)) (t : SetTable) (σ : List PySem.Str) : Prop where
  el : ElemsOf (PySem.strKind prog w) es.toList
  perm : (es.toList.map fun e => txt e.2).Perm σ
  small : es.size < scanBound
  fits : t.fits es.size = true
  led : ByText w = true ∨ t.led = true
  plain : es.size = 0 ∨ t.plain = false
theorem is_txt {prog : Program} {w : World} {k : PySem.Str} {v : Value} (h : (PySem.strKind prog w).is k v = true) : txt v = k := by
  obtain ⟨t, rfl⟩ := Value.isStrOf_shape h; rfl
theorem elem_txt {prog : Program} {w : World} {l : List (Int × Value)} (h : ElemsOf (PySem.strKind prog w) l) {e : Int × Value} (he : e ∈ l) : (PySem.strKind prog w).is (txt e.2) e.2 = true ∧ e.1 = (PySem.strKind prog w).hash (txt e.2) := by
  obtain ⟨⟨k, hk, hh⟩, _⟩ := h e he
  rw [is_txt hk]; exact ⟨hk, hh⟩
theorem SetT.size {prog : Program} {w : World} {es : Array (Int × Value)} {t : SetTable} {σ : List PySem.Str} (h : SetT prog w es t σ) : es.size = σ.length := by
  have := h.perm.length_eq
  rwa [List.length_map, Array.length_toList] at this
def SetL (prog : Program) (w : World) (h : Heap) (a : Addr) (σ : List PySem.Str) : Prop :=
  ∃ o es ep t, h.get? a = some o ∧ o.ExactSet ∧ o.data = .set es ep t ∧ SetT prog w es t σ
/-- the same as an object -/
def SetLO (prog : Program) (w : World) (o : Obj) (σ : List PySem.Str) : Prop := ∃ es ep t, o.ExactSet ∧ o.data = .set es ep t ∧ SetT prog w es t σ
theorem orStandIn_led (t : SetTable) (n : Nat) : (t.orStandIn n).led = t.led ∧ ((t.orStandIn n).plain = true → t.plain = true) := by
  unfold SetTable.orStandIn
  split
  · exact ⟨rfl, id⟩
  · exact ⟨rfl, fun h => by cases h⟩
theorem layNew_led (t : SetTable) (es : Array (Int × Value)) (h : Int) (x : Value) : (layNew t es h x).2.1.led = t.led := by
  unfold layNew
  split
  · exact (orStandIn_led _ _).1
  · rfl
theorem layNew_plain (t : SetTable) (es : Array (Int × Value)) (h : Int) (x : Value) : (layNew t es h x).2.1.plain = true → t.plain = true := by
  unfold layNew
  split
  · exact (orStandIn_led _ _).2
  · intro h; cases h
theorem laid_led {m f mv : Nat} {l p : Bool} {hs : Array Int} {t' : SetTable} {o : Array Nat} (h : SetTable.laid m f mv l p hs = some (t', o)) : t'.led = l ∧ t'.plain = p := by
  unfold SetTable.laid at h
  cases hc : SetTable.layClean m hs with
  | none => rw [hc] at h; cases h
  | some ow => rw [hc] at h; cases h; exact ⟨rfl, rfl⟩
theorem relayAll_led (t : SetTable) (es : Array (Int × Value)) (n : Nat) : (relayAll t es n).2.1.led = t.led ∧ ((relayAll t es n).2.1.plain = true → t.plain = true) := by
  unfold relayAll
  split
  · rename_i t' o h
    dsimp only
    have := laid_led h
    split
    · exact ⟨this.1, fun h => this.2 ▸ h⟩
    · exact ⟨rfl, fun h => by cases h⟩
  · exact ⟨rfl, fun h => by cases h⟩
section
variable {prog : Program} {w : World} {A : Around} {E : Value → Shared → Prop} {s : Shared}
theorem store_L {a : Addr} {o : Obj} {es : Array (Int × Value)} {ep : Nat} {t : SetTable} {es' : Array (Int × Value)} {t' : SetTable} {h : Heap} (ho : h.get? a = some o) (hd : o.data = .set es ep t) :
    (h.update a (Obj.putSet es' t')).get? a = some { o with data := .set es' (ep + 1) t' } := by
  have := Heap.get?_update_self (Obj.putSet es' t') ho (by rw [putSet_of es' t' hd]; rfl)
  rw [putSet_of es' t' hd] at this; exact this
theorem find_txt {es : List (Int × Value)} (h : ElemsOf (PySem.strKind prog w) es) (k : PySem.Str) : (es.findIdx? fun e => (PySem.strKind prog w).is k e.2).isSome = (es.map fun e => txt e.2).any (· == k) := by
  rw [Bool.eq_iff_iff, List.findIdx?_isSome, List.any_map, List.any_eq_true, List.any_eq_true]
  constructor
  · rintro ⟨e, he, h1⟩; exact ⟨e, he, by simp [is_txt h1]⟩
  · rintro ⟨e, he, h1⟩
    refine ⟨e, he, ?_⟩
    have := (elem_txt h he).1
    rw [← beq_iff_eq.mp (show (txt e.2 == k) = true from h1)]; exact this
theorem add_L {a : Addr} {σ : List PySem.Str} {k : PySem.Str} {tk : Tok} {Q : Bool → Shared → Prop} (hS : SetL prog w s.heap a σ) (hroom : σ.length + 1 < scanBound)
    (h : ∀ b h', Heap.SameBut a s.heap h' → SetL prog w h' a (if σ.any (· == k) then σ else σ ++ [k]) → Q b { s with heap := h' }) :
    wpAny (model prog w) A (setAddHashed a (.str k tk) ((PySem.strKind prog w).hash k)) Q E s := by
  obtain ⟨o, es, ep, t, ho, hex, hd, T⟩ := hS
  have hkey : (PySem.strKind prog w).is k (.str k tk) = true := strKind_is _ _ _ _
  have hf := T.fits
  have hany : (es.toList.map fun e => txt e.2).any (· == k) = σ.any (· == k) := by
    rw [Bool.eq_iff_iff, List.any_eq_true, List.any_eq_true]
    exact ⟨fun ⟨x, h1, h2⟩ => ⟨x, T.perm.mem_iff.mp h1, h2⟩, fun ⟨x, h1, h2⟩ => ⟨x, T.perm.mem_iff.mpr h1, h2⟩⟩
  unfold setAddHashed setAddHashedIn
  refine wpAny_holding (wpAny_bind (wpAny_setState_of ho hd hf ?_))
  dsimp only
  rw [byScan_of (knd := PySem.strKind prog w) rfl T.small T.el]
  simp only [↓reduceIte]
  unfold setAddByScan
  refine wpAny_bind ?_
  refine wpAny_bind (wpAny_rule ?_)
  refine wpAny_bind (wpAny_setScan_of hkey ho hd hf T.el ?_)
  cases hr : List.findIdx? (fun e => (PySem.strKind prog w).is k e.2) es.toList with
  | some j =>
    dsimp only
    have := find_txt T.el k
    rw [hr, hany] at this
    refine wpAny_pure (wpAny_pure ?_)
    have e : s = { s with heap := s.heap } := by cases s; rfl
    rw [e]
    refine h _ s.heap (Heap.SameBut.refl a s.heap) ?_
    rw [← this]
    exact ⟨o, es, ep, t, ho, hex, hd, T⟩
  | none =>
    dsimp only
    have hno := find_txt T.el k
    rw [hr, hany] at hno
    have hnew : (if σ.any (· == k) then σ else σ ++ [k]) = σ ++ [k] := by rw [← hno]; rfl
    rw [hnew] at h
    have hgw : ∀ (b : Bool) {s₁ : Shared} {Q' : Unit → Shared → Prop}, Q' () s₁ → wpAny (model prog w) A (match b with | true => rule "set.scan.the-table-gave-way" | false => pure ()) Q' E s₁ :=
      fun b s₁ Q' hq => by cases b <;> first | exact wpAny_pure hq | exact wpAny_rule hq
    have hperm := layNew_perm t es ((PySem.strKind prog w).hash k) (.str k tk)
    have hfits := layNew_fits t es ((PySem.strKind prog w).hash k) (.str k tk)
    have hled := layNew_led t es ((PySem.strKind prog w).hash k) (.str k tk)
    have hpl := layNew_plain t es ((PySem.strKind prog w).hash k) (.str k tk)
    generalize layNew t es ((PySem.strKind prog w).hash k) (.str k tk) = L at hperm hfits hled hpl ⊢
    obtain ⟨es1, t1, wasDummy, gave⟩ := L
    dsimp only at hperm hfits hled hpl ⊢
    rw [Array.toList_push] at hperm
    have hel1 : ElemsOf (PySem.strKind prog w) es1.toList := (T.el.push hkey rfl).perm hperm
    have hp1 : (es1.toList.map fun e => txt e.2).Perm (σ ++ [k]) := by
      refine (hperm.map _).trans ?_
      rw [List.map_append]
      exact T.perm.append_right _
    have hb1 : es1.size < scanBound := by
      have := hp1.length_eq
      rw [List.length_map, Array.length_toList, List.length_append] at this
      rw [this]; exact hroom
    refine wpAny_bind (hgw _ ?_)
    have tail : ∀ t2 : SetTable, t2.fits es1.size = true → t2.led = t.led → t2.plain = false → wpAny (model prog w) A (do
        storeSet a es1 t2
        if (!wasDummy && t2.tooFull) = true then do
            (match (relayAll t2 es1 (SetTable.grown es1.size)).2.2 with | true => rule "set.scan.the-table-gave-way" | false => pure ())
            storeSet a (relayAll t2 es1 (SetTable.grown es1.size)).1 (relayAll t2 es1 (SetTable.grown es1.size)).2.1
            pure (some true)
          else pure (some true)) (fun r s' => wpAny (model prog w) A (match r with | some added => pure added | none => setAddHashedIn a (.str k tk) ((PySem.strKind prog w).hash k) 99999) Q E s') E s := by
      intro t2 hf2 hl2 hp2
      have hl2' : ByText w = true ∨ t2.led = true := T.led.imp id fun e => hl2.trans e
      refine wpAny_bind (wpAny_storeSet_of ho hd ?_ (fits_of_scanBound hb1))
      have ho1 := store_L (es' := es1) (t' := t2) ho hd
      have hsb1 := Heap.SameBut.update s.heap a (Obj.putSet es1 t2)
      split
      · have hp := relayAll_perm t2 es1 (SetTable.grown es1.size)
        have hfr := relayAll_fits t2 es1 (SetTable.grown es1.size)
        have hll := relayAll_led t2 es1 (SetTable.grown es1.size)
        generalize relayAll t2 es1 (SetTable.grown es1.size) = Rl at hp hfr hll ⊢
        obtain ⟨es2, t3, gave2⟩ := Rl
        dsimp only at hp hfr hll ⊢
        have hb2 : es2.size < scanBound := by rw [← Array.length_toList, hp.length_eq, Array.length_toList]; exact hb1
        refine wpAny_bind (hgw _ ?_)
        refine wpAny_bind (wpAny_storeSet_of ho1 rfl ?_ (fits_of_scanBound hb2))
        refine wpAny_pure (wpAny_pure (h _ _ (hsb1.trans (Heap.SameBut.update _ a _)) ⟨_, es2, ep + 1 + 1, t3, store_L ho1 rfl, hex, rfl, ⟨hel1.perm hp, (hp.map _).trans hp1, hb2, hfr, hl2'.imp id fun e => hll.1.trans e, .inr ?_⟩⟩))
        cases h3 : t3.plain with
        | false => rfl
        | true => exact absurd (hll.2 h3) (by rw [hp2]; exact Bool.false_ne_true)
      · exact wpAny_pure (wpAny_pure (h _ _ hsb1 ⟨_, es1, ep + 1, t2, ho1, hex, rfl, ⟨hel1, hp1, hb1, hf2, hl2', .inr hp2⟩⟩))
    split
    · refine wpAny_bind ?_
      rw [hashByValue_scannable 8 (x := .str k tk) rfl]
      refine wpAny_pure ?_
      exact tail _ (SetTable.fits_plain_off hfits) hled rfl
    · rename_i hnp
      refine wpAny_bind (wpAny_pure ?_)
      simp only [↓reduceIte]
      refine tail t1 hfits hled ?_
      cases h3 : t1.plain with
      | false => rfl
      | true => exact absurd h3 hnp
end
section
variable {prog : Program} {w : World} {A : Around} {R : Result → Shared → Prop} {I l D : Addr} {vs : List Value} {xs : List PySem.Str} {St : Nat → Heap → Prop}
theorem SetL.keep {h h' : Heap} {D : Addr} {σ : List PySem.Str} (x : SetL prog w h D σ) (k : ∀ o, h.get? D = some o → h'.get? D = some o) : SetL prog w h' D σ := by
  obtain ⟨o, es, ep, t, ho, rest⟩ := x
  exact ⟨o, es, ep, t, k _ ho, rest⟩
theorem set_loopL (W : Walks prog w A.in1 I [I, l] [I] vs.length (fun i v => vs[i]? = some v) St) (hDI : D ≠ I) (hDl : D ≠ l) (hv : StrsAre vs xs) (hsz : xs.length ≤ 100) :
    ∀ (k i : Nat) (s : Shared) (h0 : Heap), vs.length - i = k → i ≤ vs.length → St i s.heap → (∀ b o, h0.get? b = some o → b ≠ I ∧ b ≠ D) → (∀ b o, h0.get? b = some o → s.heap.get? b = some o) →
      SetL prog w s.heap D (dd (xs.take i)) →
      (∀ h' tk, (∀ b o, h0.get? b = some o → h'.get? b = some o) → SetL prog w h' D (dd xs) → R (.ok (.ret .none)) { s with heap := h', toks := tk }) →
      codeAny (model prog w) A (.builtin "set.update.loop" ⟨[.ref D, .ref I], []⟩) R s := by
  have hlen := hv.length
  intro k
  induction k with
  | zero =>
    intro i s h0 hk hi hst hne hkeep hD hR
    have hin : i = vs.length := by omega
    subst hin
    refine codeAny_builtin F.entry_set_update_loop ?_
    rw [Around.under_plainId F.plain_set_update_loop _]
    show wpAny _ A.in1 (pyNext (Value.ref I) >>= _) _ _ s
    refine wpAny_bind (W.done s _ _ hst fun h' tk hm => ?_)
    refine wpAny_pure (hR h' tk (fun b o e => hm b o (by simpa using (hne b o e).1) (hkeep b o e)) ?_)
    rw [hlen, List.take_length] at hD
    exact hD.keep fun o e => hm D _ (by simpa using hDI) e
  | succ k ih =>
    intro i s h0 hk hi hst hne hkeep hD hR
    have hlt : i < vs.length := by omega
    refine codeAny_builtin F.entry_set_update_loop ?_
    rw [Around.under_plainId F.plain_set_update_loop _]
    show wpAny _ A.in1 (pyNext (Value.ref I) >>= _) _ _ s
    refine wpAny_bind (W.item i s _ _ hlt hst fun v h' tk hv' hst' hm => ?_)
    obtain ⟨x, t, rfl, hx⟩ := strs_at hv hv'
    have hD' : SetL prog w h' D (dd (xs.take i)) := hD.keep fun o e => hm D _ (by simpa using hDI) e
    show wpAny _ A.in1 (holding [Value.str x t] (setAdd D (.str x t)) >>= _) _ _ _
    refine wpAny_bind (wpAny_holding ?_)
    unfold setAdd
    refine wpAny_holding ?_
    refine wpAny_bind ((PySem.strKind prog w).pyHash (k := x) (strKind_is _ _ _ _) ?_)
    have hroom : (dd (xs.take i)).length + 1 < scanBound := by
      have := dd_len (xs.take i)
      rw [List.length_take] at this
      unfold scanBound
      omega
    refine add_L (s := { s with heap := h', toks := tk + 1 }) hD' hroom fun _ h2 hsb hS2 => ?_
    rw [← dd_take hx] at hS2
    refine wpAny_pure ⟨plainId_quiet F.plain_set_update_loop _, ih (i + 1) _ h0 (by omega) hlt (W.frame _ h' _ hst' fun b hb o e => ?_) hne (fun b o e => ?_) hS2 hR⟩
    · rw [hsb.2 b (fun h : b = D => by
        subst h
        simp only [List.mem_cons, List.not_mem_nil, or_false] at hb
        rcases hb with h | h
        · exact hDI h
        · exact hDl h)]
      exact e
    · rw [hsb.2 b (hne b o e).2]
      exact hm b o (by simpa using (hne b o e).1) (hkeep b o e)
end
section
variable {prog : Program} {w : World} {A : Around} {E : Value → Shared → Prop} {s : Shared} {h₀ : Heap} {L l : Addr} {m : Str → Option Value} {news : Led} {vs : List Value} {xs : List PySem.Str} {nn : Nat}
theorem set_new_L (a : Value) {Q₁ : Value → Shared → Prop} (h : Q₁ (.ref s.heap.objs.size) { s with heap := s.heap.push (freshSet (!ByText w)) }) :
    codeAny (model prog w) A (.call (.builtin "set.__new__") ⟨[.type "set", a], []⟩) (wants Q₁ E) s := by
  refine codeAny_of_tree ?_
  show wpAny _ A.in1 (do checkBuiltinCall "set.__new__" ⟨[.type "set", a], []⟩; again (.builtin "set.__new__" ⟨[.type "set", a], []⟩)) _ _ s
  refine wpAny_bind (wpAny_of_eq (F.newCall_set_1 a) (wpAny_pure ⟨plainId_quiet F.plain_set_new _, codeAny_builtin F.entry_set_new ?_⟩))
  rw [Around.under_plainId F.plain_set_new _]
  unfold Builtin.«set.__new__» Builtin.Frozenset.newClass
  have hsub := sub_set_self
  obtain ⟨hp, g, d, tk, os⟩ := s
  dsimp only
  wp_walk
  refine wpAny_askSetting (wpAny_pure ?_)
  dsimp only
  simp only [newObj]
  refine wpAny_bind (wpAny_alloc (wpAny_pure ?_))
  exact wpAny_pure h
/-- what set.__init__ leaves -/
def SetMadeL (prog : Program) (w : World) (s : Shared) (xs : List PySem.Str) (r : Value) (s₂ : Shared) : Prop :=
  r = .none ∧ ∃ h' tk, s₂ = { s with heap := h', toks := tk } ∧ SetL prog w h' s.heap.objs.size (dd xs) ∧ ∀ b o, s.heap.get? b = some o → h'.get? b = some o
theorem set_init_L (hh : A.handled = none) (hl : s.heap.get? l = some (listOf vs.toArray nn)) (hv : StrsAre vs xs) (hsz : xs.length ≤ 100) {R : Fin → Shared → Prop}
    (h : ∀ s₂, SetMadeL prog w s xs .none s₂ → R (.done (.ret .none)) s₂) :
    wpAny (model prog w) A.in1.in1 (Builtin.«set.__init__» ⟨[.ref s.heap.objs.size, .ref l], []⟩) R (fun _ _ => False) { s with heap := s.heap.push (freshSet (!ByText w)) } := by
  have hS : (s.heap.push (freshSet (!ByText w))).get? s.heap.objs.size = some (freshSet (!ByText w)) := Heap.get?_push_size _ rfl
  have hT : Shared.TypeIs { s with heap := s.heap.push (freshSet (!ByText w)) } (.ref s.heap.objs.size) "set" := ⟨_, hS, rfl⟩
  have hup : ∀ b o, s.heap.get? b = some o → (s.heap.push (freshSet (!ByText w))).get? b = some o := fun b o e => Heap.get?_push_of_some _ e
  have hl' := hup _ _ hl
  have hsls := F.sub_list_set
  have hslf := F.sub_list_frozenset
  have hne : (Value.type "list" == Value.type "dict") = false := by decide
  have hl1 : (s.heap.push (freshSet (!ByText w))).IsList l vs.toArray := ⟨_, hl', rfl, nn, rfl⟩
  have hllt := Heap.lt_size hl
  unfold Builtin.«set.__init__» noKeywords Builtin.Frozenset.updateFrom
  generalize hPI : pyIter = PI
  wp_walk
  subst hPI
  refine wpAny_pyIter_list hl1 ?_
  refine wpAny_bind (wpAny_runValue ?_)
  have hsize : s.heap.objs.size < (s.heap.push (freshSet (!ByText w))).objs.size := Heap.lt_size hS
  have hne : l ≠ (s.heap.push (freshSet (!ByText w))).objs.size := Nat.ne_of_lt (Nat.lt_trans hllt hsize)
  have W := Walks.list (prog := prog) (w := w) (A := A.in1.in1.in1) hh (s.heap.push (freshSet (!ByText w))).objs.size l hne vs.toArray
  rw [List.size_toArray] at W
  have eW : (fun (i : Nat) (v : Value) => vs.toArray[i]? = some v) = (fun i v => vs[i]? = some v) := by funext i v; rw [List.getElem?_toArray]
  rw [eW] at W
  have hup2 : ∀ b o, (s.heap.push (freshSet (!ByText w))).get? b = some o → ((s.heap.push (freshSet (!ByText w))).push { cls := .type "list_iterator", data := .fields #[.ref l, .int 0 0] }).get? b = some o := fun b o e => Heap.get?_push_of_some _ e
  refine set_loopL W (Nat.ne_of_lt hsize) (Nat.ne_of_gt hllt) hv hsz _ 0 _ s.heap rfl (Nat.zero_le _) ⟨⟨_, Heap.get?_push_size _ rfl, rfl, rfl⟩, hl1.at fun o e => hup2 _ o e⟩ (fun b o e => ?_) (fun b o e => hup2 _ _ (hup _ _ e)) ?_ (fun h' tk' hk' hd => ?_)
  · have hb : b < s.heap.objs.size := Heap.lt_size e
    exact ⟨Nat.ne_of_lt (Nat.lt_trans hb hsize), Nat.ne_of_lt hb⟩
  · exact ⟨_, #[], 0, _, hup2 _ _ hS, ⟨rfl, rfl, rfl⟩, rfl, ⟨fun e he => by simp at he, .nil, by decide, rfl, by show _ ∨ (!ByText w) = true; cases ByText w <;> simp, .inl rfl⟩⟩
  · show wpAny _ _ _ _ _ _
    refine wpAny_pure ?_
    exact wpAny_pure (h _ ⟨rfl, h', tk', rfl, hd, hk'⟩)
theorem call_set_L {Q : Value → Shared → Prop} (hh : A.handled = none) (hl : s.heap.get? l = some (listOf vs.toArray nn)) (hv : StrsAre vs xs) (hsz : xs.length ≤ 100)
    (h : ∀ h' tk, SetL prog w h' s.heap.objs.size (dd xs) → (∀ b o, s.heap.get? b = some o → h'.get? b = some o) → Q (.ref s.heap.objs.size) { s with heap := h', toks := tk }) :
    wpAny (model prog w) A (call (.type "set") [.ref l]) Q E s := by
  obtain ⟨c, tl, hmro⟩ := F.called_set.mro
  have hmade := F.called_set.made
  have hsub := F.called_set.sub
  refine wpAny_call (codeAny_of_tree ?_)
  show wpAny _ _ (callAny (.type "set") _) _ _ _
  refine wpAny_pure ⟨Code.quiet_builtin _ (by decide +kernel), codeAny_builtin F.entry_type_call ?_⟩
  rw [Around.under_plain (weight_type_call_type "set" [.ref l] []) rfl]
  have h1 := F.called_set.notType
  have h2 := F.called_set.canCreate
  have hct := F.typeCall_set_1 (.ref l)
  repeat (any_goals (first | assumption | wp_step))
  refine codeAny_mono (set_new_L (.ref l) (E := E) (Q₁ := fun obj s₁ => obj = .ref s.heap.objs.size ∧ s₁ = { s with heap := s.heap.push (freshSet (!ByText w)) }) ⟨rfl, rfl⟩) fun r s₁ hr => ?_
  cases r with
  | error e => exact hr
  | ok fl =>
    cases fl with
    | ret obj =>
      obtain ⟨rfl, rfl⟩ := hr
      have hS : (s.heap.push (freshSet (!ByText w))).get? s.heap.objs.size = some (freshSet (!ByText w)) := Heap.get?_push_size _ rfl
      have hT : Shared.TypeIs { s with heap := s.heap.push (freshSet (!ByText w)) } (.ref s.heap.objs.size) "set" := ⟨_, hS, rfl⟩
      have hli := F.called_set.init.lookup
      have hbi := F.called_set.init.bind (.ref s.heap.objs.size)
      repeat (any_goals (first | assumption | wp_step))
      refine codeAny_mono (codeAny_call_builtin (R := wants (SetMadeL prog w s xs) E) F.called_set.init.plain F.entry_set_init (check_set_init_1 hT ?_)) fun r₂ s₂ hr₂ => ?_
      · refine wpAny_mono (set_init_L (R := fun fin s' => fin = .done (.ret .none) ∧ SetMadeL prog w s xs .none s') hh hl hv hsz fun s₂ h => ⟨rfl, h⟩) (fun fin s' hq => ?_) fun _ _ y => y.elim
        obtain ⟨rfl, hq⟩ := hq
        exact hq
      · cases r₂ with
        | error e => exact hr₂
        | ok fl₂ =>
          cases fl₂ with
          | ret r =>
            obtain ⟨rfl, h', tk, rfl, hS', hk'⟩ := hr₂
            repeat (any_goals (first | assumption | wp_step))
            exact h _ _ hS' hk'
          | _ => exact hr₂.elim
    | _ => exact hr.elim
theorem call_set_ledL {Q : Value → Shared → Prop} (hh : A.handled = none) (F : Fr h₀ L s.heap m) (N : News h₀ L s.heap news) (hl : (l, listOf vs.toArray nn) ∈ news) (hv : StrsAre vs xs) (hsz : xs.length ≤ 100)
    (h : ∀ D h' o tk, Fr h₀ L h' m → News h₀ L h' ((D, o) :: news) → SetLO prog w o (dd xs) → (∀ p ∈ news, p.1 < D) → Q (.ref D) { s with heap := h', toks := tk }) :
    wpAny (model prog w) A (call (.type "set") [.ref l]) Q E s := by
  refine call_set_L hh (N _ hl).1 hv hsz fun h' tk hd hk => ?_
  obtain ⟨o, es, ep, t, ho, r⟩ := hd
  refine h _ h' o tk (F.keeps hk) (fun p hp => ?_) ⟨es, ep, t, r⟩ (fun p hp => Heap.lt_size (N p hp).1)
  rcases List.mem_cons.mp hp with rfl | hp
  · exact ⟨ho, Ne.symm (Nat.ne_of_lt F.ns.lt), next_is_new F⟩
  · exact ⟨hk _ _ (N p hp).1, (N p hp).2⟩
end
-- MySt
theorem slot_set_iter : Slot "set" "__iter__" "set.__iter__" :=
  .of (owner := "set") (n := "__iter__") (by rw [typeLookup_type, builtinLookup_eq_fast]; kernel_rfl) (by decide +kernel) (by decide +kernel) (by decide +kernel)
    (by first | exact .inl (by decide +kernel) | exact .inr (by decide +kernel)) (by rw [isSubtype_type]; kernel_rfl)
theorem args_set_iter (a : Value) : argsOk "set.__iter__" ⟨[a], []⟩ := by
  unfold argsOk; rw [signature?_of (id := "set.__iter__") (n := "__iter__".toList.reverse) (o := ['t', 'e', 's']) (by kernel_rfl) F.owner_set]; kernel_rfl
theorem entry_set_iter : entryFor table "set.__iter__" = some Builtin.«frozenset.__iter__» :=
  entryFor_alias (id' := "frozenset.__iter__") (by kernel_rfl) rfl (by decide +kernel) (by kernel_rfl)
theorem slot_si_next : Slot "set_iterator" "__next__" "set_iterator.__next__" :=
  .of (owner := "set_iterator") (n := "__next__") (by rw [typeLookup_type, builtinLookup_eq_fast]; kernel_rfl) (by decide +kernel) (by decide +kernel) (by decide +kernel)
    (by first | exact .inl (by decide +kernel) | exact .inr (by decide +kernel)) (by rw [isSubtype_type]; kernel_rfl)
theorem entry_si_next : entryFor table "set_iterator.__next__" = some Builtin.«set_iterator.__next__» := entryFor_of_tree (by kernel_rfl)
theorem owner_si : Manifest.owners.lookup (String.ofList "set_iterator".toList.reverse.reverse) = some Manifest.sig_set_iterator := by kernel_rfl
theorem args_si_next (a : Value) : argsOk "set_iterator.__next__" ⟨[a], []⟩ := by
  unfold argsOk; rw [signature?_of (id := "set_iterator.__next__") (n := "__next__".toList.reverse) (o := "set_iterator".toList.reverse) (by kernel_rfl) owner_si]; kernel_rfl
theorem slot_si_iter : Slot "set_iterator" "__iter__" "set_iterator.__iter__" :=
  .of (owner := "set_iterator") (n := "__iter__") (by rw [typeLookup_type, builtinLookup_eq_fast]; kernel_rfl) (by decide +kernel) (by decide +kernel) (by decide +kernel)
    (by first | exact .inl (by decide +kernel) | exact .inr (by decide +kernel)) (by rw [isSubtype_type]; kernel_rfl)
theorem args_si_iter (a : Value) : argsOk "set_iterator.__iter__" ⟨[a], []⟩ := by
  unfold argsOk; rw [signature?_of (id := "set_iterator.__iter__") (n := "__iter__".toList.reverse) (o := "set_iterator".toList.reverse) (by kernel_rfl) owner_si]; kernel_rfl
theorem cons_eraseIdx {α : Type} {l : List α} {i : Nat} (h : i < l.length) : (l[i] :: l.eraseIdx i).Perm l := by
  rw [List.eraseIdx_eq_take_drop_succ]
  have e : l.take i ++ l[i] :: l.drop (i + 1) = l := by rw [← List.drop_eq_getElem_cons h, List.take_append_drop]
  exact (List.perm_middle.symm).trans (by rw [e])
theorem pick_go {α : Type} (next : Nat → Nat) : ∀ (n k : Nat) (left : List α) (out : Array α), n = left.length → (pickOrder.go next n k left out).toList.Perm (out.toList ++ left) := by
  intro n
  induction n with
  | zero =>
    intro k left out h
    have : left = [] := List.eq_nil_of_length_eq_zero h.symm
    subst this
    simp [pickOrder.go]
  | succ n ih =>
    intro k left out h
    have hlt : next k % left.length < left.length := Nat.mod_lt _ (by omega)
    unfold pickOrder.go
    rw [List.getElem?_eq_getElem hlt]
    dsimp only
    refine (ih _ _ _ (by rw [List.length_eraseIdx_of_lt hlt]; omega)).trans ?_
    rw [Array.toList_push, List.append_assoc]
    exact (cons_eraseIdx hlt).append_left _
theorem pick_perm {α : Type} (next : Nat → Nat) (xs : Array α) : (pickOrder next xs).toList.Perm xs.toList := by
  unfold pickOrder
  have := pick_go next xs.size 0 xs.toList #[] (by simp)
  simpa using this
section
variable {prog : Program} {w : World} {A : Around} {E : Value → Shared → Prop} {s : Shared}
theorem wpAny_choose {src : Source} {n : Nat} {Q : Nat → Shared → Prop} (hn : n ≠ 0) (h : ∀ k d, k < n → Q k { s with drawn := d }) : wpAny (model prog w) A (choose src n) Q E s := fun Γ p _ => by
  unfold choose
  rw [Sem.wp_choose]
  exact ⟨hn, h _ _ (Nat.mod_lt _ (Nat.pos_of_ne_zero hn))⟩
theorem wpAny_drawOrder {α : Type} : ∀ (n : Nat) (xs : List α) (s : Shared) (Q : List α → Shared → Prop), n = xs.length → (∀ ys d, ys.Perm xs → Q ys { s with drawn := d }) → wpAny (model prog w) A (drawOrder n xs) Q E s := by
  intro n
  induction n with
  | zero =>
    intro xs s Q h hQ
    have : xs = [] := List.eq_nil_of_length_eq_zero h.symm
    subst this
    exact wpAny_pure (hQ [] s.drawn .nil)
  | succ n ih =>
    intro xs s Q h hQ
    cases xs with
    | nil => cases h
    | cons x xs =>
      show wpAny _ _ (choose .order (x :: xs).length >>= _) _ _ _
      refine wpAny_bind (wpAny_choose (by simp) fun i d hi => ?_)
      rw [List.getElem?_eq_getElem hi]
      dsimp only
      refine wpAny_bind (ih _ _ _ (by rw [List.length_eraseIdx_of_lt hi]; simpa using h) fun ys d' hp => ?_)
      exact wpAny_pure (hQ _ _ ((hp.cons _).trans (cons_eraseIdx hi)))

abbrev siObj (first : Value) (i n ep : Nat) (a : Addr) : Array Value := #[first, .int i 0, .ref a, .int n 0, .int ep 0]
def SiAt (h : Heap) (I : Addr) (first : Value) (i n ep : Nat) (a : Addr) : Prop := ∃ o, h.get? I = some o ∧ o.cls = .type "set_iterator" ∧ o.data = .fields (siObj first i n ep a)
/-- the set, with its written entries -/
def SetIs (h : Heap) (a : Addr) (es : Array (Int × Value)) (ep : Nat) (t : SetTable) : Prop := ∃ o, h.get? a = some o ∧ o.cls = .type "set" ∧ o.data = .set es ep t ∧ t.fits es.size = true
theorem SetIs.entries {a : Addr} {es : Array (Int × Value)} {ep : Nat} {t : SetTable} (h : SetIs s.heap a es ep t) {Q : Array (Int × Value) → Shared → Prop} (hQ : Q es s) : wpAny (model prog w) A (setEntries a) Q E s := by
  obtain ⟨o, ho, _, hd, hf⟩ := h
  unfold setEntries
  exact wpAny_bind (wpAny_setState_of ho hd hf (wpAny_pure hQ))
theorem SiAt.put1 {h : Heap} {I a : Addr} {first : Value} {i n ep : Nat} (x : SiAt h I first i n ep a) (k : Nat) (v : Value) {f' : Value} {i' : Nat} (e : (siObj first i n ep a).setIfInBounds k v = siObj f' i' n ep a) :
    SiAt (h.update I (Obj.mapFields (·.setIfInBounds k v))) I f' i' n ep a := by
  obtain ⟨o, ho, hc, hd⟩ := x
  exact ⟨_, Heap.get?_update_self _ ho (Obj.isFreed_of_fields (Obj.data_mapFields hd _)), (Obj.cls_mapFields ..).trans hc, by rw [Obj.data_mapFields hd, e]⟩
theorem SetIs.keep {h h' : Heap} {a : Addr} {es : Array (Int × Value)} {ep : Nat} {t : SetTable} (x : SetIs h a es ep t) (e : ∀ o, h.get? a = some o → h'.get? a = some o) : SetIs h' a es ep t := let ⟨o, ho, r⟩ := x; ⟨o, e _ ho, r⟩
theorem SiAt.keep {h h' : Heap} {I a : Addr} {first : Value} {i n ep : Nat} (x : SiAt h I first i n ep a) (e : ∀ o, h.get? I = some o → h'.get? I = some o) : SiAt h' I first i n ep a := let ⟨o, ho, r⟩ := x; ⟨o, e _ ho, r⟩
theorem next_item {I a : Addr} {es : Array (Int × Value)} {ep i sl sl' : Nat} {t : SetTable} {v : Value} {Q : Option Value → Shared → Prop} (hi : SiAt s.heap I (.int sl 0) i es.size ep a) (hs : SetIs s.heap a es ep t)
    (hn : ∀ (A : Around) (E : Value → Shared → Prop) (Q : Option (Value × Nat) → Shared → Prop), Q (some (v, sl')) s → wpAny (model prog w) A (setNext a sl i ep) Q E s)
    (hQ : ∀ h', SiAt h' I (.int sl' 0) (i + 1) es.size ep a → Heap.SameBut I s.heap h' → Q (some v) { s with heap := h' }) : wpAny (model prog w) A (pyNext (.ref I)) Q E s := by
  obtain ⟨o, ho, hc, hd⟩ := id hi
  have hT : s.TypeIs (.ref I) "set_iterator" := ⟨o, ho, hc⟩
  unfold pyNext
  refine wpAny_bind (wpAny_attempt (wpAny_callSpecial?_slot (name := Str.ofString "__next__") hT slot_si_next (wpAny_call_entry slot_si_next hT entry_si_next ?_ (args_si_next _))))
  unfold Builtin.«set_iterator.__next__»
  refine wpAny_bind (wpAny_pure ?_)
  refine wpAny_bind (wpAny_fieldsOf ho hd ?_)
  show wpAny _ _ (setEntries a >>= _) _ _ _
  refine wpAny_bind (hs.entries ?_)
  rw [if_neg (by simp)]
  show wpAny _ _ (setNext a ((sl : Int)).toNat ((i : Int)).toNat ((ep : Int)).toNat >>= _) _ _ _
  rw [Int.toNat_natCast, Int.toNat_natCast, Int.toNat_natCast]
  refine wpAny_bind (hn _ _ _ ?_)
  dsimp only
  refine wpAny_bind (wpAny_setField ho hd (by simp) ?_)
  have h1 := hi.put1 0 (rawInt sl') (f' := .int sl' 0) (i' := i) (by simp [rawInt])
  obtain ⟨o1, ho1, hc1, hd1⟩ := id h1
  refine wpAny_bind (wpAny_setField ho1 hd1 (by simp) (wpAny_pure ⟨v, rfl, wpAny_pure (hQ _ (h1.put1 1 (rawInt ((i : Int) + 1)) (by simp [rawInt])) ((Heap.SameBut.update ..).trans (Heap.SameBut.update ..)))⟩))
theorem next_end {I a : Addr} {es : Array (Int × Value)} {ep i sl : Nat} {t : SetTable} {Q : Option Value → Shared → Prop} (hh : A.handled = none) (hi : SiAt s.heap I (.int sl 0) i es.size ep a) (hs : SetIs s.heap a es ep t)
    (hn : ∀ (A : Around) (E : Value → Shared → Prop) (Q : Option (Value × Nat) → Shared → Prop), Q none s → wpAny (model prog w) A (setNext a sl i ep) Q E s)
    (hQ : ∀ h', Heap.ExtBut I s.heap h' → Q none { s with heap := h' }) : wpAny (model prog w) A (pyNext (.ref I)) Q E s := by
  obtain ⟨o, ho, hc, hd⟩ := id hi
  have hT : s.TypeIs (.ref I) "set_iterator" := ⟨o, ho, hc⟩
  unfold pyNext
  refine wpAny_bind (wpAny_attempt (wpAny_callSpecial?_slot (name := Str.ofString "__next__") hT slot_si_next (wpAny_call_entry slot_si_next hT entry_si_next ?_ (args_si_next _))))
  unfold Builtin.«set_iterator.__next__»
  refine wpAny_bind (wpAny_pure ?_)
  refine wpAny_bind (wpAny_fieldsOf ho hd ?_)
  show wpAny _ _ (setEntries a >>= _) _ _ _
  refine wpAny_bind (hs.entries ?_)
  rw [if_neg (by simp)]
  show wpAny _ _ (setNext a ((sl : Int)).toNat ((i : Int)).toNat ((ep : Int)).toNat >>= _) _ _ _
  rw [Int.toNat_natCast, Int.toNat_natCast, Int.toNat_natCast]
  refine wpAny_bind (hn _ _ _ ?_)
  dsimp only
  refine wpAny_bind (wpAny_setField ho hd (by simp) ?_)
  refine wpAny_bind ?_
  simp only [newExc, newTuple]
  refine wpAny_bind (wpAny_newObj_type ?_ (by size_fits))
  refine wpAny_bind (m := firstArgMember _ _) (wpAny_of_eq (a := Value.none) (by first | rfl | (simp only [firstArgMember]; rfl)) ?_)
  refine wpAny_newObj_type ?_ (by size_fits)
  simp only [raiseNew]
  refine wpAny_bind (wpAny_handled ?_)
  rw [show A.in1.handled = none from hh]
  refine wpAny_bind (wpAny_pure (wpAny_throw ?_))
  refine wpAny_bind (wpAny_isInstance (T := "StopIteration") (b := true) ⟨_, Heap.get?_push_size _ rfl, rfl⟩ isSubtype_stop ?_)
  exact wpAny_pure (hQ _ (((Heap.SameBut.update ..).extBut.push _).push _))
theorem nextT_item {I a T : Addr} {es : Array (Int × Value)} {ep i k : Nat} {t : SetTable} {x : Int × Value} {is : List Nat} {oT : Obj} {nT : Nat} {Q : Option Value → Shared → Prop} (hi : SiAt s.heap I (.ref T) i es.size ep a) (hs : SetIs s.heap a es ep t)
    (hT' : s.heap.get? T = some oT) (hTd : oT.data = .seq (is.map fun (i : Nat) => rawInt i).toArray nT) (hk : is[i]? = some k) (hx : es[k]? = some x)
    (hQ : ∀ h', SiAt h' I (.ref T) (i + 1) es.size ep a → Heap.SameBut I s.heap h' → Q (some x.2) { s with heap := h' }) : wpAny (model prog w) A (pyNext (.ref I)) Q E s := by
  obtain ⟨o, ho, hc, hd⟩ := id hi
  obtain ⟨oa, hoa, _, hda, hfa⟩ := id hs
  have hT : s.TypeIs (.ref I) "set_iterator" := ⟨o, ho, hc⟩
  unfold pyNext
  refine wpAny_bind (wpAny_attempt (wpAny_callSpecial?_slot (name := Str.ofString "__next__") hT slot_si_next (wpAny_call_entry slot_si_next hT entry_si_next ?_ (args_si_next _))))
  unfold Builtin.«set_iterator.__next__»
  refine wpAny_bind (wpAny_pure ?_)
  refine wpAny_bind (wpAny_fieldsOf ho hd ?_)
  show wpAny _ _ (setEntries a >>= _) _ _ _
  refine wpAny_bind (hs.entries ?_)
  rw [if_neg (by simp)]
  show wpAny _ _ (seqItems? (.ref T) >>= _) _ _ _
  refine wpAny_bind (wpAny_seqItems hT' hTd ?_)
  dsimp only
  rw [Int.toNat_natCast, List.getElem?_toArray, List.getElem?_map, hk]
  show wpAny _ _ (setNextDrawn a ((k : Int)).toNat ((ep : Int)).toNat >>= _) _ _ _
  rw [Int.toNat_natCast, Int.toNat_natCast]
  unfold setNextDrawn
  refine wpAny_bind (wpAny_bind (wpAny_setState_of hoa hda hfa ?_))
  dsimp only
  rw [if_neg (by simp), hx]
  refine wpAny_bind (wpAny_pure (wpAny_pure ?_))
  refine wpAny_bind (wpAny_setField ho hd (by simp) (wpAny_pure ⟨x.2, rfl, wpAny_pure (hQ _ (hi.put1 1 (rawInt ((i : Int) + 1)) (by simp [rawInt])) (Heap.SameBut.update ..))⟩))
theorem nextT_end {I a T : Addr} {es : Array (Int × Value)} {ep i : Nat} {t : SetTable} {is : List Nat} {oT : Obj} {nT : Nat} {Q : Option Value → Shared → Prop} (hh : A.handled = none) (hi : SiAt s.heap I (.ref T) i es.size ep a) (hs : SetIs s.heap a es ep t)
    (hT' : s.heap.get? T = some oT) (hTd : oT.data = .seq (is.map fun (i : Nat) => rawInt i).toArray nT) (hk : is[i]? = none)
    (hQ : ∀ h', Heap.ExtBut I s.heap h' → Q none { s with heap := h' }) : wpAny (model prog w) A (pyNext (.ref I)) Q E s := by
  obtain ⟨o, ho, hc, hd⟩ := id hi
  have hT : s.TypeIs (.ref I) "set_iterator" := ⟨o, ho, hc⟩
  unfold pyNext
  refine wpAny_bind (wpAny_attempt (wpAny_callSpecial?_slot (name := Str.ofString "__next__") hT slot_si_next (wpAny_call_entry slot_si_next hT entry_si_next ?_ (args_si_next _))))
  unfold Builtin.«set_iterator.__next__»
  refine wpAny_bind (wpAny_pure ?_)
  refine wpAny_bind (wpAny_fieldsOf ho hd ?_)
  show wpAny _ _ (setEntries a >>= _) _ _ _
  refine wpAny_bind (hs.entries ?_)
  rw [if_neg (by simp)]
  show wpAny _ _ (seqItems? (.ref T) >>= _) _ _ _
  refine wpAny_bind (wpAny_seqItems hT' hTd ?_)
  dsimp only
  rw [Int.toNat_natCast, List.getElem?_toArray, List.getElem?_map, hk]
  dsimp only [Option.map]
  refine wpAny_bind (wpAny_setField ho hd (by simp) ?_)
  have h1 := hi.put1 0 (rawInt 0) (f' := .int 0 0) (i' := i) (by simp [rawInt])
  obtain ⟨o1, ho1, hc1, hd1⟩ := id h1
  refine wpAny_bind (wpAny_setField ho1 hd1 (by simp) ?_)
  refine wpAny_bind ?_
  simp only [newExc, newTuple]
  refine wpAny_bind (wpAny_newObj_type ?_ (by size_fits))
  refine wpAny_bind (m := firstArgMember _ _) (wpAny_of_eq (a := Value.none) (by first | rfl | (simp only [firstArgMember]; rfl)) ?_)
  refine wpAny_newObj_type ?_ (by size_fits)
  simp only [raiseNew]
  refine wpAny_bind (wpAny_handled ?_)
  rw [show A.in1.handled = none from hh]
  refine wpAny_bind (wpAny_pure (wpAny_throw ?_))
  refine wpAny_bind (wpAny_isInstance (T := "StopIteration") (b := true) ⟨_, Heap.get?_push_size _ rfl, rfl⟩ isSubtype_stop ?_)
  exact wpAny_pure (hQ _ ((((Heap.SameBut.update ..).trans (Heap.SameBut.update ..)).extBut.push _).push _))
end
-- MySv
theorem entry_si_iter : entryFor table "set_iterator.__iter__" = some Builtin.«dict_keyiterator.__iter__» :=
  entryFor_alias (id' := "dict_keyiterator.__iter__") (by kernel_rfl) rfl (by decide +kernel) (by kernel_rfl)
section
variable {prog : Program} {w : World} {A : Around} {E : Value → Shared → Prop} {s : Shared}
theorem byText_of {Q : Bool → Shared → Prop} (h : Q (ByText w) s) : wpAny (model prog w) A setsByText Q E s := by
  unfold setsByText
  exact wpAny_bind (wpAny_askSetting (wpAny_pure h))
theorem iter_self {I a : Addr} {f : Value} {i n ep : Nat} {Q : Value → Shared → Prop} (hi : SiAt s.heap I f i n ep a) (h : Q (.ref I) s) : wpAny (model prog w) A (pyIter (.ref I)) Q E s := by
  obtain ⟨o, ho, hc, hd⟩ := id hi
  have hT : s.TypeIs (.ref I) "set_iterator" := ⟨o, ho, hc⟩
  refine wpAny_pyIter_slot hT slot_si_iter (wpAny_call_entry slot_si_iter hT entry_si_iter ?_ (args_si_iter _))
  show wpAny _ _ (ret (.ref I)) _ _ s
  exact wpAny_pure ⟨_, rfl, "set_iterator", _, hT, slot_si_next.lookup, h⟩
theorem setNext_text {a : Addr} {es : Array (Int × Value)} {ep i sl : Nat} {t : SetTable} {Q : Option (Value × Nat) → Shared → Prop} (hs : SetIs s.heap a es ep t) (hb : ByText w = true)
    (h : Q (((pickOrder (w.params.setOrder a ep) es)[i]?).map fun e => (e.2, sl)) s) : wpAny (model prog w) A (setNext a sl i ep) Q E s := by
  obtain ⟨o, ho, _, hd, hf⟩ := hs
  unfold setNext
  refine wpAny_bind (wpAny_setState_of ho hd hf ?_)
  dsimp only
  refine wpAny_bind (byText_of ?_)
  rw [hb]
  simp only [↓reduceIte, bne_self_eq_false, Bool.false_eq_true]
  unfold setWalk
  refine wpAny_bind (wpAny_bind (wpAny_setState_of ho hd hf ?_))
  dsimp only
  refine wpAny_bind (byText_of ?_)
  rw [hb]
  simp only [↓reduceIte]
  refine wpAny_bind (wpAny_askSetting ?_)
  exact wpAny_pure (wpAny_pure h)
theorem setNext_few {a : Addr} {es : Array (Int × Value)} {ep i sl : Nat} {t : SetTable} {Q : Option (Value × Nat) → Shared → Prop} (hs : SetIs s.heap a es ep t) (hb : ByText w = false) (hl : t.led = true) (h1 : es.size ≤ 1)
    (h : Q (match es[SetTable.below t.place sl]?, t.place[SetTable.below t.place sl]? with | some (_, x), some j => some (x, j + 1) | _, _ => none) s) : wpAny (model prog w) A (setNext a sl i ep) Q E s := by
  obtain ⟨o, ho, _, hd, hf⟩ := hs
  unfold setNext
  refine wpAny_bind (wpAny_setState_of ho hd hf ?_)
  dsimp only
  refine wpAny_bind (byText_of ?_)
  rw [hb]
  have hn : (!t.plain && decide (es.size > 1)) = false := by rw [decide_eq_false (by omega)]; simp
  show wpAny _ _ (if (!t.plain && decide (es.size > 1)) = true then _ else _) _ _ _
  rw [hn]
  show wpAny _ _ ((if (!t.led && !es.isEmpty) = true then unsupported "set:maker-not-led" else pure ()) >>= _) _ _ _
  rw [hl]
  refine wpAny_bind (wpAny_pure ?_)
  exact wpAny_pure h
theorem below_one (j : Nat) : SetTable.below #[j] 0 = 0 ∧ SetTable.below #[j] (j + 1) = 1 := by
  unfold SetTable.below
  constructor
  · simp [SetTable.below.go]
  · simp [SetTable.below.go]
/-- the walk of a set's iterator whose next turn is setNext's -/
theorem walksSet (hh : A.handled = none) (I a : Addr) (hne : a ≠ I) (es : Array (Int × Value)) (ep : Nat) (t : SetTable) (vs : List Value) (sl : Nat → Nat)
    (hn : ∀ (A : Around) (E : Value → Shared → Prop) (s : Shared) (i : Nat) (Q : Option (Value × Nat) → Shared → Prop), SetIs s.heap a es ep t → i ≤ vs.length → Q ((vs[i]?).map fun v => (v, sl (i + 1))) s → wpAny (model prog w) A (setNext a (sl i) i ep) Q E s) :
    Walks prog w A I [I, a] [I] vs.length (fun i v => vs[i]? = some v) (fun i h => SiAt h I (.int (sl i) 0) i es.size ep a ∧ SetIs h a es ep t) where
  sub := fun b hb => by simp at hb; simp [hb]
  frame := fun _ _ _ st hk => ⟨st.1.keep fun o e => hk I (by simp) o e, st.2.keep fun o e => hk a (by simp) o e⟩
  item := fun i s Q E hi st hQ => by
    have hv := List.getElem?_eq_getElem hi
    refine next_item (v := vs[i]) (sl' := sl (i + 1)) st.1 st.2 (fun A E Q h => hn A E s i Q st.2 (by omega) (by rw [hv]; exact h)) fun h' x hs => ?_
    exact hQ _ h' s.toks hv ⟨x, st.2.keep fun o e => (hs.2 a hne).trans e⟩ fun b o hb e => (hs.2 b (by simpa using hb)).trans e
  done := fun s Q E st hQ => by
    refine next_end hh st.1 st.2 (fun A E Q h => hn A E s _ Q st.2 (Nat.le_refl _) (by rw [List.getElem?_eq_none (Nat.le_refl _)]; exact h)) fun h' x => ?_
    exact hQ h' s.toks fun b o hb e => x b o (by simpa using hb) e
  self := fun _ _ _ _ st h => iter_self st.1 h
/-- the walk of a set's iterator over a drawn order -/
theorem walksDrawn (hh : A.handled = none) (I a T : Addr) (hne : a ≠ I) (hT : T ≠ I) (es : Array (Int × Value)) (ep : Nat) (t : SetTable) (is : List Nat) (oT : Obj) (nT : Nat) (hd : oT.data = .seq (is.map fun (i : Nat) => rawInt i).toArray nT)
    (vs : List Value) (hv : ∀ i : Nat, vs[i]? = (is[i]?).bind fun k => (es[k]?).map (·.2)) (hl : is.length = vs.length) :
    Walks prog w A I [I, a, T] [I] vs.length (fun i v => vs[i]? = some v) (fun i h => SiAt h I (.ref T) i es.size ep a ∧ SetIs h a es ep t ∧ h.get? T = some oT) where
  sub := fun b hb => by simp at hb; simp [hb]
  frame := fun _ _ _ st hk => ⟨st.1.keep fun o e => hk I (by simp) o e, st.2.1.keep fun o e => hk a (by simp) o e, hk T (by simp) _ st.2.2⟩
  item := fun i s Q E hi st hQ => by
    have e1 := hv i
    rw [List.getElem?_eq_getElem hi, List.getElem?_eq_getElem (by omega : i < is.length)] at e1
    simp only [Option.bind_some] at e1
    obtain ⟨x, hx, e2⟩ := Option.map_eq_some_iff.mp e1.symm
    refine nextT_item (x := x) st.1 st.2.1 st.2.2 hd (List.getElem?_eq_getElem (by omega : i < is.length)) hx fun h' y hs => ?_
    exact hQ _ h' s.toks (by rw [List.getElem?_eq_getElem hi, e2]) ⟨y, st.2.1.keep fun o e => (hs.2 a hne).trans e, (hs.2 T hT).trans st.2.2⟩ fun b o hb e => (hs.2 b (by simpa using hb)).trans e
  done := fun s Q E st hQ => by
    refine nextT_end hh st.1 st.2.1 st.2.2 hd (List.getElem?_eq_none (by omega)) fun h' x => ?_
    exact hQ h' s.toks fun b o hb e => x b o (by simpa using hb) e
  self := fun _ _ _ _ st h => iter_self st.1 h
theorem setDrawn_of {a : Addr} {es : Array (Int × Value)} {ep : Nat} {t : SetTable} {Q : Bool → Shared → Prop} (hs : SetIs s.heap a es ep t) (h : Q (!ByText w && (!t.plain && decide (es.size > 1))) s) : wpAny (model prog w) A (setDrawn a) Q E s := by
  obtain ⟨o, ho, _, hd, hf⟩ := hs
  unfold setDrawn
  refine wpAny_bind (wpAny_setState_of ho hd hf ?_)
  dsimp only
  exact wpAny_bind (byText_of (wpAny_pure h))
theorem vals_strs {es : Array (Int × Value)} (h : ElemsOf (PySem.strKind prog w) es.toList) {ws : List (Int × Value)} (p : ws.Perm es.toList) : StrsAre (ws.map (·.2)) ((ws.map (·.2)).map txt) := by
  refine strsAre_of (by simp only [List.length_map]) fun j v hj => ?_
  obtain ⟨e, he, e2⟩ := Option.map_eq_some_iff.mp ((List.getElem?_map ..).symm.trans hj)
  have hm := p.mem_iff.mp (List.mem_of_getElem? he)
  subst e2
  obtain ⟨tk, ht⟩ := Value.isStrOf_shape (elem_txt h hm).1
  exact ⟨txt e.2, tk, by rw [List.getElem?_map, hj]; rfl, ht⟩
theorem set_iter {a : Addr} {σ : List PySem.Str} {Q : Value → Shared → Prop} (hh : A.handled = none) (hS : SetL prog w s.heap a σ) (hz : σ.length ≤ 100)
    (h : ∀ I h1 d1 vs fp St, s.heap.objs.size ≤ I → (∀ b ∈ fp, b = a ∨ s.heap.objs.size ≤ b) → Walks prog w A I fp [I] vs.length (fun i v => vs[i]? = some v) St → St 0 h1 → (∀ b o, s.heap.get? b = some o → h1.get? b = some o) →
      StrsAre vs (vs.map txt) → (vs.map txt).Perm σ → Q (.ref I) { s with heap := h1, drawn := d1 }) : wpAny (model prog w) A (pyIter (.ref a)) Q E s := by
  obtain ⟨o, es, ep, t, ho, hex, hd, T⟩ := hS
  have hT : s.TypeIs (.ref a) "set" := ⟨o, ho, hex.1⟩
  have hs : SetIs s.heap a es ep t := ⟨o, ho, hex.1, hd, T.fits⟩
  have hlt := Heap.lt_size ho
  have hsz : es.size ≤ 100 := by rw [T.size]; exact hz
  refine wpAny_pyIter_slot hT slot_set_iter (wpAny_call_entry slot_set_iter hT entry_set_iter ?_ (args_set_iter _))
  unfold Builtin.«frozenset.__iter__» Builtin.Frozenset.slot0 slotArgs
  simp only [List.isEmpty_nil, Bool.not_true, Bool.false_eq_true, ↓reduceIte, bind_assoc, List.length_nil, bne_self_eq_false]
  unfold Builtin.Frozenset.addrOf Builtin.Frozenset.sizeOf
  refine wpAny_bind (wpAny_pure ?_)
  try dsimp only
  refine wpAny_bind (wpAny_pure ?_)
  refine wpAny_bind (wpAny_bind (hs.entries (wpAny_pure ?_)))
  refine wpAny_bind (setDrawn_of hs ?_)
  by_cases hdr : (!ByText w && (!t.plain && decide (es.size > 1))) = true
  · rw [hdr]
    simp only [↓reduceIte]
    refine wpAny_bind (wpAny_drawOrder _ _ _ _ List.length_range.symm fun is d hp => ?_)
    refine wpAny_bind (wpAny_newTuple ?_ ?_)
    rotate_left
    · rw [List.length_map, hp.length_eq, List.length_range, sizeLine_eq]; omega
    have hs1 : SetIs (s.heap.push { cls := .type "tuple", data := .seq (is.map fun (i : Nat) => rawInt i).toArray }) a es ep t := hs.keep fun o e => Heap.get?_push_of_some _ e
    obtain ⟨o1, ho1, _, hd1, hf1⟩ := id hs1
    refine wpAny_bind (wpAny_setEpoch_of ho1 hd1 hf1 ?_)
    refine wpAny_bind (wpAny_newObj_type (wpAny_pure ⟨_, rfl, "set_iterator", _, ⟨_, Heap.get?_push_size _ rfl, rfl⟩, slot_si_next.lookup, ?_⟩))
    have hpv : (is.filterMap fun k => es[k]?).Perm es.toList := (hp.filterMap _).trans (by rw [filterMap_getElem?_range])
    have hall : ∀ k ∈ is, k < es.size := fun k hk => List.mem_range.mp (hp.mem_iff.mp hk)
    have hget : ∀ (ls : List Nat), (∀ k ∈ ls, k < es.size) → ∀ i : Nat, ((ls.filterMap fun k => es[k]?).map (·.2))[i]? = (ls[i]?).bind fun k => (es[k]?).map (·.2) := by
      intro ls
      induction ls with
      | nil => intro _ i; rfl
      | cons k ls ih =>
        intro hl i
        have hk := hl k (List.mem_cons_self)
        rw [List.filterMap_cons_some (b := es[k]) (by simp [hk])]
        cases i with
        | zero => simp [hk]
        | succ i => simpa using ih (fun k hk => hl k (List.mem_cons_of_mem _ hk)) i
    have hlen : is.length = ((is.filterMap fun k => es[k]?).map (·.2)).length := by
      rw [List.length_map, hpv.length_eq, hp.length_eq, List.length_range, Array.length_toList]
    have W := walksDrawn (prog := prog) (w := w) (A := A) hh (s.heap.push { cls := .type "tuple", data := .seq (is.map fun (i : Nat) => rawInt i).toArray }).objs.size a s.heap.objs.size
      (Nat.ne_of_lt (by rw [size_push']; exact Nat.lt_succ_of_lt hlt)) (Nat.ne_of_lt (by rw [size_push']; exact Nat.lt_succ_self _)) es ep t is { cls := .type "tuple", data := .seq (is.map fun (i : Nat) => rawInt i).toArray } 0 rfl _ (hget is hall) hlen
    refine h _ _ d _ _ _ (by rw [size_push']; exact Nat.le_succ _) (fun b hb => ?_) W ⟨⟨_, Heap.get?_push_size _ rfl, rfl, rfl⟩, hs1.keep fun o e => Heap.get?_push_of_some _ e, Heap.get?_push_of_some _ (Heap.get?_push_size _ rfl)⟩
      (fun b o e => Heap.get?_push_of_some _ (Heap.get?_push_of_some _ e)) (vals_strs T.el hpv) ?_
    · simp only [List.mem_cons, List.not_mem_nil, or_false] at hb
      rcases hb with e | e | e
      · exact .inr (by rw [e, size_push']; exact Nat.le_succ _)
      · exact .inl e
      · exact .inr (by rw [e]; exact Nat.le_refl _)
    · rw [List.map_map]
      exact (hpv.map _).trans T.perm
  · rw [Bool.eq_false_iff.mpr hdr]
    simp only [Bool.false_eq_true, ↓reduceIte]
    refine wpAny_bind (wpAny_pure ?_)
    obtain ⟨o1, ho1, _, hd1, hf1⟩ := id hs
    refine wpAny_bind (wpAny_setEpoch_of ho1 hd1 hf1 ?_)
    refine wpAny_bind (wpAny_newObj_type (wpAny_pure ⟨_, rfl, "set_iterator", _, ⟨_, Heap.get?_push_size _ rfl, rfl⟩, slot_si_next.lookup, ?_⟩))
    have fin : ∀ (ws : List (Int × Value)) (sl : Nat → Nat), sl 0 = 0 → ws.Perm es.toList → (∀ (A : Around) (E : Value → Shared → Prop) (s : Shared) (i : Nat) (Q : Option (Value × Nat) → Shared → Prop), SetIs s.heap a es ep t → i ≤ (ws.map (·.2)).length → Q ((((ws.map (·.2)))[i]?).map fun v => (v, sl (i + 1))) s → wpAny (model prog w) A (setNext a (sl i) i ep) Q E s) →
        Q (.ref s.heap.objs.size) { s with heap := s.heap.push { cls := .type "set_iterator", data := .fields [rawInt 0, rawInt 0, .ref a, rawInt es.size, rawInt ep].toArray } } := by
      intro ws sl h0 hp hn
      have W := walksSet (prog := prog) (w := w) (A := A) hh s.heap.objs.size a (Nat.ne_of_lt hlt) es ep t (ws.map (·.2)) sl hn
      refine h _ _ s.drawn _ _ _ (Nat.le_refl _) (fun b hb => ?_) W ⟨⟨_, Heap.get?_push_size _ rfl, rfl, by rw [h0]; rfl⟩, hs.keep fun o e => Heap.get?_push_of_some _ e⟩ (fun b o e => Heap.get?_push_of_some _ e) (vals_strs T.el hp) ?_
      · simp only [List.mem_cons, List.not_mem_nil, or_false] at hb
        rcases hb with rfl | rfl
        · exact .inr (Nat.le_refl _)
        · exact .inl rfl
      · rw [List.map_map]
        exact (hp.map _).trans T.perm
    cases hb : ByText w with
    | true =>
      refine fin (pickOrder (w.params.setOrder a ep) es).toList (fun _ => 0) rfl (pick_perm _ _) fun A E s i Q hs _ hq => setNext_text hs hb ?_
      rw [List.getElem?_map, Array.getElem?_toList, Option.map_map] at hq
      exact hq
    | false =>
      have hl : t.led = true := T.led.resolve_left (by rw [hb]; exact Bool.false_ne_true)
      have h1 : es.size ≤ 1 := by
        rcases T.plain with h0 | h0
        · omega
        · rw [hb, h0] at hdr
          simp at hdr
          exact hdr
      have hpl : t.place.size = es.size := by
        have := T.fits
        simp only [SetTable.fits, Bool.and_eq_true, beq_iff_eq] at this
        exact this.1
      refine fin es.toList (fun i => if i = 0 then 0 else t.place.getD 0 0 + 1) rfl .rfl fun A E s i Q hs hi hq => setNext_few hs hb hl h1 ?_
      rw [List.length_map, Array.length_toList] at hi
      rw [List.getElem?_map, Array.getElem?_toList, Option.map_map] at hq
      rcases Nat.lt_or_ge 0 es.size with h0 | h0
      · have he : es.size = 1 := by omega
        obtain ⟨es⟩ := es
        obtain ⟨_, pl, _, _, _, _, _⟩ := t
        obtain ⟨pl⟩ := pl
        obtain ⟨e, rfl⟩ := List.length_eq_one_iff.mp (show es.length = 1 from he)
        obtain ⟨j, rfl⟩ := List.length_eq_one_iff.mp (show pl.length = 1 from hpl)
        dsimp only at hi hq ⊢
        rcases Nat.lt_or_ge 0 i with h2 | h2
        · have : i = 1 := by simp at hi; omega
          subst this
          have e1 : SetTable.below #[j] (j + 1) = 1 := (below_one j).2
          simpa [e1] using hq
        · have : i = 0 := by omega
          subst this
          have e1 : SetTable.below #[j] 0 = 0 := (below_one j).1
          simpa [e1] using hq
      · have he : es.size = 0 := by omega
        have : es = #[] := Array.eq_empty_of_size_eq_zero he
        subst this
        simpa using hq
end
-- MySw
section
variable {prog : Program} {w : World} {A : Around} {E : Value → Shared → Prop} {s : Shared}
theorem hint_set {r : Addr} {Q : Bool → Shared → Prop} (hT : s.TypeIs (.ref r) "set") (h : Q false s) : wpAny (model prog w) A (Builtin.List.listLengthHint (.ref r)) Q E s := by
  unfold Builtin.List.listLengthHint
  refine wpAny_bind (wpAny_specialOf hT PySem.F.slot_set_len.lookup ?_)
  generalize hid : ("set.__len__" : String) = id0
  wp_delta
  rw [show splitId id0 = some ("set", "__len__") from by subst hid; decide +kernel]
  subst hid
  refine wpAny_bind (wpAny_isInstance (T := "set") (b := true) hT (by rw [isSubtype_type]; kernel_rfl) ?_)
  refine wpAny_ite_split (fun hab => absurd hab (by decide)) (fun _ => ?_)
  refine wpAny_ite_split (fun _ => ?_) (fun hab => absurd (by decide +kernel) hab)
  refine wpAny_bind (wpAny_typeOf hT ?_)
  exact wpAny_pure h
theorem items_eq {vs : List Value} {acc : Array Value} (h : ItemsOf (fun i v => vs[i]? = some v) acc vs.length) : acc.toList = vs := by
  refine List.ext_getElem? fun i => ?_
  rcases Nat.lt_or_ge i vs.length with hi | hi
  · have : i < acc.size := by rw [h.1]; exact hi
    rw [Array.getElem?_toList, h.2 i acc[i] (by simp [this])]; simp [this]
  · rw [List.getElem?_eq_none hi, List.getElem?_eq_none (by rw [Array.length_toList, h.1]; exact hi)]
theorem extend_set {R : Result → Shared → Prop} {r : Addr} {σ : List PySem.Str} (hh : A.handled = none) (hok : SetL prog w s.heap r σ) (hz : σ.length ≤ 100) (S : Addr) (hSr : S ≠ r) (res : Value) (hS : s.heap.get? S = some { cls := .type "list", data := .seq #[] 0 })
    (hR : ∀ h' tk d (vs : List Value) acc' c', (∀ b o, b ≠ S → s.heap.get? b = some o → h'.get? b = some o) → h'.get? S = some { cls := .type "list", dict := none, data := .seq acc' c', slots := #[] } → acc'.toList = vs → StrsAre vs (vs.map txt) → (vs.map txt).Perm σ → R (.ok (.ret res)) { s with heap := h', toks := tk, drawn := d }) :
    wpAny (model prog w) A.in1 (Builtin.List.listExtendWith (.ref S) (.ref r) res)
      (fun fin s' => match fin with | .done f => R (.ok f) s' | .again c' => c'.quiet = true ∧ codeAny (model prog w) A c' R s') (fun e s' => R (.error e) s') s := by
  have hSlt := Heap.lt_size hS
  obtain ⟨o, es, ep, t, ho, hex, hd, T⟩ := id hok
  have hT : s.TypeIs (.ref r) "set" := ⟨o, ho, hex.1⟩
  unfold Builtin.List.listExtendWith
  refine wpAny_bind (wpAny_typeOf (T := "set") hT ?_)
  have h1 : Builtin.List.listSameRef (.ref S) (.ref r) = false := by simp [Builtin.List.listSameRef, hSr]
  have n1 : (Value.type "set" == Value.type "list") = false := by decide
  have n2 : (Value.type "set" == Value.type "tuple") = false := by decide
  simp only [h1, n1, n2, Bool.or_false, Bool.false_eq_true, if_false]
  refine wpAny_bind (set_iter hh hok hz fun I h1 d vs fp St hI hfp W st hk hvs hp => ?_)
  have hSf : S ∉ fp := fun hm => (hfp S hm).elim hSr fun h => absurd hSlt (Nat.not_lt.mpr h)
  have hSI : S ≠ I := fun e => absurd hSlt (Nat.not_lt.mpr (e ▸ hI))
  have hvl : vs.length ≤ sizeLine := by
    have := hp.length_eq
    rw [List.length_map] at this
    rw [sizeLine_eq]; omega
  have key : ∀ (h : Heap) (c₁ tk : Nat), St 0 h → (∀ b o, b ≠ S → s.heap.get? b = some o → h.get? b = some o) →
      h.get? S = some { cls := .type "list", data := .seq #[] c₁ } → codeAny (model prog w) A (.builtin "list.extend.loop" ⟨[.ref S, .ref I, res], []⟩) R { s with heap := h, toks := tk, drawn := d } := by
    intro h c₁ tk hst hk hS₁
    refine codeAny_extend_loopS W.toS hvl S hSf res vs.length 0 _ #[] c₁ rfl (Nat.zero_le _) hst hS₁ (ItemsOf.nil _) fun s' acc' c' hm hS' hacc => ?_
    rw [Moved.eq_with hm]
    refine hR s'.heap s'.toks d vs acc' c' (fun b o hb e => hm.heap b o (fun hmem => ?_) (hk b o hb e)) hS' (items_eq hacc) hvs hp
    rcases List.mem_cons.mp hmem with e' | hmem
    · exact hb e'
    · exact absurd (Heap.lt_size e) (Nat.not_lt.mpr ((List.mem_singleton.mp hmem) ▸ hI))
  have hS₁ := hk _ _ hS
  refine wpAny_bind (wpAny_holding (hint_set ⟨o, hk _ _ ho, hex.1⟩ ?_))
  refine wpAny_ite_split (fun _ => ?_) (fun _ => wpAny_pure ⟨plainId_quiet PySem.F.plain_extend_loop _, key _ _ _ st (fun b o _ e => hk _ _ e) hS₁⟩)
  refine wpAny_bind (wpAny_rule ?_)
  refine wpAny_bind ?_
  show wpAny _ _ (updateSeq S (·.push .none) >>= fun _ => updateSeq S (·.pop)) _ _ _
  refine wpAny_bind (wpAny_updateSeq hS₁ rfl ?_)
  have hS₂ := Heap.get?_update_self (Obj.mapSeq (·.push Value.none)) hS₁ rfl
  refine wpAny_updateSeq (hz := by seq_fits) hS₂ rfl ?_
  have hS₃ := Heap.get?_update_self (Obj.mapSeq (·.pop)) hS₂ rfl
  refine wpAny_pure ⟨plainId_quiet PySem.F.plain_extend_loop _, key _ _ _ ?_ (fun b o hb e => ?_) hS₃⟩
  · refine W.frame 0 _ _ st fun b hb o e => ?_
    have hbS : b ≠ S := fun h => hSf (h ▸ hb)
    exact (Heap.get?_update_other _ _ (Ne.symm hbS)).trans ((Heap.get?_update_other _ _ (Ne.symm hbS)).trans e)
  · exact (Heap.get?_update_other _ _ (Ne.symm hb)).trans ((Heap.get?_update_other _ _ (Ne.symm hb)).trans (hk _ _ e))
theorem collect_set {r : Addr} {σ : List PySem.Str} {R : List Value → Shared → Prop} (hh : A.handled = none) (hok : SetL prog w s.heap r σ) (hz : σ.length ≤ 100)
    (h : ∀ (h' : Heap) (tk : Nat) d (vs : List Value), (∀ b o, s.heap.get? b = some o → h'.get? b = some o) → StrsAre vs (vs.map txt) → (vs.map txt).Perm σ → R vs { s with heap := h', toks := tk, drawn := d }) :
    wpAny (model prog w) A (collect (.ref r)) R E s := by
  have hlt : r < s.heap.objs.size := by obtain ⟨o, _, _, _, ho, _⟩ := hok; exact Heap.lt_size ho
  unfold collect
  refine wpAny_bind (wpAny_runValue (codeAny_builtin entry_proto_collect' ?_))
  rw [Around.under_plainId PySem.F.plain_proto_collect _]
  show wpAny _ A.in1 (newList [] >>= fun l => again (.builtin "list.__iadd__" ⟨[l, .ref r], []⟩)) _ _ s
  refine wpAny_bind (wpAny_newObj_type ?_)
  refine wpAny_pure ⟨plainId_quiet PySem.F.plain_list_iadd _, codeAny_builtin entry_list_iadd' ?_⟩
  rw [Around.under_plainId PySem.F.plain_list_iadd _]
  have hS₁ : (s.heap.push { cls := .type "list", data := .seq ([] : List Value).toArray }).get? s.heap.objs.size = some { cls := .type "list", data := .seq #[] } := Heap.get?_push_size _ rfl
  show wpAny _ A.in1 (Builtin.List.listExtendWith (.ref s.heap.objs.size) (.ref r) (.ref s.heap.objs.size)) _ _ _
  have key := extend_set (A := A) (s := { s with heap := s.heap.push { cls := .type "list", data := .seq ([] : List Value).toArray } })
    (R := fun (q : Result) (s' : Shared) => ∃ (h' : Heap) (tk : Nat) (d : _) (vs : List Value) (acc' : Array Value) (c' : Nat), q = .ok (.ret (.ref s.heap.objs.size)) ∧ s' = { s with heap := h', toks := tk, drawn := d } ∧
      (∀ b o, s.heap.get? b = some o → h'.get? b = some o) ∧ h'.get? s.heap.objs.size = some { cls := .type "list", dict := none, data := .seq acc' c', slots := #[] } ∧ acc'.toList = vs ∧ StrsAre vs (vs.map txt) ∧ (vs.map txt).Perm σ)
    hh (hok.keep fun o e => Heap.get?_push_of_some _ e) hz s.heap.objs.size (Nat.ne_of_gt hlt) (.ref s.heap.objs.size) hS₁
    (fun h' tk d vs acc' c' hk hS' hacc hvs hp => ⟨h', tk, d, vs, acc', c', rfl, rfl, fun b o e => hk b o (Nat.ne_of_lt (Heap.lt_size e)) (Heap.get?_push_of_some _ e), hS', hacc, hvs, hp⟩)
  refine wpAny_mono key (fun fin s' x => ?_) fun e s' x => ?_
  · cases fin with
    | done f =>
      obtain ⟨h', tk, d, vs, acc', c', e, rfl, hk, hS', rfl, hvs, hp⟩ := x
      cases e
      show wpAny _ A (load s.heap.objs.size >>= _) _ _ _
      refine wpAny_bind (wpAny_load hS' ?_)
      exact wpAny_pure (h h' tk d _ hk hvs hp)
    | again c₁ =>
      refine ⟨x.1, codeAny_mono x.2 fun q s₂ y => ?_⟩
      obtain ⟨h', tk, d, vs, acc', c', rfl, rfl, hk, hS', rfl, hvs, hp⟩ := y
      show wpAny _ A (load s.heap.objs.size >>= _) _ _ _
      refine wpAny_bind (wpAny_load hS' ?_)
      exact wpAny_pure (h h' tk d _ hk hvs hp)
  · obtain ⟨_, _, _, _, _, _, e', _⟩ := x
    cases e'
end
section
variable {prog : Program} {w : World} {A : Around} {E : Value → Shared → Prop} {s : Shared} {h₀ : Heap} {L r : Addr} {m : Str → Option Value} {news : Led} {σ : List PySem.Str} {o : Obj}
/-- sorted(a set of texts): the texts in order; the world may have drawn the set's order -/
theorem sorted_set_led {Q : Value → Shared → Prop} (hh : A.handled = none) (F : Fr h₀ L s.heap m) (N : News h₀ L s.heap news) (hm : (r, o) ∈ news) (hs : SetLO prog w o σ) (hz : σ.length ≤ 60)
    (h : ∀ D h' tk d (vs' : List Value) (xs' : List PySem.Str) n', Fr h₀ L h' m → News h₀ L h' ((D, listOf vs'.toArray n') :: news) → (∀ p ∈ news, p.1 < D) → StrsAre vs' xs' → xs'.Perm σ → sortedS xs' = true → Q (.ref D) { s with heap := h', toks := tk, drawn := d }) :
    wpAny (model prog w) A (call (.builtin "sorted") [.ref r]) Q E s := by
  obtain ⟨es, ep, t, hex, hd, T⟩ := hs
  refine call_function_entry kind_sorted plain_sorted entry_sorted (args_sorted1 _) ?_
  unfold Builtin.«sorted»
  refine wpAny_bind (m := checkCount "sorted" 1 1 _) (wpAny_pure ?_)
  refine wpAny_bind (collect_set (A := A.in1) hh ⟨o, es, ep, t, (N _ hm).1, hex, hd, T⟩ (by omega) fun h' tk d vs hk hvs hp => ?_)
  have hl : vs.length = σ.length := by rw [← hp.length_eq, List.length_map]
  refine wpAny_bind (wpAny_newList ?_ (by rw [hl, sizeLine_eq]; omega))
  refine wpAny_bind (wpAny_holding (sort_led (s := { s with heap := h'.push { cls := .type "list", data := .seq vs.toArray }, toks := tk, drawn := d }) ((F.keeps hk).push _) (News.push (F.keeps hk) (fun p hp => ⟨hk _ _ (N p hp).1, (N p hp).2⟩) _ rfl) (fun q hq => Nat.ne_of_lt (Heap.lt_size (hk _ _ (N q hq).1))) hvs (by omega) fun h2 vs' xs' n' F' N' a1 a2 a3 => ?_))
  exact wpAny_pure ⟨_, rfl, h _ _ _ _ _ _ _ F' N' (fun q hq => Heap.lt_size (hk _ _ (N q hq).1)) a1 (a2.trans hp) a3⟩
end
-- MyUp
theorem any_map_fst {kvs : List (PySem.Str × Value)} {k : PySem.Str} : kvs.any (fun kv => kv.1 = k) = (kvs.map (·.1)).any (· == k) := by
  rw [List.any_map]
  congr 1
theorem stored_names (kvs : List (PySem.Str × Value)) (k : PySem.Str) (v : Value) : (stored kvs k v).map (·.1) = if (kvs.map (·.1)).any (· == k) then kvs.map (·.1) else kvs.map (·.1) ++ [k] := by
  unfold stored
  rw [any_map_fst]
  split
  · rw [List.map_map]
    refine List.map_congr_left fun kv _ => ?_
    show (if kv.1 = k then (kv.1, v) else kv).1 = kv.1
    split <;> rfl
  · rw [List.map_append]; rfl
theorem merged_names (kvs more : List (PySem.Str × Value)) : ∀ (xs : List PySem.Str), dd xs = kvs.map (·.1) → (merged kvs more).map (·.1) = dd (xs ++ more.map (·.1)) := by
  induction more generalizing kvs with
  | nil => intro xs h; rw [List.map_nil, List.append_nil, h]; rfl
  | cons kv more ih =>
    intro xs h
    show (merged (stored kvs kv.1 kv.2) more).map (·.1) = _
    rw [ih (stored kvs kv.1 kv.2) (xs ++ [kv.1]) (by rw [dd_snoc, h, stored_names]), List.map_cons, List.append_assoc]
    rfl
section
variable {prog : Program} {w : World} {A : Around} {E : Value → Shared → Prop} {s : Shared} {h₀ : Heap} {L d d2 : Addr} {m : Str → Option Value} {news : Led}
/-- dict.update(dict) on the newest entry -/
theorem dict_update_led {o o2 : Obj} {kvs more : List (PySem.Str × Value)} {Q : Value → Shared → Prop} (F : Fr h₀ L s.heap m) (N : News h₀ L s.heap ((d, o) :: news)) (hn : ∀ p ∈ news, p.1 ≠ d) (hd : o.IsDictOf (PySem.strKind prog w) kvs)
    (hm : (d2, o2) ∈ news) (lo : (d2 == sysModules) = false) (hd2 : o2.IsDictOf (PySem.strKind prog w) more) (hz : kvs.length ≤ 100) (hz2 : more.length ≤ 100)
    (h : ∀ h' o', Fr h₀ L h' m → News h₀ L h' ((d, o') :: news) → o'.IsDictOf (PySem.strKind prog w) (merged kvs more) → Q .none { s with heap := h' }) :
    wpAny (model prog w) A (call (.builtin "dict.update") [.ref d, .ref d2]) Q E s := by
  have hmm := N (d, o) (.head _)
  have hD : s.heap.DictOf (PySem.strKind prog w) d kvs := Heap.dictOf_iff.mpr ⟨o, hmm.1, hd⟩
  have hD2 : s.heap.DictOf (PySem.strKind prog w) d2 more := Heap.dictOf_iff.mpr ⟨o2, (N _ (List.mem_cons_of_mem _ hm)).1, hd2⟩
  refine call_meetsIn PySem.F.slot_dict_update hD.typeIs PySem.F.entry_dict_update (PySem.F.args_dict_update_2 _ _) (meets_dict_update (PySem.strKind prog w) d d2 (fun e => hn _ hm e.symm) lo)
    ⟨kvs, more, hD, hD2, (by rw [sizeLine_eq]; omega), fun h' hm2 _ hs => ?_⟩
  obtain ⟨o', ho', hd'⟩ := Heap.dictOf_iff.mp hm2
  exact h h' o' (F.change hs hmm.2.1 hmm.2.2) (N.setIn (own := []) (fun _ h => by cases h) hn hs ho') hd'
theorem upd_method {o : Obj} {kvs : List (PySem.Str × Value)} {pl : Sem Bool} {Q : Value × List Value → Shared → Prop} (N : News h₀ L s.heap news) (hp : (d, o) ∈ news) (hd : o.IsDictOf (PySem.strKind prog w) kvs) (h : Q (.builtin "dict.update", [.ref d]) s) : wpAny (model prog w) A (getMethod (.ref d) "update" pl) Q E s :=
  have hD := kda_dict N hp hd
  getMethod_builtin hD.typeIs PySem.F.plainAttrs_dict PySem.F.slot_dict_update PySem.F.type_dict_update hD.mapOf.noDict h
end
-- MyCa
/-- the contract of a function that something other than a call expression runs (a property) -/
def DoesC (w : World) (dn : Nat) (f : Addr) (args : List Value) (news : Led) (Post : Value → Led → Prop) : Prop :=
  ∀ (dp un : Nat) (gd : Option (List Code)) (cn : Str) (nm : List (Str × NameKind)) (ig ic : Bool) (mo : List (Str × Const)) (a : Addr) (ccd : Value) (cl : List (Str × Addr)) (outer : List Env) (A₀ : Around) (base h₀ : Heap) (L : Addr) (m : Str → Option Value) (s : Shared)
    (mean : ExcName → Option Value) (mg mb : Str → Option Value) (R : Result → Shared → Prop),
    Below A₀ base outer h₀ → Fr h₀ L s.heap m → (K w.params).In h₀ → News h₀ L s.heap news → TopM mean mg mb h₀ →
    dp + dn < recursionLimit → un + 20 * dn < cLine →
    (∀ r h' tk' news', Fr h₀ L h' m → News h₀ L h' news' → Post r news' → R (.ok (.ret r)) { s with heap := h', toks := tk' }) →
    codeAny (model PySem.Challenge.rw_je0043_01.row.toRowW.1 w) (ktrTop dp un gd cn ⟨.function, nm, ig, ic, mo⟩ L a ccd cl outer) (.call (.ref f) ⟨args, []⟩) R s
theorem doesC_of {w : World} {dn : Nat} {f : Addr} {args : List Value} {news : Led} {Post : Value → Led → Prop} {name qual : Str} {params : Arguments} {body : List Stmt} {scope : Scope} {dV kV doc pm cdv ct oc : Value} {an od : Option Addr} {osl : Array (Option Value)} {binds : List (Str × Value)}
    (ho : (K w.params).lookup f = some ⟨oc, od, .func (fnOf name qual params body scope dV kV doc pm an cdv ct), osl⟩) (hcd : codeIn (K w.params) cdv qual = true)
    (hbind : ∀ s, BindsTo s (fnOf name qual params body scope dV kV doc pm an cdv ct) ⟨args, []⟩ binds) (hloc : ∀ y ∈ binds, scope.names.lookup y.1 = some .local)
    (hco : scope.isCoroutine = false) (hgen : scope.isGenerator = false) (hk : scope.kind = .function) (hcell : ∀ x ∈ scope.names, x.2 ≠ .cell)
    (hdn : 0 < dn)
    (h : BodyP w dn qual scope f cdv body (fun y => binds.reverse.lookup y) news Post) : DoesC w dn f args news Post := by
  intro dp un gd cn nm ig ic mo a ccd cl outer A₀ base h₀ L m s mean mg mb R B F X₀ N T hdp hun hret
  have X := X₀.keeps F.keep
  obtain ⟨FG, BG, st, lv⟩ := groundX (A := ktrTop dp un gd cn ⟨.function, nm, ig, ic, mo⟩ L a ccd cl outer) (R := R) B F N rfl rfl rfl
  refine codeAny_call_def (fd := fnOf name qual params body scope dV kV doc pm an cdv ct) (body := body) (binds := binds) (by show dp < recursionLimit; omega) (X _ _ ho) rfl (T.nolimit.keeps F.keep) (codeRec_of X hcd) rfl (hbind s) hcell hloc (fun h₁ hns hk₁ => ?_) hco hgen hk
  refine wpAny_mono (h dp un gd (envX cn ⟨.function, nm, ig, ic, mo⟩ L a ccd cl :: outer) base (hideAll s.heap (news.map (·.1))) s.heap.objs.size { s with heap := h₁, toks := s.toks + binds.length } mean mg mb BG
    ⟨hns, fun b o e => hk₁ b o (of_hideAll _ e), Nat.le_of_eq (hideAll_size _ _)⟩ (X₀.keeps (fun b o e => st b o e))
    (fun p hp => ⟨hk₁ _ _ (N p hp).1, Nat.ne_of_lt (Heap.lt_size (N p hp).1), hideAll_none _ (List.mem_map_of_mem hp)⟩) (T.keeps (fun b o e => st b o e)) (fun p hp => Heap.lt_size (N p hp).1) hdp hun) (fun fl s' hl => ?_) fun _ _ y => y.elim
  obtain ⟨h', tk', m', led', rfl, F', N', hp⟩ := hl
  exact lv _ _ (leaveK_ F' N' fun F'' N'' => hret _ _ _ _ F'' N'' hp)
theorem useCA {w : World} {dn : Nat} {f : Addr} {args : List Value} {led : Led} {Post : Value → Led → Prop} (H : DoesC w dn f args led Post) {dp un : Nat} {gd : Option (List Code)} {cn : Str} {nm : List (Str × NameKind)} {ig ic : Bool} {mo : List (Str × Const)} {a : Addr} {ccd : Value} {cl : List (Str × Addr)} {outer : List Env} {A₀ : Around} {base h₀ : Heap} {L : Addr} {m : Str → Option Value} {s : Shared}
    {mean : ExcName → Option Value} {mg mb : Str → Option Value} {R : Result → Shared → Prop}
    (B : Below A₀ base outer h₀) (F : Fr h₀ L s.heap m) (X : (K w.params).In h₀) (N : News h₀ L s.heap led) (T : TopM mean mg mb h₀) (hd : dp + dn < recursionLimit) (hu : un + 20 * dn < cLine)
    (h : ∀ r h' tk' news', Fr h₀ L h' m → News h₀ L h' news' → Post r news' → R (.ok (.ret r)) { s with heap := h', toks := tk' }) :
    codeAny (model PySem.Challenge.rw_je0043_01.row.toRowW.1 w) (ktrTop dp un gd cn ⟨.function, nm, ig, ic, mo⟩ L a ccd cl outer) (.call (.ref f) ⟨args, []⟩) R s :=
  H dp un gd cn nm ig ic mo a ccd cl outer A₀ base h₀ L m s mean mg mb R B F X N T hd hu h
end
-- MyVp



theorem verified_t (w : World) (vr : Addr) (th : Int) (kn : Int → Option Addr) (ss us : List Int) (news : Led) (hv : IsVR w news vr th kn ss us) (hz : ss.length ≤ 5) :
   DoesC w 5 287 [.ref vr] news (fun r news' => r = .bool (decide (th ≤ (ss.length : Int))) ∧ news' = news) := by
  obtain ⟨dv, S, U, oS, oU, n, t1, t2, t3, t4, h1, h2, h3, h4, h5, h6, h7, h8⟩ := hv
  unfold DoesC
  k_fill
  w_top off
  show DoesC w 5 287 _ _ _
  refine' doesC_of (binds := [("self", .ref vr)]) ?ho ?hcd (fun _ => BindsTo.of_eq ?hb) ?hl ?h1 ?h2 ?h3 ?h4 ?h5 ?h
  case ho => k_is
  case hcd => k_is
  case hb => exact rfl
  case hl => exact locs rfl
  case h1 => exact rfl
  case h2 => exact rfl
  case h3 => exact rfl
  case h4 => decide
  case h5 => decide
  intro dp un gd outer base g L s mean mg mb B F X N T hlt hdp hun
  with_unfolding_all show wpAny _ _ (execs (_ :: _) _) _ _ _
  refine letAV ?_
  intro Vᵣ Aᵣ
  (repeat' (first | (k_unfold; (try dsimp only)) | ((try (with_reducible (show wpAny _ _ (exec _ _) _ _ _); k_fold)); (first | ((with_reducible refine tok_gen3 ?_); intro _) | ((with_reducible show wpAny _ _ (call (Value.builtin "len") _) _ _ _); (k_here; k_dflt (refine' len_kv_led ?Nᵣ ?mᵣ ?dᵣ ?loᵣ ?zᵣ ?_; (case Nᵣ => k_asm); (case mᵣ => k_mem); (case dᵣ => assumption); (case loᵣ => assumption); (case zᵣ => (first | assumption | exact Nat.le_trans (by assumption) (by decide) | omega))))) | walk1 | (dsimp only; walk1))) | (leave1; walk_say "STEP leave1"; try dsimp only) | fail "no step"))
  all_goals refine' endsP news (by k_asm) (by k_asm) ⟨?v, rfl⟩
  all_goals first | rfl | (rw [decide_eq_true (by omega)]) | (rw [decide_eq_false (by omega)])
theorem rverified_t (w : World) (R a b : Addr) (th1 th2 : Int) (kn1 kn2 : Int → Option Addr) (ss1 us1 ss2 us2 : List Int) (news : Led) (hR : IsRVR w news R a b) (ha : IsVR w news a th1 kn1 ss1 us1) (hb : IsVR w news b th2 kn2 ss2 us2) (hz1 : ss1.length ≤ 5) (hz2 : ss2.length ≤ 5) :
   DoesC w 8 324 [.ref R] news (fun r news' => r = .bool (decide (th1 ≤ (ss1.length : Int)) && decide (th2 ≤ (ss2.length : Int))) ∧ news' = news) := by
  obtain ⟨dx, n, t1, t2, hR1, hR2⟩ := hR
  obtain ⟨dv1, S1, U1, oS1, oU1, n1, t11, t12, t13, t14, h11, h12, h13, h14, h15, h16, h17, h18⟩ := id ha
  obtain ⟨dv2, S2, U2, oS2, oU2, n2, t21, t22, t23, t24, h21, h22, h23, h24, h25, h26, h27, h28⟩ := id hb
  unfold DoesC
  k_fill
  w_top off
  show DoesC w 8 324 _ _ _
  refine' doesC_of (binds := [("self", .ref R)]) ?ho ?hcd (fun _ => BindsTo.of_eq ?hb) ?hl ?h1 ?h2 ?h3 ?h4 ?h5 ?h
  case ho => k_is
  case hcd => k_is
  case hb => exact rfl
  case hl => exact locs rfl
  case h1 => exact rfl
  case h2 => exact rfl
  case h3 => exact rfl
  case h4 => decide
  case h5 => decide
  intro dp un gd outer base g L s mean mg mb B F X N T hlt hdp hun
  with_unfolding_all show wpAny _ _ (execs (_ :: _) _) _ _ _
  refine letAV ?_
  intro Vᵣ Aᵣ
  (repeat' (first | (k_unfold; (try dsimp only)) | ((try (with_reducible (show wpAny _ _ (exec _ _) _ _ _); k_fold)); (first | ((with_reducible refine tok_gen3 ?_); intro _) | ((k_here; (with_reducible show wpAny _ _ (getAttr (Value.ref _) (Str.ofString "verified") _) _ _ _); k_dflt (refine' get_prop ?k1ᵣ ?k2ᵣ ?k3ᵣ ?k4ᵣ ?k5ᵣ ?k6ᵣ ?k7ᵣ ?k8ᵣ ?k9ᵣ ?_; (case k1ᵣ => k_asm); (case k2ᵣ => k_asm); (case k3ᵣ => k_inst); (case k4ᵣ => k_is); (case k5ᵣ => k_is); (case k6ᵣ => k_is); (case k7ᵣ => k_is); (case k8ᵣ => k_is); (case k9ᵣ => k_is); k_whole); k_dflt (refine' useCA (verified_t _ _ _ _ _ _ _ ?hᵣ ?zᵣ) ?Bᵣ ?Fᵣ ?Xᵣ ?Nᵣ ?Tᵣ ?dᵣ ?uᵣ ?_; (case Bᵣ => k_asm); (case Fᵣ => k_asm); (case Xᵣ => k_asm); (case Nᵣ => k_asm); (case Tᵣ => k_asm); (case hᵣ => assumption); (case zᵣ => assumption); (case dᵣ => ktr_room); (case uᵣ => ((try simp only [units_deeper, units_under_make]); ktr_units)); k_whole; rintro _ h'ᵣ tk'ᵣ _ F'ᵣ N'ᵣ ⟨e19ᵣ, e29ᵣ⟩; subst e19ᵣ; rw [e29ᵣ] at N'ᵣ; clear e29ᵣ; (refine handed_on rfl ?_); (try dsimp only)))) | ((with_reducible show wpAny _ _ (call (Value.builtin "len") _) _ _ _); (k_here; k_dflt (refine' len_kv_led ?Nᵣ ?mᵣ ?dᵣ ?loᵣ ?zᵣ ?_; (case Nᵣ => k_asm); (case mᵣ => k_mem); (case dᵣ => assumption); (case loᵣ => assumption); (case zᵣ => (first | assumption | exact Nat.le_trans (by assumption) (by decide) | omega))))) | walk1 | (dsimp only; walk1))) | (leave1; walk_say "STEP leave1"; try dsimp only) | fail "no step"))
  all_goals
    refine' endsP news (by k_asm) (by k_asm) ⟨_, rfl⟩
    by_cases c1 : th1 ≤ (ss1.length : Int) <;> by_cases c2 : th2 ≤ (ss2.length : Int) <;> first | omega | (simp_all; done) | (simp_all; omega)
inductive SDPost (w : World) (ss1 ss2 : List Int) (news : Led) (r : Value) (news' : Led) : Prop
  | mk (D : Addr) (o : Obj) (kvs : List (PySem.Str × Value)) (_ : r = .ref D) (_ : news' = (D, o) :: news) (_ : o.IsDictOf (PySem.strKind PM w) kvs) (_ : kvs.map (·.1) = dd (ss1.map kN ++ ss2.map kN)) (_ : (D == sysModules) = false) (_ : kvs.length ≤ 10) : SDPost w ss1 ss2 news r news'
theorem rsigned_t (w : World) (R a b : Addr) (th1 th2 : Int) (kn1 kn2 : Int → Option Addr) (ss1 us1 ss2 us2 : List Int) (news : Led) (hR : IsRVR w news R a b) (ha : IsVR w news a th1 kn1 ss1 us1) (hb : IsVR w news b th2 kn2 ss2 us2) (hn : dd (ss1.map kN) = ss1.map kN) (hz1 : ss1.length ≤ 5) (hz2 : ss2.length ≤ 5) :
   DoesC w 8 332 [.ref R] news (SDPost w ss1 ss2 news) := by
  obtain ⟨dx, n, t1, t2, hR1, hR2⟩ := hR
  obtain ⟨dv1, S1, U1, oS1, oU1, n1, t11, t12, t13, t14, h11, h12, h13, h14, h15, h16, h17, h18⟩ := ha
  obtain ⟨dv2, S2, U2, oS2, oU2, n2, t21, t22, t23, t24, h21, h22, h23, h24, h25, h26, h27, h28⟩ := hb
  have hl1 : (kvOf kn1 ss1).length ≤ 100 := by unfold kvOf; rw [List.length_map]; omega
  have hl2 : (kvOf kn2 ss2).length ≤ 100 := by unfold kvOf; rw [List.length_map]; omega
  unfold DoesC
  k_fill
  w_top off
  show DoesC w 8 332 _ _ _
  refine' doesC_of (binds := [("self", .ref R)]) ?ho ?hcd (fun _ => BindsTo.of_eq ?hb) ?hl ?h1 ?h2 ?h3 ?h4 ?h5 ?h
  case ho => k_is
  case hcd => k_is
  case hb => exact rfl
  case hl => exact locs rfl
  case h1 => exact rfl
  case h2 => exact rfl
  case h3 => exact rfl
  case h4 => decide
  case h5 => decide
  intro dp un gd outer base g L s mean mg mb B F X N T hlt hdp hun
  with_unfolding_all show wpAny _ _ (execs (_ :: _) _) _ _ _
  refine letAV ?_
  intro Vᵣ Aᵣ
  (repeat' (first | (k_unfold; (try dsimp only)) | ((try (with_reducible (show wpAny _ _ (exec _ _) _ _ _); k_fold)); (first | ((with_reducible refine tok_gen3 ?_); intro _) | ((with_reducible show wpAny _ _ (call (Value.builtin "dict.update") _) _ _ _); (k_here; k_dflt (refine' dict_update_led ?Fᵣ ?Nᵣ ?nᵣ ?hdᵣ ?hmᵣ ?loᵣ ?hd2ᵣ ?zᵣ ?z2ᵣ ?_; (case Fᵣ => k_asm); (case Nᵣ => k_asm); (case nᵣ => k_all); (case hdᵣ => assumption); (case hmᵣ => k_mem); (case loᵣ => assumption); (case hd2ᵣ => assumption); (case zᵣ => assumption); (case z2ᵣ => assumption)); intro h'ᵣ o'ᵣ F'ᵣ N'ᵣ hd'ᵣ)) | ((k_here; (with_reducible show wpAny _ _ (getMethod (Value.ref _) (Str.ofString "update") _) _ _ _); k_dflt (refine upd_method (by k_asm) (by k_mem) (by k_asm) ?_))) | ((with_reducible show wpAny _ _ (call (Value.type "dict") _) _ _ _); (k_here; k_dflt (refine' dict_copy_led ?Fᵣ ?Nᵣ ?bᵣ ?hmᵣ ?loᵣ ?hdᵣ ?zᵣ ?_; (case Fᵣ => k_asm); (case Nᵣ => k_asm); (case hmᵣ => k_mem); (case loᵣ => assumption); (case hdᵣ => assumption); (case bᵣ => exact modules_low (Top.nolimit (by k_asm))); (case zᵣ => assumption)); intro D'ᵣ h'ᵣ o'ᵣ F'ᵣ N'ᵣ lo'ᵣ hd'ᵣ hl'ᵣ; (try k_lt hl'ᵣ))) | walk1 | (dsimp only; walk1))) | (leave1; walk_say "STEP leave1"; try dsimp only) | fail "no step"))
  refine' endsP _ (by k_asm) (by k_asm) ⟨_, _, _, rfl, rfl, by assumption, ?v, by assumption, ?z⟩
  case v => rw [merged_names (kvOf kn1 ss1) (kvOf kn2 ss2) (ss1.map kN) (by rw [hn, kvOf_names]), kvOf_names]
  case z =>
    refine Nat.le_trans (merged_length_le _ _) ?_
    unfold kvOf; rw [List.length_map, List.length_map]; omega
theorem runsigned_t (w : World) (R a b : Addr) (th1 th2 : Int) (kn1 kn2 : Int → Option Addr) (ss1 us1 ss2 us2 : List Int) (news : Led) (hR : IsRVR w news R a b) (ha : IsVR w news a th1 kn1 ss1 us1) (hb : IsVR w news b th2 kn2 ss2 us2) (hn : dd (us1.map kN) = us1.map kN) (hz1 : us1.length ≤ 5) (hz2 : us2.length ≤ 5) :
   DoesC w 8 340 [.ref R] news (SDPost w us1 us2 news) := by
  obtain ⟨dx, n, t1, t2, hR1, hR2⟩ := hR
  obtain ⟨dv1, S1, U1, oS1, oU1, n1, t11, t12, t13, t14, h11, h12, h13, h14, h15, h16, h17, h18⟩ := ha
  obtain ⟨dv2, S2, U2, oS2, oU2, n2, t21, t22, t23, t24, h21, h22, h23, h24, h25, h26, h27, h28⟩ := hb
  have hl1 : (kvOf kn1 us1).length ≤ 100 := by unfold kvOf; rw [List.length_map]; omega
  have hl2 : (kvOf kn2 us2).length ≤ 100 := by unfold kvOf; rw [List.length_map]; omega
  unfold DoesC
  k_fill
  w_top off
  show DoesC w 8 340 _ _ _
  refine' doesC_of (binds := [("self", .ref R)]) ?ho ?hcd (fun _ => BindsTo.of_eq ?hb) ?hl ?h1 ?h2 ?h3 ?h4 ?h5 ?h
  case ho => k_is
  case hcd => k_is
  case hb => exact rfl
  case hl => exact locs rfl
  case h1 => exact rfl
  case h2 => exact rfl
  case h3 => exact rfl
  case h4 => decide
  case h5 => decide
  intro dp un gd outer base g L s mean mg mb B F X N T hlt hdp hun
  with_unfolding_all show wpAny _ _ (execs (_ :: _) _) _ _ _
  refine letAV ?_
  intro Vᵣ Aᵣ
  (repeat' (first | (k_unfold; (try dsimp only)) | ((try (with_reducible (show wpAny _ _ (exec _ _) _ _ _); k_fold)); (first | ((with_reducible refine tok_gen3 ?_); intro _) | ((with_reducible show wpAny _ _ (call (Value.builtin "dict.update") _) _ _ _); (k_here; k_dflt (refine' dict_update_led ?Fᵣ ?Nᵣ ?nᵣ ?hdᵣ ?hmᵣ ?loᵣ ?hd2ᵣ ?zᵣ ?z2ᵣ ?_; (case Fᵣ => k_asm); (case Nᵣ => k_asm); (case nᵣ => k_all); (case hdᵣ => assumption); (case hmᵣ => k_mem); (case loᵣ => assumption); (case hd2ᵣ => assumption); (case zᵣ => assumption); (case z2ᵣ => assumption)); intro h'ᵣ o'ᵣ F'ᵣ N'ᵣ hd'ᵣ)) | ((k_here; (with_reducible show wpAny _ _ (getMethod (Value.ref _) (Str.ofString "update") _) _ _ _); k_dflt (refine upd_method (by k_asm) (by k_mem) (by k_asm) ?_))) | ((with_reducible show wpAny _ _ (call (Value.type "dict") _) _ _ _); (k_here; k_dflt (refine' dict_copy_led ?Fᵣ ?Nᵣ ?bᵣ ?hmᵣ ?loᵣ ?hdᵣ ?zᵣ ?_; (case Fᵣ => k_asm); (case Nᵣ => k_asm); (case hmᵣ => k_mem); (case loᵣ => assumption); (case hdᵣ => assumption); (case bᵣ => exact modules_low (Top.nolimit (by k_asm))); (case zᵣ => assumption)); intro D'ᵣ h'ᵣ o'ᵣ F'ᵣ N'ᵣ lo'ᵣ hd'ᵣ hl'ᵣ; (try k_lt hl'ᵣ))) | walk1 | (dsimp only; walk1))) | (leave1; walk_say "STEP leave1"; try dsimp only) | fail "no step"))
  refine' endsP _ (by k_asm) (by k_asm) ⟨_, _, _, rfl, rfl, by assumption, ?v, by assumption, ?z⟩
  case v => rw [merged_names (kvOf kn1 us1) (kvOf kn2 us2) (us1.map kN) (by rw [hn, kvOf_names]), kvOf_names]
  case z =>
    refine Nat.le_trans (merged_length_le _ _) ?_
    unfold kvOf; rw [List.length_map, List.length_map]; omega
-- MyVb


theorem joinParts_le {M : Model} {A : Around} {E : Value → Shared → Prop} {s : Shared} {out : PySem.Str} {Q : Value → Shared → Prop} (hz : out.length ≤ 9000) (h : ∀ x t' k, x.length ≤ 9000 → Q (.str x t') { s with toks := k }) : wpAny M A (joinParts out []) Q E s :=
  joinParts_nil (h _ _ _ hz) (by rw [sizeLine_eq]; omega)
theorem grvrBad_t (w : World) (x1 kd1 rr1 x2 kd2 rr2 sd : Addr) (v1 v2 : Int) (t : Tok) (pb : Array UInt8) (news : Led)
   (hx1 : IsRoot w news x1 kd1 rr1 v1) (hx2 : IsRoot w news x2 kd2 rr2 v2) (hv : v2 ≠ v1 + 1) (hne : (@Ne Nat x1 x2)) (h1 : 1 ≤ v1) (h2 : v1 ≤ 4) (h3 : 1 ≤ v2) (h4 : v2 ≤ 4) :
   RaisesV w 6 448 [.ref x2, .ref x1, .bytes pb t, .ref sd] news := by
  obtain ⟨dx, rd, ud, r1, r2, r3, ord, n, sv, t1, t2, t3, t4, t5, t6, t7, t8, t9, t10, t11, hx1, hx2', hx3, hx4, hx5⟩ := hx1
  obtain ⟨dy, rdy, udy, r1y, r2y, r3y, ordy, ny, svy, t1y, t2y, t3y, t4y, t5y, t6y, t7y, t8y, t9y, t10y, t11y, hy1, hy2, hy3, hy4, hy5⟩ := hx2
  unfold RaisesV
  k_fill
  w_top off
  show RaisesV w 6 448 _ _
  refine' raises_of (binds := [("self", .ref x2), ("previous", .ref x1), ("payload", .bytes pb t), ("signatures", .ref sd)]) ?ho ?hcd (fun _ => BindsTo.of_eq ?hb) ?hl ?h1 ?h2 ?h3 ?h4 ?h5 ?h
  case ho => k_is
  case hcd => k_is
  case hb => exact rfl
  case hl => exact locs rfl
  case h1 => exact rfl
  case h2 => exact rfl
  case h3 => exact rfl
  case h4 => decide
  case h5 => decide
  intro dp un gd outer base g L s mean mg mb Q E B F X N T XB TB D hlt hdp hun hE
  have Tz := T
  with_unfolding_all show wpAny _ _ (execs (_ :: _) _) _ _ _
  refine letAV ?_
  intro Vᵣ Aᵣ
  (repeat' (first | (k_unfold; (try dsimp only)) | ((try (with_reducible (show wpAny _ _ (exec _ _) _ _ _); k_fold)); (first | ((with_reducible refine tok_gen3 ?_); intro _) | ((with_reducible show wpAny _ _ (exec (Stmt.For _ _ _ _ _) _) _ _ _); (k_here; refine wpAny_For ?_ (by intro _; with_unfolding_all rfl))) | ((with_reducible show wpAny _ _ (subscriptTail _ _ (Value.str _ _) (Value.ref _)) _ _ _); (k_here; (with_reducible rename Fr _ _ _ _ => F'ᵣ); (with_reducible rename News _ _ _ _ => N'ᵣ); (refine' name_tail (s := ⟨_, _, _, _, _⟩) F'ᵣ N'ᵣ ?aᵣ ?bᵣ ?_; (case aᵣ => first | assumption | exact Nat.le_trans (by assumption) (by decide) | omega); (case bᵣ => (first | assumption | exact Nat.le_trans (by assumption) (by decide) | omega))); intro _ _ _ _ _)) | ((with_reducible show wpAny _ _ (compareOp CmpOp.NotIn (Value.str _ _) (Value.ref _)) _ _ _); (k_here; k_dflt (first | refine kdg_notin (knd := PySem.strKind _ _) (by k_asm) (by k_mem) (by k_asm) (by k_asm) (strKind_is _ _ _ _) true (isSome_of (by first | with_reducible assumption | assumption | rfl)) ?_ | refine kdg_notin (knd := PySem.strKind _ _) (by k_asm) (by k_mem) (by k_asm) (by k_asm) (strKind_is _ _ _ _) false (isNone_of (by first | with_reducible assumption | assumption | rfl)) ?_))) | ((with_reducible show wpAny _ _ (compareOp CmpOp.In (Value.str _ _) (Value.ref _)) _ _ _); (k_here; k_dflt (first | refine kda_in (knd := PySem.strKind _ _) (by k_asm) (by k_mem) (by k_asm) (by k_asm) (strKind_is _ _ _ _) true (isSome_of (by first | with_reducible assumption | assumption | rfl)) ?_ | refine kda_in (knd := PySem.strKind _ _) (by k_asm) (by k_mem) (by k_asm) (by k_asm) (strKind_is _ _ _ _) false (isNone_of (by first | with_reducible assumption | assumption | rfl)) ?_))) | ((with_reducible show wpAny _ _ (formatField (Value.str _ _) _) _ _ _); (k_here; refine' fmt_any ?hzᵣ ?_; (case hzᵣ => first | (rw [sizeLine_eq]; (first | assumption | exact Nat.le_trans (by assumption) (by decide) | omega)) | size_fits | decide +kernel); intro _ _)) | ((k_here; (with_reducible show wpAny _ _ (call (Value.builtin _) [Value.ref _, _]) _ _ _); k_dflt (refine' append_K ?k1ᵣ ?k2ᵣ ?k3ᵣ ?_ ?zᵣ; (case k1ᵣ => k_asm); (case k2ᵣ => k_asm); (case k3ᵣ => k_upd); (case zᵣ => (rw [sizeLine_eq]; (try simp only [List.size_toArray]); (first | assumption | exact Nat.le_trans (by assumption) (by decide) | omega))); k_whole); intro h'ᵣ F'ᵣ N'ᵣ; (try simp only [List.push_toArray] at N'ᵣ))) | ((with_reducible show wpAny _ _ (call (Value.builtin "bytes.decode") _) _ _ _); (k_here; (with_reducible rename DecOk _ _ => hDecᵣ); refine hDecᵣ _ _ _ _ _ _ _ _ ?_; intro _ _)) | ((with_reducible show wpAny _ _ (call (Value.builtin "len") _) _ _ _); (k_here; k_dflt (refine' len_led ?Nᵣ ?mᵣ ?zᵣ ?_; (case Nᵣ => k_asm); (case mᵣ => k_mem); (case zᵣ => first | assumption | (simp only [List.size_toArray]; (first | assumption | exact Nat.le_trans (by assumption) (by decide) | omega)) | skip)))) | ((k_here; (first | (with_reducible show wpAny _ _ (joinParts _ []) _ _ _) | (with_reducible show wpAny _ _ (joinParts _ (evalEach [] _)) _ _ _)); k_dflt (refine' joinParts_le ?zᵣ ?_; (case zᵣ => (refine' Nat.le_trans ?ktaᵣ ?ktbᵣ; (case ktaᵣ => kt_len); (case ktbᵣ => decide +kernel))); intro _ _ _ _))) | ((with_reducible show ite _ _ _); first | (exfalso; (first | assumption | exact Nat.le_trans (by assumption) (by decide) | omega)) | (refine' ite_yes ?cᵣ ?_; (case cᵣ => (first | (simp only [decide_eq_true_eq, beq_iff_eq, bne_iff_ne, ne_eq]; (first | assumption | exact Nat.le_trans (by assumption) (by decide) | omega)) | (first | assumption | exact Nat.le_trans (by assumption) (by decide) | omega)))) | (refine' ite_no ?cᵣ ?_; (case cᵣ => (first | (simp only [decide_eq_true_eq, beq_iff_eq, bne_iff_ne, ne_eq]; (first | assumption | exact Nat.le_trans (by assumption) (by decide) | omega)) | (first | assumption | exact Nat.le_trans (by assumption) (by decide) | omega))))) | (((with_reducible show _ ∧ _); (with_reducible show List.length _ ≤ sizeLine ∧ _); refine And.intro (by rw [sizeLine_eq]; simp only [List.length_cons, List.length_nil]; (first | assumption | exact Nat.le_trans (by assumption) (by decide) | omega)) ?_)) | ((k_here; (first | (with_reducible show wpAny _ _ (joinParts _ []) _ _ _) | (with_reducible show wpAny _ _ (joinParts _ (evalEach [] _)) _ _ _)); k_dflt (refine' joinParts_any ?zᵣ ?_; (case zᵣ => (refine' Nat.le_trans ?ktaᵣ ?ktbᵣ; (case ktaᵣ => kt_len); (case ktbᵣ => (rw [sizeLine_eq]; decide +kernel)))); intro _ _ _ _))) | (((with_reducible show _ ∧ _); (with_reducible show PySem.Str.length (_ ++ _) ≤ sizeLine ∧ wpAny _ _ (joinParts _ _) _ _ _); k_dflt (refine' And.intro ?zᵣ ?_; (case zᵣ => (refine' Nat.le_trans ?ktaᵣ ?ktbᵣ; (case ktaᵣ => kt_len); (case ktbᵣ => (rw [sizeLine_eq]; decide +kernel))))))) | ((with_reducible show wpAny _ _ (formatField _ _) _ _ _); (k_here; refine' fmt_any ?hzᵣ ?_; (case hzᵣ => first | (rw [sizeLine_eq]; (first | assumption | exact Nat.le_trans (by assumption) (by decide) | omega)) | size_fits | decide +kernel); intro _ _)) | ((k_here; k_dflt (first | ((with_reducible show wpAny _ _ (subscriptTail _ _ (Value.ref _) (Value.str _ _)) _ _ _); refine kda_item (knd := PySem.strKind _ _) (by k_asm) (by k_mem) (by k_asm) (strKind_is _ _ _ _) (by first | with_reducible assumption | assumption | rfl) ?_) | ((with_reducible show wpAny _ _ (subscriptTail _ _ (Value.ref _) (Value.int _ _)) _ _ _); refine' item_int ?Nᵣ ?mᵣ ?vᵣ ?aᵣ ?bᵣ ?zᵣ ?_; (case Nᵣ => k_asm); (case mᵣ => k_mem); (case vᵣ => assumption); (case aᵣ => first | assumption | exact Nat.le_trans (by assumption) (by decide) | omega); (case bᵣ => (simp only [decide_eq_true_eq, List.size_toArray] at *; first | assumption | exact Nat.le_trans (by assumption) (by decide) | omega)); (case zᵣ => (first | assumption | exact Nat.le_trans (by assumption) (by decide) | omega)); k_whole; intro _ _)))) | walk1 | (dsimp only; walk1))) | (leave1; walk_say "STEP leave1"; try dsimp only) | fail "no step"))
  exact hE _ _ _ (by assumption) (by assumption) (by assumption)
-- MyLw
theorem useZ {w : World} {dn : Nat} {f : Addr} {args : List Value} {led : Led} {Post : Value → Led → Prop} (H : DoesZ w dn f args led Post) {dp un : Nat} {gd : Option (List Code)} {cn : Str} {nm : List (Str × NameKind)} {ig ic : Bool} {mo : List (Str × Const)} {a : Addr} {ccd : Value} {cl : List (Str × Addr)} {outer : List Env} {A₀ : Around} {base h₀ : Heap} {L : Addr} {m : Str → Option Value} {s : Shared}
    {mean : ExcName → Option Value} {mg mb : Str → Option Value} {Q E : Value → Shared → Prop}
    (B : Below A₀ base outer h₀) (F : Fr h₀ L s.heap m) (X : (K w.params).In h₀) (N : News h₀ L s.heap led) (T : TopM mean mg mb h₀) (XB : (K w.params).In base) (TB : TopM mean mg mb base) (D : KtsDicts (frs outer) h₀) (G : AllBare s.gens) (hd : dp + dn < recursionLimit) (hu : un + 20 * dn < cLine)
    (h : ∀ r s' g' news', KtsTurn (frs outer) h₀ g' → Below A₀ base outer g' → Fr g' L s'.heap m → (K w.params).In g' → TopM mean mg mb g' → KtsDicts (frs outer) g' → News g' L s'.heap news' → s'.os = s.os → AllBare s'.gens → Post r news' → Q r s') :
    wpAny (model PySem.Challenge.rw_je0043_01.row.toRowW.1 w) (ktrTop dp un gd cn ⟨.function, nm, ig, ic, mo⟩ L a ccd cl outer) (call (.ref f) args) Q E s :=
  H dp un gd cn nm ig ic mo a ccd cl outer A₀ base h₀ L m s mean mg mb Q E B F X N T XB TB D G hd hu h
/-- all that is known of a root that the law made -/
structure RootOk (w : World) (nl : Led) (sd : Addr) (sg : Int → Option PySem.Str) (P : PySem.Str) (x l kd : Addr) (th v : Int) (ks : List Int) (kn : Int → Option Addr) : Prop where
  root : ∃ kd' rr, IsRoot w nl x kd' rr v
  list : ∃ (vs : List Value) (n : Nat), (l, listOf vs.toArray n) ∈ nl ∧ StrsAre vs (ks.map kN)
  good : Good5 ks
  keys : KeysIn w nl kd kn
  th1 : 1 ≤ th
  th2 : th ≤ 4
  v1 : 1 ≤ v
  v2 : v ≤ 4
  finds : Finds w nl x 434 441
  gvr : GvrAll w nl x sd "root" (bytesOf P) th kn (ks.filter (isS kn sg P)) (ks.filter (isU kn sg P))
  bad : CallsV w 6 nl 434 x "r"
  rvr : MethIs w nl x "get_root_verification_result" 448
theorem RootOk.mono {w : World} {nl nl' : Led} {sd : Addr} {sg : Int → Option PySem.Str} {P : PySem.Str} {x l kd : Addr} {th v : Int} {ks : List Int} {kn : Int → Option Addr} (h : RootOk w nl sd sg P x l kd th v ks kn) (hs : ∀ p ∈ nl, p ∈ nl') : RootOk w nl' sd sg P x l kd th v ks kn :=
  ⟨let ⟨a, b, c⟩ := h.root; ⟨a, b, c.mono hs⟩, let ⟨vs, n, a, b⟩ := h.list; ⟨vs, n, hs _ a, b⟩, h.good, h.keys.mono hs, h.th1, h.th2, h.v1, h.v2, h.finds.mono hs, h.gvr.mono hs, h.bad.mono hs, h.rvr.mono hs⟩
theorem root_rvr (w : World) (x kd rr : Addr) (v : Int) (news : Led) (hx : IsRoot w news x kd rr v) : MethIs w news x "get_root_verification_result" 448 := by
  obtain ⟨dx, rd, ud, r1, r2, r3, ord, n, sv, t1, t2, t3, t4, t5, t6, t7, t8, t9, t10, t11, hx1, hx2, hx3, hx4, hx5⟩ := hx
  unfold MethIs
  k_fill
  w_top off
  intro A E s pl Q h₀ L m F X N hQ
  walk1
  exact hQ
theorem rootOk_of {w : World} {fam nl : Led} {T x l kd sd : Addr} {th v : Int} {ks : List Int} {kn : Int → Option Addr} {sg : Int → Option PySem.Str} {P : PySem.Str} (h : RootIn w fam T x l kd th v ks kn) (hs : ∀ p ∈ fam, p ∈ nl) (hsg : SigsIn w nl sd sg)
    (hPa : Ascii P) (hPl : P.length ≤ 10) (hsa : ∀ k tx, sg k = some tx → Ascii tx) :
    RootOk w nl sd sg P x l kd th v ks kn ∧ ∃ (n : Nat) (t1 t2 : Tok), (T, ({ cls := .type "tuple", data := .seq #[.ref x, .ref l, .int th t1, .ref kd, .int v t2] n } : Obj)) ∈ nl := by
  obtain ⟨kd', rr, l', vs, n, n', t1, t2, hT, hR, hr, hl', hl, hvs, h5, hk, hk', a, b, c, d⟩ := h
  have hR := hR.mono hs
  have hfin := root_finds w x kd' rr v nl hR
  have hdel := root_delegates w x kd' rr l' v th nl kn hR (hr.mono hs) (hk'.mono hs)
  exact ⟨⟨⟨kd', rr, hR⟩, ⟨vs, n, hs _ hl, hvs⟩, h5, hk.mono hs, a, b, c, d, hfin, gvrAll_of hfin hdel (hk'.mono hs) (hs _ hl') hvs h5 hsg hPa hPl hsa, root_bad w x kd' rr v nl hR, root_rvr w x kd' rr v nl hR⟩, _, t1, t2, hs _ hT⟩
section
-- MyLd


local macro_rules | `(tactic| k_mem) => `(tactic| first | exact List.mem_cons_self | (refine List.mem_cons_of_mem _ ?_; k_mem) | assumption | (refine sub_mem (by assumption) ?_; k_mem) | ktr_member)
local macro_rules | `(tactic| k_all) => `(tactic| (intro p hp; (repeat (first | exact hp | refine List.mem_cons_of_mem _ ?_ | refine sub_mem (by assumption) ?_))))


theorem alone_t {w : World} {dp un : Nat} {gd : Option (List Code)} {outer : List Env} {base g : Heap} {L c d rw x1 l1 kd1 sd : Addr} {s : Shared} {mean : ExcName → Option Value} {mg mb mr : Str → Option Value}
   {o oc op o4 o6 : Obj} {nl : Led} {th1 v1 : Int} {ks1 : List Int} {kn1 : Int → Option Addr} {sg : Int → Option PySem.Str} {P : PySem.Str} {t3 t4 : Tok} {Q : Flow → Shared → Prop}
   (B : Below (cTop0 dp un gd outer) base outer g) (F : Fr g L s.heap mr) (X : (K w.params).In g) (N : News g L s.heap ((c, oc) :: (d, o) :: (177, op) :: (465, o4) :: (600, o6) :: nl)) (T : TopM mean mg mb g) (XB : (K w.params).In base) (TB : TopM mean mg mb base) (D : KtsDicts (frs outer) g) (hG : AllBare s.gens) (hdp : dp + 60 < recursionLimit) (hun : un + 20 * 60 < cLine)
   (hc : oc.data = .cell (some (.ref d)))
   (hr1 : mr (Str.ofString "one") = some (.ref x1)) (hr2 : mr (Str.ofString "role") = some (.ref l1)) (hr3 : mr (Str.ofString "threshold") = some (.int th1 t3)) (hr4 : mr (Str.ofString "keys") = some (.ref kd1)) (hr5 : mr (Str.ofString "payload") = some (.bytes (bytesOf P) t4)) (hr6 : mr (Str.ofString "signatures") = some (.ref sd))
   (hO : RootOk w nl sd sg P x1 l1 kd1 th1 v1 ks1 kn1)
   (W : WD w o rw) (R : RowIn nl rw) (hop : PlaceOk op) (ho4 : PlaceOk o4) (ho6 : PlaceOk o6) (hsep : ∀ p ∈ nl, p.1 ≠ d) (h177 : ∀ p ∈ nl, p.1 ≠ 177) (h465 : ∀ p ∈ nl, p.1 ≠ 465) (h600 : ∀ p ∈ nl, p.1 ≠ 600) (hd177 : (@Ne Nat 177 d)) (hd465 : (@Ne Nat 465 d)) (hd600 : (@Ne Nat 600 d))
   (hs : SigsIn w nl sd sg) (hPa : Ascii P) (hP : DecOk (bytesOf P) P) (hPl : P.length ≤ 10) (hsa : ∀ k tx, sg k = some tx → Ascii tx)
   (hQ : ∀ s', s'.os = s.os → AllBare s'.gens → (∀ g' m' led', KtsTurn (frs outer) g g' → Fr g' L s'.heap m' → News g' L s'.heap led' → Tabs3 led' → Q (.ret (.bool true)) s')) :
   wpAny (model PySem.Challenge.rw_je0043_01.row.toRowW.1 w) ((cTop0 dp un gd outer).deeper (envX "law" ⟨.function, (("script", .local) :: ("w", .cell) :: ("payload", .local) :: ("signatures", .local) :: ("one", .local) :: ("role", .local) :: ("threshold", .local) :: ("keys", .local) :: ("version", .local) :: ("other", .local) :: ("role2", .local) :: ("threshold2", .local) :: ("keys2", .local) :: ("version2", .local) :: ("root", .local) :: ("names", .local) :: ("least", .local) :: ("known", .local) :: ("due", .local) :: ("told", .local) :: ("first", .local) :: ("second", .local) :: ("alone", .local) :: ("_law_draws", .globalImplicit) :: ("range", .globalImplicit) :: ("_law_next", .globalImplicit) :: ("_law_signatures", .globalImplicit) :: ("_law_root", .globalImplicit) :: ("_law_is", .globalImplicit) :: ("len", .globalImplicit) :: ("_law_due", .globalImplicit) :: ("_law_raised", .globalImplicit) :: ("sorted", .globalImplicit) :: ("set", .globalImplicit) :: ("ValueError", .globalImplicit) :: ("_law_targets", .globalImplicit) :: []), false, false, (("fast", .str "script") :: ("fast", .str "w") :: ("fast", .str "k") :: ("fast", .str "payload") :: ("fast", .str "signatures") :: ("fast", .str "one") :: ("fast", .str "role") :: ("fast", .str "threshold") :: ("fast", .str "keys") :: ("fast", .str "version") :: ("fast", .str "other") :: ("fast", .str "role2") :: ("fast", .str "threshold2") :: ("fast", .str "keys2") :: ("fast", .str "version2") :: ("fast", .str "root") :: ("fast", .str "names") :: ("fast", .str "least") :: ("fast", .str "known") :: ("fast", .str "due") :: ("fast", .str "told") :: ("fast", .str "first") :: ("fast", .str "second") :: ("fast", .str "alone") :: [])⟩ L 793 (.ref 792) [("w", c)])) (execs ((topB 33).drop 7) (envX "law" ⟨.function, (("script", .local) :: ("w", .cell) :: ("payload", .local) :: ("signatures", .local) :: ("one", .local) :: ("role", .local) :: ("threshold", .local) :: ("keys", .local) :: ("version", .local) :: ("other", .local) :: ("role2", .local) :: ("threshold2", .local) :: ("keys2", .local) :: ("version2", .local) :: ("root", .local) :: ("names", .local) :: ("least", .local) :: ("known", .local) :: ("due", .local) :: ("told", .local) :: ("first", .local) :: ("second", .local) :: ("alone", .local) :: ("_law_draws", .globalImplicit) :: ("range", .globalImplicit) :: ("_law_next", .globalImplicit) :: ("_law_signatures", .globalImplicit) :: ("_law_root", .globalImplicit) :: ("_law_is", .globalImplicit) :: ("len", .globalImplicit) :: ("_law_due", .globalImplicit) :: ("_law_raised", .globalImplicit) :: ("sorted", .globalImplicit) :: ("set", .globalImplicit) :: ("ValueError", .globalImplicit) :: ("_law_targets", .globalImplicit) :: []), false, false, (("fast", .str "script") :: ("fast", .str "w") :: ("fast", .str "k") :: ("fast", .str "payload") :: ("fast", .str "signatures") :: ("fast", .str "one") :: ("fast", .str "role") :: ("fast", .str "threshold") :: ("fast", .str "keys") :: ("fast", .str "version") :: ("fast", .str "other") :: ("fast", .str "role2") :: ("fast", .str "threshold2") :: ("fast", .str "keys2") :: ("fast", .str "version2") :: ("fast", .str "root") :: ("fast", .str "names") :: ("fast", .str "least") :: ("fast", .str "known") :: ("fast", .str "due") :: ("fast", .str "told") :: ("fast", .str "first") :: ("fast", .str "second") :: ("fast", .str "alone") :: [])⟩ L 793 (.ref 792) [("w", c)])) Q (fun _ _ => False) s := by
  revert X
  k_fill
  w_top off
  intro X
  have T0 : KtsTurn (frs outer) g g := KtsTurn.refl
  have Tz := T
  have hM := hO.rvr
  have hgv := hO.gvr
  have hth1 := hO.th1
  have hth2 := hO.th2
  have hk8 := hO.keys
  have h5 := hO.good
  obtain ⟨vs, nn, hl, hvs⟩ := hO.list
  obtain ⟨kd', rr, hroot⟩ := hO.root
  have hfl := filter_len5 (f := isS kn1 sg P) h5
  with_unfolding_all show wpAny _ _ (execs (_ :: _) _) _ _ _
  refine letAV ?_
  intro Vᵣ Aᵣ
  (repeat' (first | (k_unfold; (try dsimp only)) | ((try (with_reducible (show wpAny _ _ (exec _ _) _ _ _); k_fold)); (first | ((with_reducible refine tok_gen3 ?_); intro _) | ((with_reducible show wpAny _ _ (subscriptTail _ _ (Value.ref _) (Value.int _ _)) _ _ _); (k_here; k_dflt (refine' item_tupleT ?tᵣ ?aᵣ ?bᵣ ?cᵣ ?dᵣ ?_; (case tᵣ => exact News.isTup (by k_asm) List.mem_cons_self); (case aᵣ => decide); (case bᵣ => decide); (case cᵣ => rfl); (case dᵣ => rfl); k_whole))) | ((k_here; (with_reducible show wpAny _ _ (call (Value.ref 788) _) _ _ _); refine marked3 ?_)) | ((k_here; (with_reducible show wpAny _ _ (getAttr (Value.ref _) (Str.ofString "verified") _) _ _ _); k_dflt (refine' get_prop ?k1ᵣ ?k2ᵣ ?k3ᵣ ?k4ᵣ ?k5ᵣ ?k6ᵣ ?k7ᵣ ?k8ᵣ ?k9ᵣ ?_; (case k1ᵣ => k_asm); (case k2ᵣ => k_asm); (case k3ᵣ => k_inst); (case k4ᵣ => k_is); (case k5ᵣ => k_is); (case k6ᵣ => k_is); (case k7ᵣ => k_is); (case k8ᵣ => k_is); (case k9ᵣ => k_is); k_whole); k_dflt (refine' useCA (rverified_t _ _ _ _ _ _ _ _ _ _ _ _ _ ⟨_, _, _, _, ?m1ᵣ, ?m2ᵣ⟩ (IsVR.mono ?v1ᵣ ?a1ᵣ) (IsVR.mono ?v2ᵣ ?a2ᵣ) ?z1ᵣ ?z2ᵣ) ?Bᵣ ?Fᵣ ?Xᵣ ?Nᵣ ?Tᵣ ?dᵣ ?uᵣ ?_; (case Bᵣ => k_asm); (case Fᵣ => k_asm); (case Xᵣ => k_asm); (case Nᵣ => k_asm); (case Tᵣ => k_asm); (case m1ᵣ => k_mem); (case m2ᵣ => k_mem); (case v1ᵣ => assumption); (case v2ᵣ => assumption); (case a1ᵣ => k_all); (case a2ᵣ => k_all); (case z1ᵣ => assumption); (case z2ᵣ => assumption); (case dᵣ => ktr_room); (case uᵣ => ((try simp only [units_deeper, units_under_make]); ktr_units)); k_whole; rintro _ h'ᵣ tk'ᵣ led8ᵣ F'ᵣ N'ᵣ ⟨e19ᵣ, e29ᵣ⟩; subst e19ᵣ; rw [e29ᵣ] at N'ᵣ; clear e29ᵣ; (refine handed_on rfl ?_); (try dsimp only)))) | ((with_reducible show wpAny _ _ (eval (Expr.Name _ _) _) _ _ _); (k_here; k_dflt (refine' nameX_L ?Fᵣ ?vᵣ ?_ ?aᵣ ?bᵣ; (case Fᵣ => k_asm); (case aᵣ => rfl); (case bᵣ => rfl); (case vᵣ => first | rfl | assumption); k_whole))) | ((k_here; (with_reducible show wpAny _ _ (call (Value.ref 448) [_, Value.none, _, _]) _ _ _); k_dflt (refine' useT (grvr0_t _ _ _ _ _ _ _ _ _ _ _ _ _ (IsRoot.mono (by assumption) ?h1ᵣ) (GvrAll.mono (by assumption) ?h2ᵣ)) ?Bᵣ ?Fᵣ ?Xᵣ ?Nᵣ ?Tᵣ ?XBᵣ ?TBᵣ ?Dᵣ ?dᵣ ?uᵣ ?_; (case Bᵣ => k_asm); (case Fᵣ => k_asm); (case Xᵣ => k_asm); (case Nᵣ => k_asm); (case Tᵣ => k_asm); (case XBᵣ => k_asm); (case TBᵣ => k_asm); (case Dᵣ => k_asm); (case h1ᵣ => k_all); (case h2ᵣ => k_all); (case dᵣ => ktr_room); (case uᵣ => ((try simp only [units_deeper, units_under_make]); ktr_units)); k_whole; rintro _ h'ᵣ g'ᵣ tk'ᵣ led9ᵣ t'ᵣ b'ᵣ F'ᵣ x'ᵣ p'ᵣ d'ᵣ N'ᵣ ⟨R9ᵣ, a9ᵣ, b9ᵣ, e1ᵣ, hsub9ᵣ, ⟨dx9ᵣ, n9ᵣ, t19ᵣ, t29ᵣ, hx19ᵣ, hx29ᵣ⟩, hva9ᵣ, hvb9ᵣ⟩; subst e1ᵣ; (try dsimp only)))) | ((with_reducible show wpAny _ _ (getMethod (Value.ref _) _ _) _ _ _); (k_here; k_dflt (refine' MethIs.use (by assumption) ?Fᵣ ?Xᵣ ?Nᵣ ?sᵣ ?_; (case Fᵣ => k_asm); (case Xᵣ => k_asm); (case Nᵣ => k_asm); (case sᵣ => k_all); k_whole))) | ((with_reducible show wpAny _ _ (call (Value.builtin "len") _) _ _ _); (k_here; k_dflt (refine' len_strs_led ?Nᵣ ?mᵣ ?dᵣ ?zᵣ ?_; (case Nᵣ => k_asm); (case mᵣ => k_mem); (case dᵣ => assumption); (case zᵣ => (first | assumption | exact Nat.le_trans (by assumption) (by decide) | omega))))) | ((k_here; (with_reducible show wpAny _ _ (call (Value.ref 764) _) _ _ _); k_dflt (refine' useP (due_t _ _ _ _ _ _ _ _ _ _ _ _ _ ?h1ᵣ ?h2ᵣ ?h3ᵣ ?h4ᵣ ?h5ᵣ ?h6ᵣ ?h7ᵣ) ?Bᵣ ?Fᵣ ?Xᵣ ?Nᵣ ?Tᵣ ?dᵣ ?uᵣ ?_; (case Bᵣ => k_asm); (case Fᵣ => k_asm); (case Xᵣ => k_asm); (case Nᵣ => k_asm); (case Tᵣ => k_asm); (case h1ᵣ => k_mem); (case h2ᵣ => assumption); (case h3ᵣ => assumption); (case h4ᵣ => (refine KeysIn.mono (by assumption) ?_; k_all)); (case h5ᵣ => (refine SigsIn.mono (by assumption) ?_; k_all)); (case h6ᵣ => assumption); (case h7ᵣ => assumption); (case dᵣ => ktr_room); (case uᵣ => ((try simp only [units_deeper, units_under_make]); ktr_units)); k_whole; rintro _ h'ᵣ tk'ᵣ _ F'ᵣ N'ᵣ ⟨T9ᵣ, S9ᵣ, U9ᵣ, ys9ᵣ, zs9ᵣ, n19ᵣ, n29ᵣ, n39ᵣ, e19ᵣ, e29ᵣ, hs9ᵣ, hu9ᵣ⟩; subst e19ᵣ; subst e29ᵣ; (try dsimp only)))) | walk1 | (dsimp only; walk1))) | (leave1; walk_say "STEP leave1"; try dsimp only) | fail "no step"))
  · exfalso
    rename ((_ && _) != _) = true => e
    simp at e
  · unfold Marked3
    refine' useZ (targets_t w d rw sd o op o4 o6 sg P _ nl W R hsep hop ho4 ho6 h177 h465 h600 hd177 hd465 hd600 hs hPa hP hPl hsa) ?zB ?zF ?zX (newsSub ?zN ?zt) ?zT XB TB ?zD ?zG ?zd ?zu ?_
    case zB => k_asm
    case zF => k_asm
    case zX => k_asm
    case zN => k_asm
    case zT => k_asm
    case zD => k_asm
    case zG => k_asm
    case zd => ktr_room
    case zu => ((try simp only [units_deeper, units_under_make]); ktr_units)
    case zt =>
      rename ∀ p ∈ _ :: _ :: _ :: _ :: _ :: nl, p ∈ _ => hsub
      intro p hp
      repeat refine List.mem_cons_of_mem _ ?_
      exact hsub p (List.mem_cons_of_mem _ hp)
    k_whole
    rintro _ s2 g2 led2 t2 B2 F2 X2 T2 D2 N2 os2 bare2 ⟨rfl, tab2⟩
    try dsimp only
    (repeat' (first | (k_unfold; (try dsimp only)) | ((try (with_reducible (show wpAny _ _ (exec _ _) _ _ _); k_fold)); (first | ((with_reducible refine tok_gen3 ?_); intro _) | walk1 | (dsimp only; walk1))) | (leave1; walk_say "STEP leave1"; try dsimp only) | fail "no step"))
    exact hQ _ os2 bare2 _ _ _ (KtsTurn.trans (by assumption) t2) F2 N2 tab2
-- MyLx
section
variable {prog : Program} {w : World} {A₀ : Around} {E : Value → Shared → Prop} {s' : Shared} {base g g₀ G : Heap} {outer : List Env} {L a e : Addr} {m : Str → Option Value} {name : Str} {scope : Scope} {cd : Value} {cl : List (Str × Addr)}
  {b₀ : Stmt} {suite : List Stmt} {pos np : Pos} {rest : List ExceptHandler} {Q : Flow → Shared → Prop} {news : Led} {KF : Frag}
  {p : Program} {loose : List Str} {mean : ExcName → Option Value} {mg mb : Str → Option Value} {x : Str} {X T' : String}
/-- `except X:` in a frame with cells catches what a callee has raised -/
theorem caughtX (R : RaisedSN base G (envX name scope L a cd cl :: outer) e (.type X) news s'.heap) (F : Fr g L G m) (K : Below A₀ base outer g) (hsm : G.UpToSlots s'.heap) (XB : KF.In base) (TB : Top p loose mean mg mb base)
    (D : KtsDicts (frs outer) g) (T0 : KtsTurn (frs outer) g₀ g)
    (ex : nsIn KF mainGlobals x = some none) (hv : bootBuiltins x = some (.type T')) (hn' : x ≠ "__name__")
    (hexc : isSubtype (.type T') (.type "BaseException") = pure true) (hnt : isSubtype (.type ((Manifest.find? T').elim "type" fun y => y.metatype)) (.type "tuple") = pure false) (hsub : isSubtype (.type X) (.type T') = pure true)
    (k : ∀ h' g', KtsTurn (frs outer) g₀ g' → Fr g' L h' m → News g' L h' news → Below A₀ base outer g' → KF.In g' → Top p loose mean mg mb g' → KtsDicts (frs outer) g' →
      wpAny (model prog w) ((A₀.deeper (envX name scope L a cd cl)).mark (some (.ref e))) (execs (b₀ :: suite) (envX name scope L a cd cl)) Q E { s' with heap := h' })
    (hk : scope.kind = .function := by rfl) (hx : (envX name scope L a cd cl).kindOf x = some .globalImplicit := by rfl) (hd : (x == ("__debug__" : Str)) = false := by decide)
    (hE : PassesOwnAt (model prog w) ((A₀.deeper (envX name scope L a cd cl)).mark (some (.ref e))) (A₀.deeper (envX name scope L a cd cl)) (envX name scope L a cd cl) E := by passes_own) :
    wpAny (model prog w) (A₀.deeper (envX name scope L a cd cl)) (noteFrame (.ref e) (envX name scope L a cd cl))
      (fun _ s₂ => wpAny (model prog w) (A₀.deeper (envX name scope L a cd cl)) (setFlight (.ref e) none) (fun _ s₃ =>
        wpAny (model prog w) (A₀.deeper (envX name scope L a cd cl)) (handleBy (.ref e) (envX name scope L a cd cl) (.ExceptHandler (some (.Name x np)) none (b₀ :: suite) pos :: rest)) Q E s₃) E s₂) E s' := by
  obtain ⟨B, a0, hB, hBG, hl, hfl⟩ := R
  have hL : B.get? L = none := by
    obtain ⟨_, ⟨L', _, hf, hn', _⟩, _⟩ := hfl.2.2.1
    obtain rfl : L = L' := Option.some.inj hf
    exact hn'
  refine wpAny_looks_onW (Around.frames_deeper K.stack) rfl hfl fun h₄ hheld₄ u₄ => ?_
  refine wpAny_landsW hheld₄ fun h₅ hheld u₅ => ?_
  have u := hsm.trans (u₄.trans u₅)
  obtain ⟨g₅, T₅, F₅, K₅⟩ := kts_ground (name := name) (scope := scope) (a := a) (cd := cd) K F hBG hheld.1 u
  obtain ⟨ob, hob, hobc⟩ := hheld.there
  refine wpAny_handleBy_builtin (X := X) (T := T') (b := true) hexc hnt hsub (nameX_B F₅ (XB.keeps K₅.stays) (topRead_of (TB.keeps K₅.stays)) ex hv hn' ⟨rfl, ⟨ob, hob, hobc⟩, ?_⟩ hk hx hd)
  refine lands_againW hheld fun h₆ hfl₆ u₆ => ?_
  obtain ⟨g₆, T₆, F₆, K₆⟩ := kts_ground (name := name) (scope := scope) (a := a) (cd := cd) K F hBG hfl₆.1 (u.trans u₆)
  exact wpAny_passesOwnAt hE (k h₆ g₆ (T0.trans T₆) F₆ (fun q hq => ⟨hfl₆.1 _ _ (hl q hq).1, (fun z => by have := (hl q hq).1; rw [z, hL] at this; cases this), T₆.none_ _ (kts_none F.keep (hl q hq).2.1)⟩)
    K₆ (XB.keeps K₆.stays) (TB.keeps K₆.stays) (D.turn T₆))
end
section
variable {prog : Program} {w : World} {A : Around} {E : Value → Shared → Prop} {s : Shared} {h₀ : Heap} {L a b : Addr} {m : Str → Option Value} {news : Led} {vs ws : List Value} {xs ys : List PySem.Str} {n k : Nat} {Q : Value → Shared → Prop}
theorem add_strs (F : Fr h₀ L s.heap m) (N : News h₀ L s.heap news) (ha : (a, listOf vs.toArray n) ∈ news) (hb : (b, listOf ws.toArray k) ∈ news) (hi : StrsAre vs xs) (hj : StrsAre ws ys) (hz : xs.length + ys.length ≤ 100)
    (h : ∀ D us h', Fr h₀ L h' m → News h₀ L h' ((D, listOf (List.toArray us) 0) :: news) → (∀ p ∈ news, p.1 < D) → StrsAre us (xs ++ ys) → Q (.ref D) { s with heap := h' }) :
    wpAny (model prog w) A (binaryOp .Add (.ref a) (.ref b)) Q E s := by
  have e1 := hi.length
  have e2 := hj.length
  refine kmk_add_lit F N ⟨_, (N _ ha).1, rfl, n, rfl⟩ ⟨_, (N _ hb).1, rfl, k, rfl⟩ rfl (fun D h' F' N' l => ?_) (by show vs.length + ws.length ≤ _; rw [sizeLine_eq]; omega)
  exact h D (vs ++ ws) h' F' N' l (StrsAre.append' hi hj)
end
-- MyLc




theorem oks_dd {ks1 ks2 : List Int} (f f2 : Int → Bool) (h5 : Good5 ks1) (h52 : Good5 ks2) : Oks (dd ((ks1.filter f).map kN ++ (ks2.filter f2).map kN)) := by
  intro x hx
  rw [dd_mem] at hx
  rcases List.mem_append.mp hx with h | h
  · exact oks_names (filter_bound h5) x h
  · exact oks_names (filter_bound h52) x h
theorem filter_dd {ks : List Int} {f : Int → Bool} (h5 : Good5 ks) : dd ((ks.filter f).map kN) = (ks.filter f).map kN :=
  dd_id (List.Nodup.sublist (List.Sublist.map kN List.filter_sublist) (names_dd h5 ▸ dd_nodup (ks.map kN)))
theorem cutStmt {prog : Program} {w : World} {A : Around} {E : Value → Shared → Prop} {s : Shared} {env : Env} {st : Stmt} {rest : List Stmt} {Q : Flow → Shared → Prop} {g : Heap} {L : Addr} {m : Str → Option Value} {led : Led} (F : Fr g L s.heap m) (N : News g L s.heap led)
    (h1 : wpAny (model prog w) A (exec st env) (fun f s' => f = .next ∧ ∃ h' tk, s' = { s with heap := h', toks := tk } ∧ Fr g L h' m ∧ News g L h' led) E s)
    (h2 : ∀ h' tk, Fr g L h' m → News g L h' led → wpAny (model prog w) A (execs rest env) Q E { s with heap := h', toks := tk }) : wpAny (model prog w) A (execs (st :: rest) env) Q E s := by
  refine wpAny_execs_cons (wpAny_mono h1 ?_ fun _ _ e => e)
  rintro f s' ⟨rfl, h', tk, rfl, F', N'⟩
  exact h2 h' tk F' N'
theorem and_ne1 {x y : Prop} [Decidable x] [Decidable y] (h : x) (e : ((decide x && decide y) != decide y) = true) : False := by simp [h] at e
theorem and_ne2 {x y : Prop} [Decidable x] [Decidable y] (h : ¬x) (e : ((decide x && decide y) != decide x) = true) : False := by simp [h] at e
theorem try_t {w : World} {dp un : Nat} {gd : Option (List Code)} {outer : List Env} {base g : Heap} {L c d rw x1 l1 kd1 x2 l2 kd2 sd : Addr} {s : Shared} {mean : ExcName → Option Value} {mg mb mr : Str → Option Value}
   {o oc op o4 o6 : Obj} {nl : Led} {th1 v1 th2 v2 : Int} {ks1 ks2 : List Int} {kn1 kn2 : Int → Option Addr} {sg : Int → Option PySem.Str} {P : PySem.Str} {t3 t4 t5 t6 t7 : Tok} {Q : Flow → Shared → Prop}
   (B : Below (cTop0 dp un gd outer) base outer g) (F : Fr g L s.heap mr) (X : (K w.params).In g) (N : News g L s.heap ((c, oc) :: (d, o) :: (177, op) :: (465, o4) :: (600, o6) :: nl)) (T : TopM mean mg mb g) (XB : (K w.params).In base) (TB : TopM mean mg mb base) (D : KtsDicts (frs outer) g) (hG : AllBare s.gens) (hdp : dp + 60 < recursionLimit) (hun : un + 20 * 60 < cLine)
   (hc : oc.data = .cell (some (.ref d)))
   (hr1 : mr (Str.ofString "one") = some (.ref x1)) (hr2 : mr (Str.ofString "role") = some (.ref l1)) (hr3 : mr (Str.ofString "threshold") = some (.int th1 t3)) (hr4 : mr (Str.ofString "keys") = some (.ref kd1)) (hr5 : mr (Str.ofString "payload") = some (.bytes (bytesOf P) t4)) (hr6 : mr (Str.ofString "signatures") = some (.ref sd))
   (hr7 : mr (Str.ofString "other") = some (.ref x2)) (hr8 : mr (Str.ofString "role2") = some (.ref l2)) (hr9 : mr (Str.ofString "threshold2") = some (.int th2 t5)) (hra : mr (Str.ofString "keys2") = some (.ref kd2)) (hrb : mr (Str.ofString "version") = some (.int v1 t6)) (hrc : mr (Str.ofString "version2") = some (.int v2 t7))
   (hO : RootOk w nl sd sg P x1 l1 kd1 th1 v1 ks1 kn1) (hO2 : RootOk w nl sd sg P x2 l2 kd2 th2 v2 ks2 kn2) (hx12 : (@Ne Nat x1 x2))
   (W : WD w o rw) (R : RowIn nl rw) (hop : PlaceOk op) (ho4 : PlaceOk o4) (ho6 : PlaceOk o6) (hsep : ∀ p ∈ nl, p.1 ≠ d) (h177 : ∀ p ∈ nl, p.1 ≠ 177) (h465 : ∀ p ∈ nl, p.1 ≠ 465) (h600 : ∀ p ∈ nl, p.1 ≠ 600) (hd177 : (@Ne Nat 177 d)) (hd465 : (@Ne Nat 465 d)) (hd600 : (@Ne Nat 600 d))
   (hs : SigsIn w nl sd sg) (hPa : Ascii P) (hP : DecOk (bytesOf P) P) (hPl : P.length ≤ 10) (hsa : ∀ k tx, sg k = some tx → Ascii tx)
   (hQ : ∀ s', s'.os = s.os → AllBare s'.gens → (∀ g' m' led', KtsTurn (frs outer) g g' → Fr g' L s'.heap m' → News g' L s'.heap led' → Tabs3 led' → Q (.ret (.bool true)) s')) :
   wpAny (model PySem.Challenge.rw_je0043_01.row.toRowW.1 w) ((cTop0 dp un gd outer).deeper (envX "law" ⟨.function, (("script", .local) :: ("w", .cell) :: ("payload", .local) :: ("signatures", .local) :: ("one", .local) :: ("role", .local) :: ("threshold", .local) :: ("keys", .local) :: ("version", .local) :: ("other", .local) :: ("role2", .local) :: ("threshold2", .local) :: ("keys2", .local) :: ("version2", .local) :: ("root", .local) :: ("names", .local) :: ("least", .local) :: ("known", .local) :: ("due", .local) :: ("told", .local) :: ("first", .local) :: ("second", .local) :: ("alone", .local) :: ("_law_draws", .globalImplicit) :: ("range", .globalImplicit) :: ("_law_next", .globalImplicit) :: ("_law_signatures", .globalImplicit) :: ("_law_root", .globalImplicit) :: ("_law_is", .globalImplicit) :: ("len", .globalImplicit) :: ("_law_due", .globalImplicit) :: ("_law_raised", .globalImplicit) :: ("sorted", .globalImplicit) :: ("set", .globalImplicit) :: ("ValueError", .globalImplicit) :: ("_law_targets", .globalImplicit) :: []), false, false, (("fast", .str "script") :: ("fast", .str "w") :: ("fast", .str "k") :: ("fast", .str "payload") :: ("fast", .str "signatures") :: ("fast", .str "one") :: ("fast", .str "role") :: ("fast", .str "threshold") :: ("fast", .str "keys") :: ("fast", .str "version") :: ("fast", .str "other") :: ("fast", .str "role2") :: ("fast", .str "threshold2") :: ("fast", .str "keys2") :: ("fast", .str "version2") :: ("fast", .str "root") :: ("fast", .str "names") :: ("fast", .str "least") :: ("fast", .str "known") :: ("fast", .str "due") :: ("fast", .str "told") :: ("fast", .str "first") :: ("fast", .str "second") :: ("fast", .str "alone") :: [])⟩ L 793 (.ref 792) [("w", c)])) (execs ((topB 33).drop 6) (envX "law" ⟨.function, (("script", .local) :: ("w", .cell) :: ("payload", .local) :: ("signatures", .local) :: ("one", .local) :: ("role", .local) :: ("threshold", .local) :: ("keys", .local) :: ("version", .local) :: ("other", .local) :: ("role2", .local) :: ("threshold2", .local) :: ("keys2", .local) :: ("version2", .local) :: ("root", .local) :: ("names", .local) :: ("least", .local) :: ("known", .local) :: ("due", .local) :: ("told", .local) :: ("first", .local) :: ("second", .local) :: ("alone", .local) :: ("_law_draws", .globalImplicit) :: ("range", .globalImplicit) :: ("_law_next", .globalImplicit) :: ("_law_signatures", .globalImplicit) :: ("_law_root", .globalImplicit) :: ("_law_is", .globalImplicit) :: ("len", .globalImplicit) :: ("_law_due", .globalImplicit) :: ("_law_raised", .globalImplicit) :: ("sorted", .globalImplicit) :: ("set", .globalImplicit) :: ("ValueError", .globalImplicit) :: ("_law_targets", .globalImplicit) :: []), false, false, (("fast", .str "script") :: ("fast", .str "w") :: ("fast", .str "k") :: ("fast", .str "payload") :: ("fast", .str "signatures") :: ("fast", .str "one") :: ("fast", .str "role") :: ("fast", .str "threshold") :: ("fast", .str "keys") :: ("fast", .str "version") :: ("fast", .str "other") :: ("fast", .str "role2") :: ("fast", .str "threshold2") :: ("fast", .str "keys2") :: ("fast", .str "version2") :: ("fast", .str "root") :: ("fast", .str "names") :: ("fast", .str "least") :: ("fast", .str "known") :: ("fast", .str "due") :: ("fast", .str "told") :: ("fast", .str "first") :: ("fast", .str "second") :: ("fast", .str "alone") :: [])⟩ L 793 (.ref 792) [("w", c)])) Q (fun _ _ => False) s := by
  revert X
  k_fill
  w_top off
  intro X
  have T0 : KtsTurn (frs outer) g g := KtsTurn.refl
  have Tz := T
  have hM := hO2.rvr
  have hw1 := hO.v1
  have hw2 := hO.v2
  have hw3 := hO2.v1
  have hw4 := hO2.v2
  obtain ⟨kd', rr, hroot⟩ := hO.root
  obtain ⟨kd2', rr2, hroot2⟩ := hO2.root
  by_cases hv : v2 = v1 + 1
  · have hgv := hO.gvr
    have hgv2 := hO2.gvr
    have hth1 := hO.th1
    have hth2 := hO.th2
    have hth3 := hO2.th1
    have hth4 := hO2.th2
    have hk8 := hO.keys
    have hk9 := hO2.keys
    have h5 := hO.good
    have h52 := hO2.good
    obtain ⟨vs, nn, hl, hvs⟩ := hO.list
    obtain ⟨vs2, nn2, hl2, hvs2⟩ := hO2.list
    have hfl := filter_len5 (f := isS kn1 sg P) h5
    have hfl2 := filter_len5 (f := isS kn2 sg P) h52
    have hfu := filter_len5 (f := isU kn1 sg P) h5
    have hfu2 := filter_len5 (f := isU kn2 sg P) h52
    have hns := filter_dd (f := isS kn1 sg P) h5
    have hnu := filter_dd (f := isU kn1 sg P) h5
    with_unfolding_all show wpAny _ _ (execs (_ :: _) _) _ _ _
    refine letAV ?_
    intro Vᵣ Aᵣ
    (repeat' (first | (k_unfold; (try dsimp only)) | ((try k_fold); (first | ((with_reducible refine tok_gen3 ?_); intro _) | ((with_reducible show wpAny _ _ (exec (Stmt.Try _ _ _ _ _) _) _ _ _); (k_here; refine wpAny_Try_except ?_)) | ((with_reducible show wpAny _ _ (subscriptTail _ _ (Value.ref _) (Value.int _ _)) _ _ _); (k_here; k_dflt (refine' item_tupleT ?tᵣ ?aᵣ ?bᵣ ?cᵣ ?dᵣ ?_; (case tᵣ => exact News.isTup (by k_asm) (by k_mem)); (case aᵣ => decide); (case bᵣ => decide); (case cᵣ => rfl); (case dᵣ => rfl); k_whole))) | ((k_here; (with_reducible show wpAny _ _ (compareOp CmpOp.NotEq (Value.ref _) (Value.ref _)) _ _ _); k_dflt (refine' ne_sorted_led ?nsNᵣ ?nsaᵣ ?nsbᵣ ?nshxᵣ ?nshyᵣ ?nspxᵣ ?nspyᵣ ?nssxᵣ ?nssyᵣ (List.Perm.refl _) ?nsoᵣ ?nsuᵣ ?_; (case nsNᵣ => k_asm); (case nsaᵣ => k_mem); (case nsbᵣ => k_mem); (case nshxᵣ => assumption); (case nshyᵣ => assumption); (case nspxᵣ => assumption); (case nspyᵣ => assumption); (case nssxᵣ => assumption); (case nssyᵣ => assumption); (case nsoᵣ => exact oks_dd _ _ (by assumption) (by assumption)); (case nsuᵣ => ((try simp only [units_deeper, units_under_make]); ktr_units))))) | ((with_reducible show wpAny _ _ (binaryOp Operator.Add (Value.ref _) (Value.ref _)) _ _ _); (k_here; k_dflt (refine' add_strs ?Fᵣ ?Nᵣ ?aᵣ ?bᵣ ?iᵣ ?jᵣ ?zᵣ ?_; (case Fᵣ => k_asm); (case Nᵣ => k_asm); (case aᵣ => k_mem); (case bᵣ => k_mem); (case iᵣ => assumption); (case jᵣ => assumption); (case zᵣ => (simp only [List.length_map]; (first | assumption | exact Nat.le_trans (by assumption) (by decide) | omega)))); intro D'ᵣ us'ᵣ h'ᵣ F'ᵣ N'ᵣ l1'ᵣ a1'ᵣ; (try k_lt l1'ᵣ))) | ((k_here; (with_reducible show wpAny _ _ (execs (Stmt.If (Expr.Compare (Expr.Attribute _ _ _) _ _ _) _ _ _ :: _) _) _ _ _); k_dflt (refine' cutStmt ?cFᵣ ?cNᵣ ?_ (fun h7 tk7 F7 N7 => ?_); (case cFᵣ => k_asm); (case cNᵣ => k_asm)))) | ((k_here; (with_reducible show wpAny _ _ (execs (Stmt.Assign [Expr.Name (Str.ofString "alone") _] _ _ :: _) _) _ _ _); refine marked3 ?_)) | ((with_reducible show wpAny _ _ (call (Value.type "set") _) _ _ _); (k_here; k_dflt (refine' call_set_ledL ?hhᵣ ?Fᵣ ?Nᵣ ?hmᵣ ?hvᵣ ?zᵣ ?_; (case hhᵣ => rfl); (case Fᵣ => k_asm); (case Nᵣ => k_asm); (case hmᵣ => k_mem); (case hvᵣ => assumption); (case zᵣ => (simp only [List.length_append, List.length_map]; (first | assumption | exact Nat.le_trans (by assumption) (by decide) | omega)))); intro D'ᵣ h'ᵣ o'ᵣ tk'ᵣ F'ᵣ N'ᵣ hd'ᵣ l1'ᵣ; (try k_lt l1'ᵣ))) | ((with_reducible show wpAny _ _ (call (Value.builtin "sorted") _) _ _ _); (k_here; k_dflt (refine' sorted_set_led ?hhᵣ ?Fᵣ ?Nᵣ ?mᵣ ?dᵣ ?zᵣ ?_; (case hhᵣ => rfl); (case Fᵣ => k_asm); (case Nᵣ => k_asm); (case mᵣ => k_mem); (case dᵣ => assumption); (case zᵣ => (refine Nat.le_trans (dd_len _) ?_; simp only [List.length_append, List.length_map]; (first | assumption | exact Nat.le_trans (by assumption) (by decide) | omega)))); intro D'ᵣ h'ᵣ tk'ᵣ dr'ᵣ vs'ᵣ xs'ᵣ n'ᵣ F'ᵣ N'ᵣ l1'ᵣ a1'ᵣ a2'ᵣ a3'ᵣ; (try k_lt l1'ᵣ))) | ((with_reducible show wpAny _ _ (call (Value.builtin "sorted") _) _ _ _); (k_here; k_dflt (refine' sorted_dict_led ?hhᵣ ?Fᵣ ?Nᵣ ?mᵣ ?loᵣ ?dᵣ ?zᵣ ?xᵣ ?_; (case hhᵣ => rfl); (case Fᵣ => k_asm); (case Nᵣ => k_asm); (case mᵣ => k_mem); (case loᵣ => assumption); (case dᵣ => assumption); (case zᵣ => (first | assumption | exact Nat.le_trans (by assumption) (by decide) | omega)); (case xᵣ => assumption)); intro D'ᵣ h'ᵣ tk'ᵣ vs'ᵣ xs'ᵣ n'ᵣ F'ᵣ N'ᵣ l1'ᵣ a1'ᵣ a2'ᵣ a3'ᵣ; (try k_lt l1'ᵣ))) | ((k_here; (with_reducible show wpAny _ _ (getAttr (Value.ref _) (Str.ofString "unsigned") _) _ _ _); k_dflt (refine' get_prop ?k1ᵣ ?k2ᵣ ?k3ᵣ ?k4ᵣ ?k5ᵣ ?k6ᵣ ?k7ᵣ ?k8ᵣ ?k9ᵣ ?_; (case k1ᵣ => k_asm); (case k2ᵣ => k_asm); (case k3ᵣ => k_inst); (case k4ᵣ => k_is); (case k5ᵣ => k_is); (case k6ᵣ => k_is); (case k7ᵣ => k_is); (case k8ᵣ => k_is); (case k9ᵣ => k_is); k_whole); k_dflt (refine' useCA (runsigned_t _ _ _ _ _ _ _ _ _ _ _ _ _ ⟨_, _, _, _, ?m1ᵣ, ?m2ᵣ⟩ (IsVR.mono ?v1ᵣ ?a1ᵣ) (IsVR.mono ?v2ᵣ ?a2ᵣ) ?hnᵣ ?z1ᵣ ?z2ᵣ) ?Bᵣ ?Fᵣ ?Xᵣ ?Nᵣ ?Tᵣ ?dᵣ ?uᵣ ?_; (case Bᵣ => k_asm); (case Fᵣ => k_asm); (case Xᵣ => k_asm); (case Nᵣ => k_asm); (case Tᵣ => k_asm); (case m1ᵣ => k_mem); (case m2ᵣ => k_mem); (case v1ᵣ => assumption); (case v2ᵣ => assumption); (case a1ᵣ => k_all); (case a2ᵣ => k_all); (case hnᵣ => assumption); (case z1ᵣ => assumption); (case z2ᵣ => assumption); (case dᵣ => ktr_room); (case uᵣ => ((try simp only [units_deeper, units_under_make]); ktr_units)); k_whole; rintro _ h'ᵣ tk'ᵣ _ F'ᵣ N'ᵣ ⟨D8ᵣ, o8ᵣ, kvs8ᵣ, e19ᵣ, e29ᵣ, hd8ᵣ, hn8ᵣ, hlo8ᵣ, hz8ᵣ⟩; subst e19ᵣ; subst e29ᵣ; (refine handed_on rfl ?_); (try dsimp only)))) | ((k_here; (with_reducible show wpAny _ _ (getAttr (Value.ref _) (Str.ofString "signed") _) _ _ _); k_dflt (refine' get_prop ?k1ᵣ ?k2ᵣ ?k3ᵣ ?k4ᵣ ?k5ᵣ ?k6ᵣ ?k7ᵣ ?k8ᵣ ?k9ᵣ ?_; (case k1ᵣ => k_asm); (case k2ᵣ => k_asm); (case k3ᵣ => k_inst); (case k4ᵣ => k_is); (case k5ᵣ => k_is); (case k6ᵣ => k_is); (case k7ᵣ => k_is); (case k8ᵣ => k_is); (case k9ᵣ => k_is); k_whole); k_dflt (refine' useCA (rsigned_t _ _ _ _ _ _ _ _ _ _ _ _ _ ⟨_, _, _, _, ?m1ᵣ, ?m2ᵣ⟩ (IsVR.mono ?v1ᵣ ?a1ᵣ) (IsVR.mono ?v2ᵣ ?a2ᵣ) ?hnᵣ ?z1ᵣ ?z2ᵣ) ?Bᵣ ?Fᵣ ?Xᵣ ?Nᵣ ?Tᵣ ?dᵣ ?uᵣ ?_; (case Bᵣ => k_asm); (case Fᵣ => k_asm); (case Xᵣ => k_asm); (case Nᵣ => k_asm); (case Tᵣ => k_asm); (case m1ᵣ => k_mem); (case m2ᵣ => k_mem); (case v1ᵣ => assumption); (case v2ᵣ => assumption); (case a1ᵣ => k_all); (case a2ᵣ => k_all); (case hnᵣ => assumption); (case z1ᵣ => assumption); (case z2ᵣ => assumption); (case dᵣ => ktr_room); (case uᵣ => ((try simp only [units_deeper, units_under_make]); ktr_units)); k_whole; rintro _ h'ᵣ tk'ᵣ _ F'ᵣ N'ᵣ ⟨D8ᵣ, o8ᵣ, kvs8ᵣ, e19ᵣ, e29ᵣ, hd8ᵣ, hn8ᵣ, hlo8ᵣ, hz8ᵣ⟩; subst e19ᵣ; subst e29ᵣ; (refine handed_on rfl ?_); (try dsimp only)))) | ((k_here; (with_reducible show wpAny _ _ (call (Value.ref 448) [_, Value.ref _, _, _]) _ _ _); k_dflt (refine' useT (grvr_t _ _ _ _ _ _ _ _ _ _ _ _ _ _ _ _ _ _ _ _ _ (IsRoot.mono (by assumption) ?h1ᵣ) (IsRoot.mono (by assumption) ?h2ᵣ) (by assumption) ?hneᵣ (GvrAll.mono (by assumption) ?h3ᵣ) (GvrAll.mono (by assumption) ?h4ᵣ)) ?Bᵣ ?Fᵣ ?Xᵣ ?Nᵣ ?Tᵣ ?XBᵣ ?TBᵣ ?Dᵣ ?dᵣ ?uᵣ ?_; (case Bᵣ => k_asm); (case Fᵣ => k_asm); (case Xᵣ => k_asm); (case Nᵣ => k_asm); (case Tᵣ => k_asm); (case XBᵣ => k_asm); (case TBᵣ => k_asm); (case Dᵣ => k_asm); (case h1ᵣ => k_all); (case h2ᵣ => k_all); (case h3ᵣ => k_all); (case h4ᵣ => k_all); (case hneᵣ => assumption); (case dᵣ => ktr_room); (case uᵣ => ((try simp only [units_deeper, units_under_make]); ktr_units)); k_whole; rintro _ h'ᵣ g'ᵣ tk'ᵣ led9ᵣ t'ᵣ b'ᵣ F'ᵣ x'ᵣ p'ᵣ d'ᵣ N'ᵣ ⟨R9ᵣ, a9ᵣ, b9ᵣ, e1ᵣ, hsub9ᵣ, ⟨dx9ᵣ, n9ᵣ, t19ᵣ, t29ᵣ, hx19ᵣ, hx29ᵣ⟩, hva9ᵣ, hvb9ᵣ⟩; subst e1ᵣ; (try dsimp only)))) | ((k_here; (with_reducible show wpAny _ _ (getAttr (Value.ref _) (Str.ofString "verified") _) _ _ _); k_dflt (refine' get_prop ?k1ᵣ ?k2ᵣ ?k3ᵣ ?k4ᵣ ?k5ᵣ ?k6ᵣ ?k7ᵣ ?k8ᵣ ?k9ᵣ ?_; (case k1ᵣ => k_asm); (case k2ᵣ => k_asm); (case k3ᵣ => k_inst); (case k4ᵣ => k_is); (case k5ᵣ => k_is); (case k6ᵣ => k_is); (case k7ᵣ => k_is); (case k8ᵣ => k_is); (case k9ᵣ => k_is); k_whole); k_dflt (refine' useCA (rverified_t _ _ _ _ _ _ _ _ _ _ _ _ _ ⟨_, _, _, _, ?m1ᵣ, ?m2ᵣ⟩ (IsVR.mono ?v1ᵣ ?a1ᵣ) (IsVR.mono ?v2ᵣ ?a2ᵣ) ?z1ᵣ ?z2ᵣ) ?Bᵣ ?Fᵣ ?Xᵣ ?Nᵣ ?Tᵣ ?dᵣ ?uᵣ ?_; (case Bᵣ => k_asm); (case Fᵣ => k_asm); (case Xᵣ => k_asm); (case Nᵣ => k_asm); (case Tᵣ => k_asm); (case m1ᵣ => k_mem); (case m2ᵣ => k_mem); (case v1ᵣ => assumption); (case v2ᵣ => assumption); (case a1ᵣ => k_all); (case a2ᵣ => k_all); (case z1ᵣ => assumption); (case z2ᵣ => assumption); (case dᵣ => ktr_room); (case uᵣ => ((try simp only [units_deeper, units_under_make]); ktr_units)); k_whole; rintro _ h'ᵣ tk'ᵣ led8ᵣ F'ᵣ N'ᵣ ⟨e19ᵣ, e29ᵣ⟩; subst e19ᵣ; rw [e29ᵣ] at N'ᵣ; clear e29ᵣ; (refine handed_on rfl ?_); (try dsimp only)))) | ((with_reducible show wpAny _ _ (eval (Expr.Name _ _) _) _ _ _); (k_here; k_dflt (refine' nameX_L ?Fᵣ ?vᵣ ?_ ?aᵣ ?bᵣ; (case Fᵣ => k_asm); (case aᵣ => rfl); (case bᵣ => rfl); (case vᵣ => first | rfl | assumption); k_whole))) | ((with_reducible show wpAny _ _ (getMethod (Value.ref _) _ _) _ _ _); (k_here; k_dflt (refine' MethIs.use (by assumption) ?Fᵣ ?Xᵣ ?Nᵣ ?sᵣ ?_; (case Fᵣ => k_asm); (case Xᵣ => k_asm); (case Nᵣ => k_asm); (case sᵣ => k_all); k_whole))) | ((with_reducible show wpAny _ _ (call (Value.builtin "len") _) _ _ _); (k_here; k_dflt (refine' len_strs_led ?Nᵣ ?mᵣ ?dᵣ ?zᵣ ?_; (case Nᵣ => k_asm); (case mᵣ => k_mem); (case dᵣ => assumption); (case zᵣ => (first | assumption | exact Nat.le_trans (by assumption) (by decide) | omega))))) | ((k_here; (with_reducible show wpAny _ _ (call (Value.ref 764) _) _ _ _); k_dflt (refine' useP (due_t _ _ _ _ _ _ _ _ _ _ _ _ _ ?h1ᵣ ?h2ᵣ ?h3ᵣ ?h4ᵣ ?h5ᵣ ?h6ᵣ ?h7ᵣ) ?Bᵣ ?Fᵣ ?Xᵣ ?Nᵣ ?Tᵣ ?dᵣ ?uᵣ ?_; (case Bᵣ => k_asm); (case Fᵣ => k_asm); (case Xᵣ => k_asm); (case Nᵣ => k_asm); (case Tᵣ => k_asm); (case h1ᵣ => k_mem); (case h2ᵣ => assumption); (case h3ᵣ => assumption); (case h4ᵣ => (refine KeysIn.mono (by assumption) ?_; k_all)); (case h5ᵣ => (refine SigsIn.mono (by assumption) ?_; k_all)); (case h6ᵣ => assumption); (case h7ᵣ => assumption); (case dᵣ => ktr_room); (case uᵣ => ((try simp only [units_deeper, units_under_make]); ktr_units)); k_whole; rintro _ h'ᵣ tk'ᵣ _ F'ᵣ N'ᵣ ⟨T9ᵣ, S9ᵣ, U9ᵣ, ys9ᵣ, zs9ᵣ, n19ᵣ, n29ᵣ, n39ᵣ, e19ᵣ, e29ᵣ, hs9ᵣ, hu9ᵣ⟩; subst e19ᵣ; subst e29ᵣ; (try dsimp only)))) | ((with_reducible show ite _ _ _); first | (exfalso; (first | assumption | exact Nat.le_trans (by assumption) (by decide) | omega)) | (refine' ite_yes ?cᵣ ?_; (case cᵣ => (first | (simp only [decide_eq_true_eq, beq_iff_eq, bne_iff_ne, ne_eq]; (first | assumption | exact Nat.le_trans (by assumption) (by decide) | omega)) | (first | assumption | exact Nat.le_trans (by assumption) (by decide) | omega)))) | (refine' ite_no ?cᵣ ?_; (case cᵣ => (first | (simp only [decide_eq_true_eq, beq_iff_eq, bne_iff_ne, ne_eq]; (first | assumption | exact Nat.le_trans (by assumption) (by decide) | omega)) | (first | assumption | exact Nat.le_trans (by assumption) (by decide) | omega))))) | walk1)) | (dsimp only; walk1) | (leave1; walk_say "STEP leave1"; try dsimp only) | fail "no step"))
    all_goals (first | k_asm | (exfalso; rename ((_ && _) != _) = true => e9; first | exact and_ne1 (by assumption) e9 | exact and_ne2 (by assumption) e9) | skip)
    unfold Marked3
    rename News _ L _ _ => N9
    rename ∀ p ∈ _ :: _ :: _ :: _ :: _ :: nl, p ∈ _ => hsub
    refine' alone_t (by assumption) ?zF (by assumption) (newsSub N9 ?zt) (by assumption) XB TB (by assumption) ?zG hdp hun hc ?r1 ?r2 ?r3 ?r4 ?r5 ?r6 hO W R hop ho4 ho6 hsep h177 h465 h600 hd177 hd465 hd600 hs hPa hP hPl hsa (fun s' os bare g' m' led' t F N tb => hQ s' os bare g' m' led' (KtsTurn.trans ?zQ t) F N tb)
    case zF => k_asm
    case zt => exact fun p hp => (by (repeat refine List.mem_cons_of_mem _ ?_); exact hsub p hp)
    case zG => assumption
    case r1 => assumption
    case r2 => assumption
    case r3 => assumption
    case r4 => assumption
    case r5 => assumption
    case r6 => assumption
    case zQ => assumption
  · with_unfolding_all show wpAny _ _ (execs (_ :: _) _) _ _ _
    (repeat' (first | (k_unfold; (try dsimp only)) | ((try k_fold); (first | ((with_reducible refine tok_gen3 ?_); intro _) | ((with_reducible show wpAny _ _ (exec (Stmt.Try _ _ _ _ _) _) _ _ _); (k_here; refine wpAny_Try_except ?_)) | ((k_here; (with_reducible show wpAny _ _ (execs (Stmt.Assign [Expr.Name (Str.ofString "alone") _] _ _ :: _) _) _ _ _); refine marked3 ?_)) | ((k_here; (with_reducible show wpAny _ _ (call (Value.ref 448) [_, Value.ref _, _, _]) _ _ _); k_dflt (refine' useV (grvrBad_t _ _ _ _ _ _ _ _ _ _ _ _ _ (IsRoot.mono (by assumption) ?h1ᵣ) (IsRoot.mono (by assumption) ?h2ᵣ) (by assumption) ?hneᵣ (by assumption) (by assumption) (by assumption) (by assumption)) ?Bᵣ ?Fᵣ ?Xᵣ ?Nᵣ ?Tᵣ ?XBᵣ ?TBᵣ ?Dᵣ ?dᵣ ?uᵣ ?_; (case Bᵣ => k_asm); (case Fᵣ => k_asm); (case Xᵣ => k_asm); (case Nᵣ => k_asm); (case Tᵣ => k_asm); (case XBᵣ => k_asm); (case TBᵣ => k_asm); (case Dᵣ => k_asm); (case h1ᵣ => k_all); (case h2ᵣ => k_all); (case hneᵣ => assumption); (case dᵣ => ktr_room); (case uᵣ => ((try simp only [units_deeper, units_under_make]); ktr_units)); k_whole; intro e9ᵣ h'ᵣ tk'ᵣ g9ᵣ F9ᵣ R9ᵣ R9'ᵣ U9ᵣ; (try dsimp only)))) | ((with_reducible show wpAny _ _ (noteFrame (Value.ref _) _) _ _ _); (k_here; (rename RaisedSN _ _ _ _ _ _ _ => rsXᵣ); k_dflt (refine' caughtX (T' := "ValueError") ?Rᵣ ?Fᵣ ?Kᵣ ?Uᵣ ?XBᵣ ?TBᵣ ?Dᵣ ?T0ᵣ ?exᵣ PyProof.Rows.Boot.«ValueError» ?hnᵣ PySem.F.isExc_ValueError PySem.F.notTuple_ValueError ?hsᵣ ?_; (case Rᵣ => assumption); (case Fᵣ => assumption); (case Kᵣ => assumption); (case Uᵣ => assumption); (case XBᵣ => assumption); (case TBᵣ => assumption); (case Dᵣ => assumption); (case T0ᵣ => first | assumption | exact KtsTurn.refl); (case hsᵣ => kts_sub); (case exᵣ => k_is); (case hnᵣ => decide); k_whole); intro h'ᵣ g'ᵣ T'ᵣ F'ᵣ N'ᵣ K'ᵣ X'ᵣ P'ᵣ D'ᵣ)) | ((with_reducible show wpAny _ _ (eval (Expr.Name _ _) _) _ _ _); (k_here; k_dflt (refine' nameX_L ?Fᵣ ?vᵣ ?_ ?aᵣ ?bᵣ; (case Fᵣ => k_asm); (case aᵣ => rfl); (case bᵣ => rfl); (case vᵣ => first | rfl | assumption); k_whole))) | ((with_reducible show wpAny _ _ (getMethod (Value.ref _) _ _) _ _ _); (k_here; k_dflt (refine' MethIs.use (by assumption) ?Fᵣ ?Xᵣ ?Nᵣ ?sᵣ ?_; (case Fᵣ => k_asm); (case Xᵣ => k_asm); (case Nᵣ => k_asm); (case sᵣ => k_all); k_whole))) | ((with_reducible show ite _ _ _); first | (exfalso; (first | assumption | exact Nat.le_trans (by assumption) (by decide) | omega)) | (refine' ite_yes ?cᵣ ?_; (case cᵣ => (first | (simp only [decide_eq_true_eq, beq_iff_eq, bne_iff_ne, ne_eq]; (first | assumption | exact Nat.le_trans (by assumption) (by decide) | omega)) | (first | assumption | exact Nat.le_trans (by assumption) (by decide) | omega)))) | (refine' ite_no ?cᵣ ?_; (case cᵣ => (first | (simp only [decide_eq_true_eq, beq_iff_eq, bne_iff_ne, ne_eq]; (first | assumption | exact Nat.le_trans (by assumption) (by decide) | omega)) | (first | assumption | exact Nat.le_trans (by assumption) (by decide) | omega))))) | walk1)) | (dsimp only; walk1) | (leave1; walk_say "STEP leave1"; try dsimp only) | fail "no step"))
    unfold Marked3
    rename News _ L _ _ => N9
    refine' alone_t (by assumption) ?zF (by assumption) (newsSub N9 ?zt) (by assumption) XB TB (by assumption) ?zG hdp hun hc ?r1 ?r2 ?r3 ?r4 ?r5 ?r6 hO W R hop ho4 ho6 hsep h177 h465 h600 hd177 hd465 hd600 hs hPa hP hPl hsa (fun s' os bare g' m' led' t F N tb => hQ s' os bare g' m' led' (KtsTurn.trans ?zQ t) F N tb)
    case zF => k_asm
    case zt => exact fun p hp => hp
    case zG => assumption
    case r1 => assumption
    case r2 => assumption
    case r3 => assumption
    case r4 => assumption
    case r5 => assumption
    case r6 => assumption
    case zQ => assumption
-- MyLf
section
variable {prog : Program} {w : World} {A : Around} {E : Value → Shared → Prop} {s : Shared} {env : Env} {L : Addr}
/-- the loop over any walk, with any target; its turn begins at the assignment -/
theorem forGT {I : Addr} {fp : List Addr} {n : Nat} {P : Nat → Value → Prop} {St : Nat → Heap → Prop} {target : Expr} {body : List Stmt} {R : Result → Shared → Prop} {g₀ : Heap} {m₀ : Str → Option Value} {led₀ : Led}
    (W : Walks prog w A I fp [I] n P St) (hgo : ∀ i v (s' : Shared) (Q : Unit → Shared → Prop) (E' : Value → Shared → Prop), St (i + 1) s'.heap → Q () s' → wpAny (model prog w) A (letOwnedTupleGo target (.ref I) v) Q E' s')
    (src : Led) (hfp : ∀ b ∈ fp, b = I ∨ ∃ o, (b, o) ∈ src) (hIo : ∀ i h, St i h → ∃ o, h.get? I = some o ∧ o.isFreed = false)
    (G : Heap → Prop) (J : Nat → (Str → Option Value) → Led → Prop) (hL : env.locals = L)
    (hst : St 0 s.heap) (hG : G g₀) (F : Fr g₀ L s.heap m₀) (N : News g₀ L s.heap led₀) (hI : ∀ p ∈ led₀, p.1 ≠ I) (hI₀ : ∀ g, G g → g.get? I = none) (hLI : L ≠ I) (hJ : J 0 m₀ led₀)
    (hsrc : ∀ i m led, J i m led → ∀ p ∈ src, p ∈ led)
    (turn : ∀ i v g m₁ led oI h tk (TE : Flow → Shared → Prop), i < n → P i v → G g → J i m₁ led → (∀ p ∈ led, p.1 ≠ I) → Fr g L h m₁ → News g L h ((I, oI) :: led) →
      (∀ g' h' tk' m' led', G g' → Fr g' L h' m' → News g' L h' ((I, oI) :: led') → (∀ p ∈ led', p.1 ≠ I) → J (i + 1) m' led' → TE .next { s with heap := h', toks := tk' }) →
      wpAny (model prog w) A (assign target env v) (fun _ s₂ => wpAny (model prog w) A (execs body env) TE (notedBy (model prog w) A env fun e s' => R (.error e) s') s₂) (notedBy (model prog w) A env fun e s' => R (.error e) s') { s with heap := h, toks := tk })
    (done : ∀ g m led h tk, G g → J n m led → Fr g L h m → News g L h led → R (.ok .next) { s with heap := h, toks := tk }) :
    codeAny (model prog w) A (.forLoop target (.ref I) body [] env) R s := 
  forA W hgo src hfp hIo G J hL hst hG F N hI hI₀ hLI hJ hsrc (fun i v g m₁ led oI h tk hi hP hG' hJ' hne F' N' => turn i v g m₁ led oI h tk _ hi hP hG' hJ' hne F' N' fun g' h' tk' m' led' a b c d e => ⟨g', h', tk', m', led', rfl, a, b, c, d, e⟩) done
/-- the loop over a tuple -/
theorem iterGT {l : Addr} {vs : List Value} {nn : Nat} {target : Expr} {body : List Stmt} {R : Result → Shared → Prop} {g₀ : Heap} {m₀ : Str → Option Value} {led₀ : Led}
    (hh : A.handled = none) (F : Fr g₀ L s.heap m₀) (N : News g₀ L s.heap led₀) (hm : (l, ({ cls := .type "tuple", data := .seq vs.toArray nn } : Obj)) ∈ led₀) (hL : env.locals = L)
    (G : Heap → Prop) (J : Nat → (Str → Option Value) → Led → Prop) (hG : G g₀) (hGn : ∀ g, G g → ∀ a, g₀.get? a = none → g.get? a = none) (hJ : J 0 m₀ led₀)
    (hsrc : ∀ i m led, J i m led → (l, ({ cls := .type "tuple", data := .seq vs.toArray nn } : Obj)) ∈ led)
    (turn : ∀ i v g m₁ led I oI h tk (R' : Result → Shared → Prop) (TE : Flow → Shared → Prop), vs[i]? = some v → G g → J i m₁ led → (∀ p ∈ led, p.1 ≠ I) → Fr g L h m₁ → News g L h ((I, oI) :: led) →
      (∀ g' h' tk' m' led', G g' → Fr g' L h' m' → News g' L h' ((I, oI) :: led') → (∀ p ∈ led', p.1 ≠ I) → J (i + 1) m' led' → TE .next { s with heap := h', toks := tk' }) →
      wpAny (model prog w) A (assign target env v) (fun _ s₂ => wpAny (model prog w) A (execs body env) TE (notedBy (model prog w) A env fun e s' => R' (.error e) s') s₂) (notedBy (model prog w) A env fun e s' => R' (.error e) s') { s with heap := h, toks := tk })
    (done : ∀ g m led h tk, G g → J vs.length m led → Fr g L h m → News g L h led → R (.ok .next) { s with heap := h, toks := tk }) :
    wpAny (model prog w) A (pyIter (.ref l)) (fun it s₂ => codeAny (model prog w) A (.forLoop target it body [] env) R s₂) E s := by
  have hl : s.heap.IsTuple l vs.toArray := ⟨_, (N _ hm).1, rfl, nn, rfl⟩
  have hne : l ≠ s.heap.objs.size := Nat.ne_of_lt (Heap.lt_size (N _ hm).1)
  refine wpAny_pyIter_tuple hl ?_
  have W : Walks prog w A s.heap.objs.size [s.heap.objs.size, l] [s.heap.objs.size] vs.length (fun i v => vs.toArray[i]? = some v) (fun i h => h.IsTupleIter s.heap.objs.size l i ∧ h.IsTuple l vs.toArray) := by
    have W := Walks.tuple (prog := prog) (w := w) hh s.heap.objs.size l hne vs.toArray
    rw [List.size_toArray] at W; exact W
  have hup : ∀ b o, s.heap.get? b = some o → (s.heap.push { cls := .type "tuple_iterator", data := .fields #[.ref l, .int 0 0] }).get? b = some o := fun b o e => Heap.get?_push_of_some _ e
  refine forGT (n := vs.length) (g₀ := g₀) (m₀ := m₀) (led₀ := led₀) W (fun i v s' Q E' st q => letGo_tupleiter st.1 q) [(l, { cls := .type "tuple", data := .seq vs.toArray nn })] (fun b hb => ?_) (fun i h st => ?_) G J hL ?_ hG (F.keeps hup) (N.grown hup) (fun p hp => Nat.ne_of_lt (Heap.lt_size (N p hp).1)) ?_ (Nat.ne_of_lt F.ns.lt) hJ ?_ ?_ ?_
  · rcases List.mem_cons.mp hb with rfl | hb
    · exact .inl rfl
    · rw [List.mem_singleton.mp hb]
      exact .inr ⟨_, List.mem_singleton.mpr rfl⟩
  · obtain ⟨⟨o, ho, hc, hd⟩, _⟩ := st
    exact ⟨o, ho, (Heap.get?_some_iff.mp ho).2⟩
  · exact ⟨⟨_, Heap.get?_push_size _ rfl, rfl, rfl⟩, hl.at fun o e => hup _ o e⟩
  · exact fun g hg => hGn g hg _ (next_is_new F)
  · intro i m led hj p hp
    rw [List.mem_singleton.mp hp]
    exact hsrc i m led hj
  · intro i v g m₁ led oI h tk TE hi hv hg hj hne' F' N' hTE
    exact turn i v g m₁ led _ oI h tk R TE (by simpa using hv) hg hj hne' F' N' hTE
  · intro g m led h tk hg hj F' N'
    exact done g m led h tk hg hj F' N'
end
-- MyLb




noncomputable def forT : Expr := match ((topB 33)[5]? : Option Stmt) with
  | some (.For t _ _ _ _) => t
  | _ => .Constant .none 0 default
noncomputable def forB : List Stmt := match ((topB 33)[5]? : Option Stmt) with
  | some (.For _ _ b _ _) => b
  | _ => []
/-- one turn of the law's loop -/
theorem turn_t {w : World} {dp un : Nat} {gd : Option (List Code)} {outer : List Env} {base g : Heap} {L c x l kd sd tp : Addr} {s : Shared} {mean : ExcName → Option Value} {mg mb mr : Str → Option Value}
   {led : Led} {th v : Int} {ks : List Int} {kn : Int → Option Addr} {sg : Int → Option PySem.Str} {P : PySem.Str} {t3 t4 : Tok} {nt : Nat} {Q : Flow → Shared → Prop} {R' : Result → Shared → Prop}
   (B : Below (cTop0 dp un gd outer) base outer g) (F : Fr g L s.heap mr) (X : (K w.params).In g) (N : News g L s.heap led) (T : TopM mean mg mb g) (XB : (K w.params).In base) (TB : TopM mean mg mb base) (D : KtsDicts (frs outer) g) (hdp : dp + 60 < recursionLimit) (hun : un + 20 * 60 < cLine)
   (ht : (tp, ({ cls := .type "tuple", data := .seq #[.ref x, .ref l, .int th t3, .ref kd] nt } : Obj)) ∈ led)
   (hr5 : mr (Str.ofString "payload") = some (.bytes (bytesOf P) t4)) (hr6 : mr (Str.ofString "signatures") = some (.ref sd))
   (hO : RootOk w led sd sg P x l kd th v ks kn) (hs : SigsIn w led sd sg) (hP : DecOk (bytesOf P) P) (hPl : P.length ≤ 10)
   (hQ : ∀ g' h' tk' led' b, KtsTurn (frs outer) g g' → Below (cTop0 dp un gd outer) base outer g' → (K w.params).In g' → TopM mean mg mb g' → KtsDicts (frs outer) g' →
      Fr g' L h' (fun y => if y = Str.ofString "due" then some (.bool b) else if y = Str.ofString "known" then some (.ref kd) else if y = Str.ofString "least" then some (.int th t3) else if y = Str.ofString "names" then some (.ref l) else if y = Str.ofString "root" then some (.ref x) else mr y) →
      (∀ p ∈ led, p ∈ led') → News g' L h' led' → Q .next { s with heap := h', toks := tk' }) :
   wpAny (model PySem.Challenge.rw_je0043_01.row.toRowW.1 w) ((cTop0 dp un gd outer).deeper (envX "law" ⟨.function, (("script", .local) :: ("w", .cell) :: ("payload", .local) :: ("signatures", .local) :: ("one", .local) :: ("role", .local) :: ("threshold", .local) :: ("keys", .local) :: ("version", .local) :: ("other", .local) :: ("role2", .local) :: ("threshold2", .local) :: ("keys2", .local) :: ("version2", .local) :: ("root", .local) :: ("names", .local) :: ("least", .local) :: ("known", .local) :: ("due", .local) :: ("told", .local) :: ("first", .local) :: ("second", .local) :: ("alone", .local) :: ("_law_draws", .globalImplicit) :: ("range", .globalImplicit) :: ("_law_next", .globalImplicit) :: ("_law_signatures", .globalImplicit) :: ("_law_root", .globalImplicit) :: ("_law_is", .globalImplicit) :: ("len", .globalImplicit) :: ("_law_due", .globalImplicit) :: ("_law_raised", .globalImplicit) :: ("sorted", .globalImplicit) :: ("set", .globalImplicit) :: ("ValueError", .globalImplicit) :: ("_law_targets", .globalImplicit) :: []), false, false, (("fast", .str "script") :: ("fast", .str "w") :: ("fast", .str "k") :: ("fast", .str "payload") :: ("fast", .str "signatures") :: ("fast", .str "one") :: ("fast", .str "role") :: ("fast", .str "threshold") :: ("fast", .str "keys") :: ("fast", .str "version") :: ("fast", .str "other") :: ("fast", .str "role2") :: ("fast", .str "threshold2") :: ("fast", .str "keys2") :: ("fast", .str "version2") :: ("fast", .str "root") :: ("fast", .str "names") :: ("fast", .str "least") :: ("fast", .str "known") :: ("fast", .str "due") :: ("fast", .str "told") :: ("fast", .str "first") :: ("fast", .str "second") :: ("fast", .str "alone") :: [])⟩ L 793 (.ref 792) [("w", c)])) (assign forT (envX "law" ⟨.function, (("script", .local) :: ("w", .cell) :: ("payload", .local) :: ("signatures", .local) :: ("one", .local) :: ("role", .local) :: ("threshold", .local) :: ("keys", .local) :: ("version", .local) :: ("other", .local) :: ("role2", .local) :: ("threshold2", .local) :: ("keys2", .local) :: ("version2", .local) :: ("root", .local) :: ("names", .local) :: ("least", .local) :: ("known", .local) :: ("due", .local) :: ("told", .local) :: ("first", .local) :: ("second", .local) :: ("alone", .local) :: ("_law_draws", .globalImplicit) :: ("range", .globalImplicit) :: ("_law_next", .globalImplicit) :: ("_law_signatures", .globalImplicit) :: ("_law_root", .globalImplicit) :: ("_law_is", .globalImplicit) :: ("len", .globalImplicit) :: ("_law_due", .globalImplicit) :: ("_law_raised", .globalImplicit) :: ("sorted", .globalImplicit) :: ("set", .globalImplicit) :: ("ValueError", .globalImplicit) :: ("_law_targets", .globalImplicit) :: []), false, false, (("fast", .str "script") :: ("fast", .str "w") :: ("fast", .str "k") :: ("fast", .str "payload") :: ("fast", .str "signatures") :: ("fast", .str "one") :: ("fast", .str "role") :: ("fast", .str "threshold") :: ("fast", .str "keys") :: ("fast", .str "version") :: ("fast", .str "other") :: ("fast", .str "role2") :: ("fast", .str "threshold2") :: ("fast", .str "keys2") :: ("fast", .str "version2") :: ("fast", .str "root") :: ("fast", .str "names") :: ("fast", .str "least") :: ("fast", .str "known") :: ("fast", .str "due") :: ("fast", .str "told") :: ("fast", .str "first") :: ("fast", .str "second") :: ("fast", .str "alone") :: [])⟩ L 793 (.ref 792) [("w", c)]) (.ref tp))
     (fun _ s₂ => wpAny (model PySem.Challenge.rw_je0043_01.row.toRowW.1 w) ((cTop0 dp un gd outer).deeper (envX "law" ⟨.function, (("script", .local) :: ("w", .cell) :: ("payload", .local) :: ("signatures", .local) :: ("one", .local) :: ("role", .local) :: ("threshold", .local) :: ("keys", .local) :: ("version", .local) :: ("other", .local) :: ("role2", .local) :: ("threshold2", .local) :: ("keys2", .local) :: ("version2", .local) :: ("root", .local) :: ("names", .local) :: ("least", .local) :: ("known", .local) :: ("due", .local) :: ("told", .local) :: ("first", .local) :: ("second", .local) :: ("alone", .local) :: ("_law_draws", .globalImplicit) :: ("range", .globalImplicit) :: ("_law_next", .globalImplicit) :: ("_law_signatures", .globalImplicit) :: ("_law_root", .globalImplicit) :: ("_law_is", .globalImplicit) :: ("len", .globalImplicit) :: ("_law_due", .globalImplicit) :: ("_law_raised", .globalImplicit) :: ("sorted", .globalImplicit) :: ("set", .globalImplicit) :: ("ValueError", .globalImplicit) :: ("_law_targets", .globalImplicit) :: []), false, false, (("fast", .str "script") :: ("fast", .str "w") :: ("fast", .str "k") :: ("fast", .str "payload") :: ("fast", .str "signatures") :: ("fast", .str "one") :: ("fast", .str "role") :: ("fast", .str "threshold") :: ("fast", .str "keys") :: ("fast", .str "version") :: ("fast", .str "other") :: ("fast", .str "role2") :: ("fast", .str "threshold2") :: ("fast", .str "keys2") :: ("fast", .str "version2") :: ("fast", .str "root") :: ("fast", .str "names") :: ("fast", .str "least") :: ("fast", .str "known") :: ("fast", .str "due") :: ("fast", .str "told") :: ("fast", .str "first") :: ("fast", .str "second") :: ("fast", .str "alone") :: [])⟩ L 793 (.ref 792) [("w", c)])) (execs forB (envX "law" ⟨.function, (("script", .local) :: ("w", .cell) :: ("payload", .local) :: ("signatures", .local) :: ("one", .local) :: ("role", .local) :: ("threshold", .local) :: ("keys", .local) :: ("version", .local) :: ("other", .local) :: ("role2", .local) :: ("threshold2", .local) :: ("keys2", .local) :: ("version2", .local) :: ("root", .local) :: ("names", .local) :: ("least", .local) :: ("known", .local) :: ("due", .local) :: ("told", .local) :: ("first", .local) :: ("second", .local) :: ("alone", .local) :: ("_law_draws", .globalImplicit) :: ("range", .globalImplicit) :: ("_law_next", .globalImplicit) :: ("_law_signatures", .globalImplicit) :: ("_law_root", .globalImplicit) :: ("_law_is", .globalImplicit) :: ("len", .globalImplicit) :: ("_law_due", .globalImplicit) :: ("_law_raised", .globalImplicit) :: ("sorted", .globalImplicit) :: ("set", .globalImplicit) :: ("ValueError", .globalImplicit) :: ("_law_targets", .globalImplicit) :: []), false, false, (("fast", .str "script") :: ("fast", .str "w") :: ("fast", .str "k") :: ("fast", .str "payload") :: ("fast", .str "signatures") :: ("fast", .str "one") :: ("fast", .str "role") :: ("fast", .str "threshold") :: ("fast", .str "keys") :: ("fast", .str "version") :: ("fast", .str "other") :: ("fast", .str "role2") :: ("fast", .str "threshold2") :: ("fast", .str "keys2") :: ("fast", .str "version2") :: ("fast", .str "root") :: ("fast", .str "names") :: ("fast", .str "least") :: ("fast", .str "known") :: ("fast", .str "due") :: ("fast", .str "told") :: ("fast", .str "first") :: ("fast", .str "second") :: ("fast", .str "alone") :: [])⟩ L 793 (.ref 792) [("w", c)])) Q (notedBy (model PySem.Challenge.rw_je0043_01.row.toRowW.1 w) ((cTop0 dp un gd outer).deeper (envX "law" ⟨.function, (("script", .local) :: ("w", .cell) :: ("payload", .local) :: ("signatures", .local) :: ("one", .local) :: ("role", .local) :: ("threshold", .local) :: ("keys", .local) :: ("version", .local) :: ("other", .local) :: ("role2", .local) :: ("threshold2", .local) :: ("keys2", .local) :: ("version2", .local) :: ("root", .local) :: ("names", .local) :: ("least", .local) :: ("known", .local) :: ("due", .local) :: ("told", .local) :: ("first", .local) :: ("second", .local) :: ("alone", .local) :: ("_law_draws", .globalImplicit) :: ("range", .globalImplicit) :: ("_law_next", .globalImplicit) :: ("_law_signatures", .globalImplicit) :: ("_law_root", .globalImplicit) :: ("_law_is", .globalImplicit) :: ("len", .globalImplicit) :: ("_law_due", .globalImplicit) :: ("_law_raised", .globalImplicit) :: ("sorted", .globalImplicit) :: ("set", .globalImplicit) :: ("ValueError", .globalImplicit) :: ("_law_targets", .globalImplicit) :: []), false, false, (("fast", .str "script") :: ("fast", .str "w") :: ("fast", .str "k") :: ("fast", .str "payload") :: ("fast", .str "signatures") :: ("fast", .str "one") :: ("fast", .str "role") :: ("fast", .str "threshold") :: ("fast", .str "keys") :: ("fast", .str "version") :: ("fast", .str "other") :: ("fast", .str "role2") :: ("fast", .str "threshold2") :: ("fast", .str "keys2") :: ("fast", .str "version2") :: ("fast", .str "root") :: ("fast", .str "names") :: ("fast", .str "least") :: ("fast", .str "known") :: ("fast", .str "due") :: ("fast", .str "told") :: ("fast", .str "first") :: ("fast", .str "second") :: ("fast", .str "alone") :: [])⟩ L 793 (.ref 792) [("w", c)])) (envX "law" ⟨.function, (("script", .local) :: ("w", .cell) :: ("payload", .local) :: ("signatures", .local) :: ("one", .local) :: ("role", .local) :: ("threshold", .local) :: ("keys", .local) :: ("version", .local) :: ("other", .local) :: ("role2", .local) :: ("threshold2", .local) :: ("keys2", .local) :: ("version2", .local) :: ("root", .local) :: ("names", .local) :: ("least", .local) :: ("known", .local) :: ("due", .local) :: ("told", .local) :: ("first", .local) :: ("second", .local) :: ("alone", .local) :: ("_law_draws", .globalImplicit) :: ("range", .globalImplicit) :: ("_law_next", .globalImplicit) :: ("_law_signatures", .globalImplicit) :: ("_law_root", .globalImplicit) :: ("_law_is", .globalImplicit) :: ("len", .globalImplicit) :: ("_law_due", .globalImplicit) :: ("_law_raised", .globalImplicit) :: ("sorted", .globalImplicit) :: ("set", .globalImplicit) :: ("ValueError", .globalImplicit) :: ("_law_targets", .globalImplicit) :: []), false, false, (("fast", .str "script") :: ("fast", .str "w") :: ("fast", .str "k") :: ("fast", .str "payload") :: ("fast", .str "signatures") :: ("fast", .str "one") :: ("fast", .str "role") :: ("fast", .str "threshold") :: ("fast", .str "keys") :: ("fast", .str "version") :: ("fast", .str "other") :: ("fast", .str "role2") :: ("fast", .str "threshold2") :: ("fast", .str "keys2") :: ("fast", .str "version2") :: ("fast", .str "root") :: ("fast", .str "names") :: ("fast", .str "least") :: ("fast", .str "known") :: ("fast", .str "due") :: ("fast", .str "told") :: ("fast", .str "first") :: ("fast", .str "second") :: ("fast", .str "alone") :: [])⟩ L 793 (.ref 792) [("w", c)]) fun e s' => R' (.error e) s') s₂)
     (notedBy (model PySem.Challenge.rw_je0043_01.row.toRowW.1 w) ((cTop0 dp un gd outer).deeper (envX "law" ⟨.function, (("script", .local) :: ("w", .cell) :: ("payload", .local) :: ("signatures", .local) :: ("one", .local) :: ("role", .local) :: ("threshold", .local) :: ("keys", .local) :: ("version", .local) :: ("other", .local) :: ("role2", .local) :: ("threshold2", .local) :: ("keys2", .local) :: ("version2", .local) :: ("root", .local) :: ("names", .local) :: ("least", .local) :: ("known", .local) :: ("due", .local) :: ("told", .local) :: ("first", .local) :: ("second", .local) :: ("alone", .local) :: ("_law_draws", .globalImplicit) :: ("range", .globalImplicit) :: ("_law_next", .globalImplicit) :: ("_law_signatures", .globalImplicit) :: ("_law_root", .globalImplicit) :: ("_law_is", .globalImplicit) :: ("len", .globalImplicit) :: ("_law_due", .globalImplicit) :: ("_law_raised", .globalImplicit) :: ("sorted", .globalImplicit) :: ("set", .globalImplicit) :: ("ValueError", .globalImplicit) :: ("_law_targets", .globalImplicit) :: []), false, false, (("fast", .str "script") :: ("fast", .str "w") :: ("fast", .str "k") :: ("fast", .str "payload") :: ("fast", .str "signatures") :: ("fast", .str "one") :: ("fast", .str "role") :: ("fast", .str "threshold") :: ("fast", .str "keys") :: ("fast", .str "version") :: ("fast", .str "other") :: ("fast", .str "role2") :: ("fast", .str "threshold2") :: ("fast", .str "keys2") :: ("fast", .str "version2") :: ("fast", .str "root") :: ("fast", .str "names") :: ("fast", .str "least") :: ("fast", .str "known") :: ("fast", .str "due") :: ("fast", .str "told") :: ("fast", .str "first") :: ("fast", .str "second") :: ("fast", .str "alone") :: [])⟩ L 793 (.ref 792) [("w", c)])) (envX "law" ⟨.function, (("script", .local) :: ("w", .cell) :: ("payload", .local) :: ("signatures", .local) :: ("one", .local) :: ("role", .local) :: ("threshold", .local) :: ("keys", .local) :: ("version", .local) :: ("other", .local) :: ("role2", .local) :: ("threshold2", .local) :: ("keys2", .local) :: ("version2", .local) :: ("root", .local) :: ("names", .local) :: ("least", .local) :: ("known", .local) :: ("due", .local) :: ("told", .local) :: ("first", .local) :: ("second", .local) :: ("alone", .local) :: ("_law_draws", .globalImplicit) :: ("range", .globalImplicit) :: ("_law_next", .globalImplicit) :: ("_law_signatures", .globalImplicit) :: ("_law_root", .globalImplicit) :: ("_law_is", .globalImplicit) :: ("len", .globalImplicit) :: ("_law_due", .globalImplicit) :: ("_law_raised", .globalImplicit) :: ("sorted", .globalImplicit) :: ("set", .globalImplicit) :: ("ValueError", .globalImplicit) :: ("_law_targets", .globalImplicit) :: []), false, false, (("fast", .str "script") :: ("fast", .str "w") :: ("fast", .str "k") :: ("fast", .str "payload") :: ("fast", .str "signatures") :: ("fast", .str "one") :: ("fast", .str "role") :: ("fast", .str "threshold") :: ("fast", .str "keys") :: ("fast", .str "version") :: ("fast", .str "other") :: ("fast", .str "role2") :: ("fast", .str "threshold2") :: ("fast", .str "keys2") :: ("fast", .str "version2") :: ("fast", .str "root") :: ("fast", .str "names") :: ("fast", .str "least") :: ("fast", .str "known") :: ("fast", .str "due") :: ("fast", .str "told") :: ("fast", .str "first") :: ("fast", .str "second") :: ("fast", .str "alone") :: [])⟩ L 793 (.ref 792) [("w", c)]) fun e s' => R' (.error e) s') s := by
  revert X
  k_fill
  w_top off
  intro X
  have T0 : KtsTurn (frs outer) g g := KtsTurn.refl
  have Tz := T
  obtain ⟨hM1, hM2, hM3, hM4, hkD, hkK⟩ := id hO.finds
  have hgv := hO.gvr
  have hbad := hO.bad
  have hn4 : PySem.Str.length (Str.ofString "root") ≤ 10 := by decide
  have hfin := hO.finds
  have ht1 := hO.th1
  have ht2 := hO.th2
  have hk := hO.keys
  have h5 := hO.good
  obtain ⟨vs, nn, hl, hvs⟩ := hO.list
  have hfl := filter_len5 (f := isS kn sg P) h5
  with_unfolding_all show wpAny _ _ (assign (Expr.Tuple _ _ _) _ _) _ _ _
  (repeat' (first | (k_unfold; (try dsimp only)) | ((try (with_reducible (show wpAny _ _ (exec _ _) _ _ _); k_fold)); (first | ((with_reducible refine tok_gen3 ?_); intro _) | ((with_reducible show wpAny _ _ (subscriptTail _ _ (Value.ref _) (Value.int _ _)) _ _ _); (k_here; k_dflt (refine' item_tupleT ?tᵣ ?aᵣ ?bᵣ ?cᵣ ?dᵣ ?_; (case tᵣ => exact News.isTup (by k_asm) List.mem_cons_self); (case aᵣ => decide); (case bᵣ => decide); (case cᵣ => rfl); (case dᵣ => rfl); k_whole))) | ((with_reducible show wpAny _ _ (eval (Expr.Name _ _) _) _ _ _); (k_here; k_dflt (refine' nameX_L ?Fᵣ ?vᵣ ?_ ?aᵣ ?bᵣ; (case Fᵣ => k_asm); (case aᵣ => rfl); (case bᵣ => rfl); (case vᵣ => first | rfl | assumption); k_whole))) | ((k_here; (with_reducible show wpAny _ _ (call (Value.ref 776) _) _ _ _); k_dflt (refine' useT (raisedBad_u _ _ _ _ _ _ _ _ _ _ _ ?h0ᵣ ?h5ᵣ ?h6ᵣ) ?Bᵣ ?Fᵣ ?Xᵣ ?Nᵣ ?Tᵣ ?XBᵣ ?TBᵣ ?Dᵣ ?dᵣ ?uᵣ ?_; (case Bᵣ => k_asm); (case Fᵣ => k_asm); (case Xᵣ => k_asm); (case Nᵣ => k_asm); (case Tᵣ => k_asm); (case XBᵣ => k_asm); (case TBᵣ => k_asm); (case Dᵣ => k_asm); (case h5ᵣ => assumption); (case h0ᵣ => assumption); (case h6ᵣ => k_all); (case dᵣ => ktr_room); (case uᵣ => ((try simp only [units_deeper, units_under_make]); ktr_units)); k_whole; rintro _ h'ᵣ g'ᵣ tk'ᵣ led9ᵣ t'ᵣ b'ᵣ F'ᵣ x'ᵣ p'ᵣ d'ᵣ N'ᵣ ⟨u9ᵣ, e1ᵣ, e2ᵣ⟩; subst e1ᵣ; subst e2ᵣ; (try dsimp only)))) | ((k_here; (with_reducible show wpAny _ _ (call (Value.ref 776) _) _ _ _); k_dflt (refine' useT (raisedOk_u _ _ _ _ _ _ _ _ _ _ _ _ _ _ _ ?h0ᵣ ?h1ᵣ ?h2ᵣ ?h3ᵣ ?h4ᵣ ?h5ᵣ ?h6ᵣ) ?Bᵣ ?Fᵣ ?Xᵣ ?Nᵣ ?Tᵣ ?XBᵣ ?TBᵣ ?Dᵣ ?dᵣ ?uᵣ ?_; (case Bᵣ => k_asm); (case Fᵣ => k_asm); (case Xᵣ => k_asm); (case Nᵣ => k_asm); (case Tᵣ => k_asm); (case XBᵣ => k_asm); (case TBᵣ => k_asm); (case Dᵣ => k_asm); (case h5ᵣ => assumption); (case h0ᵣ => assumption); (case h1ᵣ => (first | assumption | exact Nat.le_trans (by assumption) (by decide) | omega)); (case h2ᵣ => assumption); (case h3ᵣ => assumption); (case h4ᵣ => assumption); (case h6ᵣ => k_all); (case dᵣ => ktr_room); (case uᵣ => ((try simp only [units_deeper, units_under_make]); ktr_units)); k_whole; rintro _ h'ᵣ g'ᵣ tk'ᵣ led9ᵣ t'ᵣ b'ᵣ F'ᵣ x'ᵣ p'ᵣ d'ᵣ N'ᵣ ⟨u9ᵣ, rv9ᵣ, e1ᵣ, hrv9ᵣ, e2ᵣ⟩; subst e1ᵣ; subst e2ᵣ; (try dsimp only)))) | ((k_here; (with_reducible show wpAny _ _ (call (Value.ref 769) _) _ _ _); k_dflt (refine' useP (is_t _ _ _ _ _ _ _ _ _ _ _ _ _ _ _ _ ?h0ᵣ ?h1ᵣ ?h2ᵣ ?h3ᵣ ?h4ᵣ ?h5ᵣ ?h6ᵣ ?h7ᵣ) ?Bᵣ ?Fᵣ ?Xᵣ ?Nᵣ ?Tᵣ ?dᵣ ?uᵣ ?_; (case Bᵣ => k_asm); (case Fᵣ => k_asm); (case Xᵣ => k_asm); (case Nᵣ => k_asm); (case Tᵣ => k_asm); (case h0ᵣ => assumption); (case h1ᵣ => k_mem); (case h2ᵣ => assumption); (case h3ᵣ => assumption); (case h4ᵣ => (refine KeysIn.mono (by assumption) ?_; k_all)); (case h5ᵣ => (refine SigsIn.mono (by assumption) ?_; k_all)); (case h6ᵣ => assumption); (case h7ᵣ => assumption); (case dᵣ => ktr_room); (case uᵣ => ((try simp only [units_deeper, units_under_make]); ktr_units)); k_whole; rintro _ h'ᵣ tk'ᵣ _ F'ᵣ N'ᵣ ⟨e19ᵣ, e29ᵣ⟩; subst e19ᵣ; subst e29ᵣ; (try dsimp only)))) | ((with_reducible show wpAny _ _ (getMethod (Value.ref _) _ _) _ _ _); (k_here; k_dflt (refine' MethIs.use (by assumption) ?Fᵣ ?Xᵣ ?Nᵣ ?sᵣ ?_; (case Fᵣ => k_asm); (case Xᵣ => k_asm); (case Nᵣ => k_asm); (case sᵣ => k_all); k_whole))) | ((k_here; (with_reducible show wpAny _ _ (call (Value.ref 362) _) _ _ _); k_dflt (refine' useT ((by assumption : GvrAll _ _ _ _ _ _ _ _ _ _) _ _ _ ?hsubᵣ) ?Bᵣ ?Fᵣ ?Xᵣ ?Nᵣ ?Tᵣ ?XBᵣ ?TBᵣ ?Dᵣ ?dᵣ ?uᵣ ?_; (case Bᵣ => k_asm); (case Fᵣ => k_asm); (case Xᵣ => k_asm); (case Nᵣ => k_asm); (case Tᵣ => k_asm); (case XBᵣ => k_asm); (case TBᵣ => k_asm); (case Dᵣ => k_asm); (case hsubᵣ => k_all); (case dᵣ => ktr_room); (case uᵣ => ((try simp only [units_deeper, units_under_make]); ktr_units)); k_whole; rintro _ h'ᵣ g'ᵣ tk'ᵣ led9ᵣ t'ᵣ b'ᵣ F'ᵣ x'ᵣ p'ᵣ d'ᵣ N'ᵣ ⟨vrᵣ, e1ᵣ, hsub9ᵣ, hvr9ᵣ⟩; subst e1ᵣ; (try dsimp only)))) | ((with_reducible show wpAny _ _ (call (Value.builtin "len") _) _ _ _); (k_here; k_dflt (refine' len_strs_led ?Nᵣ ?mᵣ ?dᵣ ?zᵣ ?_; (case Nᵣ => k_asm); (case mᵣ => k_mem); (case dᵣ => assumption); (case zᵣ => (first | assumption | exact Nat.le_trans (by assumption) (by decide) | omega))))) | ((k_here; (with_reducible show wpAny _ _ (call (Value.ref 764) _) _ _ _); k_dflt (refine' useP (due_t _ _ _ _ _ _ _ _ _ _ _ _ _ ?h1ᵣ ?h2ᵣ ?h3ᵣ ?h4ᵣ ?h5ᵣ ?h6ᵣ ?h7ᵣ) ?Bᵣ ?Fᵣ ?Xᵣ ?Nᵣ ?Tᵣ ?dᵣ ?uᵣ ?_; (case Bᵣ => k_asm); (case Fᵣ => k_asm); (case Xᵣ => k_asm); (case Nᵣ => k_asm); (case Tᵣ => k_asm); (case h1ᵣ => k_mem); (case h2ᵣ => assumption); (case h3ᵣ => assumption); (case h4ᵣ => (refine KeysIn.mono (by assumption) ?_; k_all)); (case h5ᵣ => (refine SigsIn.mono (by assumption) ?_; k_all)); (case h6ᵣ => assumption); (case h7ᵣ => assumption); (case dᵣ => ktr_room); (case uᵣ => ((try simp only [units_deeper, units_under_make]); ktr_units)); k_whole; rintro _ h'ᵣ tk'ᵣ _ F'ᵣ N'ᵣ ⟨T9ᵣ, S9ᵣ, U9ᵣ, ys9ᵣ, zs9ᵣ, n19ᵣ, n29ᵣ, n39ᵣ, e19ᵣ, e29ᵣ, hs9ᵣ, hu9ᵣ⟩; subst e19ᵣ; subst e29ᵣ; (try dsimp only)))) | ((with_reducible show ite _ _ _); first | (exfalso; (first | assumption | exact Nat.le_trans (by assumption) (by decide) | omega)) | (refine' ite_yes ?cᵣ ?_; (case cᵣ => (first | (simp only [decide_eq_true_eq, beq_iff_eq, bne_iff_ne, ne_eq]; (first | assumption | exact Nat.le_trans (by assumption) (by decide) | omega)) | (first | assumption | exact Nat.le_trans (by assumption) (by decide) | omega)))) | (refine' ite_no ?cᵣ ?_; (case cᵣ => (first | (simp only [decide_eq_true_eq, beq_iff_eq, bne_iff_ne, ne_eq]; (first | assumption | exact Nat.le_trans (by assumption) (by decide) | omega)) | (first | assumption | exact Nat.le_trans (by assumption) (by decide) | omega))))) | walk1 | (dsimp only; walk1))) | (leave1; walk_say "STEP leave1"; try dsimp only) | fail "no step"))
  all_goals
    rename ∀ p ∈ led, p ∈ _ => hsub
    refine' hQ _ _ _ _ _ ?tT ?tB ?tX ?tP ?tD ?tF ?tS ?tN
    case tF => k_asm
    case tN => k_asm
    case tB => k_asm
    case tX => k_asm
    case tP => k_asm
    case tD => k_asm
    case tS => exact fun p hp => (by (repeat refine List.mem_cons_of_mem _ ?_); exact hsub p hp)
    case tT => exact (KtsTurn.trans (KtsTurn.trans (by assumption) (by assumption)) (by assumption))
/-- the law's variables that its loop leaves alone -/
structure LV (x1 l1 kd1 x2 l2 kd2 sd : Addr) (th1 v1 th2 v2 : Int) (P : PySem.Str) (t3 t4 t5 t6 t7 : Tok) (mr : Str → Option Value) : Prop where
  a1 : mr (Str.ofString "one") = some (.ref x1)
  a2 : mr (Str.ofString "role") = some (.ref l1)
  a3 : mr (Str.ofString "threshold") = some (.int th1 t3)
  a4 : mr (Str.ofString "keys") = some (.ref kd1)
  a5 : mr (Str.ofString "payload") = some (.bytes (bytesOf P) t4)
  a6 : mr (Str.ofString "signatures") = some (.ref sd)
  a7 : mr (Str.ofString "other") = some (.ref x2)
  a8 : mr (Str.ofString "role2") = some (.ref l2)
  a9 : mr (Str.ofString "threshold2") = some (.int th2 t5)
  b1 : mr (Str.ofString "keys2") = some (.ref kd2)
  b2 : mr (Str.ofString "version") = some (.int v1 t6)
  b3 : mr (Str.ofString "version2") = some (.int v2 t7)
def lvNames : List PySem.Str := [Str.ofString "one", Str.ofString "role", Str.ofString "threshold", Str.ofString "keys", Str.ofString "payload", Str.ofString "signatures", Str.ofString "other", Str.ofString "role2", Str.ofString "threshold2", Str.ofString "keys2", Str.ofString "version", Str.ofString "version2"]
theorem LV.set {x1 l1 kd1 x2 l2 kd2 sd : Addr} {th1 v1 th2 v2 : Int} {P : PySem.Str} {t3 t4 t5 t6 t7 : Tok} {mr : Str → Option Value} {y : PySem.Str} {v : Option Value} (hy : lvNames.contains y = false) (h : LV x1 l1 kd1 x2 l2 kd2 sd th1 v1 th2 v2 P t3 t4 t5 t6 t7 mr) :
    LV x1 l1 kd1 x2 l2 kd2 sd th1 v1 th2 v2 P t3 t4 t5 t6 t7 (fun z => if z = y then v else mr z) := by
  have k : ∀ z, lvNames.contains z = true → (if z = y then v else mr z) = mr z := fun z hz => if_neg fun e => by rw [e, hy] at hz; cases hz
  exact ⟨(k _ rfl).trans h.a1, (k _ rfl).trans h.a2, (k _ rfl).trans h.a3, (k _ rfl).trans h.a4, (k _ rfl).trans h.a5, (k _ rfl).trans h.a6, (k _ rfl).trans h.a7, (k _ rfl).trans h.a8, (k _ rfl).trans h.a9, (k _ rfl).trans h.b1, (k _ rfl).trans h.b2, (k _ rfl).trans h.b3⟩
theorem loop_t {w : World} {dp un : Nat} {gd : Option (List Code)} {outer : List Env} {base g : Heap} {L c d rw x1 l1 kd1 x2 l2 kd2 sd : Addr} {s : Shared} {mean : ExcName → Option Value} {mg mb mr : Str → Option Value}
   {o oc op o4 o6 : Obj} {nl : Led} {th1 v1 th2 v2 : Int} {ks1 ks2 : List Int} {kn1 kn2 : Int → Option Addr} {sg : Int → Option PySem.Str} {P : PySem.Str} {t3 t4 t5 t6 t7 : Tok} {Q : Flow → Shared → Prop}
   (B : Below (cTop0 dp un gd outer) base outer g) (F : Fr g L s.heap mr) (X : (K w.params).In g) (N : News g L s.heap ((c, oc) :: (d, o) :: (177, op) :: (465, o4) :: (600, o6) :: nl)) (T : TopM mean mg mb g) (XB : (K w.params).In base) (TB : TopM mean mg mb base) (D : KtsDicts (frs outer) g) (hG : AllBare s.gens) (hdp : dp + 60 < recursionLimit) (hun : un + 20 * 60 < cLine)
   (hc : oc.data = .cell (some (.ref d)))
   (hr1 : mr (Str.ofString "one") = some (.ref x1)) (hr2 : mr (Str.ofString "role") = some (.ref l1)) (hr3 : mr (Str.ofString "threshold") = some (.int th1 t3)) (hr4 : mr (Str.ofString "keys") = some (.ref kd1)) (hr5 : mr (Str.ofString "payload") = some (.bytes (bytesOf P) t4)) (hr6 : mr (Str.ofString "signatures") = some (.ref sd))
   (hr7 : mr (Str.ofString "other") = some (.ref x2)) (hr8 : mr (Str.ofString "role2") = some (.ref l2)) (hr9 : mr (Str.ofString "threshold2") = some (.int th2 t5)) (hra : mr (Str.ofString "keys2") = some (.ref kd2)) (hrb : mr (Str.ofString "version") = some (.int v1 t6)) (hrc : mr (Str.ofString "version2") = some (.int v2 t7))
   (hO : RootOk w nl sd sg P x1 l1 kd1 th1 v1 ks1 kn1) (hO2 : RootOk w nl sd sg P x2 l2 kd2 th2 v2 ks2 kn2) (hx12 : (@Ne Nat x1 x2))
   (W : WD w o rw) (R : RowIn nl rw) (hop : PlaceOk op) (ho4 : PlaceOk o4) (ho6 : PlaceOk o6) (hsep : ∀ p ∈ nl, p.1 ≠ d) (h177 : ∀ p ∈ nl, p.1 ≠ 177) (h465 : ∀ p ∈ nl, p.1 ≠ 465) (h600 : ∀ p ∈ nl, p.1 ≠ 600) (hd177 : (@Ne Nat 177 d)) (hd465 : (@Ne Nat 465 d)) (hd600 : (@Ne Nat 600 d))
   (hs : SigsIn w nl sd sg) (hPa : Ascii P) (hP : DecOk (bytesOf P) P) (hPl : P.length ≤ 10) (hsa : ∀ k tx, sg k = some tx → Ascii tx)
   (hQ : ∀ s', s'.os = s.os → AllBare s'.gens → (∀ g' m' led', KtsTurn (frs outer) g g' → Fr g' L s'.heap m' → News g' L s'.heap led' → Tabs3 led' → Q (.ret (.bool true)) s')) :
   wpAny (model PySem.Challenge.rw_je0043_01.row.toRowW.1 w) ((cTop0 dp un gd outer).deeper (envX "law" ⟨.function, (("script", .local) :: ("w", .cell) :: ("payload", .local) :: ("signatures", .local) :: ("one", .local) :: ("role", .local) :: ("threshold", .local) :: ("keys", .local) :: ("version", .local) :: ("other", .local) :: ("role2", .local) :: ("threshold2", .local) :: ("keys2", .local) :: ("version2", .local) :: ("root", .local) :: ("names", .local) :: ("least", .local) :: ("known", .local) :: ("due", .local) :: ("told", .local) :: ("first", .local) :: ("second", .local) :: ("alone", .local) :: ("_law_draws", .globalImplicit) :: ("range", .globalImplicit) :: ("_law_next", .globalImplicit) :: ("_law_signatures", .globalImplicit) :: ("_law_root", .globalImplicit) :: ("_law_is", .globalImplicit) :: ("len", .globalImplicit) :: ("_law_due", .globalImplicit) :: ("_law_raised", .globalImplicit) :: ("sorted", .globalImplicit) :: ("set", .globalImplicit) :: ("ValueError", .globalImplicit) :: ("_law_targets", .globalImplicit) :: []), false, false, (("fast", .str "script") :: ("fast", .str "w") :: ("fast", .str "k") :: ("fast", .str "payload") :: ("fast", .str "signatures") :: ("fast", .str "one") :: ("fast", .str "role") :: ("fast", .str "threshold") :: ("fast", .str "keys") :: ("fast", .str "version") :: ("fast", .str "other") :: ("fast", .str "role2") :: ("fast", .str "threshold2") :: ("fast", .str "keys2") :: ("fast", .str "version2") :: ("fast", .str "root") :: ("fast", .str "names") :: ("fast", .str "least") :: ("fast", .str "known") :: ("fast", .str "due") :: ("fast", .str "told") :: ("fast", .str "first") :: ("fast", .str "second") :: ("fast", .str "alone") :: [])⟩ L 793 (.ref 792) [("w", c)])) (execs ((topB 33).drop 5) (envX "law" ⟨.function, (("script", .local) :: ("w", .cell) :: ("payload", .local) :: ("signatures", .local) :: ("one", .local) :: ("role", .local) :: ("threshold", .local) :: ("keys", .local) :: ("version", .local) :: ("other", .local) :: ("role2", .local) :: ("threshold2", .local) :: ("keys2", .local) :: ("version2", .local) :: ("root", .local) :: ("names", .local) :: ("least", .local) :: ("known", .local) :: ("due", .local) :: ("told", .local) :: ("first", .local) :: ("second", .local) :: ("alone", .local) :: ("_law_draws", .globalImplicit) :: ("range", .globalImplicit) :: ("_law_next", .globalImplicit) :: ("_law_signatures", .globalImplicit) :: ("_law_root", .globalImplicit) :: ("_law_is", .globalImplicit) :: ("len", .globalImplicit) :: ("_law_due", .globalImplicit) :: ("_law_raised", .globalImplicit) :: ("sorted", .globalImplicit) :: ("set", .globalImplicit) :: ("ValueError", .globalImplicit) :: ("_law_targets", .globalImplicit) :: []), false, false, (("fast", .str "script") :: ("fast", .str "w") :: ("fast", .str "k") :: ("fast", .str "payload") :: ("fast", .str "signatures") :: ("fast", .str "one") :: ("fast", .str "role") :: ("fast", .str "threshold") :: ("fast", .str "keys") :: ("fast", .str "version") :: ("fast", .str "other") :: ("fast", .str "role2") :: ("fast", .str "threshold2") :: ("fast", .str "keys2") :: ("fast", .str "version2") :: ("fast", .str "root") :: ("fast", .str "names") :: ("fast", .str "least") :: ("fast", .str "known") :: ("fast", .str "due") :: ("fast", .str "told") :: ("fast", .str "first") :: ("fast", .str "second") :: ("fast", .str "alone") :: [])⟩ L 793 (.ref 792) [("w", c)])) Q (fun _ _ => False) s := by
  revert X
  k_fill
  w_top off
  intro X
  have T0 : KtsTurn (frs outer) g g := KtsTurn.refl
  have Tz := T
  with_unfolding_all show wpAny _ _ (execs (_ :: _) _) _ _ _
  refine letAV ?_
  intro Vᵣ Aᵣ
  (repeat' (first | (k_unfold; (try dsimp only)) | ((try (with_reducible (show wpAny _ _ (exec _ _) _ _ _); k_fold)); (first | ((with_reducible refine tok_gen3 ?_); intro _) | ((with_reducible show wpAny _ _ (exec (Stmt.For _ _ _ _ _) _) _ _ _); (k_here; refine wpAny_For ?_ (by intro _; with_unfolding_all rfl))) | ((with_reducible show wpAny _ _ (pyIter (Value.ref _)) _ _ _); refine marked3 ?_) | ((with_reducible show wpAny _ _ (eval (Expr.Name _ _) _) _ _ _); (k_here; k_dflt (refine' nameX_L ?Fᵣ ?vᵣ ?_ ?aᵣ ?bᵣ; (case Fᵣ => k_asm); (case aᵣ => rfl); (case bᵣ => rfl); (case vᵣ => first | rfl | assumption); k_whole))) | walk1 | (dsimp only; walk1))) | (leave1; walk_say "STEP leave1"; try dsimp only) | fail "no step"))
  unfold Marked3
  with_unfolding_all show wpAny _ _ (pyIter (Value.ref _)) _ _ _
  rename News g L _ ((_, _) :: (_, _) :: (_, _) :: _) => N5
  rename Fr g L _ _ => F5
  refine' iterGT (vs := [.ref _, .ref _]) (nn := 0) rfl F5 N5 List.mem_cons_self (by rfl) (Turned w (cTop0 dp un gd outer) base outer mean mg mb g) (fun _ m led => LV x1 l1 kd1 x2 l2 kd2 sd th1 v1 th2 v2 P t3 t4 t5 t6 t7 m ∧ led = _) ⟨T0, B, X, T, D⟩ (fun _ h a e => h.T0.none_ a e) ⟨⟨hr1, hr2, hr3, hr4, hr5, hr6, hr7, hr8, hr9, hra, hrb, hrc⟩, rfl⟩ ?src ?turn ?done
  case src =>
    rintro i m led ⟨-, rfl⟩
    exact List.mem_cons_self
  case turn =>
    rintro i v g' m₁ led I oI h tk R' TE hv ⟨T1, B1, X1, Tp1, D1⟩ ⟨V, rfl⟩ hne F1 N1 hTE
    have hsub : ∀ {a b e q r1 r2 r3 r4 r5 : Addr × Obj} {p : Addr × Obj}, p ∈ nl → p ∈ a :: b :: e :: q :: r1 :: r2 :: r3 :: r4 :: r5 :: nl := fun hp => by repeat (first | exact hp | refine List.mem_cons_of_mem _ ?_)
    match i with
    | 0 =>
      obtain rfl := Option.some.inj hv
      refine turn_t B1 F1 X1 N1 Tp1 XB TB D1 hdp hun (by k_mem) V.a5 V.a6 (hO.mono fun p hp => hsub hp) (hs.mono fun p hp => hsub hp) hP hPl ?_
      intro g2 h2 tk2 led2 b2 T2 B2 X2 Tp2 D2 F2 S2 N2
      exact hTE _ _ _ _ _ ⟨KtsTurn.trans T1 T2, B2, X2, Tp2, D2⟩ F2 (newsSub N2 S2) hne ⟨LV.set rfl (LV.set rfl (LV.set rfl (LV.set rfl (LV.set rfl V)))), rfl⟩
    | 1 =>
      obtain rfl := Option.some.inj hv
      refine turn_t B1 F1 X1 N1 Tp1 XB TB D1 hdp hun (by k_mem) V.a5 V.a6 (hO2.mono fun p hp => hsub hp) (hs.mono fun p hp => hsub hp) hP hPl ?_
      intro g2 h2 tk2 led2 b2 T2 B2 X2 Tp2 D2 F2 S2 N2
      exact hTE _ _ _ _ _ ⟨KtsTurn.trans T1 T2, B2, X2, Tp2, D2⟩ F2 (newsSub N2 S2) hne ⟨LV.set rfl (LV.set rfl (LV.set rfl (LV.set rfl (LV.set rfl V)))), rfl⟩
    | i + 2 => cases hv
  case done =>
    rintro g' m led h tk ⟨T1, B1, X1, Tp1, D1⟩ ⟨V, rfl⟩ F1 N1
    dsimp only
    with_unfolding_all show wpAny _ _ (execs _ _) _ _ _
    refine try_t B1 F1 X1 (newsSub N1 fun p hp => List.mem_cons_of_mem _ (List.mem_cons_of_mem _ (List.mem_cons_of_mem _ hp))) Tp1 XB TB D1 hG hdp hun hc V.a1 V.a2 V.a3 V.a4 V.a5 V.a6 V.a7 V.a8 V.a9 V.b1 V.b2 V.b3 hO hO2 hx12 W R hop ho4 ho6 hsep h177 h465 h600 hd177 hd465 hd600 hs hPa hP hPl hsa ?_
    exact fun s' os bare g' m' led' t F N tb => hQ s' os bare g' m' led' (KtsTurn.trans T1 t) F N tb
end
section
-- MyLa
theorem sep_mem {fam base : Led} (h : Sep fam base) {p : Addr × Obj} (hp : p ∈ base) : ∀ q ∈ fam, q.1 ≠ p.1 := fun q hq e => h q hq p hp e.symm
/-- the call of `_law_root` in the law -/
theorem root_use {w : World} {dp un : Nat} {gd : Option (List Code)} {cn : Str} {nm : List (Str × NameKind)} {ig ic : Bool} {mo : List (Str × Const)} {a : Addr} {ccd : Value} {cl : List (Str × Addr)} {outer : List Env} {A₀ : Around} {base h₀ : Heap} {L : Addr} {m : Str → Option Value} {s : Shared}
    {mean : ExcName → Option Value} {mg mb : Str → Option Value} {Q E : Value → Shared → Prop} {c d rw sd : Addr} {oc o op o4 o6 : Obj} {nl : Led} {sg : Int → Option PySem.Str} {P : PySem.Str}
    (B : Below A₀ base outer h₀) (F : Fr h₀ L s.heap m) (X : (K w.params).In h₀) (N : News h₀ L s.heap ((c, oc) :: (d, o) :: (177, op) :: (465, o4) :: (600, o6) :: nl)) (T : TopM mean mg mb h₀) (G : AllBare s.gens) (hd : dp + 24 < recursionLimit) (hu : un + 20 * 24 < cLine)
    (W : WD w o rw) (R : RowIn nl rw) (hop : PlaceOk op) (hsep : ∀ p ∈ nl, p.1 ≠ d) (h177 : ∀ p ∈ nl, p.1 ≠ 177) (h465 : ∀ p ∈ nl, p.1 ≠ 465) (h600 : ∀ p ∈ nl, p.1 ≠ 600) (hd177 : (@Ne Nat 177 d)) (hd465 : (@Ne Nat 465 d)) (hd600 : (@Ne Nat 600 d)) (hcd : (@Ne Nat c d)) (hc177 : (@Ne Nat c 177))
    (hs : SigsIn w nl sd sg) (hPa : Ascii P) (hPl : P.length ≤ 10) (hsa : ∀ k tx, sg k = some tx → Ascii tx)
    (h : ∀ T x l kd th v ks kn s' o' op' nl' n t1 t2, Fr h₀ L s'.heap m → News h₀ L s'.heap ((c, oc) :: (d, o') :: (177, op') :: (465, o4) :: (600, o6) :: nl') → s'.os = s.os → AllBare s'.gens → WD w o' rw → RowIn nl' rw → PlaceOk op' → (∀ p ∈ nl, p ∈ nl') →
      (∀ p ∈ nl', p.1 ≠ d) → (∀ p ∈ nl', p.1 ≠ 177) → (∀ p ∈ nl', p.1 ≠ 465) → (∀ p ∈ nl', p.1 ≠ 600) → SigsIn w nl' sd sg → RootOk w nl' sd sg P x l kd th v ks kn → (∀ p ∈ nl, p.1 ≠ x) → (T, ({ cls := .type "tuple", data := .seq #[.ref x, .ref l, .int th t1, .ref kd, .int v t2] n } : Obj)) ∈ nl' → Q (.ref T) s') :
    wpAny (model PySem.Challenge.rw_je0043_01.row.toRowW.1 w) (ktrTop dp un gd cn ⟨.function, nm, ig, ic, mo⟩ L a ccd cl outer) (call (.ref 781) [.ref d]) Q E s := by
  have hsub0 : ∀ p ∈ nl, p ∈ (c, oc) :: (465, o4) :: (600, o6) :: nl := fun p hp => List.mem_cons_of_mem _ (List.mem_cons_of_mem _ (List.mem_cons_of_mem _ hp))
  refine root_t w d rw o op ((c, oc) :: (465, o4) :: (600, o6) :: nl) W (R.mono hsub0) ?_ hop ?_ hd177 dp un gd cn nm ig ic mo a ccd cl outer A₀ base h₀ L m s mean mg mb Q E B F X (newsSub N fun p hp => by simp only [List.mem_cons] at hp ⊢; grind) T G hd hu ?_
  · exact List.forall_mem_cons.mpr ⟨hcd, List.forall_mem_cons.mpr ⟨hd465, List.forall_mem_cons.mpr ⟨hd600, hsep⟩⟩⟩
  · exact List.forall_mem_cons.mpr ⟨hc177, List.forall_mem_cons.mpr ⟨(by decide : (465 : Nat) ≠ 177), List.forall_mem_cons.mpr ⟨(by decide : (600 : Nat) ≠ 177), h177⟩⟩⟩
  rintro r s' news' F' N' os' bare' ⟨T', x, l, kd, th, v, ks, kn, o', op', fam, rfl, rfl, W', hop', hS, hR⟩
  have hfam : ∀ p ∈ fam, p ∈ fam ++ nl := fun p hp => List.mem_append_left _ hp
  have hnl : ∀ p ∈ nl, p ∈ fam ++ nl := fun p hp => List.mem_append_right _ hp
  obtain ⟨hO, n, t1, t2, hT⟩ := rootOk_of hR hfam (hs.mono hnl) hPa hPl hsa
  have hx : ∃ ox, (x, ox) ∈ fam := by
    obtain ⟨kd', rr, l', vs, n, n', t1, t2, hT, ⟨dx, rd, ud, r1, r2, r3, ord, n2, sv, u1, u2, u3, u4, u5, u6, u7, u8, u9, u10, u11, h1, h2, h3, h4, h5⟩, _⟩ := hR
    exact ⟨_, h1⟩
  obtain ⟨ox, hx⟩ := hx
  refine h T' x l kd th v ks kn s' o' op' (fam ++ nl) n t1 t2 F' (newsSub N' fun p hp => by simp only [List.mem_cons, List.mem_append] at hp ⊢; grind) os' bare' W' (R.mono hnl) hop' hnl (nl_ne (sep_mem hS List.mem_cons_self) hsep) (nl_ne (sep_mem hS (List.mem_cons_of_mem _ List.mem_cons_self)) h177)
    (nl_ne (sep_mem hS (p := (465, o4)) (by simp)) h465) (nl_ne (sep_mem hS (p := (600, o6)) (by simp)) h600) (hs.mono hnl) hO (fun p hp => hS _ hx p (by simp [hp])) hT


local macro_rules | `(tactic| k_mem) => `(tactic| first | exact List.mem_cons_self | (refine List.mem_cons_of_mem _ ?_; k_mem) | assumption | (refine sub_mem (by assumption) ?_; k_mem) | ktr_member)
theorem roots_t {w : World} {dp un : Nat} {gd : Option (List Code)} {outer : List Env} {base g : Heap} {L c d rw sd : Addr} {s : Shared} {mean : ExcName → Option Value} {mg mb mr : Str → Option Value}
   {o oc op o4 o6 : Obj} {nl : Led} {sg : Int → Option PySem.Str} {P : PySem.Str} {t4 : Tok} {Q : Flow → Shared → Prop}
   (B : Below (cTop0 dp un gd outer) base outer g) (F : Fr g L s.heap mr) (X : (K w.params).In g) (N : News g L s.heap ((c, oc) :: (d, o) :: (177, op) :: (465, o4) :: (600, o6) :: nl)) (T : TopM mean mg mb g) (XB : (K w.params).In base) (TB : TopM mean mg mb base) (D : KtsDicts (frs outer) g) (hG : AllBare s.gens) (hdp : dp + 60 < recursionLimit) (hun : un + 20 * 60 < cLine)
   (hc : oc.data = .cell (some (.ref d)))
   (hr5 : mr (Str.ofString "payload") = some (.bytes (bytesOf P) t4)) (hr6 : mr (Str.ofString "signatures") = some (.ref sd))
   (W : WD w o rw) (R : RowIn nl rw) (hop : PlaceOk op) (ho4 : PlaceOk o4) (ho6 : PlaceOk o6) (hsep : ∀ p ∈ nl, p.1 ≠ d) (h177 : ∀ p ∈ nl, p.1 ≠ 177) (h465 : ∀ p ∈ nl, p.1 ≠ 465) (h600 : ∀ p ∈ nl, p.1 ≠ 600) (hd177 : (@Ne Nat 177 d)) (hd465 : (@Ne Nat 465 d)) (hd600 : (@Ne Nat 600 d)) (hcd : (@Ne Nat c d)) (hc177 : (@Ne Nat c 177))
   (hs : SigsIn w nl sd sg) (hPa : Ascii P) (hP : DecOk (bytesOf P) P) (hPl : P.length ≤ 10) (hsa : ∀ k tx, sg k = some tx → Ascii tx)
   (hQ : ∀ s', s'.os = s.os → AllBare s'.gens → (∀ g' m' led', KtsTurn (frs outer) g g' → Fr g' L s'.heap m' → News g' L s'.heap led' → Tabs3 led' → Q (.ret (.bool true)) s')) :
   wpAny (model PySem.Challenge.rw_je0043_01.row.toRowW.1 w) ((cTop0 dp un gd outer).deeper (envX "law" ⟨.function, (("script", .local) :: ("w", .cell) :: ("payload", .local) :: ("signatures", .local) :: ("one", .local) :: ("role", .local) :: ("threshold", .local) :: ("keys", .local) :: ("version", .local) :: ("other", .local) :: ("role2", .local) :: ("threshold2", .local) :: ("keys2", .local) :: ("version2", .local) :: ("root", .local) :: ("names", .local) :: ("least", .local) :: ("known", .local) :: ("due", .local) :: ("told", .local) :: ("first", .local) :: ("second", .local) :: ("alone", .local) :: ("_law_draws", .globalImplicit) :: ("range", .globalImplicit) :: ("_law_next", .globalImplicit) :: ("_law_signatures", .globalImplicit) :: ("_law_root", .globalImplicit) :: ("_law_is", .globalImplicit) :: ("len", .globalImplicit) :: ("_law_due", .globalImplicit) :: ("_law_raised", .globalImplicit) :: ("sorted", .globalImplicit) :: ("set", .globalImplicit) :: ("ValueError", .globalImplicit) :: ("_law_targets", .globalImplicit) :: []), false, false, (("fast", .str "script") :: ("fast", .str "w") :: ("fast", .str "k") :: ("fast", .str "payload") :: ("fast", .str "signatures") :: ("fast", .str "one") :: ("fast", .str "role") :: ("fast", .str "threshold") :: ("fast", .str "keys") :: ("fast", .str "version") :: ("fast", .str "other") :: ("fast", .str "role2") :: ("fast", .str "threshold2") :: ("fast", .str "keys2") :: ("fast", .str "version2") :: ("fast", .str "root") :: ("fast", .str "names") :: ("fast", .str "least") :: ("fast", .str "known") :: ("fast", .str "due") :: ("fast", .str "told") :: ("fast", .str "first") :: ("fast", .str "second") :: ("fast", .str "alone") :: [])⟩ L 793 (.ref 792) [("w", c)])) (execs ((topB 33).drop 3) (envX "law" ⟨.function, (("script", .local) :: ("w", .cell) :: ("payload", .local) :: ("signatures", .local) :: ("one", .local) :: ("role", .local) :: ("threshold", .local) :: ("keys", .local) :: ("version", .local) :: ("other", .local) :: ("role2", .local) :: ("threshold2", .local) :: ("keys2", .local) :: ("version2", .local) :: ("root", .local) :: ("names", .local) :: ("least", .local) :: ("known", .local) :: ("due", .local) :: ("told", .local) :: ("first", .local) :: ("second", .local) :: ("alone", .local) :: ("_law_draws", .globalImplicit) :: ("range", .globalImplicit) :: ("_law_next", .globalImplicit) :: ("_law_signatures", .globalImplicit) :: ("_law_root", .globalImplicit) :: ("_law_is", .globalImplicit) :: ("len", .globalImplicit) :: ("_law_due", .globalImplicit) :: ("_law_raised", .globalImplicit) :: ("sorted", .globalImplicit) :: ("set", .globalImplicit) :: ("ValueError", .globalImplicit) :: ("_law_targets", .globalImplicit) :: []), false, false, (("fast", .str "script") :: ("fast", .str "w") :: ("fast", .str "k") :: ("fast", .str "payload") :: ("fast", .str "signatures") :: ("fast", .str "one") :: ("fast", .str "role") :: ("fast", .str "threshold") :: ("fast", .str "keys") :: ("fast", .str "version") :: ("fast", .str "other") :: ("fast", .str "role2") :: ("fast", .str "threshold2") :: ("fast", .str "keys2") :: ("fast", .str "version2") :: ("fast", .str "root") :: ("fast", .str "names") :: ("fast", .str "least") :: ("fast", .str "known") :: ("fast", .str "due") :: ("fast", .str "told") :: ("fast", .str "first") :: ("fast", .str "second") :: ("fast", .str "alone") :: [])⟩ L 793 (.ref 792) [("w", c)])) Q (fun _ _ => False) s := by
  revert X
  k_fill
  w_top off
  intro X
  have Tz := T
  with_unfolding_all show wpAny _ _ (execs (_ :: _) _) _ _ _
  refine letAV ?_
  intro Vᵣ Aᵣ
  (repeat' (first | (k_unfold; (try dsimp only)) | ((try (with_reducible (show wpAny _ _ (exec _ _) _ _ _); k_fold)); (first | ((with_reducible refine tok_gen3 ?_); intro _) | ((k_here; (with_reducible show wpAny _ _ (call (Value.ref 781) _) _ _ _); refine marked3 ?_)) | walk1 | (dsimp only; walk1))) | (leave1; walk_say "STEP leave1"; try dsimp only) | fail "no step"))
  unfold Marked3
  refine' root_use (by assumption) ?zF X N T hG ?zd ?zu W R hop hsep h177 h465 h600 hd177 hd465 hd600 hcd hc177 hs hPa hPl hsa ?_
  case zF => k_asm
  case zd => ktr_room
  case zu => ((try simp only [units_deeper, units_under_make]); ktr_units)
  intro T1 x1 l1 kd1 th1 v1 ks1 kn1 s1 o1 op1 nl1 n1 u1 u2 F1 N1 os1 bare1 W1 R1 hop1 hsub1 hsep1 h1771 h4651 h6001 hs1 hO1 _ hT1
  try dsimp only at os1
  (repeat' (first | (k_unfold; (try dsimp only)) | ((try (with_reducible (show wpAny _ _ (exec _ _) _ _ _); k_fold)); (first | ((with_reducible refine tok_gen3 ?_); intro _) | ((k_here; (with_reducible show wpAny _ _ (call (Value.ref 781) _) _ _ _); refine marked3 ?_)) | walk1 | (dsimp only; walk1))) | (leave1; walk_say "STEP leave1"; try dsimp only) | fail "no step"))
  unfold Marked3
  rename News g L _ _ => N5
  refine' root_use (by assumption) ?zF X N5 T ?zG ?zd ?zu W1 R1 hop1 hsep1 h1771 h4651 h6001 hd177 hd465 hd600 hcd hc177 hs1 hPa hPl hsa ?_
  case zF => k_asm
  case zd => ktr_room
  case zu => ((try simp only [units_deeper, units_under_make]); ktr_units)
  case zG => assumption
  intro T2 x2 l2 kd2 th2 v2 ks2 kn2 s2 o2 op2 nl2 n2 u3 u4 F2 N2 os2 bare2 W2 R2 hop2 hsub2 hsep2 h1772 h4652 h6002 hs2 hO2 hx2 hT2
  obtain ⟨kd', rr, hroot⟩ := hO1.root
  have hx12 : (@Ne Nat x1 x2) := by
    obtain ⟨dx, rd, ud, r1, r2, r3, ord, n2, sv, u1, u2, u3, u4, u5, u6, u7, u8, u9, u10, u11, h1, _⟩ := hroot
    exact hx2 _ h1
  try dsimp only at os2
  (repeat' (first | (k_unfold; (try dsimp only)) | ((try (with_reducible (show wpAny _ _ (exec _ _) _ _ _); k_fold)); (first | ((with_reducible refine tok_gen3 ?_); intro _) | ((k_here; (with_reducible show wpAny _ _ (execs (Stmt.For (Expr.Tuple _ _ _) _ _ _ _ :: _) _) _ _ _); refine marked3 ?_)) | walk1 | (dsimp only; walk1))) | (leave1; walk_say "STEP leave1"; try dsimp only) | fail "no step"))
  unfold Marked3
  rename News g L _ _ => N7
  rename Fr g L _ _ => F7
  refine' loop_t B F7 X N7 T XB TB D ?zG hdp hun hc ?r1 ?r2 ?r3 ?r4 ?r5 ?r6 ?r7 ?r8 ?r9 ?ra ?rb ?rc (hO1.mono hsub2) hO2 hx12 W2 R2 hop2 ho4 ho6 hsep2 h1772 h4652 h6002 hd177 hd465 hd600 hs2 hPa hP hPl hsa (fun s' os bare => hQ s' (os.trans (os2.trans os1)) bare)
  case zG => assumption
  case r1 => rfl
  case r2 => rfl
  case r3 => rfl
  case r4 => rfl
  case r5 => assumption
  case r6 => assumption
  case r7 => rfl
  case r8 => rfl
  case r9 => rfl
  case ra => rfl
  case rb => rfl
  case rc => rfl
end
section
-- MyLs

local macro_rules | `(tactic| k_all) => `(tactic| (refine List.forall_mem_cons.mpr ⟨?a, ?b⟩; (case a => k_ne); (case b => k_all)))


theorem news_swap {h₀ h : Heap} {L : Addr} {a b : Addr × Obj} {tl : Led} (N : News h₀ L h (a :: b :: tl)) : News h₀ L h (b :: a :: tl) :=
  newsSub N (fun p hp => by simp only [List.mem_cons] at hp ⊢; grind)
theorem join_one (l : List Nat) (h : l.length ≤ 3) : PySem.Txt.join (Str.ofString "") (l.map fun c => (⟨#[c]⟩ : PySem.Str)) = ⟨l.toArray⟩ := by
  match l, h with
  | [], _ => rfl
  | [a], _ => rfl
  | [a, b], _ => rfl
  | [a, b, c], _ => rfl
  | _ :: _ :: _ :: _ :: _, h => simp at h
theorem one_len (l : List Nat) (h : l.length ≤ 3) : ((l.map fun c => (⟨#[c]⟩ : PySem.Str)).map (·.length)).sum + (l.map fun c => (⟨#[c]⟩ : PySem.Str)).length ≤ 1048576 := by
  have e : ∀ l : List Nat, ((l.map fun c => (⟨#[c]⟩ : PySem.Str)).map (·.length)).sum = l.length := fun l => by
    induction l with
    | nil => rfl
    | cons a r ih => rw [List.map_cons, List.map_cons, List.sum_cons, ih]; show 1 + r.length = _; rw [List.length_cons]; omega
  rw [e, List.length_map]; omega
theorem item_xyz {v : Int} (h0 : 0 ≤ v) (h1 : v < 3) : ∃ c : Nat, PySem.Txt.item (Str.ofString "xyz") v = ⟨#[c]⟩ ∧ (c = 120 ∨ c = 121 ∨ c = 122) := by
  obtain rfl | rfl | rfl : v = 0 ∨ v = 1 ∨ v = 2 := by omega
  · exact ⟨120, by kernel_rfl, by simp⟩
  · exact ⟨121, by kernel_rfl, by simp⟩
  · exact ⟨122, by kernel_rfl, by simp⟩
theorem start_t {w : World} {dp un : Nat} {gd : Option (List Code)} {outer : List Env} {base g : Heap} {L c ls : Addr} {s : Shared} {mean : ExcName → Option Value} {mg mb mr : Str → Option Value}
   {oc op o4 o6 : Obj} {vs : List Value} {ns : List Int} {Q : Flow → Shared → Prop}
   (B : Below (cTop0 dp un gd outer) base outer g) (F : Fr g L s.heap mr) (X : (K w.params).In g) (N : News g L s.heap ((c, oc) :: (177, op) :: (465, o4) :: (600, o6) :: [])) (T : TopM mean mg mb g) (XB : (K w.params).In base) (TB : TopM mean mg mb base) (D : KtsDicts (frs outer) g) (hG : AllBare s.gens) (hdp : dp + 60 < recursionLimit) (hun : un + 20 * 60 < cLine)
   (hc : oc.data = .cell none) (hr : mr (Str.ofString "script") = some (.ref ls)) (hIs : g.IsList ls vs.toArray) (hvs : IntsAre vs ns) (hn : ns.length ≤ 63)
   (hop : PlaceOk op) (ho4 : PlaceOk o4) (ho6 : PlaceOk o6) (hc177 : (@Ne Nat c 177)) (hc465 : (@Ne Nat c 465)) (hc600 : (@Ne Nat c 600))
   (hQ : ∀ s', s'.os = s.os → AllBare s'.gens → (∀ g' m' led', KtsTurn (frs outer) g g' → Fr g' L s'.heap m' → News g' L s'.heap led' → Tabs3 led' → Q (.ret (.bool true)) s')) :
   wpAny (model PySem.Challenge.rw_je0043_01.row.toRowW.1 w) ((cTop0 dp un gd outer).deeper (envX "law" ⟨.function, (("script", .local) :: ("w", .cell) :: ("payload", .local) :: ("signatures", .local) :: ("one", .local) :: ("role", .local) :: ("threshold", .local) :: ("keys", .local) :: ("version", .local) :: ("other", .local) :: ("role2", .local) :: ("threshold2", .local) :: ("keys2", .local) :: ("version2", .local) :: ("root", .local) :: ("names", .local) :: ("least", .local) :: ("known", .local) :: ("due", .local) :: ("told", .local) :: ("first", .local) :: ("second", .local) :: ("alone", .local) :: ("_law_draws", .globalImplicit) :: ("range", .globalImplicit) :: ("_law_next", .globalImplicit) :: ("_law_signatures", .globalImplicit) :: ("_law_root", .globalImplicit) :: ("_law_is", .globalImplicit) :: ("len", .globalImplicit) :: ("_law_due", .globalImplicit) :: ("_law_raised", .globalImplicit) :: ("sorted", .globalImplicit) :: ("set", .globalImplicit) :: ("ValueError", .globalImplicit) :: ("_law_targets", .globalImplicit) :: []), false, false, (("fast", .str "script") :: ("fast", .str "w") :: ("fast", .str "k") :: ("fast", .str "payload") :: ("fast", .str "signatures") :: ("fast", .str "one") :: ("fast", .str "role") :: ("fast", .str "threshold") :: ("fast", .str "keys") :: ("fast", .str "version") :: ("fast", .str "other") :: ("fast", .str "role2") :: ("fast", .str "threshold2") :: ("fast", .str "keys2") :: ("fast", .str "version2") :: ("fast", .str "root") :: ("fast", .str "names") :: ("fast", .str "least") :: ("fast", .str "known") :: ("fast", .str "due") :: ("fast", .str "told") :: ("fast", .str "first") :: ("fast", .str "second") :: ("fast", .str "alone") :: [])⟩ L 793 (.ref 792) [("w", c)])) (execs (topB 33) (envX "law" ⟨.function, (("script", .local) :: ("w", .cell) :: ("payload", .local) :: ("signatures", .local) :: ("one", .local) :: ("role", .local) :: ("threshold", .local) :: ("keys", .local) :: ("version", .local) :: ("other", .local) :: ("role2", .local) :: ("threshold2", .local) :: ("keys2", .local) :: ("version2", .local) :: ("root", .local) :: ("names", .local) :: ("least", .local) :: ("known", .local) :: ("due", .local) :: ("told", .local) :: ("first", .local) :: ("second", .local) :: ("alone", .local) :: ("_law_draws", .globalImplicit) :: ("range", .globalImplicit) :: ("_law_next", .globalImplicit) :: ("_law_signatures", .globalImplicit) :: ("_law_root", .globalImplicit) :: ("_law_is", .globalImplicit) :: ("len", .globalImplicit) :: ("_law_due", .globalImplicit) :: ("_law_raised", .globalImplicit) :: ("sorted", .globalImplicit) :: ("set", .globalImplicit) :: ("ValueError", .globalImplicit) :: ("_law_targets", .globalImplicit) :: []), false, false, (("fast", .str "script") :: ("fast", .str "w") :: ("fast", .str "k") :: ("fast", .str "payload") :: ("fast", .str "signatures") :: ("fast", .str "one") :: ("fast", .str "role") :: ("fast", .str "threshold") :: ("fast", .str "keys") :: ("fast", .str "version") :: ("fast", .str "other") :: ("fast", .str "role2") :: ("fast", .str "threshold2") :: ("fast", .str "keys2") :: ("fast", .str "version2") :: ("fast", .str "root") :: ("fast", .str "names") :: ("fast", .str "least") :: ("fast", .str "known") :: ("fast", .str "due") :: ("fast", .str "told") :: ("fast", .str "first") :: ("fast", .str "second") :: ("fast", .str "alone") :: [])⟩ L 793 (.ref 792) [("w", c)])) Q (fun _ _ => False) s := by
  revert X
  k_fill
  w_top off
  intro X
  have Tz := T
  with_unfolding_all show wpAny _ _ (execs (_ :: _) _) _ _ _
  refine letAV ?_
  intro Vᵣ Aᵣ
  (repeat' (first | (k_unfold; (try dsimp only)) | ((try k_fold); (first | ((with_reducible refine tok_gen3 ?_); intro _) | ((k_here; (with_reducible show wpAny _ _ (call (Value.ref 726) _) _ _ _); refine marked3 ?_)) | ((with_reducible show wpAny _ _ (eval (Expr.Name _ _) _) _ _ _); (k_here; k_dflt (refine' nameX_L ?Fᵣ ?vᵣ ?_ ?aᵣ ?bᵣ; (case Fᵣ => k_asm); (case aᵣ => rfl); (case bᵣ => rfl); (case vᵣ => first | rfl | assumption); k_whole))) | walk1)) | (dsimp only; walk1) | (leave1; walk_say "STEP leave1"; try dsimp only) | fail "no step"))
  unfold Marked3
  refine' draws_t w ls vs ns _ hvs hn _ _ _ _ _ _ _ _ _ _ _ _ _ base g L _ _ mean mg mb _ _ ?zB ?zF X N T hIs ?zd ?zu ?_
  case zB => assumption
  case zF => k_asm
  case zd => ktr_room
  case zu => ((try simp only [units_deeper, units_under_make]); ktr_units)
  rintro _ h1 tk1 _ F1 N1 ⟨d, o, rw, ys, n, rfl, rfl, W, hys, hyl, hlt, hab⟩
  (repeat' (first | (k_unfold; (try dsimp only)) | ((try k_fold); (first | ((with_reducible refine tok_gen3 ?_); intro _) | walk1)) | (dsimp only; walk1) | (leave1; walk_say "STEP leave1"; try dsimp only) | fail "no step"))
  have e1 : @LT.lt Nat _ c rw := hab (c, oc) List.mem_cons_self
  have e2 : @LT.lt Nat _ 177 rw := hab (177, op) (by simp)
  have e3 : @LT.lt Nat _ 465 rw := hab (465, o4) (by simp)
  have e4 : @LT.lt Nat _ 600 rw := hab (600, o6) (by simp)
  have e5 : @LT.lt Nat _ rw d := hlt
  obtain ⟨nl, hnl⟩ : ∃ nl, nl = [(rw, listOf ys.toArray n)] := ⟨_, rfl⟩
  have N2 : News g L h1 ((c, oc) :: (d, o) :: (177, op) :: (465, o4) :: (600, o6) :: nl) := newsSub N1 (fun p hp => by subst hnl; simp only [List.mem_cons] at hp ⊢; grind)
  have one : ∀ {a : Addr}, (@Ne Nat rw a) → ∀ p ∈ nl, p.1 ≠ a := fun h p hp => by subst hnl; rw [List.mem_singleton.mp hp]; exact h
  have hsep := one (Nat.ne_of_lt e5)
  have h177 := one (Nat.ne_of_gt e2)
  have h465 := one (Nat.ne_of_gt e3)
  have h600 := one (Nat.ne_of_gt e4)
  have hcn := one (Nat.ne_of_gt e1)
  have hcd : (@Ne Nat c d) := Nat.ne_of_lt (Nat.lt_trans e1 e5)
  have hd177 : (@Ne Nat 177 d) := Nat.ne_of_lt (Nat.lt_trans e2 e5)
  have hd465 : (@Ne Nat 465 d) := Nat.ne_of_lt (Nat.lt_trans e3 e5)
  have hd600 : (@Ne Nat 600 d) := Nat.ne_of_lt (Nat.lt_trans e4 e5)
  have R : RowIn nl rw := ⟨ys, n, by rw [hnl]; exact List.mem_singleton.mpr rfl, hys, hyl⟩
  clear hnl one hab N1 N
  refine storeX_C F1 N2 rfl (UpdF.head (List.forall_mem_cons.mpr ⟨Ne.symm hcd, List.forall_mem_cons.mpr ⟨Ne.symm hc177, List.forall_mem_cons.mpr ⟨Ne.symm hc465, List.forall_mem_cons.mpr ⟨Ne.symm hc600, hcn⟩⟩⟩⟩)) hc ?_ rfl rfl
  intro h2 oc2 F2 N3 hc2
  try dsimp only at N3
  clear N2 F1
  (repeat' (first | (k_unfold; (try dsimp only)) | ((try k_fold); (first | ((with_reducible refine tok_gen3 ?_); intro _) | ((with_reducible show wpAny _ _ (eval (Expr.ListComp _ _ _ _) _) _ _ _); (k_here; k_dflt (refine LCg.ListComp_U (F₀ := by k_asm) (by with_unfolding_all rfl) (by decide) (by rfl) (by decide) (by rfl) ?_))) | ((k_here; (with_reducible show wpAny _ _ (call (Value.ref 733) _) _ _ _); k_dflt (refine' next_use ?Bᵣ ?Fᵣ ?Xᵣ ?Nᵣ ?Tᵣ ?tᵣ ?dᵣ ?uᵣ ?mᵣ ?Wᵣ ?Rᵣ ?sᵣ ?_; (case Bᵣ => k_asm); (case Fᵣ => k_asm); (case Xᵣ => k_asm); (case Nᵣ => k_asm); (case Tᵣ => k_asm); (case tᵣ => repeat (first | exact Take.head | apply Take.tail)); (case dᵣ => ktr_room); (case uᵣ => ktr_units); (case mᵣ => decide); (case Wᵣ => assumption); (case Rᵣ => (repeat (first | assumption | apply RowIn.cons))); (case sᵣ => k_all); k_whole; intro v9ᵣ u9ᵣ o9ᵣ h9ᵣ tk9ᵣ hv0ᵣ hv1ᵣ F9ᵣ N9ᵣ W9ᵣ; (try dsimp only)))) | ((with_reducible show LCg.CompSrc _ _ _ _ _ _ _ _ _ _ _ _ _ _); refine marked3 ?_) | walk1)) | (dsimp only; walk1) | (leave1; walk_say "STEP leave1"; try dsimp only) | fail "no step"))
  unfold Marked3
  rename WD _ _ _ => W3
  rename News g L _ _ => N4
  rename Fr g L _ _ => F4
  rename _ < (4 : Int) => hv1
  replace N4 := news_swap N4
  k_dflt (refine LCg.CompSrc.range (by rfl) F4 N4 (by assumption) (small_one (by omega) (by omega) (by omega) (by omega)) (rangeSize_nat _ _) (by rw [sizeLine_eq]; omega) ?_)
  intro g'
  refine' comp_inv (fun i ys nw => ∃ o' l, nw = (c, oc2) :: (d, o') :: (177, op) :: (465, o4) :: (600, o6) :: nl ∧ WD w o' rw ∧ StrsAre ys (l.map fun c => (⟨#[c]⟩ : PySem.Str)) ∧ l.length = i ∧ ∀ x ∈ l, x = 120 ∨ x = 121 ∨ x = 122) ⟨_, [], rfl, W3, .nil, rfl, fun _ h => nomatch h⟩ ?_ ?_
  · rintro i v ys nw I oI C oC D m₂ h tk E' hi hv ⟨o', l, rfl, W4, hys4, hl4, hc4⟩ hC hx F5 N5 off ne
    have hc1 : (@Ne Nat c I) ∧ (@Ne Nat c C) ∧ (@Ne Nat c D) := off.1
    have hd1 : (@Ne Nat d I) ∧ (@Ne Nat d C) ∧ (@Ne Nat d D) := off.2.1
    have hof := off.2.2
    (repeat' (first | (k_unfold; (try dsimp only)) | ((try k_fold); (first | ((with_reducible refine tok_gen3 ?_); intro _) | ((k_here; (with_reducible show wpAny _ _ (call (Value.ref 733) _) _ _ _); k_dflt (refine' next_use ?Bᵣ ?Fᵣ ?Xᵣ ?Nᵣ ?Tᵣ ?tᵣ ?dᵣ ?uᵣ ?mᵣ ?Wᵣ ?Rᵣ ?sᵣ ?_; (case Bᵣ => k_asm); (case Fᵣ => k_asm); (case Xᵣ => k_asm); (case Nᵣ => k_asm); (case Tᵣ => k_asm); (case tᵣ => repeat (first | exact Take.head | apply Take.tail)); (case dᵣ => ktr_room); (case uᵣ => ktr_units); (case mᵣ => decide); (case Wᵣ => assumption); (case Rᵣ => (repeat (first | assumption | apply RowIn.cons))); (case sᵣ => k_all); k_whole; intro v9ᵣ u9ᵣ o9ᵣ h9ᵣ tk9ᵣ hv0ᵣ hv1ᵣ F9ᵣ N9ᵣ W9ᵣ; (try dsimp only)))) | walk1)) | (dsimp only; walk1) | (leave1; walk_say "STEP leave1"; try dsimp only) | fail "no step"))
    obtain ⟨cx, hcx, hcc⟩ := item_xyz (by assumption) (by assumption)
    rw [hcx]
    refine compEnd0 (by k_asm) (by k_asm) ⟨hc1, hd1, hof⟩ trivial ⟨_, l ++ [cx], rfl, by assumption, ?_, by rw [List.length_append, List.length_singleton, hl4], ?_⟩
    · rw [List.map_append]
      exact kct_snoc hys4
    · intro x hx
      rcases List.mem_append.mp hx with hx | hx
      · exact hc4 x hx
      · rw [List.mem_singleton.mp hx]; exact hcc
  · rintro ys nw ⟨o', l, rfl, W4, hys4, hl4, hc4⟩
    intro Dj h tk F5 N5 off
    have off' := off1_mem off
    have hl3 : l.length ≤ 3 := by omega
    obtain ⟨hPay, hPa, hPl⟩ := pay_ok l hl3 hc4
    have hEn := encOk_of hPa
    (repeat' (first | (k_unfold; (try dsimp only)) | ((try k_fold); (first | ((with_reducible refine tok_gen3 ?_); intro _) | ((with_reducible show wpAny _ _ (call (Value.builtin "str.join") _) _ _ _); refine marked3 ?_) | walk1)) | (dsimp only; walk1) | (leave1; walk_say "STEP leave1"; try dsimp only) | fail "no step"))
    unfold Marked3
    refine join_listW (led_list N5 (by k_mem)) hys4 (by decide) ?zw ?_
    case zw => exact one_len l hl3
    intro tj kj
    rw [join_one l hl3]
    (repeat' (first | (k_unfold; (try dsimp only)) | ((try k_fold); (first | ((with_reducible refine tok_gen3 ?_); intro _) | ((with_reducible show wpAny _ _ (call (Value.builtin "str.encode") _) _ _ _); (k_here; k_dflt (refine encOk_of (by assumption) _ _ _ _ _ _ _ _ ?_; intro _ _))) | ((with_reducible show wpAny _ _ (getMethod (Value.str _ _) _ _) _ _ _); (k_here; with_reducible refine gm_encode ?_)) | ((k_here; (with_reducible show wpAny _ _ (call (Value.ref 757) _) _ _ _); refine marked3 ?_)) | ((with_reducible show wpAny _ _ (eval (Expr.Name _ _) _) _ _ _); (k_here; k_dflt (refine' nameX_L ?Fᵣ ?vᵣ ?_ ?aᵣ ?bᵣ; (case Fᵣ => k_asm); (case aᵣ => rfl); (case bᵣ => rfl); (case vᵣ => first | rfl | assumption); k_whole))) | walk1)) | (dsimp only; walk1) | (leave1; walk_say "STEP leave1"; try dsimp only) | fail "no step"))
    unfold Marked3
    rename News g L _ _ => N6
    replace N6 := newsSub (news' := (d, o') :: (c, oc2) :: (177, op) :: (465, o4) :: (600, o6) :: nl) N6 (fun p hp => by simp only [List.mem_cons] at hp ⊢; grind)
    have hnl5 : ∀ p ∈ nl, p ∈ (c, oc2) :: (177, op) :: (465, o4) :: (600, o6) :: nl := fun p hp => List.mem_cons_of_mem _ (List.mem_cons_of_mem _ (List.mem_cons_of_mem _ (List.mem_cons_of_mem _ hp)))
    refine' useP (sigs_t w d rw o' ⟨l.toArray⟩ _ _ ((c, oc2) :: (177, op) :: (465, o4) :: (600, o6) :: nl) W4 (R.mono hnl5) (List.forall_mem_cons.mpr ⟨hcd, List.forall_mem_cons.mpr ⟨hd177, List.forall_mem_cons.mpr ⟨hd465, List.forall_mem_cons.mpr ⟨hd600, hsep⟩⟩⟩⟩) hPay hPa hPl) B ?zF X N6 T ?zd ?zu ?_
    case zF => k_asm
    case zd => ktr_room
    case zu => ((try simp only [units_deeper, units_under_make]); ktr_units)
    rintro _ h7 tk7 _ F7 N7 ⟨sd, o7, sg, fam, rfl, rfl, W7, hfd, hS7, hsa, hab7⟩
    have hm2 : ∀ p ∈ nl, p ∈ fam ++ nl := fun p hp => List.mem_append_right _ hp
    replace N7 := newsSub (news' := (c, oc2) :: (d, o7) :: (177, op) :: (465, o4) :: (600, o6) :: (fam ++ nl)) N7 (fun p hp => by simp only [List.mem_cons, List.mem_append] at hp ⊢; grind)
    (repeat' (first | (k_unfold; (try dsimp only)) | ((try k_fold); (first | ((with_reducible refine tok_gen3 ?_); intro _) | ((k_here; (with_reducible show wpAny _ _ (execs (Stmt.Assign [Expr.Tuple _ _ _] _ _ :: _) _) _ _ _); refine marked3 ?_)) | walk1)) | (dsimp only; walk1) | (leave1; walk_say "STEP leave1"; try dsimp only) | fail "no step"))
    unfold Marked3
    rename News g L _ _ => N8
    rename Fr g L _ _ => F8
    refine' roots_t B F8 X N8 T XB TB D hG hdp hun hc2 ?r5 ?r6 W7 (R.mono hm2) hop ho4 ho6 (nl_ne hfd hsep) (nl_ne (fun q hq => Nat.ne_of_gt (allLt_mem (hab7 q hq) (177, op) (by simp))) h177) (nl_ne (fun q hq => Nat.ne_of_gt (allLt_mem (hab7 q hq) (465, o4) (by simp))) h465)
      (nl_ne (fun q hq => Nat.ne_of_gt (allLt_mem (hab7 q hq) (600, o6) (by simp))) h600) hd177 hd465 hd600 hcd hc177 (hS7.mono fun p hp => List.mem_append_left _ hp) hPa hPay hPl hsa hQ
    case r5 => rfl
    case r6 => rfl
-- MyHj
abbrev ts3 : List Addr := [177, 465, 600]
section
variable {h : Heap} {mean : ExcName → Option Value} {mg mb : Str → Option Value}
theorem hide_at {b : Addr} {o : Obj} (e : h.get? b = some o) (n : ts3.contains b = false) : (hideAll h ts3).get? b = some o :=
  hideAll_get ts3 e fun m => by rw [List.contains_iff_mem.mpr m] at n; cases n
theorem hide_cls (KT : ∀ P ∈ ts3, h.get? P = some (tabObj #[])) {b : Addr} {o : Obj} (e : h.get? b = some o) (hc : o.cls ≠ .none) : (hideAll h ts3).get? b = some o :=
  hideAll_get ts3 e fun m => by rw [KT b m] at e; cases e; exact hc rfl
theorem hide_ns {a : Addr} {m : Str → Option Value} (x : h.Ns a m) (n : ts3.contains a = false) : (hideAll h ts3).Ns a m :=
  let ⟨o, es, ep, e, r⟩ := x; ⟨o, es, ep, hide_at e n, r⟩
theorem recs0 : recsOf q0 = [] := rfl
theorem topM_hide (T : Top q1 (looseW q1 loose1) mean mg mb h) (KT : ∀ P ∈ ts3, h.get? P = some (tabObj #[])) (N : h.NoSeer) : TopM mean mg mb (hideAll h ts3) where
  g := hide_ns T.g rfl
  b := hide_ns T.b rfl
  nolimit := let ⟨mc, a, b⟩ := T.nolimit; ⟨mc, hide_ns a rfl, b⟩
  nodigits := let ⟨mc, a, b⟩ := T.nodigits; ⟨mc, hide_ns a rfl, b⟩
  fn := fun d hd => nomatch hd
  own := fun o ho => nomatch ho
  const := fun x d e => nomatch e
  free := fun x h1 h2 h3 h4 h5 => T.free x h1 (fun m => h2 (List.mem_cons_of_mem _ m)) (fun m => h2 (by
    have e : (recsOf q1).map (·.name) = [Str.ofString "law"] := by kernel_rfl
    rw [e] at m; rw [List.mem_singleton.mp m]; exact List.mem_cons_self)) (fun m => by
    have e : (litsOf q1).map (·.1) = [] := by kernel_rfl
    rw [e] at m; cases m) (fun m => by
    have e : (clssOf q1 (looseW q1 loose1)).map (·.name) = [] := by kernel_rfl
    rw [e] at m; cases m)
  builtins := T.builtins
  tab := fun d hd => nomatch hd
  bmain := let ⟨bm, ob, a, b, e, c, r⟩ := T.bmain; ⟨bm, ob, a, b, hide_cls KT e (by rw [c]; nofun), c, r⟩
  seer := fun _ => { statics := let ⟨mc, a, b⟩ := N.statics; ⟨mc, hide_ns a rfl, b⟩
                     mods := let ⟨mm, a, b⟩ := N.mods; ⟨mm, hide_ns a rfl, b⟩
                     imp := let ⟨mb, a, b⟩ := N.imp; ⟨mb, hide_ns a rfl, b⟩
                     main := let ⟨mg, bm, ob, a, b, e, c, r⟩ := N.main; ⟨mg, bm, ob, hide_ns a rfl, b, hide_cls KT e (by rw [c]; nofun), c, r⟩ }
theorem lookup_memN {β : Type} {l : List (Nat × β)} {a : Nat} {o : β} (e : l.lookup a = some o) : a ∈ l.map (·.1) := by
  induction l with
  | nil => cases e
  | cons p r ih =>
    obtain ⟨b, o'⟩ := p
    rw [List.lookup_cons] at e
    cases hb : (a == b) with
    | true => rw [beq_iff_eq.mp hb]; exact List.mem_cons_self
    | false => rw [hb] at e; exact List.mem_cons_of_mem _ (ih e)
theorem lookup_mem {l : Frag} {a : Addr} {o : Obj} (e : l.lookup a = some o) : a ∈ l.map (·.1) := lookup_memN e
theorem kas_off : Kas.all (fun a => !Nat.beq a 177 && !Nat.beq a 465 && !Nat.beq a 600) = true := by rfl
theorem K_hide {P : Params} (X : (K P).In h) : (K P).In (hideAll h ts3) := fun a o e =>
  hideAll_get ts3 (X a o e) (fun ht => by
    have m : a ∈ Kas := Eq.subst (motive := fun l => a ∈ l) (kas_ok P).symm (lookup_mem e)
    have k := List.all_eq_true.mp kas_off a m
    rcases List.mem_cons.mp ht with rfl | ht
    · cases k
    rcases List.mem_cons.mp ht with rfl | ht
    · cases k
    rw [List.mem_singleton.mp ht] at k
    cases k)
theorem hide_fr {h₁ : Heap} {L : Addr} {m : Str → Option Value} (F : Fr h L h₁ m) : Fr (hideAll h ts3) L h₁ m :=
  ⟨F.ns, fun b o e => F.keep b o (of_hideAll _ e), by rw [hideAll_size]; exact F.above⟩
theorem hide_news {h₁ : Heap} {c : Addr} {oc : Obj} {m : Str → Option Value} (KT : ∀ P ∈ ts3, h.get? P = some (tabObj #[])) (F : Fr h h.objs.size h₁ m) (N : News h h.objs.size h₁ [(c, oc)]) :
    News (hideAll h ts3) h.objs.size h₁ [(c, oc), (177, tabObj #[]), (465, tabObj #[]), (600, tabObj #[])] := by
  have old : ∀ P ∈ ts3, h₁.get? P = some (tabObj #[]) ∧ P ≠ h.objs.size ∧ (hideAll h ts3).get? P = none := fun P hP => ⟨F.keep _ _ (KT P hP), Nat.ne_of_lt (Heap.lt_size (KT P hP)), hideAll_none _ hP⟩
  intro p hp
  rcases List.mem_cons.mp hp with rfl | hp
  · obtain ⟨a, b, c⟩ := N _ List.mem_cons_self
    refine ⟨a, b, ?_⟩
    cases q : (hideAll h ts3).get? _ with
    | none => rfl
    | some o => have := of_hideAll _ q; rw [c] at this; cases this
  rcases List.mem_cons.mp hp with rfl | hp
  · exact old 177 (by decide)
  rcases List.mem_cons.mp hp with rfl | hp
  · exact old 465 (by decide)
  rw [List.mem_singleton.mp hp]
  exact old 600 (by decide)
theorem isCode_of {P : Params} (X : (K P).In h) : ∀ t ∈ ts3, isCodeTable h t := by
  have at' : ∀ {c t : Addr}, CodeHd h c t → isCodeTable h t := fun x => let ⟨o, vs, _, _, _, _, _, _, _, a, b, c, d, _⟩ := x; ⟨_, o, vs, a, b, c, d⟩
  intro t ht
  rcases List.mem_cons.mp ht with rfl | ht
  · exact at' (codeHd_of_K (c := 181) (P := 177) X (by kernel_rfl))
  rcases List.mem_cons.mp ht with rfl | ht
  · exact at' (codeHd_of_K (c := 469) (P := 465) X (by kernel_rfl))
  rw [List.mem_singleton.mp ht]
  exact at' (codeHd_of_K (c := 604) (P := 600) X (by kernel_rfl))
theorem old_end {P : Params} {g' h' : Heap} {L : Addr} {m' : Str → Option Value} {led' : Led} (X : (K P).In h) (KT : ∀ P ∈ ts3, h.get? P = some (tabObj #[])) (T : KtsTurn (frs []) (hideAll h ts3) g') (F : Fr g' L h' m') (N : News g' L h' led') (t3 : Tabs3 led') : OldK h h' := by
  obtain ⟨o1, o2, o3, i1, i2, i3, p1, p2, p3⟩ := t3
  have tab : ∀ t ∈ ts3, ∃ ps, h'.get? t = some (tabObj ps) := by
    have one : ∀ {t : Addr} {o : Obj}, (t, o) ∈ led' → PlaceOk o → ∃ ps, h'.get? t = some (tabObj ps) := fun hm hp => by
      obtain ⟨ps, rfl, _⟩ := hp
      exact ⟨ps, (N _ hm).1⟩
    intro t ht
    rcases List.mem_cons.mp ht with rfl | ht
    · exact one i1 p1
    rcases List.mem_cons.mp ht with rfl | ht
    · exact one i2 p2
    rw [List.mem_singleton.mp ht]
    exact one i3 p3
  have rest : ∀ b o, h.get? b = some o → b ∉ ts3 → h'.get? b = some o := fun b o e n => F.keep _ _ (T.other _ _ (hideAll_get _ e n) (fun m => nomatch m))
  refine ⟨fun b o e => ?_, fun b o e => ?_⟩
  · by_cases hb : b ∈ ts3
    · obtain ⟨ps, hps⟩ := tab b hb
      rw [KT b hb] at e; cases e
      exact .inr (.inl ⟨isCode_of X b hb, rfl, #[], ps, rfl, by rw [hps]; simp⟩)
    · exact .inl (rest b o e hb)
  · by_cases hb : b ∈ ts3
    · obtain ⟨ps, hps⟩ := tab b hb; exact ⟨_, hps⟩
    · exact ⟨o, rest b o e hb⟩
end
end
end Mine
open Mine
theorem PySem.Challenge.cw_je0043_01_holds : PySem.Challenge.rw_je0043_01.Holds := by
  w_on
  refine holds_law well_said fun said => ?_
  refine holds_open (r := rr) (q := q1) (loose := loose1) (Xt := Xt1) (XP := XL q1 []) (Yf := H1.obs) (Ya := H1.val) (YP := H1.says) (N := NN) left_ok (Hook.of H1) (Hook.keeps H1) (fun s e => xl_of s (Bool.and_eq_true_iff.mp e).1) XL.keeps (by rfl) (by rfl) (by rfl) (fun s e => recFacts_of (Bool.and_eq_true_iff.mp e).2) (by rfl) said (by decide +kernel) ⟨rfl, rfl, rfl, rfl, rfl, by decide +kernel⟩ ?hw ?hc
  case hw => w_witness2
  case hc =>
    k_fill
    intro w s₀ s₁ mg mb G Y fa o pm cd doc dV kV ho hd hcd hD hmg hg args vals as hpre hlay hrd hwl hlo
    have KX := km_in_of Y
    have KT := km_tabs_of Y
    have T := G.T
    have hcde := law_code (x := Str.ofString "law") (c := 792) (P := 790) KX T.g (by kernel_rfl) hmg ho hd
    replace hcde : cd = .ref 792 := hcde
    subst hcde
    have hfa : mg (Str.ofString "law") = some (.ref 793) := mg_of KX T.g (by kernel_rfl)
    have hfa2 : fa = 793 := by
      have h : mg (Str.ofString "law") = some (.ref fa) := hmg
      rw [hfa] at h
      cases h
      rfl
    subst hfa2
    clear hmg hfa G
    wrow_args hpre hlay hrd hwl hlo
    all_goals (first | refine callC_kw (enter_call ?_) | refine enter_call ?_ | refine callC_kw (enter_callW ?_) | refine enter_callW ?_ )
    w_top on
    w_call any ho hd hcd hD T F
    clear hd
    rename News _ _ _ [(_, _)] => N0
    rename IntsAre _ _ => hvs
    rename Heap => hh1
    rename Nat => tk1
    rename Heap.IsList _ _ _ => hL
    rename ¬ ((63 : Nat) : Int) < _ => hlen
    refine wpAny_mono (Q := fun f s' => s'.os = s₁.os ∧ AllBare s'.gens ∧ OldK s₁.heap s'.heap ∧ f = .ret (.bool true)) (E := fun _ _ => False) ?run ?good (fun _ _ e => e.elim)
    case good =>
      rintro f s' ⟨os, bare, old, rfl⟩
      refine ⟨.inl ⟨.bool true, .bool true, [], rfl, raisesW_false (by wrow_none_raised), ReadsW.bool _, ?post, unshared_nil⟩, old, os, bare⟩
      case post => exact postW_of (by wrow_shape) (by wtm_val) (by str_meet; first | done | w_fin)
    case run =>
      have hIs : (hideAll s₁.heap ts3).IsList _ _ := let ⟨o, a, b, r⟩ := hL; ⟨o, hide_cls KT a (by rw [b]; nofun), b, r⟩
      have e600 : @LT.lt Nat _ 600 s₁.heap.objs.size := Heap.lt_size (KT 600 (by decide))
      have hcn : ∀ t : Nat, t ≤ 600 → (@Ne Nat (s₁.heap.objs.size + 1) t) := fun t h => Nat.ne_of_gt (Nat.lt_of_le_of_lt h (Nat.lt_succ_of_lt e600))
      have hbare : AllBare s₁.gens := .of_eq hg
      have hrun := start_t (s := { heap := hh1, gens := s₁.gens, drawn := s₁.drawn, toks := tk1, os := s₁.os }) (dp := 1 + claimMargin) (un := 4) (gd := some []) (outer := []) (base := hideAll s₁.heap ts3) (g := hideAll s₁.heap ts3) (below_caller _) (hide_fr F) (K_hide KX) (hide_news KT F N0) (topM_hide T KT (T.seer (by kernel_rfl))) (K_hide KX) (topM_hide T KT (T.seer (by kernel_rfl))) ktsDicts_nil hbare (by decide) (by decide) ?r1 ?r2 hIs hvs (by omega) ?r3 ?r3 ?r3 (hcn 177 (by decide)) (hcn 465 (by decide)) (hcn 600 (by decide)) (Q := fun f s' => s'.os = s₁.os ∧ AllBare s'.gens ∧ OldK s₁.heap s'.heap ∧ f = .ret (.bool true)) ?r4
      case r3 => exact ⟨#[], rfl, trivial⟩
      case r4 => exact fun s' os bare g' m' led' t F' N' t3 => ⟨os, bare, old_end KX KT t F' N' t3, rfl⟩
      case r1 =>
        rename Obj.data _ = Data.cell _ => hdc
        exact hdc.trans (by rfl)
      case r2 => with_unfolding_all rfl
      exact hrun
