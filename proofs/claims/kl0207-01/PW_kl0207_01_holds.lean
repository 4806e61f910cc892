import PyProof.Rows.All
import Wide.All
import OpenK.AllK
import Wide.FinOn
import PySem.Challenge.RW_kl0207_01
set_option Elab.async false
set_option linter.all false
section
open PySem PySem.W PyProof.Rows
set_option maxRecDepth 100000
namespace Mine
/-- the opening, run over the tree of objects -/
noncomputable def impT (tb : String → Option Builtin) (p : Program) (w : World) : Nat → SharedT → Thread → Option SharedT
  | 0, _, _ => none
  | n + 1, s, t => match t.atExitBegin with
    | some [] => some s
    | some (_ :: _) => none
    | none => match stepT (denote tb) p w s t with
      | some (s', t') => impT tb p w n s' t'
      | none => none
theorem impT_of {tb : String → Option Builtin} {p : Program} {w : World} : ∀ {n : Nat} {s s' : SharedT} {t : Thread}, impT tb p w n s t = some s' → importEnds tb p w n s.abs t = some s'.abs
  | 0, _, _, _, h => by cases h
  | n + 1, s, s', t, h => by
    unfold impT at h
    unfold importEnds
    cases he : t.atExitBegin with
    | some l => rw [he] at h; cases l with
      | nil => cases h; rfl
      | cons a l => cases h
    | none =>
      rw [he] at h
      cases hs : stepT (denote tb) p w s t with
      | none => rw [hs] at h; cases h
      | some r => obtain ⟨s₂, t₂⟩ := r; rw [hs] at h; dsimp only; rw [stepT_spec hs]; exact impT_of h
/-- the top, run over the tree of objects -/
noncomputable def topT (tb : String → Option Builtin) (p : Program) (w : World) (n₀ : Nat) (ann : Option Value) : Nat → SharedT → Thread → Option SharedT
  | 0, _, _ => none
  | n + 1, s, t => match through t with
    | true => some s
    | false => match stepOk n₀ ann t with
      | false => none
      | true => match stepT (denote tb) p w s t with
        | some (s', t') => topT tb p w n₀ ann n s' t'
        | none => none
theorem topT_of {tb : String → Option Builtin} {p : Program} {w : World} {n₀ : Nat} {ann : Option Value} : ∀ {n : Nat} {s s' : SharedT} {t : Thread}, topT tb p w n₀ ann n s t = some s' → topRun tb p w n₀ ann n s.abs t = some s'.abs
  | 0, _, _, _, h => by cases h
  | n + 1, s, s', t, h => by
    unfold topT at h
    unfold topRun
    cases ht : through t with
    | true => rw [ht] at h; cases h; rfl
    | false =>
      rw [ht] at h
      cases hk : stepOk n₀ ann t with
      | false => rw [hk] at h; cases h
      | true =>
        rw [hk] at h
        cases hs : stepT (denote tb) p w s t with
        | none => rw [hs] at h; cases h
        | some r => obtain ⟨s₂, t₂⟩ := r; rw [hs] at h; dsimp only; rw [stepT_spec hs]; exact topT_of h
/-- the objects of a heap, laid as a tree -/
noncomputable def plant : List Obj → Nat → BT → Option BT
  | [], _, t => some t
  | o :: r, n, t => match ((t.ins n o).get n).isSome with
    | true => plant r (n + 1) (t.ins n o)
    | false => none
theorem plant_of {life : Life} : ∀ {l : List Obj} {n : Nat} {t t' : BT}, plant l n t = some t' → (absHeap t' (n + l.length) life).objs.toList = (absHeap t n life).objs.toList ++ l
  | [], n, t, t', h => by cases h; simp
  | o :: r, n, t, t', h => by
    unfold plant at h
    cases e : ((t.ins n o).get n).isSome with
    | false => rw [e] at h; cases h
    | true =>
      rw [e] at h
      have := plant_of (life := life) h
      rw [absHeap_ins e] at this
      rw [List.length_cons, show n + (r.length + 1) = n + 1 + r.length by omega, this]
      show ((absHeap t n life).objs.push o).toList ++ r = _
      simp
noncomputable def toT (s : Shared) : Option SharedT := match plant s.heap.objs.toList 0 .nil with
  | some t => some ⟨t, s.heap.objs.toList.length, s.heap.life, s.gens, s.drawn, s.toks, s.os⟩
  | none => none
theorem toT_of {s : Shared} {t : SharedT} (h : toT s = some t) : t.abs = s := by
  unfold toT at h
  cases e : plant s.heap.objs.toList 0 .nil with
  | none => rw [e] at h; cases h
  | some b =>
    rw [e] at h
    cases h
    have x := plant_of (life := s.heap.life) e
    rw [Nat.zero_add] at x
    have y : absHeap b s.heap.objs.toList.length s.heap.life = s.heap := by
      have z : (absHeap b s.heap.objs.toList.length s.heap.life).objs = s.heap.objs := Array.toList_inj.mp (x.trans rfl)
      show Heap.mk (absHeap b s.heap.objs.toList.length s.heap.life).objs s.heap.life = _
      rw [z]
    show Shared.mk _ _ _ _ _ = _
    rw [y]
/-- some steps of the top -/
noncomputable def goT (tb : String → Option Builtin) (p : Program) (w : World) (n₀ : Nat) (ann : Option Value) : Nat → SharedT → Thread → Option (SharedT × Thread)
  | 0, s, t => some (s, t)
  | n + 1, s, t => match through t with
    | true => none
    | false => match stepOk n₀ ann t with
      | false => none
      | true => match stepT (denote tb) p w s t with
        | some (s', t') => goT tb p w n₀ ann n s' t'
        | none => none
theorem goT_topT {tb : String → Option Builtin} {p : Program} {w : World} {n₀ : Nat} {ann : Option Value} : ∀ {n N : Nat} {s s' r : SharedT} {t t' : Thread}, goT tb p w n₀ ann n s t = some (s', t') → topT tb p w n₀ ann N s' t' = some r → topT tb p w n₀ ann (n + N) s t = some r
  | 0, N, s, s', r, t, t', h, k => by cases h; rw [Nat.zero_add]; exact k
  | n + 1, N, s, s', r, t, t', h, k => by
    rw [show n + 1 + N = n + N + 1 by omega]
    unfold goT at h
    unfold topT
    cases ht : through t with
    | true => rw [ht] at h; cases h
    | false =>
      rw [ht] at h
      cases hk : stepOk n₀ ann t with
      | false => rw [hk] at h; cases h
      | true =>
        rw [hk] at h
        cases hs : stepT (denote tb) p w s t with
        | none => rw [hs] at h; cases h
        | some r => obtain ⟨s₂, t₂⟩ := r; rw [hs] at h; exact goT_topT h k

noncomputable def findFD (n : Str) : List Stmt → Option (Arguments × List Stmt × Scope)
  | .FunctionDef m a b _ _ _ sc _ _ _ :: r => if m == n then some (a, b, sc) else findFD n r
  | _ :: r => findFD n r
  | [] => none
noncomputable abbrev pg : Program := PySem.Challenge.pw_kl0207_01
noncomputable abbrev SH (x : String) : Str := Str.ofString x
noncomputable def dE (P : Params) (x : String) (t : Tok) (v : Value) : DictEntry := ⟨PyData.keyHash P (Str.ofString x), .str (Str.ofString x) t, v⟩
noncomputable def fdOf (n : String) : Arguments × List Stmt × Scope := (findFD (Str.ofString n) pg.main.body).getD (⟨[], [], none, [], [], none, []⟩, [], default)
noncomputable def fnD (n : String) (g : Addr) (doc m c : Value) : FuncData := { name := Str.ofString n, qualname := Str.ofString n, params := (fdOf n).1, body := .stmts (fdOf n).2.1, scope := (fdOf n).2.2, globals := g, closure := [], defaults := .none, kwdefaults := .none, doc := doc, pyModule := m, annotations := none, code := c, closureTuple := .none, builtins := 0 }
noncomputable abbrev fD (n : String) (g : Addr) (doc m c : Value) : Data := .func (fnD n g doc m c)
noncomputable def KH (P : Params) : Frag := [
  (3, ⟨.type "dict", none, .dict #[dE P "__name__" 165 (.str (SH "law_kl0207_01") 1004), dE P "__doc__" 166 (.none), dE P "__package__" 167 (.none), dE P "__loader__" 168 (.builtin "__main__.__loader__#opaque"), dE P "__spec__" 169 (.none), dE P "__annotations__" 170 (.ref 6), dE P "__builtins__" 171 (.ref 4), dE P "__file__" 173 (.str (SH "/claim/cut.py") 172), dE P "__cached__" 174 (.none), dE P "_sre" 275 (.ref 12), dE P "_wall" 288 (.ref 38), dE P "Flags" 339 (.ref 43), dE P "ParseFlags" 347 (.ref 50), dE P "_replace_encoding" 359 (.ref 57), dE P "_append_modifier" 369 (.ref 64), dE P "_build_localename" 378 (.ref 71), dE P "locale_encoding_alias" 511 (.ref 72), dE P "ENDMARKER" 803 (.int 0 802), dE P "LPAR" 805 (.int 7 804), dE P "RPAR" 807 (.int 8 806), dE P "LSQB" 809 (.int 9 808), dE P "RSQB" 811 (.int 10 810), dE P "COLON" 813 (.int 11 812), dE P "COMMA" 815 (.int 12 814), dE P "SEMI" 817 (.int 13 816), dE P "PLUS" 819 (.int 14 818), dE P "MINUS" 821 (.int 15 820), dE P "STAR" 823 (.int 16 822), dE P "SLASH" 825 (.int 17 824), dE P "VBAR" 827 (.int 18 826), dE P "AMPER" 829 (.int 19 828), dE P "LESS" 831 (.int 20 830), dE P "GREATER" 833 (.int 21 832), dE P "EQUAL" 835 (.int 22 834), dE P "DOT" 837 (.int 23 836), dE P "PERCENT" 839 (.int 24 838), dE P "LBRACE" 841 (.int 25 840), dE P "RBRACE" 843 (.int 26 842), dE P "EQEQUAL" 845 (.int 27 844), dE P "NOTEQUAL" 847 (.int 28 846), dE P "LESSEQUAL" 849 (.int 29 848), dE P "GREATEREQUAL" 851 (.int 30 850), dE P "TILDE" 853 (.int 31 852), dE P "CIRCUMFLEX" 855 (.int 32 854), dE P "LEFTSHIFT" 857 (.int 33 856), dE P "RIGHTSHIFT" 859 (.int 34 858), dE P "DOUBLESTAR" 861 (.int 35 860), dE P "PLUSEQUAL" 863 (.int 36 862), dE P "MINEQUAL" 865 (.int 37 864), dE P "STAREQUAL" 867 (.int 38 866), dE P "SLASHEQUAL" 869 (.int 39 868), dE P "PERCENTEQUAL" 871 (.int 40 870), dE P "AMPEREQUAL" 873 (.int 41 872), dE P "VBAREQUAL" 875 (.int 42 874), dE P "CIRCUMFLEXEQUAL" 877 (.int 43 876), dE P "LEFTSHIFTEQUAL" 879 (.int 44 878), dE P "RIGHTSHIFTEQUAL" 881 (.int 45 880), dE P "DOUBLESTAREQUAL" 883 (.int 46 882), dE P "DOUBLESLASH" 885 (.int 47 884), dE P "DOUBLESLASHEQUAL" 887 (.int 48 886), dE P "AT" 889 (.int 49 888), dE P "ATEQUAL" 891 (.int 50 890), dE P "RARROW" 893 (.int 51 892), dE P "ELLIPSIS" 895 (.int 52 894), dE P "COLONEQUAL" 897 (.int 53 896), dE P "EXCLAMATION" 899 (.int 54 898), dE P "EXACT_TOKEN_TYPES" 996 (.ref 262), dE P "ISEOF" 1003 (.ref 271), dE P "_law_name" 1011 (.ref 276), dE P "_law_flags" 1022 (.ref 283), dE P "_law_meeting" 1028 (.ref 288), dE P "_law_numbers" 1034 (.ref 293), dE P "law" 1040 (.ref 298)] 77, #[]⟩),
  (40, ⟨.type "dict", none, .dict #[dE P "flags" 334 (.int 1 335)] 1, #[]⟩),
  (42, ⟨.type "tuple", none, .seq #[.int 14 0, .int 4 0, .int 0 0, .int 8 0, .int 4294967295 0, .int 24 0, .int 5 0, .int 0 0, .int 4294967295 0, .int 2 0, .int 1 0, .int 16 0, .int 70 0, .int 16 0, .int 76 0, .int 16 0, .int 65 0, .int 16 0, .int 71 0, .int 16 0, .int 83 0, .int 16 0, .int 32 0, .int 16 0, .int 40 0, .int 17 0, .int 0 0, .int 24 0, .int 6 0, .int 0 0, .int 4294967295 0, .int 20 0, .int 41 0, .int 1 0, .int 17 0, .int 1 0, .int 16 0, .int 41 0, .int 1 0] 0, #[]⟩),
  (43, ⟨.type "re.Pattern", none, .fields #[.bytes #[46, 42, 70, 76, 65, 71, 83, 32, 92, 40, 40, 63, 80, 60, 102, 108, 97, 103, 115, 62, 91, 94, 92, 41, 93, 42, 41, 92, 41] 292, .int 0 338, .int 1 0, .ref 40, .ref 41, .ref 42, .int 1 0], #[]⟩),
  (49, ⟨.type "code", none, .fields #[.str (SH "ParseFlags") 340, .str (SH "ParseFlags") 341, .str (SH "/claim/cut.py") 342, .int 7 0, .int 1 0, .int 0 0, .int 0 0, .int 3 0, .ref 44, .bool true, .int 276 0, .ref 45, .none, .ref 46, .ref 47, .ref 48, .int 345 0, .int 7 0, .str (SH "/claim/cut.py") 346], #[]⟩),
  (50, ⟨.type "function", none, fD "ParseFlags" 3 (.none) (.str (SH "cpy313.imaplib") 289) (.ref 49), #[]⟩),
  (63, ⟨.type "code", none, .fields #[.str (SH "_append_modifier") 360, .str (SH "_append_modifier") 361, .str (SH "/claim/cut.py") 362, .int 30 0, .int 2 0, .int 0 0, .int 0 0, .int 3 0, .ref 58, .bool true, .int 276 0, .ref 59, .none, .ref 60, .ref 61, .ref 62, .int 367 0, .int 30 0, .str (SH "/claim/cut.py") 368], #[]⟩),
  (64, ⟨.type "function", none, fD "_append_modifier" 3 (.none) (.str (SH "cpy313.locale") 348) (.ref 63), #[]⟩),
  (70, ⟨.type "code", none, .fields #[.str (SH "_build_localename") 370, .str (SH "_build_localename") 371, .str (SH "/claim/cut.py") 372, .int 40 0, .int 1 0, .int 0 0, .int 0 0, .int 3 0, .ref 65, .bool true, .int 276 0, .ref 66, .none, .ref 67, .ref 68, .ref 69, .int 376 0, .int 40 0, .str (SH "/claim/cut.py") 377], #[]⟩),
  (71, ⟨.type "function", none, fD "_build_localename" 3 (.none) (.str (SH "cpy313.locale") 348) (.ref 70), #[]⟩),
  (262, ⟨.type "dict", none, .dict #[dE P "!" 900 (.int 54 898), dE P "!=" 902 (.int 28 846), dE P "%" 904 (.int 24 838), dE P "%=" 906 (.int 40 870), dE P "&" 908 (.int 19 828), dE P "&=" 910 (.int 41 872), dE P "(" 912 (.int 7 804), dE P ")" 914 (.int 8 806), dE P "*" 916 (.int 16 822), dE P "**" 918 (.int 35 860), dE P "**=" 920 (.int 46 882), dE P "*=" 922 (.int 38 866), dE P "+" 924 (.int 14 818), dE P "+=" 926 (.int 36 862), dE P "," 928 (.int 12 814), dE P "-" 930 (.int 15 820), dE P "-=" 932 (.int 37 864), dE P "->" 934 (.int 51 892), dE P "." 936 (.int 23 836), dE P "..." 938 (.int 52 894), dE P "/" 940 (.int 17 824), dE P "//" 942 (.int 47 884), dE P "//=" 944 (.int 48 886), dE P "/=" 946 (.int 39 868), dE P ":" 948 (.int 11 812), dE P ":=" 950 (.int 53 896), dE P ";" 952 (.int 13 816), dE P "<" 954 (.int 20 830), dE P "<<" 956 (.int 33 856), dE P "<<=" 958 (.int 44 878), dE P "<=" 960 (.int 29 848), dE P "=" 962 (.int 22 834), dE P "==" 964 (.int 27 844), dE P ">" 966 (.int 21 832), dE P ">=" 968 (.int 30 850), dE P ">>" 969 (.int 34 858), dE P ">>=" 970 (.int 45 880), dE P "@" 971 (.int 49 888), dE P "@=" 972 (.int 50 890), dE P "[" 973 (.int 9 808), dE P "]" 974 (.int 10 810), dE P "^" 975 (.int 32 854), dE P "^=" 976 (.int 43 876), dE P "{" 977 (.int 25 840), dE P "|" 978 (.int 18 826), dE P "|=" 979 (.int 42 874), dE P "}" 980 (.int 26 842), dE P "~" 981 (.int 31 852)] 48, #[]⟩),
  (270, ⟨.type "code", none, .fields #[.str (SH "ISEOF") 997, .str (SH "ISEOF") 998, .str (SH "/claim/cut.py") 999, .int 107 0, .int 1 0, .int 0 0, .int 0 0, .int 3 0, .ref 265, .bool true, .int 276 0, .ref 266, .none, .ref 267, .ref 268, .ref 269, .int 1001 0, .int 107 0, .str (SH "/claim/cut.py") 1002], #[]⟩),
  (271, ⟨.type "function", none, fD "ISEOF" 3 (.none) (.str (SH "cpy313.token") 800) (.ref 270), #[]⟩),
  (275, ⟨.type "code", none, .fields #[.str (SH "_law_name") 1006, .str (SH "_law_name") 1007, .str (SH "/claim/cut.py") 1008, .int 110 0, .int 3 0, .int 0 0, .int 0 0, .int 3 0, .ref 272, .bool true, .int 276 0, .ref 273, .none, .none, .none, .ref 274, .int 1009 0, .int 110 0, .str (SH "/claim/cut.py") 1010], #[]⟩),
  (276, ⟨.type "function", none, fD "_law_name" 3 (.none) (.str (SH "law_kl0207_01") 1004) (.ref 275), #[]⟩),
  (282, ⟨.type "code", none, .fields #[.str (SH "_law_flags") 1012, .str (SH "_law_flags") 1013, .str (SH "/claim/cut.py") 1014, .int 127 0, .int 2 0, .int 0 0, .int 0 0, .int 3 0, .ref 277, .bool true, .int 276 0, .ref 278, .none, .ref 279, .ref 280, .ref 281, .int 1020 0, .int 127 0, .str (SH "/claim/cut.py") 1021], #[]⟩),
  (283, ⟨.type "function", none, fD "_law_flags" 3 (.none) (.str (SH "law_kl0207_01") 1004) (.ref 282), #[]⟩),
  (287, ⟨.type "code", none, .fields #[.str (SH "_law_meeting") 1023, .str (SH "_law_meeting") 1024, .str (SH "/claim/cut.py") 1025, .int 134 0, .int 1 0, .int 0 0, .int 0 0, .int 3 0, .ref 284, .bool true, .int 276 0, .ref 285, .none, .none, .none, .ref 286, .int 1026 0, .int 134 0, .str (SH "/claim/cut.py") 1027], #[]⟩),
  (288, ⟨.type "function", none, fD "_law_meeting" 3 (.none) (.str (SH "law_kl0207_01") 1004) (.ref 287), #[]⟩),
  (292, ⟨.type "code", none, .fields #[.str (SH "_law_numbers") 1029, .str (SH "_law_numbers") 1030, .str (SH "/claim/cut.py") 1031, .int 142 0, .int 2 0, .int 0 0, .int 0 0, .int 3 0, .ref 289, .bool true, .int 276 0, .ref 290, .none, .none, .none, .ref 291, .int 1032 0, .int 142 0, .str (SH "/claim/cut.py") 1033], #[]⟩),
  (293, ⟨.type "function", none, fD "_law_numbers" 3 (.none) (.str (SH "law_kl0207_01") 1004) (.ref 292), #[]⟩),
  (297, ⟨.type "code", none, .fields #[.str (SH "law") 1035, .str (SH "law") 1036, .str (SH "/claim/cut.py") 1037, .int 144 0, .int 1 0, .int 0 0, .int 0 0, .int 3 0, .ref 294, .bool true, .int 276 0, .ref 295, .none, .none, .none, .ref 296, .int 1038 0, .int 144 0, .str (SH "/claim/cut.py") 1039], #[]⟩),
  (298, ⟨.type "function", none, fD "law" 3 (.none) (.str (SH "law_kl0207_01") 1004) (.ref 297), #[]⟩)]
noncomputable def KA : List Addr := [3, 40, 42, 43, 49, 50, 63, 64, 70, 71, 262, 270, 271, 275, 276, 282, 283, 287, 288, 292, 293, 297, 298]
theorem KA_eq : ∀ P, KA = (KH P).map (·.1) := fun _ => rfl
noncomputable def vw : Program := view pg [0, 1, 3, 4, 6, 7, 8, 9, 13, 14, 15, 16, 17, 18, 19, 20, 21, 22, 23, 24, 25, 26, 27, 28, 29, 30, 31, 32, 33, 34, 35, 36, 37, 38, 39, 40, 41, 42, 43, 44, 45, 46, 47, 48, 49, 50, 51, 52, 53, 54, 55, 56, 57, 58, 59, 60, 61, 62, 63, 65, 66, 67, 68, 69]
noncomputable def LS : List Str := [SH "Flags", SH "locale_encoding_alias", SH "EXACT_TOKEN_TYPES"]
noncomputable abbrev HK : Hook := kHook KH KA KA_eq
noncomputable abbrev RS : WRecords := PySem.Challenge.rw_kl0207_01.row.toRowW.records
noncomputable def mkT : List Obj → Nat → BT → BT
  | [], _, t => t
  | o :: r, n, t => mkT r (n + 1) (t.ins n o)
noncomputable def stOf (l : List Obj) (tk : Nat) : SharedT := ⟨mkT l 0 .nil, l.length, {}, #[], {}, tk, { stdin := #[] }⟩
noncomputable def b0 (P : Params) : Obj := ⟨.type "dict", none, .dict #[dE P "__name__" 1 (.str (SH "builtins") 160), dE P "__doc__" 2 (.builtin "builtins.__doc__:str#opaque"), dE P "__package__" 3 (.builtin "builtins.__package__:str#opaque"), dE P "__loader__" 4 (.builtin "builtins.__loader__:shared#opaque"), dE P "__spec__" 5 (.builtin "builtins.__spec__#opaque"), dE P "__build_class__" 6 (.builtin "__build_class__"), dE P "__\x69mport__" 7 (.builtin "__\x69mport__"), dE P "abs" 8 (.builtin "abs"), dE P "all" 9 (.builtin "all"), dE P "any" 10 (.builtin "any"), dE P "ascii" 11 (.builtin "ascii"), dE P "bin" 12 (.builtin "bin"), dE P "breakpoint" 13 (.builtin "breakpoint"), dE P "callable" 14 (.builtin "callable"), dE P "chr" 15 (.builtin "chr"), dE P "compile" 16 (.builtin "compile"), dE P "delattr" 17 (.builtin "delattr"), dE P "dir" 18 (.builtin "dir"), dE P "divmod" 19 (.builtin "divmod"), dE P "eval" 20 (.builtin "eval"), dE P "exec" 21 (.builtin "exec"), dE P "format" 22 (.builtin "format"), dE P "getattr" 23 (.builtin "getattr"), dE P "globals" 24 (.builtin "globals"), dE P "hasattr" 25 (.builtin "hasattr"), dE P "hash" 26 (.builtin "hash"), dE P "hex" 27 (.builtin "hex"), dE P "id" 28 (.builtin "id"), dE P "input" 29 (.builtin "input"), dE P "isinstance" 30 (.builtin "isinstance"), dE P "issubclass" 31 (.builtin "issubclass"), dE P "iter" 32 (.builtin "iter"), dE P "aiter" 33 (.builtin "aiter"), dE P "len" 34 (.builtin "len"), dE P "locals" 35 (.builtin "locals"), dE P "max" 36 (.builtin "max"), dE P "min" 37 (.builtin "min"), dE P "next" 38 (.builtin "next"), dE P "anext" 39 (.builtin "anext"), dE P "oct" 40 (.builtin "oct"), dE P "ord" 41 (.builtin "ord"), dE P "pow" 42 (.builtin "pow"), dE P "print" 43 (.builtin "print"), dE P "repr" 44 (.builtin "repr"), dE P "round" 45 (.builtin "round"), dE P "setattr" 46 (.builtin "setattr"), dE P "sorted" 47 (.builtin "sorted"), dE P "sum" 48 (.builtin "sum"), dE P "vars" 49 (.builtin "vars"), dE P "None" 50 (.none), dE P "Ellipsis" 51 (.ellipsis), dE P "NotImplemented" 52 (.notImplemented), dE P "False" 53 (.bool false), dE P "True" 54 (.bool true), dE P "bool" 55 (.type "bool"), dE P "memoryview" 56 (.type "memoryview"), dE P "bytearray" 57 (.type "bytearray"), dE P "bytes" 58 (.type "bytes"), dE P "classmethod" 59 (.type "classmethod"), dE P "complex" 60 (.type "complex"), dE P "dict" 61 (.type "dict"), dE P "enumerate" 62 (.type "enumerate"), dE P "filter" 63 (.type "filter"), dE P "float" 64 (.type "float"), dE P "frozenset" 65 (.type "frozenset"), dE P "property" 66 (.type "property"), dE P "int" 67 (.type "int"), dE P "list" 68 (.type "list"), dE P "map" 69 (.type "map"), dE P "object" 70 (.type "object"), dE P "range" 71 (.type "range"), dE P "reversed" 72 (.type "reversed"), dE P "set" 73 (.type "set"), dE P "slice" 74 (.type "slice"), dE P "staticmethod" 75 (.type "staticmethod"), dE P "str" 76 (.type "str"), dE P "super" 77 (.type "super"), dE P "tuple" 78 (.type "tuple"), dE P "type" 79 (.type "type"), dE P "zip" 80 (.type "zip"), dE P "__debug__" 81 (.bool true), dE P "BaseException" 82 (.type "BaseException"), dE P "BaseExceptionGroup" 83 (.type "BaseExceptionGroup"), dE P "Exception" 84 (.type "Exception"), dE P "GeneratorExit" 85 (.type "GeneratorExit"), dE P "KeyboardInterrupt" 86 (.type "KeyboardInterrupt"), dE P "SystemExit" 87 (.type "SystemExit"), dE P "ArithmeticError" 88 (.type "ArithmeticError"), dE P "AssertionError" 89 (.type "AssertionError"), dE P "AttributeError" 90 (.type "AttributeError"), dE P "BufferError" 91 (.type "BufferError"), dE P "EOFError" 92 (.type "EOFError"), dE P "ImportError" 93 (.type "ImportError"), dE P "LookupError" 94 (.type "LookupError"), dE P "MemoryError" 95 (.type "MemoryError"), dE P "NameError" 96 (.type "NameError"), dE P "OSError" 97 (.type "OSError"), dE P "ReferenceError" 98 (.type "ReferenceError"), dE P "RuntimeError" 99 (.type "RuntimeError"), dE P "StopAsyncIteration" 100 (.type "StopAsyncIteration"), dE P "StopIteration" 101 (.type "StopIteration"), dE P "SyntaxError" 102 (.type "SyntaxError"), dE P "SystemError" 103 (.type "SystemError"), dE P "TypeError" 104 (.type "TypeError"), dE P "ValueError" 105 (.type "ValueError"), dE P "Warning" 106 (.type "Warning"), dE P "FloatingPointError" 107 (.type "FloatingPointError"), dE P "OverflowError" 108 (.type "OverflowError"), dE P "ZeroDivisionError" 109 (.type "ZeroDivisionError"), dE P "BytesWarning" 110 (.type "BytesWarning"), dE P "DeprecationWarning" 111 (.type "DeprecationWarning"), dE P "EncodingWarning" 112 (.type "EncodingWarning"), dE P "FutureWarning" 113 (.type "FutureWarning"), dE P "ImportWarning" 114 (.type "ImportWarning"), dE P "PendingDeprecationWarning" 115 (.type "PendingDeprecationWarning"), dE P "ResourceWarning" 116 (.type "ResourceWarning"), dE P "RuntimeWarning" 117 (.type "RuntimeWarning"), dE P "SyntaxWarning" 118 (.type "SyntaxWarning"), dE P "UnicodeWarning" 119 (.type "UnicodeWarning"), dE P "UserWarning" 120 (.type "UserWarning"), dE P "BlockingIOError" 121 (.type "BlockingIOError"), dE P "ChildProcessError" 122 (.type "ChildProcessError"), dE P "ConnectionError" 123 (.type "ConnectionError"), dE P "FileExistsError" 124 (.type "FileExistsError"), dE P "FileNotFoundError" 125 (.type "FileNotFoundError"), dE P "InterruptedError" 126 (.type "InterruptedError"), dE P "IsADirectoryError" 127 (.type "IsADirectoryError"), dE P "NotADirectoryError" 128 (.type "NotADirectoryError"), dE P "PermissionError" 129 (.type "PermissionError"), dE P "ProcessLookupError" 130 (.type "ProcessLookupError"), dE P "TimeoutError" 131 (.type "TimeoutError"), dE P "IndentationError" 132 (.type "IndentationError"), dE P "_IncompleteInputError" 133 (.type "_IncompleteInputError"), dE P "IndexError" 134 (.type "IndexError"), dE P "KeyError" 135 (.type "KeyError"), dE P "ModuleNotFoundError" 136 (.type "ModuleNotFoundError"), dE P "NotImplementedError" 137 (.type "NotImplementedError"), dE P "PythonFinalizationError" 138 (.type "PythonFinalizationError"), dE P "RecursionError" 139 (.type "RecursionError"), dE P "UnboundLocalError" 140 (.type "UnboundLocalError"), dE P "UnicodeError" 141 (.type "UnicodeError"), dE P "BrokenPipeError" 142 (.type "BrokenPipeError"), dE P "ConnectionAbortedError" 143 (.type "ConnectionAbortedError"), dE P "ConnectionRefusedError" 144 (.type "ConnectionRefusedError"), dE P "ConnectionResetError" 145 (.type "ConnectionResetError"), dE P "TabError" 146 (.type "TabError"), dE P "UnicodeDecodeError" 147 (.type "UnicodeDecodeError"), dE P "UnicodeEncodeError" 148 (.type "UnicodeEncodeError"), dE P "UnicodeTranslateError" 149 (.type "UnicodeTranslateError"), dE P "ExceptionGroup" 150 (.type "ExceptionGroup"), dE P "EnvironmentError" 151 (.type "OSError"), dE P "IOError" 152 (.type "OSError"), dE P "open" 153 (.builtin "open"), dE P "quit" 154 (.builtin "builtins.quit#opaque"), dE P "exit" 155 (.builtin "builtins.exit#opaque"), dE P "copyright" 156 (.builtin "builtins.copyright#opaque"), dE P "credits" 157 (.builtin "builtins.credits#opaque"), dE P "license" 158 (.builtin "builtins.license#opaque"), dE P "help" 159 (.builtin "builtins.help#opaque")] 159, #[]⟩
noncomputable def b1 (P : Params) : Obj := ⟨.type "dict", none, .dict #[dE P "builtins" 162 (.ref 4), dE P "__main__" 163 (.ref 5), dE P "_sre" 244 (.ref 12)] 3, #[]⟩
noncomputable def b2 (P : Params) : Obj := ⟨.none, none, .dict #[dE P "\x69mport.loaded._sre" 183 (.bool true), dE P "class._frozen_\x69mportlib.BuiltinImporter" 185 (.ref 14), dE P "watched.\x69mport" 206 (.ref 18), dE P "class._frozen_\x69mportlib.ModuleSpec" 216 (.ref 22), dE P "sys.modules.booked-epoch" 245 (.int 3 0), dE P "\x69mport.later-laid._sre" 270 (.bool true), dE P "watched.library" 272 (.ref 27), dE P "watched.library-objects" 0 (.str (SH "\x0c") 0), dE P "watched.library-deep._sre" 273 (.str (SH "\x04\x00\x00\x0b\x04\x00\x00\x0b\x04\x00\x00\x03\x04\x00\x00\x0b\x08\x04dict\x02") 0)] 9, #[]⟩
noncomputable def b3 (P : Params) : Obj := ⟨.type "dict", none, .dict #[dE P "__name__" 165 (.str (SH "__main__") 164), dE P "__doc__" 166 (.none), dE P "__package__" 167 (.none), dE P "__loader__" 168 (.builtin "__main__.__loader__#opaque"), dE P "__spec__" 169 (.none), dE P "__annotations__" 170 (.ref 6), dE P "__builtins__" 171 (.ref 4), dE P "__file__" 173 (.str (SH "/claim/cut.py") 172), dE P "__cached__" 174 (.none), dE P "_sre" 275 (.ref 12)] 10, #[]⟩
noncomputable def b4 (P : Params) : Obj := ⟨.type "module", some 0, .plain, #[]⟩
noncomputable def b5 (P : Params) : Obj := ⟨.type "module", some 3, .plain, #[]⟩
noncomputable def b6 (P : Params) : Obj := ⟨.type "dict", none, .dict #[] 0, #[]⟩
noncomputable def b7 (P : Params) : Obj := ⟨.type "tuple", none, .seq #[] 0, #[]⟩
noncomputable def b8 (P : Params) : Obj := ⟨.none, none, .fields #[], #[]⟩
noncomputable def b9 (P : Params) : Obj := ⟨.type "code", none, .fields #[.str (SH "<module>") 176, .str (SH "<module>") 177, .str (SH "/claim/cut.py") 178, .int 1 0, .int 0 0, .int 0 0, .int 0 0, .int 0 0, .ref 7, .bool false, .int 175 0, .ref 8, .none, .none, .none, .none, .int 179 0, .int 1 0, .str (SH "/claim/cut.py") 180], #[]⟩
noncomputable def b10 (P : Params) : Obj := ⟨.type "frame", none, .plain, #[some (.ref 9), some (.ref 3), some (.ref 3), none, some (.str (SH "__main__") 164), none, some (.ref 0)]⟩
noncomputable def b11 (P : Params) : Obj := ⟨.type "dict", none, .dict #[dE P "__name__" 247 (.str (SH "_sre") 246), dE P "__doc__" 248 (.none), dE P "__package__" 250 (.str (SH "") 249), dE P "__loader__" 251 (.builtin "off-the-table:_sre.__loader__:shared#opaque"), dE P "__spec__" 252 (.builtin "off-the-table:_sre.__spec__:shared#opaque"), dE P "compile" 253 (.builtin "_sre.compile"), dE P "template" 254 (.builtin "off-the-table:_sre.template:shared#opaque"), dE P "getcodesize" 255 (.builtin "off-the-table:_sre.getcodesize:shared#opaque"), dE P "ascii_iscased" 256 (.builtin "off-the-table:_sre.ascii_iscased:shared#opaque"), dE P "unicode_iscased" 257 (.builtin "off-the-table:_sre.unicode_iscased:shared#opaque"), dE P "ascii_tolower" 258 (.builtin "off-the-table:_sre.ascii_tolower:shared#opaque"), dE P "unicode_tolower" 259 (.builtin "off-the-table:_sre.unicode_tolower:shared#opaque"), dE P "MAGIC" 261 (.int 20230612 260), dE P "CODESIZE" 263 (.int 4 262), dE P "MAXREPEAT" 265 (.int 4294967295 264), dE P "MAXGROUPS" 267 (.int 1073741823 266), dE P "copyright" 269 (.str (SH " SRE 2.2.2 Copyright (c) 1997-2002 by Secret Labs AB ") 268)] 17, #[]⟩
noncomputable def b12 (P : Params) : Obj := ⟨.type "module", some 11, .plain, #[]⟩
noncomputable def b13 (P : Params) : Obj := ⟨.type "dict", none, .dict #[dE P "__module__" 189 (.str (SH "_frozen_\x69mportlib") 186), dE P "__firstlineno__" 190 (.int 971 187), dE P "__doc__" 191 (.builtin "_frozen_\x69mportlib.BuiltinImporter.__doc__:str#opaque"), dE P "_ORIGIN" 192 (.str (SH "built-in") 188), dE P "find_spec" 193 (.builtin "_frozen_\x69mportlib.BuiltinImporter.find_spec#opaque"), dE P "create_module" 194 (.builtin "_frozen_\x69mportlib.BuiltinImporter.create_module#opaque"), dE P "exec_module" 195 (.builtin "_frozen_\x69mportlib.BuiltinImporter.exec_module#opaque"), dE P "get_code" 196 (.builtin "_frozen_\x69mportlib.BuiltinImporter.get_code#opaque"), dE P "get_source" 197 (.builtin "_frozen_\x69mportlib.BuiltinImporter.get_source#opaque"), dE P "is_package" 198 (.builtin "_frozen_\x69mportlib.BuiltinImporter.is_package#opaque"), dE P "load_module" 199 (.builtin "_frozen_\x69mportlib.BuiltinImporter.load_module#opaque"), dE P "__static_attributes__" 200 (.ref 15), dE P "__dict__" 202 (.ref 16), dE P "__weakref__" 204 (.ref 17)] 14, #[]⟩
noncomputable def b14 (P : Params) : Obj := ⟨.type "type", none, .cls { name := (SH "BuiltinImporter"), bases := [.type "object"], mro := [.ref 14, .type "object"], ns := 13, qualname := (SH "BuiltinImporter"), hasDict := true, slotNames := [], subclasses := [], abstract := false, collection := none, hasDel := false }, #[]⟩
noncomputable def b15 (P : Params) : Obj := ⟨.type "getset_descriptor", none, .fields #[.str (SH "__dict__") 201, .ref 14, .builtin "function.__dict__", .builtin "function.__dict__#set"], #[]⟩
noncomputable def b16 (P : Params) : Obj := ⟨.type "getset_descriptor", none, .fields #[.str (SH "__weakref__") 203, .ref 14, .builtin "ExceptionGroup.__weakref__", .none], #[]⟩
noncomputable def b17 (P : Params) : Obj := ⟨.none, none, .seq #[.int 13 0, .str (SH "\x06½\n__module__\x06º\x11_frozen_\x69mportlib\x06¾\x0f__firstlineno__\x04»\x00ϋ\x06¿\x07__doc__\t4_frozen_\x69mportlib.BuiltinImporter.__doc__:str#opaque\x06À\x07_ORIGIN\x06¼\x08built-in\x06Á\tfind_spec\t2_frozen_\x69mportlib.BuiltinImporter.find_spec#opaque\x06Â\x0dcreate_module\t6_frozen_\x69mportlib.BuiltinImporter.create_module#opaque\x06Ã\x0bexec_module\t4_frozen_\x69mportlib.BuiltinImporter.exec_module#opaque\x06Ä\x08get_code\t1_frozen_\x69mportlib.BuiltinImporter.get_code#opaque\x06Å\nget_source\t3_frozen_\x69mportlib.BuiltinImporter.get_source#opaque\x06Æ\nis_package\t3_frozen_\x69mportlib.BuiltinImporter.is_package#opaque\x06Ç\x0bload_module\t4_frozen_\x69mportlib.BuiltinImporter.load_module#opaque\x06È\x15__static_attributes__\x04\x00\x00\x0f\x06Ê\x08__dict__\x04\x00\x00\x10\x06Ì\x0b__weakref__\x04\x00\x00\x11") 0, .bool true, .bool true, .str (SH "") 205, .int 21 0, .str (SH "\x06ã\n__module__\x06Ù\x11_frozen_\x69mportlib\x06ä\x0f__firstlineno__\x04Ú\x00Ȳ\x06å\x07__doc__\t/_frozen_\x69mportlib.ModuleSpec.__doc__:str#opaque\x06æ\x08__init__\t,_frozen_\x69mportlib.ModuleSpec.__init__#opaque\x06ç\x08__repr__\t,_frozen_\x69mportlib.ModuleSpec.__repr__#opaque\x06è\x06__eq__\t*_frozen_\x69mportlib.ModuleSpec.__eq__#opaque\x06é\x06cached\t*_frozen_\x69mportlib.ModuleSpec.cached#opaque\x06ê\x06parent\t*_frozen_\x69mportlib.ModuleSpec.parent#opaque\x06ë\x0chas_location\t0_frozen_\x69mportlib.ModuleSpec.has_location#opaque\x06ì\x15__static_attributes__\x04\x00\x00\x17\x06î\x08__dict__\x04\x00\x00\x18\x06ð\x0b__weakref__\x04\x00\x00\x19\x06ñ\x08__hash__\x00") 0, .bool true, .bool true, .str (SH "") 242] 1, #[]⟩
noncomputable def b18 (P : Params) : Obj := ⟨.type "list", none, .seq #[] 0, #[]⟩
noncomputable def b19 (P : Params) : Obj := ⟨.type "dict", none, .dict #[dE P "name" 208 (.str (SH "_sre") 207), dE P "loader" 209 (.ref 14), dE P "origin" 210 (.str (SH "built-in") 184), dE P "loader_state" 211 (.none), dE P "submodule_search_locations" 212 (.none), dE P "_uninitialized_submodules" 213 (.ref 19), dE P "_set_fileattr" 214 (.bool false), dE P "_cached" 215 (.none), dE P "_initializing" 243 (.bool false)] 9, #[]⟩
noncomputable def b20 (P : Params) : Obj := ⟨.type "dict", none, .dict #[dE P "__module__" 227 (.str (SH "_frozen_\x69mportlib") 217), dE P "__firstlineno__" 228 (.int 562 218), dE P "__doc__" 229 (.builtin "_frozen_\x69mportlib.ModuleSpec.__doc__:str#opaque"), dE P "__init__" 230 (.builtin "_frozen_\x69mportlib.ModuleSpec.__init__#opaque"), dE P "__repr__" 231 (.builtin "_frozen_\x69mportlib.ModuleSpec.__repr__#opaque"), dE P "__eq__" 232 (.builtin "_frozen_\x69mportlib.ModuleSpec.__eq__#opaque"), dE P "cached" 233 (.builtin "_frozen_\x69mportlib.ModuleSpec.cached#opaque"), dE P "parent" 234 (.builtin "_frozen_\x69mportlib.ModuleSpec.parent#opaque"), dE P "has_location" 235 (.builtin "_frozen_\x69mportlib.ModuleSpec.has_location#opaque"), dE P "__static_attributes__" 236 (.ref 23), dE P "__dict__" 238 (.ref 24), dE P "__weakref__" 240 (.ref 25), dE P "__hash__" 241 (.none)] 13, #[]⟩
noncomputable def b21 (P : Params) : Obj := ⟨.type "type", none, .cls { name := (SH "ModuleSpec"), bases := [.type "object"], mro := [.ref 22, .type "object"], ns := 21, qualname := (SH "ModuleSpec"), hasDict := true, slotNames := [], subclasses := [], abstract := false, collection := none, hasDel := false }, #[]⟩
noncomputable def b22 (P : Params) : Obj := ⟨.type "tuple", none, .seq #[.str (SH "_cached") 219, .str (SH "_set_fileattr") 220, .str (SH "_uninitialized_submodules") 221, .str (SH "loader") 222, .str (SH "loader_state") 223, .str (SH "name") 224, .str (SH "origin") 225, .str (SH "submodule_search_locations") 226] 0, #[]⟩
noncomputable def b23 (P : Params) : Obj := ⟨.type "getset_descriptor", none, .fields #[.str (SH "__dict__") 237, .ref 22, .builtin "function.__dict__", .builtin "function.__dict__#set"], #[]⟩
noncomputable def b24 (P : Params) : Obj := ⟨.type "getset_descriptor", none, .fields #[.str (SH "__weakref__") 239, .ref 22, .builtin "ExceptionGroup.__weakref__", .none], #[]⟩
noncomputable def b25 (P : Params) : Obj := ⟨.ref 22, some 20, .plain, #[]⟩
noncomputable def b26 (P : Params) : Obj := ⟨.none, none, .seq #[.int 11 0, .str ⟨#[6, 247, 8, 95, 95, 110, 97, 109, 101, 95, 95, 6, 246, 4, 95, 115, 114, 101, 6, 248, 7, 95, 95, 100, 111, 99, 95, 95, 0, 6, 250, 11, 95, 95, 112, 97, 99, 107, 97, 103, 101, 95, 95, 6, 249, 0, 6, 251, 10, 95, 95, 108, 111, 97, 100, 101, 114, 95, 95, 4, 0, 0, 14, 6, 252, 8, 95, 95, 115, 112, 101, 99, 95, 95, 4, 0, 0, 26, 6, 253, 7, 99, 111, 109, 112, 105, 108, 101, 9, 12, 95, 115, 114, 101, 46, 99, 111, 109, 112, 105, 108, 101, 6, 254, 8, 116, 101, 109, 112, 108, 97, 116, 101, 9, 13, 95, 115, 114, 101, 46, 116, 101, 109, 112, 108, 97, 116, 101, 6, 255, 11, 103, 101, 116, 99, 111, 100, 101, 115, 105, 122, 101, 9, 16, 95, 115, 114, 101, 46, 103, 101, 116, 99, 111, 100, 101, 115, 105, 122, 101, 6, 256, 13, 97, 115, 99, 105, 105, 95, 105, 115, 99, 97, 115, 101, 100, 9, 18, 95, 115, 114, 101, 46, 97, 115, 99, 105, 105, 95, 105, 115, 99, 97, 115, 101, 100, 6, 257, 15, 117, 110, 105, 99, 111, 100, 101, 95, 105, 115, 99, 97, 115, 101, 100, 9, 20, 95, 115, 114, 101, 46, 117, 110, 105, 99, 111, 100, 101, 95, 105, 115, 99, 97, 115, 101, 100, 6, 258, 13, 97, 115, 99, 105, 105, 95, 116, 111, 108, 111, 119, 101, 114, 9, 18, 95, 115, 114, 101, 46, 97, 115, 99, 105, 105, 95, 116, 111, 108, 111, 119, 101, 114, 6, 259, 15, 117, 110, 105, 99, 111, 100, 101, 95, 116, 111, 108, 111, 119, 101, 114, 9, 20, 95, 115, 114, 101, 46, 117, 110, 105, 99, 111, 100, 101, 95, 116, 111, 108, 111, 119, 101, 114, 6, 261, 5, 77, 65, 71, 73, 67, 4, 260, 0, 20230612, 6, 263, 8, 67, 79, 68, 69, 83, 73, 90, 69, 4, 262, 0, 4, 6, 265, 9, 77, 65, 88, 82, 69, 80, 69, 65, 84, 4, 264, 0, 4294967295, 6, 267, 9, 77, 65, 88, 71, 82, 79, 85, 80, 83, 4, 266, 0, 1073741823, 6, 269, 9, 99, 111, 112, 121, 114, 105, 103, 104, 116, 6, 268, 53, 32, 83, 82, 69, 32, 50, 46, 50, 46, 50, 32, 67, 111, 112, 121, 114, 105, 103, 104, 116, 32, 40, 99, 41, 32, 49, 57, 57, 55, 45, 50, 48, 48, 50, 32, 98, 121, 32, 83, 101, 99, 114, 101, 116, 32, 76, 97, 98, 115, 32, 65, 66, 32]⟩ 0, .bool true, .bool false, .str (SH "_sre") 271] 0, #[]⟩
noncomputable def b27 (P : Params) : Obj := ⟨.type "dict", none, .dict #[dE P "__name__" 165 (.str (SH "cpy313.locale") 348), dE P "__doc__" 166 (.none), dE P "__package__" 167 (.none), dE P "__loader__" 168 (.builtin "__main__.__loader__#opaque"), dE P "__spec__" 169 (.none), dE P "__annotations__" 170 (.ref 6), dE P "__builtins__" 171 (.ref 4), dE P "__file__" 173 (.str (SH "/claim/cut.py") 172), dE P "__cached__" 174 (.none), dE P "_sre" 275 (.ref 12), dE P "_wall" 288 (.ref 38), dE P "Flags" 339 (.ref 43), dE P "ParseFlags" 347 (.ref 50), dE P "_replace_encoding" 359 (.ref 57), dE P "_append_modifier" 369 (.ref 64), dE P "_build_localename" 378 (.ref 71), dE P "locale_encoding_alias" 511 (.ref 72)] 17, #[]⟩
noncomputable def b28 (P : Params) : Obj := ⟨.none, none, .fields #[.int 2 0, .int 0 0, .ref 37, .int 7 0, .int 0 0, .ref 49, .int 13 0, .int 0 0, .ref 56, .int 30 0, .int 0 0, .ref 63, .int 40 0, .int 0 0, .ref 70], #[]⟩
noncomputable def b29 (P : Params) : Obj := ⟨.type "code", none, .fields #[.str (SH "<module>") 277, .str (SH "<module>") 278, .str (SH "/claim/cut.py") 279, .int 1 0, .int 0 0, .int 0 0, .int 0 0, .int 0 0, .ref 28, .bool false, .int 276 0, .ref 29, .none, .none, .none, .none, .int 280 0, .int 1 0, .str (SH "/claim/cut.py") 281], #[]⟩
noncomputable def b30 (P : Params) : Obj := ⟨.type "frame", none, .plain, #[some (.ref 30), some (.ref 3), some (.ref 3), none, some (.str (SH "__main__") 164), none, some (.ref 0)]⟩
noncomputable def b31 (P : Params) : Obj := ⟨.type "tuple", none, .seq #[.str (SH "k") 285] 0, #[]⟩
noncomputable def b32 (P : Params) : Obj := ⟨.none, none, fD "_wall" 0 (.none) (.none) (.none), #[]⟩
noncomputable def b33 (P : Params) : Obj := ⟨.type "code", none, .fields #[.str (SH "_wall") 282, .str (SH "_wall") 283, .str (SH "/claim/cut.py") 284, .int 2 0, .int 1 0, .int 0 0, .int 0 0, .int 3 0, .ref 32, .bool true, .int 276 0, .ref 33, .none, .ref 34, .ref 35, .ref 36, .int 286 0, .int 2 0, .str (SH "/claim/cut.py") 287], #[]⟩
noncomputable def b34 (P : Params) : Obj := ⟨.type "function", none, fD "_wall" 3 (.none) (.str (SH "__main__") 164) (.ref 37), #[]⟩
noncomputable def b35 (P : Params) : Obj := ⟨.type "list", none, .seq #[.int 14 294, .int 4 295, .int 0 296, .int 8 297, .int 4294967295 298, .int 24 299, .int 5 300, .int 0 301, .int 4294967295 302, .int 2 303, .int 1 304, .int 16 305, .int 70 306, .int 16 307, .int 76 308, .int 16 309, .int 65 310, .int 16 311, .int 71 312, .int 16 313, .int 83 314, .int 16 315, .int 32 316, .int 16 317, .int 40 318, .int 17 319, .int 0 320, .int 24 321, .int 6 322, .int 0 323, .int 4294967295 324, .int 20 325, .int 41 326, .int 1 327, .int 17 328, .int 1 329, .int 16 330, .int 41 331, .int 1 332] 0, #[]⟩
noncomputable def b36 (P : Params) : Obj := ⟨.type "dict", none, .dict #[dE P "flags" 334 (.int 1 335)] 1, #[]⟩
noncomputable def b37 (P : Params) : Obj := ⟨.type "tuple", none, .seq #[.none, .str (SH "flags") 337] 0, #[]⟩
noncomputable def b38 (P : Params) : Obj := ⟨.type "tuple", none, .seq #[.int 14 0, .int 4 0, .int 0 0, .int 8 0, .int 4294967295 0, .int 24 0, .int 5 0, .int 0 0, .int 4294967295 0, .int 2 0, .int 1 0, .int 16 0, .int 70 0, .int 16 0, .int 76 0, .int 16 0, .int 65 0, .int 16 0, .int 71 0, .int 16 0, .int 83 0, .int 16 0, .int 32 0, .int 16 0, .int 40 0, .int 17 0, .int 0 0, .int 24 0, .int 6 0, .int 0 0, .int 4294967295 0, .int 20 0, .int 41 0, .int 1 0, .int 17 0, .int 1 0, .int 16 0, .int 41 0, .int 1 0] 0, #[]⟩
noncomputable def b39 (P : Params) : Obj := ⟨.type "re.Pattern", none, .fields #[.bytes #[46, 42, 70, 76, 65, 71, 83, 32, 92, 40, 40, 63, 80, 60, 102, 108, 97, 103, 115, 62, 91, 94, 92, 41, 93, 42, 41, 92, 41] 292, .int 0 338, .int 1 0, .ref 40, .ref 41, .ref 42, .int 1 0], #[]⟩
noncomputable def b40 (P : Params) : Obj := ⟨.type "tuple", none, .seq #[.str (SH "resp") 343, .str (SH "mo") 344] 0, #[]⟩
noncomputable def b41 (P : Params) : Obj := ⟨.none, none, fD "ParseFlags" 0 (.none) (.none) (.none), #[]⟩
noncomputable def b42 (P : Params) : Obj := ⟨.type "code", none, .fields #[.str (SH "ParseFlags") 340, .str (SH "ParseFlags") 341, .str (SH "/claim/cut.py") 342, .int 7 0, .int 1 0, .int 0 0, .int 0 0, .int 3 0, .ref 44, .bool true, .int 276 0, .ref 45, .none, .ref 46, .ref 47, .ref 48, .int 345 0, .int 7 0, .str (SH "/claim/cut.py") 346], #[]⟩
noncomputable def b43 (P : Params) : Obj := ⟨.type "function", none, fD "ParseFlags" 3 (.none) (.str (SH "cpy313.imaplib") 289) (.ref 49), #[]⟩
noncomputable def b44 (P : Params) : Obj := ⟨.type "tuple", none, .seq #[.str (SH "code") 353, .str (SH "encoding") 354, .str (SH "langname") 355, .str (SH "norm_encoding") 356] 0, #[]⟩
noncomputable def b45 (P : Params) : Obj := ⟨.none, none, fD "_replace_encoding" 0 (.none) (.none) (.none), #[]⟩
noncomputable def b46 (P : Params) : Obj := ⟨.type "code", none, .fields #[.str (SH "_replace_encoding") 350, .str (SH "_replace_encoding") 351, .str (SH "/claim/cut.py") 352, .int 13 0, .int 2 0, .int 0 0, .int 0 0, .int 3 0, .ref 51, .bool true, .int 276 0, .ref 52, .none, .ref 53, .ref 54, .ref 55, .int 357 0, .int 13 0, .str (SH "/claim/cut.py") 358], #[]⟩
noncomputable def b47 (P : Params) : Obj := ⟨.type "function", none, fD "_replace_encoding" 3 (.none) (.str (SH "cpy313.locale") 348) (.ref 56), #[]⟩
noncomputable def b48 (P : Params) : Obj := ⟨.type "tuple", none, .seq #[.str (SH "code") 363, .str (SH "modifier") 364, .str (SH "_") 365, .str (SH "encoding") 366] 0, #[]⟩
noncomputable def b49 (P : Params) : Obj := ⟨.none, none, fD "_append_modifier" 0 (.none) (.none) (.none), #[]⟩
noncomputable def b50 (P : Params) : Obj := ⟨.type "code", none, .fields #[.str (SH "_append_modifier") 360, .str (SH "_append_modifier") 361, .str (SH "/claim/cut.py") 362, .int 30 0, .int 2 0, .int 0 0, .int 0 0, .int 3 0, .ref 58, .bool true, .int 276 0, .ref 59, .none, .ref 60, .ref 61, .ref 62, .int 367 0, .int 30 0, .str (SH "/claim/cut.py") 368], #[]⟩
noncomputable def b51 (P : Params) : Obj := ⟨.type "function", none, fD "_append_modifier" 3 (.none) (.str (SH "cpy313.locale") 348) (.ref 63), #[]⟩
noncomputable def b52 (P : Params) : Obj := ⟨.type "tuple", none, .seq #[.str (SH "localetuple") 373, .str (SH "language") 374, .str (SH "encoding") 375] 0, #[]⟩
noncomputable def b53 (P : Params) : Obj := ⟨.none, none, fD "_build_localename" 0 (.none) (.none) (.none), #[]⟩
noncomputable def b54 (P : Params) : Obj := ⟨.type "code", none, .fields #[.str (SH "_build_localename") 370, .str (SH "_build_localename") 371, .str (SH "/claim/cut.py") 372, .int 40 0, .int 1 0, .int 0 0, .int 0 0, .int 3 0, .ref 65, .bool true, .int 276 0, .ref 66, .none, .ref 67, .ref 68, .ref 69, .int 376 0, .int 40 0, .str (SH "/claim/cut.py") 377], #[]⟩
noncomputable def b55 (P : Params) : Obj := ⟨.type "function", none, fD "_build_localename" 3 (.none) (.str (SH "cpy313.locale") 348) (.ref 70), #[]⟩
noncomputable def b56 (P : Params) : Obj := ⟨.type "dict", none, .dict #[dE P "437" 379 (.str (SH "C") 380), dE P "c" 382 (.str (SH "C") 383), dE P "en" 385 (.str (SH "ISO8859-1") 386), dE P "jis" 388 (.str (SH "JIS7") 389), dE P "jis7" 391 (.str (SH "JIS7") 392), dE P "ajec" 394 (.str (SH "eucJP") 395), dE P "koi8c" 397 (.str (SH "KOI8-C") 398), dE P "microsoftcp1251" 400 (.str (SH "CP1251") 401), dE P "microsoftcp1255" 403 (.str (SH "CP1255") 404), dE P "microsoftcp1256" 406 (.str (SH "CP1256") 407), dE P "88591" 409 (.str (SH "ISO8859-1") 410), dE P "88592" 412 (.str (SH "ISO8859-2") 413), dE P "88595" 415 (.str (SH "ISO8859-5") 416), dE P "885915" 418 (.str (SH "ISO8859-15") 419), dE P "ascii" 421 (.str (SH "ISO8859-1") 422), dE P "latin_1" 424 (.str (SH "ISO8859-1") 425), dE P "iso8859_1" 427 (.str (SH "ISO8859-1") 428), dE P "iso8859_10" 430 (.str (SH "ISO8859-10") 431), dE P "iso8859_11" 433 (.str (SH "ISO8859-11") 434), dE P "iso8859_13" 436 (.str (SH "ISO8859-13") 437), dE P "iso8859_14" 439 (.str (SH "ISO8859-14") 440), dE P "iso8859_15" 442 (.str (SH "ISO8859-15") 443), dE P "iso8859_16" 445 (.str (SH "ISO8859-16") 446), dE P "iso8859_2" 448 (.str (SH "ISO8859-2") 449), dE P "iso8859_3" 451 (.str (SH "ISO8859-3") 452), dE P "iso8859_4" 454 (.str (SH "ISO8859-4") 455), dE P "iso8859_5" 457 (.str (SH "ISO8859-5") 458), dE P "iso8859_6" 460 (.str (SH "ISO8859-6") 461), dE P "iso8859_7" 463 (.str (SH "ISO8859-7") 464), dE P "iso8859_8" 466 (.str (SH "ISO8859-8") 467), dE P "iso8859_9" 469 (.str (SH "ISO8859-9") 470), dE P "iso2022_jp" 472 (.str (SH "JIS7") 473), dE P "shift_jis" 475 (.str (SH "SJIS") 476), dE P "tactis" 478 (.str (SH "TACTIS") 479), dE P "euc_jp" 481 (.str (SH "eucJP") 482), dE P "euc_kr" 483 (.str (SH "eucKR") 484), dE P "utf_8" 485 (.str (SH "UTF-8") 486), dE P "koi8_r" 487 (.str (SH "KOI8-R") 488), dE P "koi8_t" 489 (.str (SH "KOI8-T") 490), dE P "koi8_u" 491 (.str (SH "KOI8-U") 492), dE P "kz1048" 493 (.str (SH "RK1048") 494), dE P "cp1251" 495 (.str (SH "CP1251") 496), dE P "cp1255" 497 (.str (SH "CP1255") 498), dE P "cp1256" 499 (.str (SH "CP1256") 500)] 44, #[]⟩
noncomputable def b57 (P : Params) : Obj := ⟨.type "dict", none, .dict #[dE P "iso8859_10" 430 (.str (SH "ISO8859-10") 431), dE P "iso8859_11" 433 (.str (SH "ISO8859-11") 434), dE P "iso8859_13" 436 (.str (SH "ISO8859-13") 437), dE P "iso8859_14" 439 (.str (SH "ISO8859-14") 440), dE P "iso8859_15" 442 (.str (SH "ISO8859-15") 443), dE P "iso8859_16" 445 (.str (SH "ISO8859-16") 446), dE P "iso8859_2" 448 (.str (SH "ISO8859-2") 449), dE P "iso8859_3" 451 (.str (SH "ISO8859-3") 452), dE P "iso8859_4" 454 (.str (SH "ISO8859-4") 455), dE P "iso8859_5" 457 (.str (SH "ISO8859-5") 458), dE P "iso8859_6" 460 (.str (SH "ISO8859-6") 461), dE P "iso8859_7" 463 (.str (SH "ISO8859-7") 464), dE P "iso8859_8" 466 (.str (SH "ISO8859-8") 467), dE P "iso8859_9" 469 (.str (SH "ISO8859-9") 470), dE P "iso2022_jp" 472 (.str (SH "JIS7") 473), dE P "shift_jis" 475 (.str (SH "SJIS") 476), dE P "tactis" 478 (.str (SH "TACTIS") 479)] 17, #[]⟩
noncomputable def b58 (P : Params) : Obj := ⟨.type "dict", none, .dict #[dE P "euc_jp" 481 (.str (SH "eucJP") 482), dE P "euc_kr" 483 (.str (SH "eucKR") 484), dE P "utf_8" 485 (.str (SH "UTF-8") 486), dE P "koi8_r" 487 (.str (SH "KOI8-R") 488), dE P "koi8_t" 489 (.str (SH "KOI8-T") 490), dE P "koi8_u" 491 (.str (SH "KOI8-U") 492), dE P "kz1048" 493 (.str (SH "RK1048") 494), dE P "cp1251" 495 (.str (SH "CP1251") 496), dE P "cp1255" 497 (.str (SH "CP1255") 498), dE P "cp1256" 499 (.str (SH "CP1256") 500)] 10, #[]⟩
noncomputable def b59 (P : Params) : Obj := ⟨.type "dict_items", none, .fields #[.ref 72], #[]⟩
noncomputable def b60 (P : Params) : Obj := ⟨.type "list", none, .seq #[.ref 78, .ref 79, .ref 80, .ref 81, .ref 82, .ref 83, .ref 84, .ref 85, .ref 86, .ref 87, .ref 88, .ref 89, .ref 90, .ref 91, .ref 92, .ref 93, .ref 94, .ref 95, .ref 96, .ref 97, .ref 98, .ref 99, .ref 100, .ref 101, .ref 102, .ref 103, .ref 104, .ref 105, .ref 106, .ref 107, .ref 108, .ref 109, .ref 110, .ref 111, .ref 112, .ref 113, .ref 114, .ref 115, .ref 116, .ref 117, .ref 118, .ref 119, .ref 120, .ref 121] 46, #[]⟩
noncomputable def b61 (P : Params) : Obj := ⟨.type "dict_itemiterator", none, .fields #[.int 78 0, .bool true, .none, .int 44 0, .int 44 0, .int 44 0, .str (SH "437") 379, .str (SH "C") 380], #[]⟩
noncomputable def b62 (P : Params) : Obj := ⟨.type "tuple", none, .seq #[.str (SH "437") 379, .str (SH "C") 380] 0, #[]⟩
noncomputable def b63 (P : Params) : Obj := ⟨.type "tuple", none, .seq #[.str (SH "c") 382, .str (SH "C") 383] 0, #[]⟩
noncomputable def b64 (P : Params) : Obj := ⟨.type "tuple", none, .seq #[.str (SH "en") 385, .str (SH "ISO8859-1") 386] 0, #[]⟩
noncomputable def b65 (P : Params) : Obj := ⟨.type "tuple", none, .seq #[.str (SH "jis") 388, .str (SH "JIS7") 389] 0, #[]⟩
noncomputable def b66 (P : Params) : Obj := ⟨.type "tuple", none, .seq #[.str (SH "jis7") 391, .str (SH "JIS7") 392] 0, #[]⟩
noncomputable def b67 (P : Params) : Obj := ⟨.type "tuple", none, .seq #[.str (SH "ajec") 394, .str (SH "eucJP") 395] 0, #[]⟩
noncomputable def b68 (P : Params) : Obj := ⟨.type "tuple", none, .seq #[.str (SH "koi8c") 397, .str (SH "KOI8-C") 398] 0, #[]⟩
noncomputable def b69 (P : Params) : Obj := ⟨.type "tuple", none, .seq #[.str (SH "microsoftcp1251") 400, .str (SH "CP1251") 401] 0, #[]⟩
noncomputable def b70 (P : Params) : Obj := ⟨.type "tuple", none, .seq #[.str (SH "microsoftcp1255") 403, .str (SH "CP1255") 404] 0, #[]⟩
noncomputable def b71 (P : Params) : Obj := ⟨.type "tuple", none, .seq #[.str (SH "microsoftcp1256") 406, .str (SH "CP1256") 407] 0, #[]⟩
noncomputable def b72 (P : Params) : Obj := ⟨.type "tuple", none, .seq #[.str (SH "88591") 409, .str (SH "ISO8859-1") 410] 0, #[]⟩
noncomputable def b73 (P : Params) : Obj := ⟨.type "tuple", none, .seq #[.str (SH "88592") 412, .str (SH "ISO8859-2") 413] 0, #[]⟩
noncomputable def b74 (P : Params) : Obj := ⟨.type "tuple", none, .seq #[.str (SH "88595") 415, .str (SH "ISO8859-5") 416] 0, #[]⟩
noncomputable def b75 (P : Params) : Obj := ⟨.type "tuple", none, .seq #[.str (SH "885915") 418, .str (SH "ISO8859-15") 419] 0, #[]⟩
noncomputable def b76 (P : Params) : Obj := ⟨.type "tuple", none, .seq #[.str (SH "ascii") 421, .str (SH "ISO8859-1") 422] 0, #[]⟩
noncomputable def b77 (P : Params) : Obj := ⟨.type "tuple", none, .seq #[.str (SH "latin_1") 424, .str (SH "ISO8859-1") 425] 0, #[]⟩
noncomputable def b78 (P : Params) : Obj := ⟨.type "tuple", none, .seq #[.str (SH "iso8859_1") 427, .str (SH "ISO8859-1") 428] 0, #[]⟩
noncomputable def b79 (P : Params) : Obj := ⟨.type "tuple", none, .seq #[.str (SH "iso8859_10") 430, .str (SH "ISO8859-10") 431] 0, #[]⟩
noncomputable def b80 (P : Params) : Obj := ⟨.type "tuple", none, .seq #[.str (SH "iso8859_11") 433, .str (SH "ISO8859-11") 434] 0, #[]⟩
noncomputable def b81 (P : Params) : Obj := ⟨.type "tuple", none, .seq #[.str (SH "iso8859_13") 436, .str (SH "ISO8859-13") 437] 0, #[]⟩
noncomputable def b82 (P : Params) : Obj := ⟨.type "tuple", none, .seq #[.str (SH "iso8859_14") 439, .str (SH "ISO8859-14") 440] 0, #[]⟩
noncomputable def b83 (P : Params) : Obj := ⟨.type "tuple", none, .seq #[.str (SH "iso8859_15") 442, .str (SH "ISO8859-15") 443] 0, #[]⟩
noncomputable def b84 (P : Params) : Obj := ⟨.type "tuple", none, .seq #[.str (SH "iso8859_16") 445, .str (SH "ISO8859-16") 446] 0, #[]⟩
noncomputable def b85 (P : Params) : Obj := ⟨.type "tuple", none, .seq #[.str (SH "iso8859_2") 448, .str (SH "ISO8859-2") 449] 0, #[]⟩
noncomputable def b86 (P : Params) : Obj := ⟨.type "tuple", none, .seq #[.str (SH "iso8859_3") 451, .str (SH "ISO8859-3") 452] 0, #[]⟩
noncomputable def b87 (P : Params) : Obj := ⟨.type "tuple", none, .seq #[.str (SH "iso8859_4") 454, .str (SH "ISO8859-4") 455] 0, #[]⟩
noncomputable def b88 (P : Params) : Obj := ⟨.type "tuple", none, .seq #[.str (SH "iso8859_5") 457, .str (SH "ISO8859-5") 458] 0, #[]⟩
noncomputable def b89 (P : Params) : Obj := ⟨.type "tuple", none, .seq #[.str (SH "iso8859_6") 460, .str (SH "ISO8859-6") 461] 0, #[]⟩
noncomputable def b90 (P : Params) : Obj := ⟨.type "tuple", none, .seq #[.str (SH "iso8859_7") 463, .str (SH "ISO8859-7") 464] 0, #[]⟩
noncomputable def b91 (P : Params) : Obj := ⟨.type "tuple", none, .seq #[.str (SH "iso8859_8") 466, .str (SH "ISO8859-8") 467] 0, #[]⟩
noncomputable def b92 (P : Params) : Obj := ⟨.type "tuple", none, .seq #[.str (SH "iso8859_9") 469, .str (SH "ISO8859-9") 470] 0, #[]⟩
noncomputable def b93 (P : Params) : Obj := ⟨.type "tuple", none, .seq #[.str (SH "iso2022_jp") 472, .str (SH "JIS7") 473] 0, #[]⟩
noncomputable def b94 (P : Params) : Obj := ⟨.type "tuple", none, .seq #[.str (SH "shift_jis") 475, .str (SH "SJIS") 476] 0, #[]⟩
noncomputable def b95 (P : Params) : Obj := ⟨.type "tuple", none, .seq #[.str (SH "tactis") 478, .str (SH "TACTIS") 479] 0, #[]⟩
noncomputable def b96 (P : Params) : Obj := ⟨.type "tuple", none, .seq #[.str (SH "euc_jp") 481, .str (SH "eucJP") 482] 0, #[]⟩
noncomputable def b97 (P : Params) : Obj := ⟨.type "tuple", none, .seq #[.str (SH "euc_kr") 483, .str (SH "eucKR") 484] 0, #[]⟩
noncomputable def b98 (P : Params) : Obj := ⟨.type "tuple", none, .seq #[.str (SH "utf_8") 485, .str (SH "UTF-8") 486] 0, #[]⟩
noncomputable def b99 (P : Params) : Obj := ⟨.type "tuple", none, .seq #[.str (SH "koi8_r") 487, .str (SH "KOI8-R") 488] 0, #[]⟩
noncomputable def b100 (P : Params) : Obj := ⟨.type "tuple", none, .seq #[.str (SH "koi8_t") 489, .str (SH "KOI8-T") 490] 0, #[]⟩
noncomputable def b101 (P : Params) : Obj := ⟨.type "tuple", none, .seq #[.str (SH "koi8_u") 491, .str (SH "KOI8-U") 492] 0, #[]⟩
noncomputable def b102 (P : Params) : Obj := ⟨.type "tuple", none, .seq #[.str (SH "kz1048") 493, .str (SH "RK1048") 494] 0, #[]⟩
noncomputable def b103 (P : Params) : Obj := ⟨.type "tuple", none, .seq #[.str (SH "cp1251") 495, .str (SH "CP1251") 496] 0, #[]⟩
noncomputable def b104 (P : Params) : Obj := ⟨.type "tuple", none, .seq #[.str (SH "cp1255") 497, .str (SH "CP1255") 498] 0, #[]⟩
noncomputable def b105 (P : Params) : Obj := ⟨.type "tuple", none, .seq #[.str (SH "cp1256") 499, .str (SH "CP1256") 500] 0, #[]⟩
noncomputable def b106 (P : Params) : Obj := ⟨.type "StopIteration", none, .fields #[.ref 122, .none, .none, .none, .bool false, .none], #[]⟩
noncomputable def b107 (P : Params) : Obj := ⟨.type "list", none, .seq #[.ref 78, .ref 88, .ref 91, .ref 89, .ref 90, .ref 83, .ref 92, .ref 79, .ref 119, .ref 120, .ref 121, .ref 80, .ref 112, .ref 113, .ref 109, .ref 94, .ref 95, .ref 96, .ref 97, .ref 98, .ref 99, .ref 100, .ref 101, .ref 102, .ref 103, .ref 104, .ref 105, .ref 106, .ref 107, .ref 108, .ref 81, .ref 82, .ref 115, .ref 116, .ref 117, .ref 84, .ref 118, .ref 93, .ref 85, .ref 86, .ref 87, .ref 110, .ref 111, .ref 114] 2, #[]⟩
noncomputable def b108 (P : Params) : Obj := ⟨.type "tuple", none, .seq #[.ref 78, .ref 79, .ref 80, .ref 81, .ref 82, .ref 83, .ref 84, .ref 85, .ref 86, .ref 87, .ref 88, .ref 89, .ref 90, .ref 91, .ref 92, .ref 93, .ref 94, .ref 95, .ref 96, .ref 97, .ref 98, .ref 99, .ref 100, .ref 101, .ref 102, .ref 103, .ref 104, .ref 105, .ref 106, .ref 107, .ref 108, .ref 109, .ref 110, .ref 111, .ref 112, .ref 113, .ref 114, .ref 115, .ref 116, .ref 117, .ref 118, .ref 119, .ref 120, .ref 121] 0, #[]⟩
noncomputable def b109 (P : Params) : Obj := ⟨.type "list_iterator", none, .fields #[.ref 124, .int 0 0], #[]⟩
noncomputable def b110 (P : Params) : Obj := ⟨.type "dict", none, .dict #[dE P "__name__" 165 (.str (SH "cpy313.locale") 348), dE P "__doc__" 166 (.none), dE P "__package__" 167 (.none), dE P "__loader__" 168 (.builtin "__main__.__loader__#opaque"), dE P "__spec__" 169 (.none), dE P "__annotations__" 170 (.ref 6), dE P "__builtins__" 171 (.ref 4), dE P "__file__" 173 (.str (SH "/claim/cut.py") 172), dE P "__cached__" 174 (.none), dE P "_sre" 275 (.ref 12), dE P "_wall" 288 (.ref 38), dE P "Flags" 339 (.ref 43), dE P "ParseFlags" 347 (.ref 50), dE P "_replace_encoding" 359 (.ref 57), dE P "_append_modifier" 369 (.ref 64), dE P "_build_localename" 378 (.ref 71), dE P "locale_encoding_alias" 511 (.ref 72), dE P "k" 512 (.str (SH "iso885916") 651), dE P "v" 513 (.str (SH "ISO8859-16") 446)] 19, #[]⟩
noncomputable def b111 (P : Params) : Obj := ⟨.type "dict", none, .dict #[dE P "437" 379 (.str (SH "C") 380), dE P "c" 382 (.str (SH "C") 383), dE P "en" 385 (.str (SH "ISO8859-1") 386), dE P "jis" 388 (.str (SH "JIS7") 389), dE P "jis7" 391 (.str (SH "JIS7") 392), dE P "ajec" 394 (.str (SH "eucJP") 395), dE P "koi8c" 397 (.str (SH "KOI8-C") 398), dE P "microsoftcp1251" 400 (.str (SH "CP1251") 401), dE P "microsoftcp1255" 403 (.str (SH "CP1255") 404), dE P "microsoftcp1256" 406 (.str (SH "CP1256") 407), dE P "88591" 409 (.str (SH "ISO8859-1") 410), dE P "88592" 412 (.str (SH "ISO8859-2") 413), dE P "88595" 415 (.str (SH "ISO8859-5") 416), dE P "885915" 418 (.str (SH "ISO8859-15") 419), dE P "ascii" 421 (.str (SH "ISO8859-1") 422), dE P "latin_1" 424 (.str (SH "ISO8859-1") 425), dE P "iso8859_1" 427 (.str (SH "ISO8859-1") 428), dE P "iso8859_10" 430 (.str (SH "ISO8859-10") 431), dE P "iso8859_11" 433 (.str (SH "ISO8859-11") 434), dE P "iso8859_13" 436 (.str (SH "ISO8859-13") 437), dE P "iso8859_14" 439 (.str (SH "ISO8859-14") 440), dE P "iso8859_15" 442 (.str (SH "ISO8859-15") 443), dE P "iso8859_16" 445 (.str (SH "ISO8859-16") 446), dE P "iso8859_2" 448 (.str (SH "ISO8859-2") 449), dE P "iso8859_3" 451 (.str (SH "ISO8859-3") 452), dE P "iso8859_4" 454 (.str (SH "ISO8859-4") 455), dE P "iso8859_5" 457 (.str (SH "ISO8859-5") 458), dE P "iso8859_6" 460 (.str (SH "ISO8859-6") 461), dE P "iso8859_7" 463 (.str (SH "ISO8859-7") 464), dE P "iso8859_8" 466 (.str (SH "ISO8859-8") 467), dE P "iso8859_9" 469 (.str (SH "ISO8859-9") 470), dE P "iso2022_jp" 472 (.str (SH "JIS7") 473), dE P "shift_jis" 475 (.str (SH "SJIS") 476), dE P "tactis" 478 (.str (SH "TACTIS") 479), dE P "euc_jp" 481 (.str (SH "eucJP") 482), dE P "euc_kr" 483 (.str (SH "eucKR") 484), dE P "utf_8" 485 (.str (SH "UTF-8") 486), dE P "koi8_r" 487 (.str (SH "KOI8-R") 488), dE P "koi8_t" 489 (.str (SH "KOI8-T") 490), dE P "koi8_u" 491 (.str (SH "KOI8-U") 492), dE P "kz1048" 493 (.str (SH "RK1048") 494), dE P "cp1251" 495 (.str (SH "CP1251") 496), dE P "cp1255" 497 (.str (SH "CP1255") 498), dE P "cp1256" 499 (.str (SH "CP1256") 500), dE P "eucjp" 588 (.str (SH "eucJP") 482), dE P "euckr" 595 (.str (SH "eucKR") 484), dE P "iso2022jp" 602 (.str (SH "JIS7") 473), dE P "iso88591" 609 (.str (SH "ISO8859-1") 428), dE P "iso885910" 616 (.str (SH "ISO8859-10") 431), dE P "iso885911" 623 (.str (SH "ISO8859-11") 434), dE P "iso885913" 630 (.str (SH "ISO8859-13") 437), dE P "iso885914" 637 (.str (SH "ISO8859-14") 440), dE P "iso885915" 644 (.str (SH "ISO8859-15") 443), dE P "iso885916" 651 (.str (SH "ISO8859-16") 446)] 54, #[]⟩
noncomputable def b112 (P : Params) : Obj := ⟨.type "list_iterator", none, .fields #[.ref 124, .int 22 0], #[]⟩
noncomputable def b113 (P : Params) : Obj := ⟨.type "tuple_iterator", none, .fields #[.none, .int 2 0], #[]⟩
noncomputable def b114 (P : Params) : Obj := ⟨.type "StopIteration", none, .fields #[.ref 129, .none, .none, .none, .bool false, .none], #[]⟩
noncomputable def b115 (P : Params) : Obj := ⟨.type "StopIteration", none, .fields #[.ref 132, .none, .none, .none, .bool false, .none], #[]⟩
noncomputable def b116 (P : Params) : Obj := ⟨.type "StopIteration", none, .fields #[.ref 135, .none, .none, .none, .bool false, .none], #[]⟩
noncomputable def b117 (P : Params) : Obj := ⟨.type "StopIteration", none, .fields #[.ref 138, .none, .none, .none, .bool false, .none], #[]⟩
noncomputable def b118 (P : Params) : Obj := ⟨.type "StopIteration", none, .fields #[.ref 141, .none, .none, .none, .bool false, .none], #[]⟩
noncomputable def b119 (P : Params) : Obj := ⟨.type "StopIteration", none, .fields #[.ref 144, .none, .none, .none, .bool false, .none], #[]⟩
noncomputable def b120 (P : Params) : Obj := ⟨.type "StopIteration", none, .fields #[.ref 147, .none, .none, .none, .bool false, .none], #[]⟩
noncomputable def b121 (P : Params) : Obj := ⟨.type "StopIteration", none, .fields #[.ref 150, .none, .none, .none, .bool false, .none], #[]⟩
noncomputable def b122 (P : Params) : Obj := ⟨.type "StopIteration", none, .fields #[.ref 153, .none, .none, .none, .bool false, .none], #[]⟩
noncomputable def b123 (P : Params) : Obj := ⟨.type "StopIteration", none, .fields #[.ref 156, .none, .none, .none, .bool false, .none], #[]⟩
noncomputable def b124 (P : Params) : Obj := ⟨.type "StopIteration", none, .fields #[.ref 159, .none, .none, .none, .bool false, .none], #[]⟩
noncomputable def b125 (P : Params) : Obj := ⟨.type "StopIteration", none, .fields #[.ref 162, .none, .none, .none, .bool false, .none], #[]⟩
noncomputable def b126 (P : Params) : Obj := ⟨.type "StopIteration", none, .fields #[.ref 165, .none, .none, .none, .bool false, .none], #[]⟩
noncomputable def b127 (P : Params) : Obj := ⟨.type "StopIteration", none, .fields #[.ref 168, .none, .none, .none, .bool false, .none], #[]⟩
noncomputable def b128 (P : Params) : Obj := ⟨.type "StopIteration", none, .fields #[.ref 171, .none, .none, .none, .bool false, .none], #[]⟩
noncomputable def b129 (P : Params) : Obj := ⟨.type "StopIteration", none, .fields #[.ref 174, .none, .none, .none, .bool false, .none], #[]⟩
noncomputable def b130 (P : Params) : Obj := ⟨.type "StopIteration", none, .fields #[.ref 177, .none, .none, .none, .bool false, .none], #[]⟩
noncomputable def b131 (P : Params) : Obj := ⟨.type "StopIteration", none, .fields #[.ref 180, .none, .none, .none, .bool false, .none], #[]⟩
noncomputable def b132 (P : Params) : Obj := ⟨.type "StopIteration", none, .fields #[.ref 183, .none, .none, .none, .bool false, .none], #[]⟩
noncomputable def b133 (P : Params) : Obj := ⟨.type "StopIteration", none, .fields #[.ref 186, .none, .none, .none, .bool false, .none], #[]⟩
noncomputable def b134 (P : Params) : Obj := ⟨.type "StopIteration", none, .fields #[.ref 189, .none, .none, .none, .bool false, .none], #[]⟩
noncomputable def b135 (P : Params) : Obj := ⟨.type "StopIteration", none, .fields #[.ref 192, .none, .none, .none, .bool false, .none], #[]⟩
noncomputable def b136 (P : Params) : Obj := ⟨.type "dict", none, .dict #[dE P "__name__" 165 (.str (SH "cpy313.locale") 348), dE P "__doc__" 166 (.none), dE P "__package__" 167 (.none), dE P "__loader__" 168 (.builtin "__main__.__loader__#opaque"), dE P "__spec__" 169 (.none), dE P "__annotations__" 170 (.ref 6), dE P "__builtins__" 171 (.ref 4), dE P "__file__" 173 (.str (SH "/claim/cut.py") 172), dE P "__cached__" 174 (.none), dE P "_sre" 275 (.ref 12), dE P "_wall" 288 (.ref 38), dE P "Flags" 339 (.ref 43), dE P "ParseFlags" 347 (.ref 50), dE P "_replace_encoding" 359 (.ref 57), dE P "_append_modifier" 369 (.ref 64), dE P "_build_localename" 378 (.ref 71), dE P "locale_encoding_alias" 511 (.ref 72), dE P "k" 512 (.str (SH "utf8") 797), dE P "v" 513 (.str (SH "UTF-8") 486)] 19, #[]⟩
noncomputable def b137 (P : Params) : Obj := ⟨.type "dict", none, .dict #[dE P "437" 379 (.str (SH "C") 380), dE P "c" 382 (.str (SH "C") 383), dE P "en" 385 (.str (SH "ISO8859-1") 386), dE P "jis" 388 (.str (SH "JIS7") 389), dE P "jis7" 391 (.str (SH "JIS7") 392), dE P "ajec" 394 (.str (SH "eucJP") 395), dE P "koi8c" 397 (.str (SH "KOI8-C") 398), dE P "microsoftcp1251" 400 (.str (SH "CP1251") 401), dE P "microsoftcp1255" 403 (.str (SH "CP1255") 404), dE P "microsoftcp1256" 406 (.str (SH "CP1256") 407), dE P "88591" 409 (.str (SH "ISO8859-1") 410), dE P "88592" 412 (.str (SH "ISO8859-2") 413), dE P "88595" 415 (.str (SH "ISO8859-5") 416), dE P "885915" 418 (.str (SH "ISO8859-15") 419), dE P "ascii" 421 (.str (SH "ISO8859-1") 422), dE P "latin_1" 424 (.str (SH "ISO8859-1") 425), dE P "iso8859_1" 427 (.str (SH "ISO8859-1") 428), dE P "iso8859_10" 430 (.str (SH "ISO8859-10") 431), dE P "iso8859_11" 433 (.str (SH "ISO8859-11") 434), dE P "iso8859_13" 436 (.str (SH "ISO8859-13") 437), dE P "iso8859_14" 439 (.str (SH "ISO8859-14") 440), dE P "iso8859_15" 442 (.str (SH "ISO8859-15") 443), dE P "iso8859_16" 445 (.str (SH "ISO8859-16") 446), dE P "iso8859_2" 448 (.str (SH "ISO8859-2") 449), dE P "iso8859_3" 451 (.str (SH "ISO8859-3") 452), dE P "iso8859_4" 454 (.str (SH "ISO8859-4") 455), dE P "iso8859_5" 457 (.str (SH "ISO8859-5") 458), dE P "iso8859_6" 460 (.str (SH "ISO8859-6") 461), dE P "iso8859_7" 463 (.str (SH "ISO8859-7") 464), dE P "iso8859_8" 466 (.str (SH "ISO8859-8") 467), dE P "iso8859_9" 469 (.str (SH "ISO8859-9") 470), dE P "iso2022_jp" 472 (.str (SH "JIS7") 473), dE P "shift_jis" 475 (.str (SH "SJIS") 476), dE P "tactis" 478 (.str (SH "TACTIS") 479), dE P "euc_jp" 481 (.str (SH "eucJP") 482), dE P "euc_kr" 483 (.str (SH "eucKR") 484), dE P "utf_8" 485 (.str (SH "UTF-8") 486), dE P "koi8_r" 487 (.str (SH "KOI8-R") 488), dE P "koi8_t" 489 (.str (SH "KOI8-T") 490), dE P "koi8_u" 491 (.str (SH "KOI8-U") 492), dE P "kz1048" 493 (.str (SH "RK1048") 494), dE P "cp1251" 495 (.str (SH "CP1251") 496), dE P "cp1255" 497 (.str (SH "CP1255") 498), dE P "cp1256" 499 (.str (SH "CP1256") 500), dE P "eucjp" 588 (.str (SH "eucJP") 482), dE P "euckr" 595 (.str (SH "eucKR") 484), dE P "iso2022jp" 602 (.str (SH "JIS7") 473), dE P "iso88591" 609 (.str (SH "ISO8859-1") 428), dE P "iso885910" 616 (.str (SH "ISO8859-10") 431), dE P "iso885911" 623 (.str (SH "ISO8859-11") 434), dE P "iso885913" 630 (.str (SH "ISO8859-13") 437), dE P "iso885914" 637 (.str (SH "ISO8859-14") 440), dE P "iso885915" 644 (.str (SH "ISO8859-15") 443), dE P "iso885916" 651 (.str (SH "ISO8859-16") 446), dE P "iso88592" 658 (.str (SH "ISO8859-2") 449), dE P "iso88593" 665 (.str (SH "ISO8859-3") 452), dE P "iso88594" 672 (.str (SH "ISO8859-4") 455), dE P "iso88595" 679 (.str (SH "ISO8859-5") 458), dE P "iso88596" 686 (.str (SH "ISO8859-6") 461), dE P "iso88597" 693 (.str (SH "ISO8859-7") 464), dE P "iso88598" 700 (.str (SH "ISO8859-8") 467), dE P "iso88599" 707 (.str (SH "ISO8859-9") 470), dE P "koi8r" 726 (.str (SH "KOI8-R") 488), dE P "koi8t" 733 (.str (SH "KOI8-T") 490), dE P "koi8u" 740 (.str (SH "KOI8-U") 492), dE P "latin1" 759 (.str (SH "ISO8859-1") 425), dE P "shiftjis" 784 (.str (SH "SJIS") 476), dE P "utf8" 797 (.str (SH "UTF-8") 486)] 68, #[]⟩
noncomputable def b138 (P : Params) : Obj := ⟨.type "list_iterator", none, .fields #[.ref 124, .int 44 0], #[]⟩
noncomputable def b139 (P : Params) : Obj := ⟨.type "StopIteration", none, .fields #[.ref 195, .none, .none, .none, .bool false, .none], #[]⟩
noncomputable def b140 (P : Params) : Obj := ⟨.type "StopIteration", none, .fields #[.ref 198, .none, .none, .none, .bool false, .none], #[]⟩
noncomputable def b141 (P : Params) : Obj := ⟨.type "StopIteration", none, .fields #[.ref 201, .none, .none, .none, .bool false, .none], #[]⟩
noncomputable def b142 (P : Params) : Obj := ⟨.type "StopIteration", none, .fields #[.ref 204, .none, .none, .none, .bool false, .none], #[]⟩
noncomputable def b143 (P : Params) : Obj := ⟨.type "StopIteration", none, .fields #[.ref 207, .none, .none, .none, .bool false, .none], #[]⟩
noncomputable def b144 (P : Params) : Obj := ⟨.type "StopIteration", none, .fields #[.ref 210, .none, .none, .none, .bool false, .none], #[]⟩
noncomputable def b145 (P : Params) : Obj := ⟨.type "StopIteration", none, .fields #[.ref 213, .none, .none, .none, .bool false, .none], #[]⟩
noncomputable def b146 (P : Params) : Obj := ⟨.type "StopIteration", none, .fields #[.ref 216, .none, .none, .none, .bool false, .none], #[]⟩
noncomputable def b147 (P : Params) : Obj := ⟨.type "StopIteration", none, .fields #[.ref 219, .none, .none, .none, .bool false, .none], #[]⟩
noncomputable def b148 (P : Params) : Obj := ⟨.type "StopIteration", none, .fields #[.ref 222, .none, .none, .none, .bool false, .none], #[]⟩
noncomputable def b149 (P : Params) : Obj := ⟨.type "StopIteration", none, .fields #[.ref 225, .none, .none, .none, .bool false, .none], #[]⟩
noncomputable def b150 (P : Params) : Obj := ⟨.type "StopIteration", none, .fields #[.ref 228, .none, .none, .none, .bool false, .none], #[]⟩
noncomputable def b151 (P : Params) : Obj := ⟨.type "StopIteration", none, .fields #[.ref 231, .none, .none, .none, .bool false, .none], #[]⟩
noncomputable def b152 (P : Params) : Obj := ⟨.type "StopIteration", none, .fields #[.ref 234, .none, .none, .none, .bool false, .none], #[]⟩
noncomputable def b153 (P : Params) : Obj := ⟨.type "StopIteration", none, .fields #[.ref 237, .none, .none, .none, .bool false, .none], #[]⟩
noncomputable def b154 (P : Params) : Obj := ⟨.type "StopIteration", none, .fields #[.ref 240, .none, .none, .none, .bool false, .none], #[]⟩
noncomputable def b155 (P : Params) : Obj := ⟨.type "StopIteration", none, .fields #[.ref 243, .none, .none, .none, .bool false, .none], #[]⟩
noncomputable def b156 (P : Params) : Obj := ⟨.type "StopIteration", none, .fields #[.ref 246, .none, .none, .none, .bool false, .none], #[]⟩
noncomputable def b157 (P : Params) : Obj := ⟨.type "StopIteration", none, .fields #[.ref 249, .none, .none, .none, .bool false, .none], #[]⟩
noncomputable def b158 (P : Params) : Obj := ⟨.type "StopIteration", none, .fields #[.ref 252, .none, .none, .none, .bool false, .none], #[]⟩
noncomputable def b159 (P : Params) : Obj := ⟨.type "StopIteration", none, .fields #[.ref 255, .none, .none, .none, .bool false, .none], #[]⟩
noncomputable def b160 (P : Params) : Obj := ⟨.type "StopIteration", none, .fields #[.ref 258, .none, .none, .none, .bool false, .none], #[]⟩
noncomputable def b161 (P : Params) : Obj := ⟨.type "dict", none, .dict #[dE P "__name__" 165 (.str (SH "law_kl0207_01") 1004), dE P "__doc__" 166 (.none), dE P "__package__" 167 (.none), dE P "__loader__" 168 (.builtin "__main__.__loader__#opaque"), dE P "__spec__" 169 (.none), dE P "__annotations__" 170 (.ref 6), dE P "__builtins__" 171 (.ref 4), dE P "__file__" 173 (.str (SH "/claim/cut.py") 172), dE P "__cached__" 174 (.none), dE P "_sre" 275 (.ref 12), dE P "_wall" 288 (.ref 38), dE P "Flags" 339 (.ref 43), dE P "ParseFlags" 347 (.ref 50), dE P "_replace_encoding" 359 (.ref 57), dE P "_append_modifier" 369 (.ref 64), dE P "_build_localename" 378 (.ref 71), dE P "locale_encoding_alias" 511 (.ref 72), dE P "ENDMARKER" 803 (.int 0 802), dE P "LPAR" 805 (.int 7 804), dE P "RPAR" 807 (.int 8 806), dE P "LSQB" 809 (.int 9 808), dE P "RSQB" 811 (.int 10 810), dE P "COLON" 813 (.int 11 812), dE P "COMMA" 815 (.int 12 814), dE P "SEMI" 817 (.int 13 816), dE P "PLUS" 819 (.int 14 818), dE P "MINUS" 821 (.int 15 820), dE P "STAR" 823 (.int 16 822), dE P "SLASH" 825 (.int 17 824), dE P "VBAR" 827 (.int 18 826), dE P "AMPER" 829 (.int 19 828), dE P "LESS" 831 (.int 20 830), dE P "GREATER" 833 (.int 21 832), dE P "EQUAL" 835 (.int 22 834), dE P "DOT" 837 (.int 23 836), dE P "PERCENT" 839 (.int 24 838), dE P "LBRACE" 841 (.int 25 840), dE P "RBRACE" 843 (.int 26 842), dE P "EQEQUAL" 845 (.int 27 844), dE P "NOTEQUAL" 847 (.int 28 846), dE P "LESSEQUAL" 849 (.int 29 848), dE P "GREATEREQUAL" 851 (.int 30 850), dE P "TILDE" 853 (.int 31 852), dE P "CIRCUMFLEX" 855 (.int 32 854), dE P "LEFTSHIFT" 857 (.int 33 856), dE P "RIGHTSHIFT" 859 (.int 34 858), dE P "DOUBLESTAR" 861 (.int 35 860), dE P "PLUSEQUAL" 863 (.int 36 862), dE P "MINEQUAL" 865 (.int 37 864), dE P "STAREQUAL" 867 (.int 38 866), dE P "SLASHEQUAL" 869 (.int 39 868), dE P "PERCENTEQUAL" 871 (.int 40 870), dE P "AMPEREQUAL" 873 (.int 41 872), dE P "VBAREQUAL" 875 (.int 42 874), dE P "CIRCUMFLEXEQUAL" 877 (.int 43 876), dE P "LEFTSHIFTEQUAL" 879 (.int 44 878), dE P "RIGHTSHIFTEQUAL" 881 (.int 45 880), dE P "DOUBLESTAREQUAL" 883 (.int 46 882), dE P "DOUBLESLASH" 885 (.int 47 884), dE P "DOUBLESLASHEQUAL" 887 (.int 48 886), dE P "AT" 889 (.int 49 888), dE P "ATEQUAL" 891 (.int 50 890), dE P "RARROW" 893 (.int 51 892), dE P "ELLIPSIS" 895 (.int 52 894), dE P "COLONEQUAL" 897 (.int 53 896), dE P "EXCLAMATION" 899 (.int 54 898), dE P "EXACT_TOKEN_TYPES" 996 (.ref 262), dE P "ISEOF" 1003 (.ref 271), dE P "_law_name" 1011 (.ref 276), dE P "_law_flags" 1022 (.ref 283), dE P "_law_meeting" 1028 (.ref 288), dE P "_law_numbers" 1034 (.ref 293), dE P "law" 1040 (.ref 298)] 77, #[]⟩
noncomputable def b162 (P : Params) : Obj := ⟨.none, none, .fields #[.int 2 0, .int 0 0, .ref 37, .int 7 0, .int 0 0, .ref 49, .int 13 0, .int 0 0, .ref 56, .int 30 0, .int 0 0, .ref 63, .int 40 0, .int 0 0, .ref 70, .int 107 0, .int 0 0, .ref 270, .int 110 0, .int 0 0, .ref 275, .int 127 0, .int 0 0, .ref 282, .int 134 0, .int 0 0, .ref 287, .int 142 0, .int 0 0, .ref 292, .int 144 0, .int 0 0, .ref 297], #[]⟩
noncomputable def b163 (P : Params) : Obj := ⟨.type "list_iterator", none, .fields #[.none, .int 44 0], #[]⟩
noncomputable def b164 (P : Params) : Obj := ⟨.type "StopIteration", none, .fields #[.ref 260, .none, .none, .none, .bool false, .none], #[]⟩
noncomputable def b165 (P : Params) : Obj := ⟨.type "dict", none, .dict #[dE P "!" 900 (.int 54 898), dE P "!=" 902 (.int 28 846), dE P "%" 904 (.int 24 838), dE P "%=" 906 (.int 40 870), dE P "&" 908 (.int 19 828), dE P "&=" 910 (.int 41 872), dE P "(" 912 (.int 7 804), dE P ")" 914 (.int 8 806), dE P "*" 916 (.int 16 822), dE P "**" 918 (.int 35 860), dE P "**=" 920 (.int 46 882), dE P "*=" 922 (.int 38 866), dE P "+" 924 (.int 14 818), dE P "+=" 926 (.int 36 862), dE P "," 928 (.int 12 814), dE P "-" 930 (.int 15 820), dE P "-=" 932 (.int 37 864), dE P "->" 934 (.int 51 892), dE P "." 936 (.int 23 836), dE P "..." 938 (.int 52 894), dE P "/" 940 (.int 17 824), dE P "//" 942 (.int 47 884), dE P "//=" 944 (.int 48 886), dE P "/=" 946 (.int 39 868), dE P ":" 948 (.int 11 812), dE P ":=" 950 (.int 53 896), dE P ";" 952 (.int 13 816), dE P "<" 954 (.int 20 830), dE P "<<" 956 (.int 33 856), dE P "<<=" 958 (.int 44 878), dE P "<=" 960 (.int 29 848), dE P "=" 962 (.int 22 834), dE P "==" 964 (.int 27 844), dE P ">" 966 (.int 21 832), dE P ">=" 968 (.int 30 850), dE P ">>" 969 (.int 34 858), dE P ">>=" 970 (.int 45 880), dE P "@" 971 (.int 49 888), dE P "@=" 972 (.int 50 890), dE P "[" 973 (.int 9 808), dE P "]" 974 (.int 10 810), dE P "^" 975 (.int 32 854), dE P "^=" 976 (.int 43 876), dE P "{" 977 (.int 25 840), dE P "|" 978 (.int 18 826), dE P "|=" 979 (.int 42 874), dE P "}" 980 (.int 26 842), dE P "~" 981 (.int 31 852)] 48, #[]⟩
noncomputable def b166 (P : Params) : Obj := ⟨.type "dict", none, .dict #[dE P "->" 934 (.int 51 892), dE P "." 936 (.int 23 836), dE P "..." 938 (.int 52 894), dE P "/" 940 (.int 17 824), dE P "//" 942 (.int 47 884), dE P "//=" 944 (.int 48 886), dE P "/=" 946 (.int 39 868), dE P ":" 948 (.int 11 812), dE P ":=" 950 (.int 53 896), dE P ";" 952 (.int 13 816), dE P "<" 954 (.int 20 830), dE P "<<" 956 (.int 33 856), dE P "<<=" 958 (.int 44 878), dE P "<=" 960 (.int 29 848), dE P "=" 962 (.int 22 834), dE P "==" 964 (.int 27 844), dE P ">" 966 (.int 21 832)] 17, #[]⟩
noncomputable def b167 (P : Params) : Obj := ⟨.type "dict", none, .dict #[dE P ">=" 968 (.int 30 850), dE P ">>" 969 (.int 34 858), dE P ">>=" 970 (.int 45 880), dE P "@" 971 (.int 49 888), dE P "@=" 972 (.int 50 890), dE P "[" 973 (.int 9 808), dE P "]" 974 (.int 10 810), dE P "^" 975 (.int 32 854), dE P "^=" 976 (.int 43 876), dE P "{" 977 (.int 25 840), dE P "|" 978 (.int 18 826), dE P "|=" 979 (.int 42 874), dE P "}" 980 (.int 26 842), dE P "~" 981 (.int 31 852)] 14, #[]⟩
noncomputable def b168 (P : Params) : Obj := ⟨.type "tuple", none, .seq #[.str (SH "x") 1000] 0, #[]⟩
noncomputable def b169 (P : Params) : Obj := ⟨.none, none, fD "ISEOF" 0 (.none) (.none) (.none), #[]⟩
noncomputable def b170 (P : Params) : Obj := ⟨.type "code", none, .fields #[.str (SH "ISEOF") 997, .str (SH "ISEOF") 998, .str (SH "/claim/cut.py") 999, .int 107 0, .int 1 0, .int 0 0, .int 0 0, .int 3 0, .ref 265, .bool true, .int 276 0, .ref 266, .none, .ref 267, .ref 268, .ref 269, .int 1001 0, .int 107 0, .str (SH "/claim/cut.py") 1002], #[]⟩
noncomputable def b171 (P : Params) : Obj := ⟨.type "function", none, fD "ISEOF" 3 (.none) (.str (SH "cpy313.token") 800) (.ref 270), #[]⟩
noncomputable def b172 (P : Params) : Obj := ⟨.none, none, fD "_law_name" 0 (.none) (.none) (.none), #[]⟩
noncomputable def b173 (P : Params) : Obj := ⟨.type "code", none, .fields #[.str (SH "_law_name") 1006, .str (SH "_law_name") 1007, .str (SH "/claim/cut.py") 1008, .int 110 0, .int 3 0, .int 0 0, .int 0 0, .int 3 0, .ref 272, .bool true, .int 276 0, .ref 273, .none, .none, .none, .ref 274, .int 1009 0, .int 110 0, .str (SH "/claim/cut.py") 1010], #[]⟩
noncomputable def b174 (P : Params) : Obj := ⟨.type "function", none, fD "_law_name" 3 (.none) (.str (SH "law_kl0207_01") 1004) (.ref 275), #[]⟩
noncomputable def b175 (P : Params) : Obj := ⟨.type "tuple", none, .seq #[.str (SH "word") 1015, .str (SH "at") 1016, .str (SH "flags") 1017, .str (SH "piece") 1018, .str (SH "number") 1019] 0, #[]⟩
noncomputable def b176 (P : Params) : Obj := ⟨.none, none, fD "_law_flags" 0 (.none) (.none) (.none), #[]⟩
noncomputable def b177 (P : Params) : Obj := ⟨.type "code", none, .fields #[.str (SH "_law_flags") 1012, .str (SH "_law_flags") 1013, .str (SH "/claim/cut.py") 1014, .int 127 0, .int 2 0, .int 0 0, .int 0 0, .int 3 0, .ref 277, .bool true, .int 276 0, .ref 278, .none, .ref 279, .ref 280, .ref 281, .int 1020 0, .int 127 0, .str (SH "/claim/cut.py") 1021], #[]⟩
noncomputable def b178 (P : Params) : Obj := ⟨.type "function", none, fD "_law_flags" 3 (.none) (.str (SH "law_kl0207_01") 1004) (.ref 282), #[]⟩
noncomputable def b179 (P : Params) : Obj := ⟨.none, none, fD "_law_meeting" 0 (.none) (.none) (.none), #[]⟩
noncomputable def b180 (P : Params) : Obj := ⟨.type "code", none, .fields #[.str (SH "_law_meeting") 1023, .str (SH "_law_meeting") 1024, .str (SH "/claim/cut.py") 1025, .int 134 0, .int 1 0, .int 0 0, .int 0 0, .int 3 0, .ref 284, .bool true, .int 276 0, .ref 285, .none, .none, .none, .ref 286, .int 1026 0, .int 134 0, .str (SH "/claim/cut.py") 1027], #[]⟩
noncomputable def b181 (P : Params) : Obj := ⟨.type "function", none, fD "_law_meeting" 3 (.none) (.str (SH "law_kl0207_01") 1004) (.ref 287), #[]⟩
noncomputable def b182 (P : Params) : Obj := ⟨.none, none, fD "_law_numbers" 0 (.none) (.none) (.none), #[]⟩
noncomputable def b183 (P : Params) : Obj := ⟨.type "code", none, .fields #[.str (SH "_law_numbers") 1029, .str (SH "_law_numbers") 1030, .str (SH "/claim/cut.py") 1031, .int 142 0, .int 2 0, .int 0 0, .int 0 0, .int 3 0, .ref 289, .bool true, .int 276 0, .ref 290, .none, .none, .none, .ref 291, .int 1032 0, .int 142 0, .str (SH "/claim/cut.py") 1033], #[]⟩
noncomputable def b184 (P : Params) : Obj := ⟨.type "function", none, fD "_law_numbers" 3 (.none) (.str (SH "law_kl0207_01") 1004) (.ref 292), #[]⟩
noncomputable def b185 (P : Params) : Obj := ⟨.none, none, fD "law" 0 (.none) (.none) (.none), #[]⟩
noncomputable def b186 (P : Params) : Obj := ⟨.type "code", none, .fields #[.str (SH "law") 1035, .str (SH "law") 1036, .str (SH "/claim/cut.py") 1037, .int 144 0, .int 1 0, .int 0 0, .int 0 0, .int 3 0, .ref 294, .bool true, .int 276 0, .ref 295, .none, .none, .none, .ref 296, .int 1038 0, .int 144 0, .str (SH "/claim/cut.py") 1039], #[]⟩
noncomputable def b187 (P : Params) : Obj := ⟨.type "function", none, fD "law" 3 (.none) (.str (SH "law_kl0207_01") 1004) (.ref 297), #[]⟩
noncomputable def st0 (P : Params) : SharedT := stOf [b0 P, b1 P, b2 P, b3 P, b4 P, b5 P, b6 P, b7 P, b8 P, b9 P, b10 P, b11 P, b12 P, b13 P, b14 P, b7 P, b15 P, b16 P, b17 P, b18 P, b19 P, b20 P, b21 P, b22 P, b23 P, b24 P, b25 P, b26 P] 276
noncomputable def st9 (P : Params) : SharedT := stOf [b0 P, b1 P, b2 P, b27 P, b4 P, b5 P, b6 P, b7 P, b8 P, b9 P, b10 P, b11 P, b12 P, b13 P, b14 P, b7 P, b15 P, b16 P, b17 P, b18 P, b19 P, b20 P, b21 P, b22 P, b23 P, b24 P, b25 P, b26 P, b7 P, b28 P, b29 P, b30 P, b7 P, b8 P, b31 P, b7 P, b32 P, b33 P, b34 P, b35 P, b36 P, b37 P, b38 P, b39 P, b7 P, b8 P, b40 P, b7 P, b41 P, b42 P, b43 P, b7 P, b8 P, b44 P, b7 P, b45 P, b46 P, b47 P, b7 P, b8 P, b48 P, b7 P, b49 P, b50 P, b51 P, b7 P, b8 P, b52 P, b7 P, b53 P, b54 P, b55 P, b56 P, b57 P, b58 P] 512
noncomputable def stL0 (P : Params) : SharedT := stOf [b0 P, b1 P, b2 P, b27 P, b4 P, b5 P, b6 P, b7 P, b8 P, b9 P, b10 P, b11 P, b12 P, b13 P, b14 P, b7 P, b15 P, b16 P, b17 P, b18 P, b19 P, b20 P, b21 P, b22 P, b23 P, b24 P, b25 P, b26 P, b7 P, b28 P, b29 P, b30 P, b7 P, b8 P, b31 P, b7 P, b32 P, b33 P, b34 P, b35 P, b36 P, b37 P, b38 P, b39 P, b7 P, b8 P, b40 P, b7 P, b41 P, b42 P, b43 P, b7 P, b8 P, b44 P, b7 P, b45 P, b46 P, b47 P, b7 P, b8 P, b48 P, b7 P, b49 P, b50 P, b51 P, b7 P, b8 P, b52 P, b7 P, b53 P, b54 P, b55 P, b56 P, b57 P, b58 P, b59 P, b60 P, b61 P, b62 P, b63 P, b64 P, b65 P, b66 P, b67 P, b68 P, b69 P, b70 P, b71 P, b72 P, b73 P, b74 P, b75 P, b76 P, b77 P, b78 P, b79 P, b80 P, b81 P, b82 P, b83 P, b84 P, b85 P, b86 P, b87 P, b88 P, b89 P, b90 P, b91 P, b92 P, b93 P, b94 P, b95 P, b96 P, b97 P, b98 P, b99 P, b100 P, b101 P, b102 P, b103 P, b104 P, b105 P, b7 P, b106 P, b107 P, b108 P, b18 P, b109 P] 512
noncomputable def stL22 (P : Params) : SharedT := stOf [b0 P, b1 P, b2 P, b110 P, b4 P, b5 P, b6 P, b7 P, b8 P, b9 P, b10 P, b11 P, b12 P, b13 P, b14 P, b7 P, b15 P, b16 P, b17 P, b18 P, b19 P, b20 P, b21 P, b22 P, b23 P, b24 P, b25 P, b26 P, b7 P, b28 P, b29 P, b30 P, b7 P, b8 P, b31 P, b7 P, b32 P, b33 P, b34 P, b35 P, b36 P, b37 P, b38 P, b39 P, b7 P, b8 P, b40 P, b7 P, b41 P, b42 P, b43 P, b7 P, b8 P, b44 P, b7 P, b45 P, b46 P, b47 P, b7 P, b8 P, b48 P, b7 P, b49 P, b50 P, b51 P, b7 P, b8 P, b52 P, b7 P, b53 P, b54 P, b55 P, b111 P, b57 P, b58 P, b59 P, b60 P, b61 P, b62 P, b63 P, b64 P, b65 P, b66 P, b67 P, b68 P, b69 P, b70 P, b71 P, b72 P, b73 P, b74 P, b75 P, b76 P, b77 P, b78 P, b79 P, b80 P, b81 P, b82 P, b83 P, b84 P, b85 P, b86 P, b87 P, b88 P, b89 P, b90 P, b91 P, b92 P, b93 P, b94 P, b95 P, b96 P, b97 P, b98 P, b99 P, b100 P, b101 P, b102 P, b103 P, b104 P, b105 P, b7 P, b106 P, b107 P, b108 P, b18 P, b112 P, b113 P, b7 P, b114 P, b113 P, b7 P, b115 P, b113 P, b7 P, b116 P, b113 P, b7 P, b117 P, b113 P, b7 P, b118 P, b113 P, b7 P, b119 P, b113 P, b7 P, b120 P, b113 P, b7 P, b121 P, b113 P, b7 P, b122 P, b113 P, b7 P, b123 P, b113 P, b7 P, b124 P, b113 P, b7 P, b125 P, b113 P, b7 P, b126 P, b113 P, b7 P, b127 P, b113 P, b7 P, b128 P, b113 P, b7 P, b129 P, b113 P, b7 P, b130 P, b113 P, b7 P, b131 P, b113 P, b7 P, b132 P, b113 P, b7 P, b133 P, b113 P, b7 P, b134 P, b113 P, b7 P, b135 P] 654
noncomputable def stL44 (P : Params) : SharedT := stOf [b0 P, b1 P, b2 P, b136 P, b4 P, b5 P, b6 P, b7 P, b8 P, b9 P, b10 P, b11 P, b12 P, b13 P, b14 P, b7 P, b15 P, b16 P, b17 P, b18 P, b19 P, b20 P, b21 P, b22 P, b23 P, b24 P, b25 P, b26 P, b7 P, b28 P, b29 P, b30 P, b7 P, b8 P, b31 P, b7 P, b32 P, b33 P, b34 P, b35 P, b36 P, b37 P, b38 P, b39 P, b7 P, b8 P, b40 P, b7 P, b41 P, b42 P, b43 P, b7 P, b8 P, b44 P, b7 P, b45 P, b46 P, b47 P, b7 P, b8 P, b48 P, b7 P, b49 P, b50 P, b51 P, b7 P, b8 P, b52 P, b7 P, b53 P, b54 P, b55 P, b137 P, b57 P, b58 P, b59 P, b60 P, b61 P, b62 P, b63 P, b64 P, b65 P, b66 P, b67 P, b68 P, b69 P, b70 P, b71 P, b72 P, b73 P, b74 P, b75 P, b76 P, b77 P, b78 P, b79 P, b80 P, b81 P, b82 P, b83 P, b84 P, b85 P, b86 P, b87 P, b88 P, b89 P, b90 P, b91 P, b92 P, b93 P, b94 P, b95 P, b96 P, b97 P, b98 P, b99 P, b100 P, b101 P, b102 P, b103 P, b104 P, b105 P, b7 P, b106 P, b107 P, b108 P, b18 P, b138 P, b113 P, b7 P, b114 P, b113 P, b7 P, b115 P, b113 P, b7 P, b116 P, b113 P, b7 P, b117 P, b113 P, b7 P, b118 P, b113 P, b7 P, b119 P, b113 P, b7 P, b120 P, b113 P, b7 P, b121 P, b113 P, b7 P, b122 P, b113 P, b7 P, b123 P, b113 P, b7 P, b124 P, b113 P, b7 P, b125 P, b113 P, b7 P, b126 P, b113 P, b7 P, b127 P, b113 P, b7 P, b128 P, b113 P, b7 P, b129 P, b113 P, b7 P, b130 P, b113 P, b7 P, b131 P, b113 P, b7 P, b132 P, b113 P, b7 P, b133 P, b113 P, b7 P, b134 P, b113 P, b7 P, b135 P, b113 P, b7 P, b139 P, b113 P, b7 P, b140 P, b113 P, b7 P, b141 P, b113 P, b7 P, b142 P, b113 P, b7 P, b143 P, b113 P, b7 P, b144 P, b113 P, b7 P, b145 P, b113 P, b7 P, b146 P, b113 P, b7 P, b147 P, b113 P, b7 P, b148 P, b113 P, b7 P, b149 P, b113 P, b7 P, b150 P, b113 P, b7 P, b151 P, b113 P, b7 P, b152 P, b113 P, b7 P, b153 P, b113 P, b7 P, b154 P, b113 P, b7 P, b155 P, b113 P, b7 P, b156 P, b113 P, b7 P, b157 P, b113 P, b7 P, b158 P, b113 P, b7 P, b159 P, b113 P, b7 P, b160 P] 800
noncomputable def stE (P : Params) : SharedT := stOf [b0 P, b1 P, b2 P, b161 P, b4 P, b5 P, b6 P, b7 P, b8 P, b9 P, b10 P, b11 P, b12 P, b13 P, b14 P, b7 P, b15 P, b16 P, b17 P, b18 P, b19 P, b20 P, b21 P, b22 P, b23 P, b24 P, b25 P, b26 P, b7 P, b162 P, b29 P, b30 P, b7 P, b8 P, b31 P, b7 P, b32 P, b33 P, b34 P, b35 P, b36 P, b37 P, b38 P, b39 P, b7 P, b8 P, b40 P, b7 P, b41 P, b42 P, b43 P, b7 P, b8 P, b44 P, b7 P, b45 P, b46 P, b47 P, b7 P, b8 P, b48 P, b7 P, b49 P, b50 P, b51 P, b7 P, b8 P, b52 P, b7 P, b53 P, b54 P, b55 P, b137 P, b57 P, b58 P, b59 P, b60 P, b61 P, b62 P, b63 P, b64 P, b65 P, b66 P, b67 P, b68 P, b69 P, b70 P, b71 P, b72 P, b73 P, b74 P, b75 P, b76 P, b77 P, b78 P, b79 P, b80 P, b81 P, b82 P, b83 P, b84 P, b85 P, b86 P, b87 P, b88 P, b89 P, b90 P, b91 P, b92 P, b93 P, b94 P, b95 P, b96 P, b97 P, b98 P, b99 P, b100 P, b101 P, b102 P, b103 P, b104 P, b105 P, b7 P, b106 P, b107 P, b108 P, b18 P, b163 P, b113 P, b7 P, b114 P, b113 P, b7 P, b115 P, b113 P, b7 P, b116 P, b113 P, b7 P, b117 P, b113 P, b7 P, b118 P, b113 P, b7 P, b119 P, b113 P, b7 P, b120 P, b113 P, b7 P, b121 P, b113 P, b7 P, b122 P, b113 P, b7 P, b123 P, b113 P, b7 P, b124 P, b113 P, b7 P, b125 P, b113 P, b7 P, b126 P, b113 P, b7 P, b127 P, b113 P, b7 P, b128 P, b113 P, b7 P, b129 P, b113 P, b7 P, b130 P, b113 P, b7 P, b131 P, b113 P, b7 P, b132 P, b113 P, b7 P, b133 P, b113 P, b7 P, b134 P, b113 P, b7 P, b135 P, b113 P, b7 P, b139 P, b113 P, b7 P, b140 P, b113 P, b7 P, b141 P, b113 P, b7 P, b142 P, b113 P, b7 P, b143 P, b113 P, b7 P, b144 P, b113 P, b7 P, b145 P, b113 P, b7 P, b146 P, b113 P, b7 P, b147 P, b113 P, b7 P, b148 P, b113 P, b7 P, b149 P, b113 P, b7 P, b150 P, b113 P, b7 P, b151 P, b113 P, b7 P, b152 P, b113 P, b7 P, b153 P, b113 P, b7 P, b154 P, b113 P, b7 P, b155 P, b113 P, b7 P, b156 P, b113 P, b7 P, b157 P, b113 P, b7 P, b158 P, b113 P, b7 P, b159 P, b113 P, b7 P, b160 P, b7 P, b164 P, b165 P, b166 P, b167 P, b7 P, b8 P, b168 P, b7 P, b169 P, b170 P, b171 P, b7 P, b8 P, b172 P, b173 P, b174 P, b7 P, b8 P, b175 P, b7 P, b176 P, b177 P, b178 P, b7 P, b8 P, b179 P, b180 P, b181 P, b7 P, b8 P, b182 P, b183 P, b184 P, b7 P, b8 P, b185 P, b186 P, b187 P] 1041

noncomputable def startT (p : Program) : SharedT := ⟨.nil, 0, {}, #[], {}, 1, (start (opening p)).1.os⟩
theorem startT_eq (p : Program) : (startT p).abs = (start (opening p)).1 := rfl
/-- the opening's end -/
noncomputable def s0 (p : Program) (w : World) : Option Shared := match impT treeTable (opening p) w 1000 (startT p) (start (opening p)).2 with
  | some s => fenceModules? p s.abs
  | none => none
noncomputable abbrev anV : Option Value := some (.ref 6)
noncomputable def envD (p : Program) : Env := { scope := p.main.scope, locals := mainNs, globals := mainNs, cells := [], code := .ref 30, frame := some 31 }
/-- the top's loop -/
noncomputable def fc (p : Program) : Code := match (behindTheImports p).drop 9 with
  | .For t _ b o _ :: _ => .forLoop t (.ref 127) b o (envD p)
  | _ => .builtin "" {}
noncomputable def kOf : Sem Fin → Result → Sem Fin
  | .at _ f => match f () with
    | .call _ _ _ _ k => k
    | _ => fun _ => .unsupported ""
  | _ => fun _ => .unsupported ""
/-- what follows the loop: a while's in its place -/
noncomputable def K0 (p : Program) : Result → Sem Fin := kOf (denote treeTable (.body (.While (.Constant (.bool true) 0 default) [] [] default :: (behindTheImports p).drop 10) (envD p)))
noncomputable def thrD (p : Program) (pos pos1 : Pos) : Thread := ⟨denote treeTable (fc p), fc p, pos, [.ret (K0 p) none false [] (.body (behindTheImports p) (envD p)) pos1 [], topFrame default]⟩
noncomputable def cO (p : Program) (w : World) : Option SharedT := match s0 p w with
  | some s => toT s
  | none => none
noncomputable def cZ (s : SharedT) := (s.abs.heap.isNs mainGlobals && s.abs.gens.size == 0, s.abs.heap.objs.size, s.abs.heap.nsMap mainGlobals "__annotations__")
/-- the top at its tenth statement -/
noncomputable def thr9 (p : Program) (pos : Pos) : Thread := ⟨denote treeTable (.body ((behindTheImports p).drop 9) (envD p)), .body (behindTheImports p) (envD p), pos, [topFrame default]⟩
noncomputable def cA (p : Program) (w : World) (n : Nat) (s : SharedT) : Option (SharedT × Thread) := goT treeTable p w 28 anV n s (topStub p)
noncomputable def cQ (p : Program) (s : SharedT) (pos : Pos) : Option (SharedT × Thread) := some (s, thr9 p pos)
noncomputable def cD (p : Program) (w : World) (n : Nat) (s : SharedT) (pos : Pos) : Option (SharedT × Thread) := goT treeTable p w 28 anV n s (thr9 p pos)
noncomputable def cB (p : Program) (w : World) (n : Nat) (s : SharedT) (pos pos1 : Pos) : Option (SharedT × Thread) := goT treeTable p w 28 anV n s (thrD p pos pos1)
noncomputable def cR (p : Program) (s : SharedT) (pos pos1 : Pos) : Option (SharedT × Thread) := some (s, thrD p pos pos1)
noncomputable def looks (p q : Program) (L : List Str) (R : WRecords) (A : List Addr) (s₀ s₁ : Shared) := match staticsOk (importedModules p.main.body) s₀.heap s₁.heap && namesBound p s₁.heap && gensDone s₁ && laidKept s₀.heap s₁.heap with
  | true => some (openSeen q L (importedModules p.main.body) (fun s => xlAt q [] s && recOk R s) true s₁, A.map s₁.heap.get?)
  | false => none
noncomputable def cC (p : Program) (w : World) (n : Nat) (s : SharedT) (pos pos1 : Pos) : Option SharedT := topT treeTable p w 28 anV n s (thrD p pos pos1)
noncomputable def cL (p q : Program) (L : List Str) (R : WRecords) (A : List Addr) (s₀ s : SharedT) := looks p q L R A s₀.abs s.abs
noncomputable def cG (q : Program) (L : List Str) (K : Frag) := some (openGood q L, K.map fun p => some p.2)
noncomputable def lawOf (p : Program) : OpenLaw := { prog := p, name := Str.ofString "law", about := [Str.ofString "ParseFlags"], foot := 5, most := some 63, bound := none, writes := false }
noncomputable def cW (p : Program) : Bool := (lawOf p).wellSaid
noncomputable def cY (p q : Program) : Bool := chainsOk q && opensWell (lawOf p).row.prog && (frees (lawOf p).row.toRowW && (lawOf p).row.toRowW.within.isEmpty)
noncomputable def tied {α : Type} (_ : α) : Bool := true
theorem tie : tied (cO, cZ, cA, cQ, cD, cB, cR, cC, cL, cG, cW, cY) = true := by k_qdec

noncomputable abbrev pos9 : Pos := ⟨51, 0, 51, 21⟩
noncomputable abbrev pos1 : Pos := ⟨52, 12, 52, 49⟩
noncomputable abbrev posL : Pos := ⟨54, 4, 54, 42⟩
noncomputable abbrev wf (w : World) (b : Bool) : World := w.withFollow "special-get-raises" b
end Mine
end
section
open PySem PySem.W PyProof.Rows
set_option maxRecDepth 100000
namespace Mine
set_option maxHeartbeats 0
theorem kO0 (w : World) : PySem.W.Fast.tw6411448116228961071 pg w = some (st0 w.params) := by kernel_rfl
theorem kO (w : World) : cO pg w = some (st0 w.params) := by rw [PySem.W.Fast.te6411448116228961071]; exact kO0 w
theorem kZ0 (P : Params) : PySem.W.Fast.tw12062983339184184867 (st0 P) = (true, 28, anV) := by kernel_rfl
theorem kZ (P : Params) : cZ (st0 P) = (true, 28, anV) := by rw [PySem.W.Fast.te12062983339184184867]; exact kZ0 P
theorem kA_false (w : World) : PySem.W.Fast.tw1118674628777957965 pg (wf w false) 1134 (st0 (wf w false).params) = PySem.W.Fast.tw17051962337300651685 pg (st9 (wf w false).params) pos9 := by kernel_rfl
theorem kA_true (w : World) : PySem.W.Fast.tw1118674628777957965 pg (wf w true) 1134 (st0 (wf w true).params) = PySem.W.Fast.tw17051962337300651685 pg (st9 (wf w true).params) pos9 := by kernel_rfl
theorem kA : ∀ w : World, cA pg w 1134 (st0 w.params) = cQ pg (st9 w.params) pos9 :=
  byRow2 "special-get-raises" (P := fun w => cA pg w 1134 (st0 w.params) = cQ pg (st9 w.params) pos9) (fun w => by rw [PySem.W.Fast.te1118674628777957965, PySem.W.Fast.te17051962337300651685]; exact kA_false w) fun w => by rw [PySem.W.Fast.te1118674628777957965, PySem.W.Fast.te17051962337300651685]; exact kA_true w
theorem kD_false (w : World) : PySem.W.Fast.tw9560638536792985345 pg (wf w false) 3041 (st9 (wf w false).params) pos9 = PySem.W.Fast.tw17446014197926748836 pg (stL0 (wf w false).params) pos1 pos1 := by kernel_rfl
theorem kD_true (w : World) : PySem.W.Fast.tw9560638536792985345 pg (wf w true) 3041 (st9 (wf w true).params) pos9 = PySem.W.Fast.tw17446014197926748836 pg (stL0 (wf w true).params) pos1 pos1 := by kernel_rfl
theorem kD : ∀ w : World, cD pg w 3041 (st9 w.params) pos9 = cR pg (stL0 w.params) pos1 pos1 :=
  byRow2 "special-get-raises" (P := fun w => cD pg w 3041 (st9 w.params) pos9 = cR pg (stL0 w.params) pos1 pos1) (fun w => by rw [PySem.W.Fast.te9560638536792985345, PySem.W.Fast.te17446014197926748836]; exact kD_false w) fun w => by rw [PySem.W.Fast.te9560638536792985345, PySem.W.Fast.te17446014197926748836]; exact kD_true w
theorem kB_false (w : World) : PySem.W.Fast.tw17767653310865944628 pg (wf w false) 2774 (stL0 (wf w false).params) pos1 pos1 = PySem.W.Fast.tw17446014197926748836 pg (stL22 (wf w false).params) posL pos1 := by kernel_rfl
theorem kB_true (w : World) : PySem.W.Fast.tw17767653310865944628 pg (wf w true) 2774 (stL0 (wf w true).params) pos1 pos1 = PySem.W.Fast.tw17446014197926748836 pg (stL22 (wf w true).params) posL pos1 := by kernel_rfl
theorem kB : ∀ w : World, cB pg w 2774 (stL0 w.params) pos1 pos1 = cR pg (stL22 w.params) posL pos1 :=
  byRow2 "special-get-raises" (P := fun w => cB pg w 2774 (stL0 w.params) pos1 pos1 = cR pg (stL22 w.params) posL pos1) (fun w => by rw [PySem.W.Fast.te17767653310865944628, PySem.W.Fast.te17446014197926748836]; exact kB_false w) fun w => by rw [PySem.W.Fast.te17767653310865944628, PySem.W.Fast.te17446014197926748836]; exact kB_true w
theorem kE_false (w : World) : PySem.W.Fast.tw17767653310865944628 pg (wf w false) 2766 (stL22 (wf w false).params) posL pos1 = PySem.W.Fast.tw17446014197926748836 pg (stL44 (wf w false).params) posL pos1 := by kernel_rfl
theorem kE_true (w : World) : PySem.W.Fast.tw17767653310865944628 pg (wf w true) 2766 (stL22 (wf w true).params) posL pos1 = PySem.W.Fast.tw17446014197926748836 pg (stL44 (wf w true).params) posL pos1 := by kernel_rfl
theorem kE : ∀ w : World, cB pg w 2766 (stL22 w.params) posL pos1 = cR pg (stL44 w.params) posL pos1 :=
  byRow2 "special-get-raises" (P := fun w => cB pg w 2766 (stL22 w.params) posL pos1 = cR pg (stL44 w.params) posL pos1) (fun w => by rw [PySem.W.Fast.te17767653310865944628, PySem.W.Fast.te17446014197926748836]; exact kE_false w) fun w => by rw [PySem.W.Fast.te17767653310865944628, PySem.W.Fast.te17446014197926748836]; exact kE_true w
theorem kC_false (w : World) : PySem.W.Fast.tw1786611418683363746 pg (wf w false) 1634 (stL44 (wf w false).params) posL pos1 = some (stE (wf w false).params) := by kernel_rfl
theorem kC_true (w : World) : PySem.W.Fast.tw1786611418683363746 pg (wf w true) 1634 (stL44 (wf w true).params) posL pos1 = some (stE (wf w true).params) := by kernel_rfl
theorem kC : ∀ w : World, cC pg w 1634 (stL44 w.params) posL pos1 = some (stE w.params) :=
  byRow2 "special-get-raises" (P := fun w => cC pg w 1634 (stL44 w.params) posL pos1 = some (stE w.params)) (fun w => by rw [PySem.W.Fast.te1786611418683363746]; exact kC_false w) fun w => by rw [PySem.W.Fast.te1786611418683363746]; exact kC_true w
theorem kL0 (P : Params) : PySem.W.Fast.tw15367666677285026789 pg vw LS RS KA (st0 P) (stE P) = PySem.W.Fast.tw8104749487797041892 vw LS (KH P) := by kernel_rfl
theorem kL (P : Params) : cL pg vw LS RS KA (st0 P) (stE P) = cG vw LS (KH P) := by rw [PySem.W.Fast.te15367666677285026789, PySem.W.Fast.te8104749487797041892]; exact kL0 P
theorem kW0 : PySem.W.Fast.tw17303032582169739446 pg = true := by kernel_rfl
theorem kW : cW pg = true := by rw [PySem.W.Fast.te17303032582169739446]; exact kW0
theorem kY0 : PySem.W.Fast.tw313378145378341727 pg vw = true := by kernel_rfl
theorem kY : cY pg vw = true := by rw [PySem.W.Fast.te313378145378341727]; exact kY0
end Mine
end
section
open PySem PySem.W PyProof.Rows
set_option maxRecDepth 100000
namespace Mine
theorem top_sum {w : World} : topT treeTable pg w 28 anV 11349 (st0 w.params) (topStub pg) = some (stE w.params) :=
  goT_topT (n := 1134) (N := 10215) (kA w) (goT_topT (n := 3041) (N := 7174) (kD w) (goT_topT (n := 2774) (N := 4400) (kB w) (goT_topT (n := 2766) (N := 1634) (kE w) (kC w))))
theorem open_sum (w : World) : ∃ s₀, fencedOpening treeTable pg w 11349 = some s₀ ∧ s₀ = (st0 w.params).abs := by
  have h := kO w
  unfold cO at h
  cases e : s0 pg w with
  | none => rw [e] at h; cases h
  | some s₀ =>
    rw [e] at h
    refine ⟨s₀, ?_, (toT_of h).symm⟩
    unfold s0 at e
    cases hi : impT treeTable (opening pg) w 1000 (startT pg) (start (opening pg)).2 with
    | none => rw [hi] at e; cases e
    | some s =>
      rw [hi] at e
      have m := importEnds_mono 10349 _ _ _ _ (impT_of hi)
      unfold fencedOpening
      rw [← startT_eq]
      show (importEnds treeTable (opening pg) w (1000 + 10349) _ _).bind _ = _
      rw [m]
      exact e
theorem left_of {p q : Program} {L : List Str} {R : WRecords} {A : List Addr} {K : Params → Frag} {N n₀ : Nat} {ann : Option Value} {T0 TE : Params → SharedT} (hop : ∀ w, ∃ s₀, fencedOpening treeTable p w N = some s₀ ∧ s₀ = (T0 w.params).abs)
    (hz : ∀ P, cZ (T0 P) = (true, n₀, ann)) (hr : ∀ w : World, topT treeTable p w n₀ ann N (T0 w.params) (topStub p) = some (TE w.params)) (hl : ∀ P, cL p q L R A (T0 P) (TE P) = cG q L (K P)) :
    LeftO p q L (fun s => xlAt q [] s && recOk R s) (fun s => A.map s.heap.get?) (fun w : World => (K w.params).map fun p => some p.2) N := fun w => by
  obtain ⟨s₀, e, rfl⟩ := hop w
  have z := hz w.params
  unfold cZ at z
  obtain ⟨z1, z2⟩ := Prod.mk.inj z
  obtain ⟨z2, z3⟩ := Prod.mk.inj z2
  have r := topT_of (hr w)
  have l := hl w.params
  unfold cL looks cG at l
  generalize hs : (T0 w.params).abs = s at *
  generalize hs' : (TE w.params).abs = s' at *
  unfold openEnds topFrom
  rw [e]
  dsimp only [Option.bind_some]
  rw [z1, z2, z3, r]
  dsimp only [Option.bind_some]
  cases hc : (staticsOk (importedModules p.main.body) s.heap s'.heap && namesBound p s'.heap && gensDone s' && laidKept s.heap s'.heap) with
  | false => rw [hc] at l; cases l
  | true => rw [hc] at l; exact l
theorem left_ok : LeftO pg vw LS (fun s => xlAt vw [] s && recOk RS s) HK.obs HK.val 11349 := left_of (T0 := st0) (TE := stE) open_sum kZ (fun w => top_sum (w := w)) kL
set_option maxHeartbeats 4000000 in
theorem hd {d : DefRec} {kwd : List (Str × Expr)} (hdef : defOf vw "law" = some (d, kwd)) (hp : pg.theDef "law" = some (d.params, d.body, d.scope)) (hk : kwWritten? d.params.kwonlyargs d.params.kw_defaults = some kwd)
    (walk : WalkO vw LS (XL vw []) HK.says PySem.Challenge.rw_kl0207_01.row.toRowW d kwd fun f vs => PySem.call f vs) : PySem.Challenge.rw_kl0207_01.Holds := by
  w_on
  refine holds_law (l := PySem.Challenge.rw_kl0207_01) kW fun said => ?_
  refine holds_open (q := vw) (loose := LS) (Xt := fun s => xlAt vw [] s && recOk RS s) (XP := XL vw []) (Yf := HK.obs) (Ya := HK.val) (YP := HK.says) (N := 11349) left_ok (Hook.of HK) (Hook.keeps HK) (fun s e => xl_of s (Bool.and_eq_true_iff.mp e).1) XL.keeps
    hdef hp hk (fun s e => recFacts_of (Bool.and_eq_true_iff.mp e).2) (by rfl) (by first | assumption | decide +kernel) kY ⟨rfl, rfl, rfl, rfl, rfl, by decide +kernel⟩ ?hw walk
  w_witness2
end Mine
end
section
open PySem PySem.W PyProof.Rows
set_option maxRecDepth 100000
namespace Mine
theorem noneF {α : Type} {z : α} {P : Prop} (h : (none : Option α) = some z) : P := by cases h
open PySem.Builtin.Str

/-- a text's parts turned, on plain lists -/
noncomputable def repl (y z : List Nat) : Nat → List Nat → List Nat
  | _, [] => []
  | k + 1, _ :: r => repl y z k r
  | 0, c :: r => if y.isPrefixOf (c :: r) then z ++ repl y z (y.length - 1) r else c :: repl y z 0 r
theorem repl_skip (y z : List Nat) : ∀ (k : Nat) (l : List Nat), repl y z k l = repl y z 0 (l.drop k)
  | 0, l => by rw [List.drop_zero]
  | k + 1, [] => by simp [repl]
  | k + 1, c :: r => by
    rw [List.drop_succ_cons, ← repl_skip y z k r]
    cases k <;> rfl
theorem repl_nil (y z : List Nat) : repl y z 0 [] = [] := by unfold repl; rfl
section
variable {x y : Str}
theorem at_prefix (k : Nat) : StrLaws.At x y x.length k ↔ y.cps.toList <+: x.cps.toList.drop k ∧ k + y.length ≤ x.length := by
  unfold StrLaws.At
  rw [StrLaws.subAt_eq, beq_iff_eq, List.prefix_iff_eq_take]
  constructor
  · rintro ⟨h1, h2⟩
    refine ⟨?_, h1⟩
    rw [show y.cps.toList.length = y.length by simp [Str.length]]
    exact h2.symm
  · rintro ⟨h1, h2⟩
    refine ⟨h2, ?_⟩
    rw [show y.cps.toList.length = y.length by simp [Str.length]] at h1
    exact h1.symm
theorem at_pre (hw : 1 ≤ y.length) {k : Nat} (hk : k ≤ x.length) : StrLaws.At x y x.length k ↔ y.cps.toList.isPrefixOf (x.cps.toList.drop k) = true := by
  rw [at_prefix, List.isPrefixOf_iff_prefix]
  constructor
  · exact fun h => h.1
  · intro h
    refine ⟨h, ?_⟩
    have := h.length_le
    simp [Str.length] at this hk ⊢
    omega
theorem repl_gap (hw : 1 ≤ y.length) (z : List Nat) : ∀ (n a : Nat), a + n ≤ x.length → (∀ k, a ≤ k → k < a + n → ¬ StrLaws.At x y x.length k) →
    repl y.cps.toList z 0 (x.cps.toList.drop a) = (x.cps.toList.drop a).take n ++ repl y.cps.toList z 0 (x.cps.toList.drop (a + n))
  | 0, a, _, _ => by simp
  | n + 1, a, hle, hn => by
    have hlt : a < x.cps.toList.length := by simp [Str.length] at hle ⊢; omega
    have h0 := hn a (Nat.le_refl _) (by omega)
    rw [at_pre hw (by omega)] at h0
    rw [List.drop_eq_getElem_cons hlt] at h0 ⊢
    conv => lhs; unfold repl
    rw [if_neg h0, List.take_succ_cons, List.cons_append]
    have := repl_gap hw z n (a + 1) (by omega) (fun k h1 h2 => hn k (by omega) (by omega))
    rw [this, show a + 1 + n = a + (n + 1) by omega]
theorem repl_at (hw : 1 ≤ y.length) (z : List Nat) {c : Nat} (h : StrLaws.At x y x.length c) :
    repl y.cps.toList z 0 (x.cps.toList.drop c) = z ++ repl y.cps.toList z 0 (x.cps.toList.drop (c + y.length)) := by
  have hl := h.1
  have hlt : c < x.cps.toList.length := by simp [Str.length] at hl hw ⊢; omega
  have hp := (at_pre hw (by omega)).mp h
  rw [List.drop_eq_getElem_cons hlt] at hp ⊢
  conv => lhs; unfold repl
  rw [if_pos hp, repl_skip, List.drop_drop]
  congr 3
  simp [Str.length] at hw ⊢
  omega
theorem repl_none (hw : 1 ≤ y.length) (z : List Nat) {a : Nat} (ha : a ≤ x.length) (hn : ∀ k, a ≤ k → ¬ StrLaws.At x y x.length k) : repl y.cps.toList z 0 (x.cps.toList.drop a) = x.cps.toList.drop a := by
  have := repl_gap hw z (x.length - a) a (by omega) (fun k h _ => hn k h)
  rw [this, show a + (x.length - a) = x.length by omega]
  have e : x.length = x.cps.toList.length := by simp [Str.length]
  rw [show x.cps.toList.drop x.length = [] by rw [e, List.drop_length], repl_nil, List.append_nil, List.take_of_length_le (by simp [Str.length])]
theorem repl_chain (hw : 1 ≤ y.length) (z : Str) : ∀ (cuts : List Nat) (a f : Nat), a ≤ x.length → StrLaws.ChainG x y x.length a cuts f → (∀ k, f ≤ k → ¬ StrLaws.At x y x.length k) →
    (Str.join z (StrLaws.partsFrom x y.length a cuts)).cps.toList = repl y.cps.toList z.cps.toList 0 (x.cps.toList.drop a)
  | [], a, f, ha, h, hn => by
    have e : f = a := h
    subst e
    rw [repl_none hw _ ha hn]
    show (strSub x f x.length).cps.toList = _
    rw [StrLaws.strSub_toList, List.take_of_length_le (by simp [Str.length])]
  | c :: r, a, f, ha, ⟨h1, h2, h3, h4⟩, hn => by
    have hc := h2.1
    have ih := repl_chain hw z r (c + y.length) f (by omega) h4 hn
    have g := repl_gap hw z.cps.toList (c - a) a (by omega) (fun k g1 g2 => h3 k g1 (by omega))
    rw [g, show a + (c - a) = c by omega, repl_at hw _ h2]
    obtain ⟨p, q, e⟩ := StrLaws.partsFrom_ne x y.length (c + y.length) r
    show (Str.join z (strSub x a c :: StrLaws.partsFrom x y.length (c + y.length) r)).cps.toList = _
    rw [e] at ih ⊢
    show (strSub x a c ++ z ++ Str.join z (p :: q)).cps.toList = _
    rw [Str.cps_append, Str.cps_append, Array.toList_append, Array.toList_append, ih, StrLaws.strSub_toList, List.append_assoc]
end
theorem replace_eq (x y z : Str) (hw : 1 ≤ y.length) : Txt.replace x y z = ⟨(repl y.cps.toList z.cps.toList 0 x.cps.toList).toArray⟩ := by
  obtain ⟨f, hG, hn⟩ := StrLaws.occ_tight x y hw
  have key := repl_chain hw z _ 0 f (Nat.zero_le _) hG hn
  rw [List.drop_zero] at key
  unfold Txt.replace
  split
  · rename_i hc
    have he : (occurrences x y 0 x.length (x.length + 1)) = [] := by
      rw [Bool.or_eq_true] at hc
      rcases hc with h | h
      · exact List.isEmpty_iff.mp h
      · simp at h; omega
    rw [he] at key
    have : (strSub x 0 x.length).cps.toList = repl y.cps.toList z.cps.toList 0 x.cps.toList := key
    rw [StrLaws.strSub_toList, List.drop_zero, List.take_of_length_le (by simp [Str.length])] at this
    rw [← this]
  · rw [StrLaws.partsBetween_eq, StrLaws.glued_eq_join, ← key]

noncomputable def splitL (c : Nat) : List Nat → List (List Nat)
  | [] => [[]]
  | d :: r => if d == c then [] :: splitL c r else match splitL c r with
    | p :: q => (d :: p) :: q
    | [] => [[d]]
theorem splitL_ne (c : Nat) : ∀ l, ∃ p q, splitL c l = p :: q
  | [] => ⟨_, _, rfl⟩
  | d :: r => by
    obtain ⟨p, q, e⟩ := splitL_ne c r
    unfold splitL
    rw [e]
    split <;> exact ⟨_, _, rfl⟩
theorem splitL_free {c : Nat} : ∀ {l : List Nat}, c ∉ l → splitL c l = [l]
  | [], _ => rfl
  | d :: r, h => by
    rw [List.mem_cons, not_or] at h
    unfold splitL
    rw [if_neg (by simpa using Ne.symm h.1), splitL_free h.2]
theorem splitL_cut {c : Nat} : ∀ {l m : List Nat}, c ∉ l → splitL c (l ++ c :: m) = l :: splitL c m
  | [], m, _ => by
    show splitL c (c :: m) = _
    conv => lhs; unfold splitL
    simp
  | d :: r, m, h => by
    rw [List.mem_cons, not_or] at h
    show splitL c (d :: (r ++ c :: m)) = _
    conv => lhs; unfold splitL
    rw [if_neg (by simpa using Ne.symm h.1), splitL_cut h.2]
noncomputable def strOfL (l : List Nat) : Str := ⟨l.toArray⟩
theorem split_chain {x : Str} {c : Nat} : ∀ (cuts : List Nat) (a f : Nat), StrLaws.ChainG x ⟨#[c]⟩ x.length a cuts f → (∀ k, f ≤ k → ¬ StrLaws.At x ⟨#[c]⟩ x.length k) →
    StrLaws.partsFrom x 1 a cuts = (splitL c (x.cps.toList.drop a)).map strOfL
  | [], a, f, h, hn => by
    have e : f = a := h
    subst e
    rw [splitL_free (drop_free x c f hn)]
    show [strSub x f x.length] = [_]
    congr 1
    apply Str.ext'
    apply Array.toList_inj.mp
    rw [StrLaws.strSub_toList, List.take_of_length_le (by simp [Str.length])]
    simp [strOfL]
  | d :: r, a, f, ⟨h1, h2, h3, h4⟩, hn => by
    have ih := split_chain r (d + 1) f h4 hn
    have hd : x.cps.toList[d]? = some c := (StrLaws.subAt_one x c d).mp h2
    have hlt : d < x.cps.toList.length := (List.getElem?_eq_some_iff.mp hd).1
    have e1 : x.cps.toList.drop a = (x.cps.toList.drop a).take (d - a) ++ c :: x.cps.toList.drop (d + 1) := by
      have e1 : x.cps.toList.drop a = (x.cps.toList.drop a).take (d - a) ++ (x.cps.toList.drop a).drop (d - a) := (List.take_append_drop _ _).symm
      have e2 : (x.cps.toList.drop a).drop (d - a) = x.cps.toList.drop d := by rw [List.drop_drop]; congr 1; omega
      have e3 : x.cps.toList.drop d = c :: x.cps.toList.drop (d + 1) := by
        rw [List.drop_eq_getElem_cons hlt]
        congr 1
        exact (List.getElem?_eq_some_iff.mp hd).2
      rw [e2, e3] at e1
      exact e1
    have hfree : c ∉ (x.cps.toList.drop a).take (d - a) := by
      have := StrLaws.part_free x c a d (by have := h2.1; omega) h3
      rwa [StrLaws.strSub_toList] at this
    show strSub x a d :: StrLaws.partsFrom x 1 (d + 1) r = _
    rw [ih, e1, splitL_cut hfree, List.map_cons]
    congr 1
    apply Str.ext'
    apply Array.toList_inj.mp
    rw [StrLaws.strSub_toList]
    simp [strOfL]
theorem strOfL_of (x : Str) : strOfL x.cps.toList = x := by
  apply Str.ext'
  simp [strOfL]
theorem split_eq (x : Str) (c : Nat) : Txt.split x ⟨#[c]⟩ = (splitL c x.cps.toList).map strOfL := by
  obtain ⟨f, hG, hn⟩ := StrLaws.occ_tight x ⟨#[c]⟩ (Nat.le_refl 1)
  have key := split_chain _ 0 f hG hn
  rw [List.drop_zero] at key
  unfold Txt.split
  split
  · rename_i hc
    have hf : c ∉ x.cps.toList := by
      rw [Bool.or_eq_true, decide_eq_true_eq, decide_eq_true_eq] at hc
      rcases hc with h | h
      · have : x.cps.toList.length = 0 := by
          have h' : x.length < 1 := h
          simp [Str.length] at h' ⊢
          exact h'
        rw [List.length_eq_zero_iff.mp this]; simp
      · exact StrLaws.kind_free x c h
    rw [splitL_free hf]
    simp [strOfL_of]
  · split
    · rename_i he
      rw [List.isEmpty_iff.mp he] at key
      have key : [strSub x 0 x.length] = (splitL c x.cps.toList).map strOfL := key
      rw [← key, StrLaws.sub_whole]
    · rw [StrLaws.partsBetween_eq]
      exact key
noncomputable def partL (c : Nat) (l : List Nat) : List Nat × List Nat × List Nat := if l.contains c then (l.takeWhile (· != c), [c], (l.dropWhile (· != c)).tail) else (l, [], [])
theorem takeWhile_at {l : List Nat} {c i : Nat} (h : l[i]? = some c) (hn : ∀ k, k < i → l[k]? ≠ some c) : l.takeWhile (· != c) = l.take i ∧ l.dropWhile (· != c) = c :: l.drop (i + 1) := by
  induction l generalizing i with
  | nil => simp at h
  | cons d r ih =>
    cases i with
    | zero =>
      simp at h
      subst h
      simp
    | succ i =>
      have h0 : d ≠ c := by
        have := hn 0 (by omega)
        simpa using this
      have := ih (i := i) (by simpa using h) (fun k hk => by have := hn (k + 1) (by omega); simpa using this)
      simp [h0, this.1, this.2]
theorem partition_eq (x : Str) (c : Nat) : Txt.partition x ⟨#[c]⟩ = (strOfL (partL c x.cps.toList).1, strOfL (partL c x.cps.toList).2.1, strOfL (partL c x.cps.toList).2.2) := by
  rcases partition_whole x ⟨#[c]⟩ with ⟨h1, h2⟩ | ⟨i, h1, h2, h3⟩
  · have hf : c ∉ x.cps.toList := by
      have := drop_free x c 0 (fun k _ => h2 k)
      rwa [List.drop_zero] at this
    rw [h1]
    unfold partL
    rw [if_neg (by simpa using hf)]
    simp only [strOfL_of]
    rfl
  · have hi := (StrLaws.subAt_one x c i).mp h2
    have hm : c ∈ x.cps.toList := List.mem_of_getElem? hi
    have key := takeWhile_at hi (fun k hk hc => h3 k hk ((StrLaws.subAt_one x c k).mpr hc))
    rw [h1]
    unfold partL
    rw [if_pos (by simpa using hm), key.1, key.2]
    have e1 : strSub x 0 i = strOfL (x.cps.toList.take i) := by
      apply Str.ext'
      apply Array.toList_inj.mp
      rw [StrLaws.strSub_toList]; simp [strOfL]
    have e2 : strSub x (i + (⟨#[c]⟩ : Str).length) x.length = strOfL (c :: x.cps.toList.drop (i + 1)).tail := by
      apply Str.ext'
      apply Array.toList_inj.mp
      rw [StrLaws.strSub_toList, List.take_of_length_le (by simp [Str.length])]
      simp [strOfL]; rfl
    rw [e1, e2]
    rfl
end Mine
end
section
open PySem PySem.W PyProof.Rows
set_option maxRecDepth 100000
namespace Mine

/-- plain values -/
inductive PV where
  | none
  | bool (b : Bool)
  | int (i : Int)
  | str (x : Str)
  | bytes (b : Array UInt8)
  | list (xs : List PV)
  | tuple (xs : List PV)
  | range (n : Nat)
  | ty (n : String)

noncomputable abbrev Hk (h h' : Heap) : Prop := ∀ b o, h.get? b = some o → h'.get? b = some o

noncomputable abbrev lstO (vs : List Value) (n : Nat) : Obj := { cls := .type "list", data := .seq vs.toArray n }
noncomputable abbrev tupO (vs : List Value) (n : Nat) : Obj := { cls := .type "tuple", data := .seq vs.toArray n }

mutual
inductive Rp (ok : Addr → Prop) (h : Heap) : Value → PV → Prop
  | none : Rp ok h .none .none
  | bool (b : Bool) : Rp ok h (.bool b) (.bool b)
  | int (i : Int) (t : Tok) : Rp ok h (.int i t) (.int i)
  | str (x : Str) (t : Tok) : Rp ok h (.str x t) (.str x)
  | bytes (b : Array UInt8) (t : Tok) : Rp ok h (.bytes b t) (.bytes b)
  | list {a : Addr} {vs : List Value} {xs : List PV} {n : Nat} : ok a → h.get? a = some (lstO vs n) → RpAll ok h vs xs → Rp ok h (.ref a) (.list xs)
  | tuple {a : Addr} {vs : List Value} {xs : List PV} {n : Nat} : ok a → h.get? a = some (tupO vs n) → RpAll ok h vs xs → Rp ok h (.ref a) (.tuple xs)
  | range {a : Addr} {n : Nat} {t u v : Tok} : ok a → IsRange h a 0 (n : Int) 1 t u v → Rp ok h (.ref a) (.range n)
  | ty (n : String) : Rp ok h (.type n) (.ty n)
inductive RpAll (ok : Addr → Prop) (h : Heap) : List Value → List PV → Prop
  | nil : RpAll ok h [] []
  | cons {v : Value} {vs : List Value} {x : PV} {xs : List PV} : Rp ok h v x → RpAll ok h vs xs → RpAll ok h (v :: vs) (x :: xs)
end

section
variable {ok : Addr → Prop} {h : Heap} {v : Value} {vs : List Value}
theorem Rp.none_inv (r : Rp ok h v .none) : v = .none := by cases r; rfl
theorem Rp.bool_inv {b : Bool} (r : Rp ok h v (.bool b)) : v = .bool b := by cases r; rfl
theorem Rp.int_inv {i : Int} (r : Rp ok h v (.int i)) : ∃ t, v = .int i t := by cases r; exact ⟨_, rfl⟩
theorem Rp.str_inv {i : Str} (r : Rp ok h v (.str i)) : ∃ t, v = .str i t := by cases r; exact ⟨_, rfl⟩
theorem Rp.bytes_inv {i : Array UInt8} (r : Rp ok h v (.bytes i)) : ∃ t, v = .bytes i t := by cases r; exact ⟨_, rfl⟩
theorem Rp.ty_inv {i : String} (r : Rp ok h v (.ty i)) : v = .type i := by cases r; rfl
theorem Rp.list_inv {xs : List PV} (r : Rp ok h v (.list xs)) : ∃ a vs n, v = .ref a ∧ ok a ∧ h.get? a = some (lstO vs n) ∧ RpAll ok h vs xs := by cases r with | list a b c => exact ⟨_, _, _, rfl, a, b, c⟩
theorem Rp.tuple_inv {xs : List PV} (r : Rp ok h v (.tuple xs)) : ∃ a vs n, v = .ref a ∧ ok a ∧ h.get? a = some (tupO vs n) ∧ RpAll ok h vs xs := by cases r with | tuple a b c => exact ⟨_, _, _, rfl, a, b, c⟩
theorem Rp.range_inv {n : Nat} (r : Rp ok h v (.range n)) : ∃ a t u w, v = .ref a ∧ ok a ∧ IsRange h a 0 (n : Int) 1 t u w := by cases r with | range a b => exact ⟨_, _, _, _, rfl, a, b⟩
theorem RpAll.nil_inv (r : RpAll ok h vs []) : vs = [] := by cases r; rfl
theorem RpAll.cons_inv {x : PV} {xs : List PV} (r : RpAll ok h vs (x :: xs)) : ∃ u us, vs = u :: us ∧ Rp ok h u x ∧ RpAll ok h us xs := by cases r with | cons a b => exact ⟨_, _, rfl, a, b⟩
theorem RpAll.one_inv {x : PV} (r : RpAll ok h vs [x]) : ∃ u, vs = [u] ∧ Rp ok h u x := by
  obtain ⟨u, us, rfl, a, b⟩ := r.cons_inv
  cases b.nil_inv
  exact ⟨u, rfl, a⟩
theorem RpAll.two_inv {x y : PV} (r : RpAll ok h vs [x, y]) : ∃ u u', vs = [u, u'] ∧ Rp ok h u x ∧ Rp ok h u' y := by
  obtain ⟨u, us, rfl, a, b⟩ := r.cons_inv
  obtain ⟨u', rfl, c⟩ := b.one_inv
  exact ⟨u, u', rfl, a, c⟩
end
mutual
theorem Rp.imp {ok ok' : Addr → Prop} {h h' : Heap} (k : ∀ b o, ok b → h.get? b = some o → ok' b ∧ h'.get? b = some o) : ∀ {v : Value} {x : PV}, Rp ok h v x → Rp ok' h' v x
  | _, _, .none => .none
  | _, _, .bool b => .bool b
  | _, _, .int i t => .int i t
  | _, _, .str x t => .str x t
  | _, _, .bytes b t => .bytes b t
  | _, _, .list hk ho hr => .list (k _ _ hk ho).1 (k _ _ hk ho).2 (RpAll.imp k hr)
  | _, _, .tuple hk ho hr => .tuple (k _ _ hk ho).1 (k _ _ hk ho).2 (RpAll.imp k hr)
  | _, _, .range hk ho => .range (k _ _ hk ho).1 (k _ _ hk ho).2
  | _, _, .ty n => .ty n
theorem RpAll.imp {ok ok' : Addr → Prop} {h h' : Heap} (k : ∀ b o, ok b → h.get? b = some o → ok' b ∧ h'.get? b = some o) : ∀ {vs : List Value} {xs : List PV}, RpAll ok h vs xs → RpAll ok' h' vs xs
  | _, _, .nil => .nil
  | _, _, .cons hd tl => .cons (Rp.imp k hd) (RpAll.imp k tl)
end
/-- as before, but of lists, tuples and ranges alone -/
noncomputable def isD (o : Obj) : Prop := (o.cls = .type "list" ∨ o.cls = .type "tuple" ∨ o.cls = .type "range") ∧ ∀ es ep, o.data ≠ .dict es ep
mutual
theorem Rp.imp2 {ok ok' : Addr → Prop} {h h' : Heap} (k : ∀ b o, ok b → isD o → h.get? b = some o → ok' b ∧ h'.get? b = some o) : ∀ {v : Value} {x : PV}, Rp ok h v x → Rp ok' h' v x
  | _, _, .none => .none
  | _, _, .bool b => .bool b
  | _, _, .int i t => .int i t
  | _, _, .str x t => .str x t
  | _, _, .bytes b t => .bytes b t
  | _, _, .list hk ho hr => .list (k _ _ hk ⟨.inl rfl, fun _ _ e => by cases e⟩ ho).1 (k _ _ hk ⟨.inl rfl, fun _ _ e => by cases e⟩ ho).2 (RpAll.imp2 k hr)
  | _, _, .tuple hk ho hr => .tuple (k _ _ hk ⟨.inr (.inl rfl), fun _ _ e => by cases e⟩ ho).1 (k _ _ hk ⟨.inr (.inl rfl), fun _ _ e => by cases e⟩ ho).2 (RpAll.imp2 k hr)
  | _, _, .range hk ho => .range (k _ _ hk ⟨.inr (.inr rfl), fun _ _ e => by cases e⟩ ho).1 (k _ _ hk ⟨.inr (.inr rfl), fun _ _ e => by cases e⟩ ho).2
  | _, _, .ty n => .ty n
theorem RpAll.imp2 {ok ok' : Addr → Prop} {h h' : Heap} (k : ∀ b o, ok b → isD o → h.get? b = some o → ok' b ∧ h'.get? b = some o) : ∀ {vs : List Value} {xs : List PV}, RpAll ok h vs xs → RpAll ok' h' vs xs
  | _, _, .nil => .nil
  | _, _, .cons hd tl => .cons (Rp.imp2 k hd) (RpAll.imp2 k tl)
end
theorem Rp.hk {ok : Addr → Prop} {h h' : Heap} {v : Value} {x : PV} (r : Rp ok h v x) (k : Hk h h') : Rp ok h' v x := r.imp fun b o e q => ⟨e, k b o q⟩
theorem RpAll.hk {ok : Addr → Prop} {h h' : Heap} {vs : List Value} {xs : List PV} (r : RpAll ok h vs xs) (k : Hk h h') : RpAll ok h' vs xs := r.imp fun b o e q => ⟨e, k b o q⟩
theorem RpAll.length {ok : Addr → Prop} {h : Heap} : ∀ {vs : List Value} {xs : List PV}, RpAll ok h vs xs → vs.length = xs.length
  | _, _, .nil => rfl
  | _, _, .cons _ tl => by rw [List.length_cons, List.length_cons, tl.length]
theorem RpAll.append {ok : Addr → Prop} {h : Heap} : ∀ {vs us : List Value} {xs ys : List PV}, RpAll ok h vs xs → RpAll ok h us ys → RpAll ok h (vs ++ us) (xs ++ ys)
  | _, _, _, _, .nil, r => r
  | _, _, _, _, .cons hd tl, r => .cons hd (tl.append r)
theorem RpAll.one {ok : Addr → Prop} {h : Heap} {v : Value} {x : PV} (r : Rp ok h v x) : RpAll ok h [v] [x] := .cons r .nil
theorem RpAll.get {ok : Addr → Prop} {h : Heap} : ∀ {vs : List Value} {xs : List PV}, RpAll ok h vs xs → ∀ {i : Nat} {x : PV}, xs[i]? = some x → ∃ v, vs[i]? = some v ∧ Rp ok h v x
  | _, _, .nil, _, _, e => by simp at e
  | _, _, .cons hd tl, 0, x, e => by simp at e; exact ⟨_, rfl, e ▸ hd⟩
  | _, _, .cons hd tl, i + 1, x, e => by
    simp at e
    obtain ⟨v, hv, r⟩ := tl.get e
    exact ⟨v, by simpa using hv, r⟩
theorem RpAll.get' {ok : Addr → Prop} {h : Heap} : ∀ {vs : List Value} {xs : List PV}, RpAll ok h vs xs → ∀ {i : Nat} {v : Value}, vs[i]? = some v → ∃ x, xs[i]? = some x ∧ Rp ok h v x
  | _, _, .nil, _, _, e => by simp at e
  | _, _, .cons hd tl, 0, x, e => by simp at e; exact ⟨_, rfl, e ▸ hd⟩
  | _, _, .cons hd tl, i + 1, x, e => by
    simp at e
    obtain ⟨v, hv, r⟩ := tl.get' e
    exact ⟨v, by simpa using hv, r⟩
theorem RpAll.drop {ok : Addr → Prop} {h : Heap} : ∀ {vs : List Value} {xs : List PV} (n : Nat), RpAll ok h vs xs → RpAll ok h (vs.drop n) (xs.drop n)
  | _, _, 0, r => by simpa using r
  | _, _, _ + 1, .nil => .nil
  | _, _, n + 1, .cons _ tl => by simpa using tl.drop n
theorem RpAll.take {ok : Addr → Prop} {h : Heap} : ∀ {vs : List Value} {xs : List PV} (n : Nat), RpAll ok h vs xs → RpAll ok h (vs.take n) (xs.take n)
  | _, _, 0, _ => .nil
  | _, _, _ + 1, .nil => .nil
  | _, _, n + 1, .cons hd tl => by simpa using .cons hd (tl.take n)

/-- what may stand at an address not yet taken -/
noncomputable def OkIn (ok : Addr → Prop) (h : Heap) : Prop := ∀ a, h.get? a = none → ok a
theorem OkIn.hk {ok : Addr → Prop} {h h' : Heap} (x : OkIn ok h) (k : Hk h h') : OkIn ok h' := fun a e => x a (by
  cases q : h.get? a with
  | none => rfl
  | some o => rw [k a o q] at e; cases e)

theorem Keeps.hk {s s' : Shared} (k : Keeps s s') : Hk s.heap s'.heap := by
  obtain ⟨h', tk, rfl, k⟩ := k; exact k
theorem Keeps.rfl' (s : Shared) : Keeps s s := ⟨s.heap, s.toks, rfl, fun _ _ e => e⟩
theorem Keeps.tr {s s' s'' : Shared} (k : Keeps s s') (k' : Keeps s' s'') : Keeps s s'' := by
  obtain ⟨h', tk, rfl, k⟩ := k
  obtain ⟨h'', tk', rfl, k'⟩ := k'
  exact ⟨h'', tk', rfl, fun b o e => k' b o (k b o e)⟩
theorem Keeps.of {s : Shared} {h' : Heap} {tk : Nat} (k : Hk s.heap h') : Keeps s { s with heap := h', toks := tk } := ⟨h', tk, rfl, k⟩
theorem Keeps.tok {s : Shared} {tk : Nat} : Keeps s { s with toks := tk } := ⟨s.heap, tk, rfl, fun _ _ e => e⟩
theorem hk_push (h : Heap) (o : Obj) : Hk h (h.push o) := fun _ _ e => Heap.get?_push_of_some _ e
theorem Keeps.push {s : Shared} {o : Obj} : Keeps s { s with heap := s.heap.push o } := ⟨_, s.toks, rfl, hk_push _ _⟩
theorem fresh_none {h : Heap} {a : Addr} (ha : h.objs.size ≤ a) : h.get? a = none := by
  cases e : h.get? a with
  | none => rfl
  | some o => exact absurd (Heap.lt_size e) (Nat.not_lt.mpr ha)

structure AOK (d : Nat) (A : Around) : Prop where
  hn : A.handled = none
  dp : A.depth ≤ 310 + d
  un : A.units ≤ 10 + 10 * d
theorem AOK.mono {d d' : Nat} {A : Around} (x : AOK d A) (h : d ≤ d') : AOK d' A := ⟨x.hn, by have := x.dp; omega, by have := x.un; omega⟩
theorem AOK.in1 {d : Nat} {A : Around} (x : AOK d A) : AOK (d + 1) A.in1 := ⟨x.hn, by have := x.dp; simp; omega, by have := x.un; simp; omega⟩
theorem AOK.deeper {d : Nat} {A : Around} (x : AOK d A) (env : Env) : AOK (d + 1) (A.deeper env) := ⟨x.hn, by have := x.dp; simp [Around.deeper]; omega, by have := x.un; simp [Around.deeper]; omega⟩
theorem AOK.room {d : Nat} {A : Around} (x : AOK d A) (h : d ≤ 100) : A.depth < recursionLimit := by have := x.dp; show A.depth < 1000; omega
theorem AOK.uni {d : Nat} {A : Around} (x : AOK d A) (h : d ≤ 100) : A.units + 64 < cLine := by have := x.un; show A.units + 64 < 9900; omega

/-- what the top left, at any later heap -/
structure Base (mg mb : Str → Option Value) (K : Frag) (h : Heap) : Prop where
  g : h.Ns mainGlobals mg
  b : h.Ns builtinsNs mb
  lim : h.NoLimit
  k : K.In h
theorem Base.hk {mg mb : Str → Option Value} {K : Frag} {h h' : Heap} (x : Base mg mb K h) (k : Hk h h') : Base mg mb K h' := ⟨x.g.keeps k, x.b.keeps k, x.lim.keeps k, x.k.keeps k⟩

inductive Bd where
  | val (x : PV)
  | own (xs : List PV)
noncomputable abbrev Rho := List (Str × Bd)

noncomputable def RpB (ok : Addr → Prop) (h : Heap) (v : Value) : Bd → Prop
  | .val x => Rp ok h v x
  | .own xs => ∃ a vs n, v = .ref a ∧ ¬ ok a ∧ h.get? a = some (lstO vs n) ∧ RpAll ok h vs xs
theorem RpB.hk {ok : Addr → Prop} {h h' : Heap} {v : Value} {x : Bd} (r : RpB ok h v x) (k : Hk h h') : RpB ok h' v x := by
  cases x with
  | val x => exact Rp.hk r k
  | own xs =>
    obtain ⟨a, vs, n, e, hn, ho, hr⟩ := r
    exact ⟨a, vs, n, e, hn, k _ _ ho, hr.hk k⟩

/-- the frame: what stands under the names -/
structure Fm (ok : Addr → Prop) (h : Heap) (env : Env) (ρ : Rho) : Prop where
  kind : env.scope.kind = .function
  gl : env.globals = mainGlobals
  bl : env.builtins = builtinsNs
  cells : ∀ n, env.kindOf n = some .cell → ∃ c, env.cells.lookup n = some c
  loc : ∃ m, h.Ns env.locals m ∧ ∀ x bd, ρ.lookup x = some bd → env.kindOf x = some .local → ∃ v, m x = some v ∧ RpB ok h v bd
  cel : ∀ x bd c, ρ.lookup x = some bd → env.kindOf x = some .cell → env.cells.lookup x = some c → ∃ v, h.IsCell c (some v) ∧ RpB ok h v bd
theorem Fm.hk {ok : Addr → Prop} {h h' : Heap} {env : Env} {ρ : Rho} (F : Fm ok h env ρ) (k : Hk h h') : Fm ok h' env ρ := by
  obtain ⟨m, hn, hm⟩ := F.loc
  refine ⟨F.kind, F.gl, F.bl, F.cells, ⟨m, hn.keeps k, fun x bd e q => ?_⟩, fun x bd c e q hc => ?_⟩
  · obtain ⟨v, hv, r⟩ := hm x bd e q
    exact ⟨v, hv, r.hk k⟩
  · obtain ⟨v, hv, r⟩ := F.cel x bd c e q hc
    exact ⟨v, hv.keeps k, r.hk k⟩

noncomputable def EvTo (M : Model) (A : Around) (t : Sem Value) (ok : Addr → Prop) (s : Shared) (x : PV) : Prop :=
  ∀ (Q : Value → Shared → Prop) (E : Value → Shared → Prop), (∀ v s', Keeps s s' → Rp ok s'.heap v x → Q v s') → wpAny M A t Q E s

theorem EvTo.use {prog : Program} {w : World} {A : Around} {t : Sem Value} {ok : Addr → Prop} {s : Shared} {x : PV} (h : EvTo (model prog w) A t ok s x) {Q : Value → Shared → Prop} {E : Value → Shared → Prop}
    (hQ : ∀ v s', Keeps s s' → s.toks ≤ s'.toks → Rp ok s'.heap v x → Q v s') : wpAny (model prog w) A t Q E s :=
  wpAny_with_toks (n := s.toks) (Nat.le_refl _) (wpAny_mono (h (fun v s' => s.toks ≤ s'.toks → Q v s') (fun _ _ => False) fun v s' k r tk => hQ v s' k tk r) (fun _ _ h => h) fun _ _ h => h.elim)

/-- what stands at every place where an expression is walked -/
structure Inv (mg mb : Str → Option Value) (K : Frag) (d : Nat) (A : Around) (ok : Addr → Prop) (s : Shared) (env : Env) (ρ : Rho) : Prop where
  aok : AOK d A
  dd : d ≤ 50
  base : Base mg mb K s.heap
  okin : OkIn ok s.heap
  tok : 0 < s.toks
  fm : Fm ok s.heap env ρ
theorem Inv.kp {mg mb : Str → Option Value} {K : Frag} {d : Nat} {A : Around} {ok : Addr → Prop} {s s' : Shared} {env : Env} {ρ : Rho} (I : Inv mg mb K d A ok s env ρ) (k : Keeps s s') (ht : s.toks ≤ s'.toks) : Inv mg mb K d A ok s' env ρ :=
  ⟨I.aok, I.dd, I.base.hk (Keeps.hk k), I.okin.hk (Keeps.hk k), Nat.lt_of_lt_of_le I.tok ht, I.fm.hk (Keeps.hk k)⟩
end Mine
end
section
open PySem PySem.W PyProof.Rows
set_option maxRecDepth 100000
namespace Mine

noncomputable abbrev lim : Nat := 16777216
noncomputable def appS (x y : Str) : Str := strOfL (x.cps.toList ++ y.cps.toList)
theorem appS_eq (x y : Str) : appS x y = x ++ y := by
  apply Str.ext'
  apply Array.toList_inj.mp
  rw [Str.cps_append, Array.toList_append]
  simp [appS, strOfL]
noncomputable def eqS (x y : Str) : Bool := x.cps.toList == y.cps.toList
theorem eqS_eq (x y : Str) : eqS x y = (x == y) := by
  unfold eqS
  by_cases h : x = y
  · subst h; simp
  · rw [beq_eq_false_iff_ne.mpr h, beq_eq_false_iff_ne]
    exact fun e => h (Str.ext' (Array.toList_inj.mp e))
noncomputable def addP : PV → PV → Option PV
  | .int a, y => (match y with | .int b => some (.int (a + b)) | _ => none)
  | .str x, y => (match y with | .str y => if x.length + y.length ≤ lim then some (.str (appS x y)) else none | _ => none)
  | .bytes b, y => (match y with | .bytes c => if b.size + c.size ≤ lim then some (.bytes (b ++ c)) else none | _ => none)
  | _, _ => none
noncomputable def int2 (f : Int → Int → Option PV) : PV → PV → Option PV
  | .int a, y => (match y with | .int b => f a b | _ => none)
  | _, _ => none
noncomputable def binop : Operator → PV → PV → Option PV
  | .Add, x, y => addP x y
  | .Sub, x, y => int2 (fun a b => some (.int (a - b))) x y
  | .Mod, x, y => int2 (fun a b => if b = 0 then none else some (.int (a.fmod b))) x y
  | .FloorDiv, x, y => int2 (fun a b => if b ≠ 0 ∧ -1000000 ≤ b ∧ b ≤ 1000000 then some (.int (a.fdiv b)) else none) x y
  | .Pow, x, y => int2 (fun a n => if 0 ≤ n ∧ n ≤ 1000000 ∧ a.natAbs < 2 ^ 64 then some (.int (a ^ n.toNat)) else none) x y
  | .BitAnd, x, y => int2 (fun a b => some (.int (Builtin.bitAnd a b))) x y
  | _, _, _ => none
theorem int2_inv {f : Int → Int → Option PV} {x y z : PV} (h : int2 f x y = some z) : ∃ a b, x = .int a ∧ y = .int b ∧ f a b = some z := by
  cases x with
  | int a => cases y with
    | int b => exact ⟨a, b, rfl, rfl, h⟩
    | _ => first | exact noneF h | cases h
  | _ => first | exact noneF h | cases h

noncomputable def feq : PV → PV → Option Bool
  | .int a, y => (match y with | .int b => some (a == b) | _ => none)
  | .bool a, y => (match y with | .bool b => some (a == b) | _ => none)
  | .str a, y => (match y with | .str b => some (eqS a b) | _ => none)
  | .bytes a, y => (match y with | .bytes b => some (decide (a.toList = b.toList)) | _ => none)
  | _, _ => none
noncomputable def feqs : List PV → List PV → Option (List Bool)
  | [], _ => some []
  | _ :: _, [] => some []
  | x :: xs, y :: ys => match feq x y, feqs xs ys with
    | some b, some bs => some (b :: bs)
    | _, _ => none
noncomputable def leq (xs ys : List PV) : Option Bool :=
  if xs.length = ys.length then (feqs xs ys).map fun bs => bs.all id else some false
noncomputable def teq (xs ys : List PV) : Option Bool := (feqs xs ys).map fun bs => bs.all id && decide (xs.length = ys.length)
noncomputable def ints? : List PV → Option (List Int)
  | [] => some []
  | .int i :: r => (ints? r).map (i :: ·)
  | _ => none
noncomputable def strs? : List PV → Option (List Str)
  | [] => some []
  | .str i :: r => (strs? r).map (i :: ·)
  | _ => none
noncomputable def PV.isNone : PV → Bool
  | .none => true
  | _ => false
/-- one sign in a text -/
noncomputable def inStr (y x : Str) : Option Bool := match y.cps.toList with
  | [c] => some (x.cps.toList.contains c)
  | _ => none
theorem inStr_ok {y x : Str} {b : Bool} (h : inStr y x = some b) : (!(Builtin.Str.occurrences x y 0 x.length 1).isEmpty) = b := by
  unfold inStr at h
  split at h
  · rename_i c hc
    cases h
    have hy : y = ⟨#[c]⟩ := Str.ext' (Array.toList_inj.mp (by rw [hc]))
    subst hy
    rw [PyProof.Rows.empty_one]
    simp
  · first | exact noneF h | cases h
noncomputable def eqP : PV → PV → Option Bool
  | .int a, y => (match y with | .int b => some (a == b) | _ => none)
  | .str a, y => (match y with | .str b => some (eqS a b) | _ => none)
  | .list a, y => (match y with | .list b => leq a b | _ => none)
  | .tuple a, y => (match y with | .tuple b => teq a b | _ => none)
  | _, _ => none
noncomputable def neP : PV → PV → Option Bool
  | .int a, y => (match y with | .int b => some (a != b) | _ => none)
  | .str a, y => (match y with | .str b => some (!(eqS a b)) | _ => none)
  | .list a, y => (match y with | .list b => (leq a b).map (!·) | _ => none)
  | .tuple a, y => (match y with | .tuple b => (teq a b).map (!·) | _ => none)
  | _, _ => none
noncomputable def inP : PV → PV → Option Bool
  | .int k, y => (match y with | .list xs => (ints? xs).map fun ns => ns.any (· == k) | _ => none)
  | .str k, y => (match y with
    | .tuple xs => (strs? xs).map fun ns => ns.any (eqS · k)
    | .str x => inStr k x
    | _ => none)
  | _, _ => none
noncomputable def notinP : PV → PV → Option Bool
  | .int k, y => (match y with | .list xs => (ints? xs).map fun ns => !(ns.any (· == k)) | _ => none)
  | .str k, y => (match y with | .str x => (inStr k x).map (!·) | _ => none)
  | _, _ => none
noncomputable def cmpop : CmpOp → PV → PV → Option Bool
  | .Eq, x, y => eqP x y
  | .NotEq, x, y => neP x y
  | .In, x, y => inP x y
  | .NotIn, x, y => notinP x y
  | .Is, x, y => (match y with | .none => some x.isNone | _ => none)
  | _, _, _ => none

/-- a value whose own list may be one that is still written to -/
noncomputable def RpW (ok : Addr → Prop) (h : Heap) (v : Value) (x : PV) : Prop := Rp ok h v x ∨ ∃ a vs xs n, v = .ref a ∧ x = .list xs ∧ h.get? a = some (lstO vs n) ∧ RpAll ok h vs xs
theorem RpW.hk {ok : Addr → Prop} {h h' : Heap} {v : Value} {x : PV} (r : RpW ok h v x) (k : Hk h h') : RpW ok h' v x := by
  rcases r with r | ⟨a, vs, xs, n, e, e', ho, hr⟩
  · exact .inl (r.hk k)
  · exact .inr ⟨a, vs, xs, n, e, e', k _ _ ho, hr.hk k⟩
theorem RpW.lst {ok : Addr → Prop} {h : Heap} {v : Value} {xs : List PV} (r : RpW ok h v (.list xs)) : ∃ a vs n, v = .ref a ∧ h.get? a = some (lstO vs n) ∧ RpAll ok h vs xs := by
  rcases r with r | ⟨a, vs, xs', n, e, e', ho, hr⟩
  · obtain ⟨a, vs, n, rfl, _, ho, hr⟩ := r.list_inv
    exact ⟨_, _, _, rfl, ho, hr⟩
  · cases e'; exact ⟨a, vs, n, e, ho, hr⟩
theorem RpW.flat {ok : Addr → Prop} {h : Heap} {v : Value} {x : PV} (r : RpW ok h v x) (hx : ∀ xs, x ≠ .list xs) : Rp ok h v x := by
  rcases r with r | ⟨a, vs, xs, n, e, e', ho, hr⟩
  · exact r
  · exact absurd e' (hx _)

section
variable {prog : Program} {w : World} {A : Around} {s : Shared} {ok : Addr → Prop}

theorem add_ok {x y z : PV} {a b : Value} (h : addP x y = some z) (ra : Rp ok s.heap a x) (rb : Rp ok s.heap b y) : EvTo (model prog w) A (binaryOp .Add a b) ok s z := by
  intro Q E hQ
  cases x with
  | int a => cases y with
    | int b => cases h; obtain ⟨_, rfl⟩ := ra.int_inv; obtain ⟨_, rfl⟩ := rb.int_inv; exact add_int (hQ _ _ Keeps.tok (.int _ _))
    | _ => first | exact noneF h | cases h
  | str a => cases y with
    | str b =>
      unfold addP at h
      dsimp only at h
      split at h
      · rename_i hc; cases h; obtain ⟨_, rfl⟩ := ra.str_inv; obtain ⟨_, rfl⟩ := rb.str_inv; rw [appS_eq] at hQ; exact add_str (fun t' tk => hQ _ _ Keeps.tok (.str _ _)) hc
      · first | exact noneF h | cases h
    | _ => first | exact noneF h | cases h
  | bytes a => cases y with
    | bytes b =>
      unfold addP at h
      dsimp only at h
      split at h
      · rename_i hc; cases h; obtain ⟨_, rfl⟩ := ra.bytes_inv; obtain ⟨_, rfl⟩ := rb.bytes_inv; exact KBy.add_bytes hc (fun t' tk => hQ _ _ Keeps.tok (.bytes _ _))
      · first | exact noneF h | cases h
    | _ => first | exact noneF h | cases h
  | _ => first | exact noneF h | cases h
theorem binop_ok {op : Operator} {x y z : PV} {a b : Value} (h : binop op x y = some z) (ra : Rp ok s.heap a x) (rb : Rp ok s.heap b y) : EvTo (model prog w) A (binaryOp op a b) ok s z := by
  cases op with
  | Add => exact add_ok h ra rb
  | Sub => obtain ⟨i, j, rfl, rfl, h⟩ := int2_inv h; intro Q E hQ; cases h; obtain ⟨_, rfl⟩ := ra.int_inv; obtain ⟨_, rfl⟩ := rb.int_inv; exact sub_int (hQ _ _ Keeps.tok (.int _ _))
  | BitAnd => obtain ⟨i, j, rfl, rfl, h⟩ := int2_inv h; intro Q E hQ; cases h; obtain ⟨_, rfl⟩ := ra.int_inv; obtain ⟨_, rfl⟩ := rb.int_inv; exact and_int (hQ _ _ Keeps.tok (.int _ _))
  | Mod =>
    obtain ⟨i, j, rfl, rfl, h1⟩ := int2_inv h
    clear h
    intro Q E hQ
    split at h1
    · first | exact noneF h1 | cases h1
    · rename_i hb; cases h1; obtain ⟨_, rfl⟩ := ra.int_inv; obtain ⟨_, rfl⟩ := rb.int_inv; exact mod_int' hb (hQ _ _ Keeps.tok (.int _ _))
  | FloorDiv =>
    obtain ⟨i, j, rfl, rfl, h1⟩ := int2_inv h
    clear h
    intro Q E hQ
    split at h1
    · rename_i hc
      cases h1; cases ra; cases rb
      exact floordiv_int hc.1 (hQ _ _ Keeps.tok (.int _ _)) (.inl (PyProof.noPylong_small (by omega)))
    · first | exact noneF h1 | cases h1
  | Pow =>
    obtain ⟨i, j, rfl, rfl, h1⟩ := int2_inv h
    clear h
    intro Q E hQ
    split at h1
    · rename_i hc; cases h1; obtain ⟨_, rfl⟩ := ra.int_inv; obtain ⟨_, rfl⟩ := rb.int_inv; exact pow_int_small hc.1 hc.2.1 hc.2.2 (hQ _ _ Keeps.tok (.int _ _))
    · first | exact noneF h1 | cases h1
  | _ => first | exact noneF h | cases h

open PySem.SeqAt in
theorem feq_at {A : Around} {x y : PV} {b : Bool} {u v : Value} {h : Heap} (e : feq x y = some b) (ra : Rp ok h u x) (rb : Rp ok h v y) : EqAt A s u v b := by
  cases x with
  | int a => cases y with
    | int b => cases e; obtain ⟨_, rfl⟩ := ra.int_inv; obtain ⟨_, rfl⟩ := rb.int_inv; exact EqAt.int_int _ _ _ _
    | _ => first | exact noneF e | cases e
  | bool a => cases y with
    | bool b => cases e; cases ra.bool_inv; cases rb.bool_inv; exact EqAt.bool_bool _ _
    | _ => first | exact noneF e | cases e
  | str a => cases y with
    | str b => cases e; obtain ⟨_, rfl⟩ := ra.str_inv; obtain ⟨_, rfl⟩ := rb.str_inv; rw [eqS_eq]; exact EqAt.str_str _ _ _ _
    | _ => first | exact noneF e | cases e
  | bytes a => cases y with
    | bytes b => cases e; obtain ⟨_, rfl⟩ := ra.bytes_inv; obtain ⟨_, rfl⟩ := rb.bytes_inv; exact fun prog w E Q hq => eqBool_bytes hq
    | _ => first | exact noneF e | cases e
  | _ => first | exact noneF e | cases e
open PySem.SeqAt in
theorem feqs_at {A : Around} {h : Heap} : ∀ {xs ys : List PV} {bs : List Bool} {us vs : List Value}, feqs xs ys = some bs → RpAll ok h us xs → RpAll ok h vs ys →
    bs.length = min xs.length ys.length ∧ ∀ j (h1 : j < us.length) (h2 : j < vs.length), EqAt A s us[j] vs[j] (bs.getD j true)
  | [], ys, bs, us, vs, e, ra, rb => by
    cases e; cases ra.nil_inv
    exact ⟨by simp, fun j h1 _ => absurd h1 (Nat.not_lt_zero _)⟩
  | x :: xs, [], bs, us, vs, e, ra, rb => by
    cases e; cases rb.nil_inv
    exact ⟨by simp, fun j _ h2 => absurd h2 (Nat.not_lt_zero _)⟩
  | x :: xs, y :: ys, bs, us, vs, e, ra, rb => by
        obtain ⟨u, us, rfl, ra, ra'⟩ := ra.cons_inv
        obtain ⟨v, vs, rfl, rb, rb'⟩ := rb.cons_inv
        unfold feqs at e
        split at e
        · rename_i b bs' e1 e2
          cases e
          obtain ⟨hl, ih⟩ := feqs_at (A := A) e2 ra' rb'
          refine ⟨by simp only [List.length_cons, hl]; omega, fun j h1 h2 => ?_⟩
          cases j with
          | zero => exact feq_at e1 ra rb
          | succ j => exact ih j (Nat.lt_of_succ_lt_succ h1) (Nat.lt_of_succ_lt_succ h2)
        · first | exact noneF e | cases e
theorem range_all {bs : List Bool} {n : Nat} (h : bs.length = n) : (List.range n).all (fun j => bs.getD j true) = bs.all id := by
  subst h
  induction bs with
  | nil => rfl
  | cons b bs ih =>
    rw [List.length_cons, List.range_succ_eq_map, List.all_cons, List.all_map, List.all_cons, ← ih]
    simp [Function.comp_def]
theorem ints_are {h : Heap} : ∀ {xs : List PV} {ns : List Int} {vs : List Value}, ints? xs = some ns → RpAll ok h vs xs → IntsAre vs ns
  | [], ns, vs, e, r => by cases e; cases r.nil_inv; exact .nil
  | x :: xs, ns, vs, e, r => by
      obtain ⟨u, us, rfl, r, r'⟩ := r.cons_inv
      cases x with
      | int i =>
        obtain ⟨_, rfl⟩ := r.int_inv
        simp only [ints?, Option.map_eq_some_iff] at e
        obtain ⟨ns', e1, rfl⟩ := e
        exact .cons _ _ (ints_are e1 r')
      | _ => first | exact noneF e | cases e
theorem strs_are {h : Heap} : ∀ {xs : List PV} {ns : List Str} {vs : List Value}, strs? xs = some ns → RpAll ok h vs xs → StrsAre vs ns
  | [], ns, vs, e, r => by cases e; cases r.nil_inv; exact .nil
  | x :: xs, ns, vs, e, r => by
      obtain ⟨u, us, rfl, r, r'⟩ := r.cons_inv
      cases x with
      | str i =>
        obtain ⟨_, rfl⟩ := r.str_inv
        simp only [strs?, Option.map_eq_some_iff] at e
        obtain ⟨ns', e1, rfl⟩ := e
        exact .cons _ _ (strs_are e1 r')
      | _ => first | exact noneF e | cases e
theorem isList_of {h : Heap} {a : Addr} {vs : List Value} {n : Nat} (e : h.get? a = some (lstO vs n)) : h.IsList a vs.toArray := ⟨_, e, rfl, n, rfl⟩
theorem isTuple_of {h : Heap} {a : Addr} {vs : List Value} {n : Nat} (e : h.get? a = some (tupO vs n)) : h.IsTuple a vs.toArray := ⟨_, e, rfl, n, rfl⟩
theorem isTup_of {h : Heap} {a : Addr} {vs : List Value} {n : Nat} (e : h.get? a = some (tupO vs n)) : IsTup h a vs.toArray := ⟨_, e, rfl, n, rfl⟩

open PySem.SeqAt in
theorem leq_ok {xs ys : List PV} {b : Bool} {us vs : List Value} {n m : Nat} {l r : Addr} {d : Nat} (hA : AOK d A) (hd : d ≤ 100) (e : leq xs ys = some b) (el : s.heap.get? l = some (lstO us n)) (er : s.heap.get? r = some (lstO vs m))
    (ra : RpAll ok s.heap us xs) (rb : RpAll ok s.heap vs ys) : RcNeAt A s (.ref l) (.ref r) (!b) ∧ ∀ Q E, Q (.bool b) s → wpAny (model prog w) A (compareOp .Eq (.ref l) (.ref r)) Q E s := by
  have hu : A.units < cLine := by have := hA.uni hd; omega
  unfold leq at e
  split at e
  · rename_i hlen
    simp only [Option.map_eq_some_iff] at e
    obtain ⟨bs, e, rfl⟩ := e
    obtain ⟨hl, hat⟩ := feqs_at (s := s) (A := A.in1) e ra rb
    have hsz : us.toArray.size = vs.toArray.size := by simp [ra.length, rb.length, hlen]
    have hbs : bs.length = us.toArray.size := by simp [hl, ra.length, hlen]
    have hat' : ∀ j (h1 : j < us.toArray.size) (h2 : j < vs.toArray.size), EqAt A.in1 s us.toArray[j] vs.toArray[j] (bs.getD j true) := fun j h1 h2 => by simpa using hat j (by simpa using h1) (by simpa using h2)
    refine ⟨?_, fun Q E hQ => ?_⟩
    · have := RcNeAt.lists (isList_of el) (isList_of er) hsz hu (e := fun j => bs.getD j true) hat'
      rwa [range_all hbs] at this
    · exact eq_listAt (isList_of el) (isList_of er) hsz hu (e := fun j => bs.getD j true) hat' (by rw [range_all hbs]; exact hQ)
  · rename_i hlen
    cases e
    have hsz : (us.toArray.size != vs.toArray.size) = true := by simpa [ra.length, rb.length] using hlen
    exact ⟨RcNeAt.lists_lengths (isList_of el) (isList_of er) hsz hu, fun Q E hQ => eq_list_lengthsAt (isList_of el) (isList_of er) hsz hu hQ⟩
open PySem.SeqAt in
theorem teq_ok {xs ys : List PV} {b : Bool} {us vs : List Value} {n m : Nat} {l r : Addr} {d : Nat} (hA : AOK d A) (hd : d ≤ 100) (e : teq xs ys = some b) (el : s.heap.get? l = some (tupO us n)) (er : s.heap.get? r = some (tupO vs m))
    (ra : RpAll ok s.heap us xs) (rb : RpAll ok s.heap vs ys) : RcNeAt A s (.ref l) (.ref r) (!b) ∧ ∀ Q E, Q (.bool b) s → wpAny (model prog w) A (compareOp .Eq (.ref l) (.ref r)) Q E s := by
  have hu : A.units < cLine := by have := hA.uni hd; omega
  unfold teq at e
  simp only [Option.map_eq_some_iff] at e
  obtain ⟨bs, e, rfl⟩ := e
  obtain ⟨hl, hat⟩ := feqs_at (s := s) (A := A.in1) e ra rb
  have h1 : us.toArray.size = xs.length := by simp [ra.length]
  have h2 : vs.toArray.size = ys.length := by simp [rb.length]
  have hbs : bs.length = min us.toArray.size vs.toArray.size := by rw [h1, h2]; exact hl
  have hat' : ∀ j (h1 : j < us.toArray.size) (h2 : j < vs.toArray.size), EqAt A.in1 s us.toArray[j] vs.toArray[j] (bs.getD j true) := fun j h1 h2 => by simpa using hat j (by simpa using h1) (by simpa using h2)
  have key : ((List.range (min us.toArray.size vs.toArray.size)).all (fun j => bs.getD j true) && us.toArray.size == vs.toArray.size) = (bs.all id && decide (xs.length = ys.length)) := by
    rw [range_all hbs, h1, h2]; rfl
  refine ⟨?_, fun Q E hQ => ?_⟩
  · have := RcNeAt.tuples (isTuple_of el) (isTuple_of er) hu (e := fun j => bs.getD j true) hat'
    rwa [key] at this
  · exact eq_tupleAt (isTuple_of el) (isTuple_of er) hu (e := fun j => bs.getD j true) hat' (by rw [key]; exact hQ)

theorem RpW.tup {h : Heap} {v : Value} {xs : List PV} (r : RpW ok h v (.tuple xs)) : ∃ a vs n, v = .ref a ∧ h.get? a = some (tupO vs n) ∧ RpAll ok h vs xs := by
  obtain ⟨a, vs, n, rfl, _, ho, hr⟩ := (r.flat fun _ e => by cases e).tuple_inv
  exact ⟨_, _, _, rfl, ho, hr⟩
theorem RpW.int' {h : Heap} {v : Value} {i : Int} (r : RpW ok h v (.int i)) : ∃ t, v = .int i t := (r.flat fun _ e => by cases e).int_inv
theorem RpW.str' {h : Heap} {v : Value} {i : Str} (r : RpW ok h v (.str i)) : ∃ t, v = .str i t := (r.flat fun _ e => by cases e).str_inv
theorem eqP_ok {x y : PV} {b : Bool} {u v : Value} {d : Nat} (hA : AOK d A) (hd : d ≤ 100) (e : eqP x y = some b) (ra : RpW ok s.heap u x) (rb : RpW ok s.heap v y) :
    ∀ Q E, Q (.bool b) s → wpAny (model prog w) A (compareOp .Eq u v) Q E s := by
  intro Q E hQ
  cases x with
  | int i => cases y with
    | int j => cases e; obtain ⟨t, rfl⟩ := ra.int'; obtain ⟨t', rfl⟩ := rb.int'; exact eq_int hQ
    | _ => first | exact noneF e | cases e
  | str i => cases y with
    | str j => cases e; obtain ⟨t, rfl⟩ := ra.str'; obtain ⟨t', rfl⟩ := rb.str'; rw [eqS_eq] at hQ; exact PyProof.Rows.eq_str hQ
    | _ => first | exact noneF e | cases e
  | list i => cases y with
    | list j =>
      obtain ⟨l, us, n, rfl, el, r1⟩ := ra.lst; obtain ⟨r, vs, m, rfl, er, r2⟩ := rb.lst
      exact (leq_ok hA hd e el er r1 r2).2 Q E hQ
    | _ => first | exact noneF e | cases e
  | tuple i => cases y with
    | tuple j =>
      obtain ⟨l, us, n, rfl, el, r1⟩ := ra.tup; obtain ⟨r, vs, m, rfl, er, r2⟩ := rb.tup
      exact (teq_ok hA hd e el er r1 r2).2 Q E hQ
    | _ => first | exact noneF e | cases e
  | _ => first | exact noneF e | cases e
theorem map_not {o : Option Bool} {b : Bool} (e : o.map (!·) = some b) : ∃ b', o = some b' ∧ b = !b' := by
  cases o with
  | none => first | exact noneF e | cases e
  | some b' => cases e; exact ⟨b', rfl, rfl⟩
open PySem.SeqAt in
theorem neP_ok {x y : PV} {b : Bool} {u v : Value} {d : Nat} (hA : AOK d A) (hd : d ≤ 100) (e : neP x y = some b) (ra : RpW ok s.heap u x) (rb : RpW ok s.heap v y) :
    ∀ Q E, Q (.bool b) s → wpAny (model prog w) A (compareOp .NotEq u v) Q E s := by
  intro Q E hQ
  cases x with
  | int i => cases y with
    | int j => cases e; obtain ⟨t, rfl⟩ := ra.int'; obtain ⟨t', rfl⟩ := rb.int'; exact ne_int hQ
    | _ => first | exact noneF e | cases e
  | str i => cases y with
    | str j => cases e; obtain ⟨t, rfl⟩ := ra.str'; obtain ⟨t', rfl⟩ := rb.str'; rw [eqS_eq] at hQ; exact PyProof.Rows.ne_str hQ
    | _ => first | exact noneF e | cases e
  | list i => cases y with
    | list j =>
      obtain ⟨b', e', rfl⟩ := map_not e
      obtain ⟨l, us, n, rfl, el, r1⟩ := ra.lst; obtain ⟨r, vs, m, rfl, er, r2⟩ := rb.lst
      exact (leq_ok (prog := prog) (w := w) hA hd e' el er r1 r2).1 prog w E Q hQ
    | _ => first | exact noneF e | cases e
  | tuple i => cases y with
    | tuple j =>
      obtain ⟨b', e', rfl⟩ := map_not e
      obtain ⟨l, us, n, rfl, el, r1⟩ := ra.tup; obtain ⟨r, vs, m, rfl, er, r2⟩ := rb.tup
      exact (teq_ok (prog := prog) (w := w) hA hd e' el er r1 r2).1 prog w E Q hQ
    | _ => first | exact noneF e | cases e
  | _ => first | exact noneF e | cases e
theorem inP_ok {x y : PV} {b : Bool} {u v : Value} (e : inP x y = some b) (ra : RpW ok s.heap u x) (rb : RpW ok s.heap v y) : ∀ Q E, Q (.bool b) s → wpAny (model prog w) A (compareOp .In u v) Q E s := by
  intro Q E hQ
  cases x with
  | int i => cases y with
    | list j =>
      obtain ⟨t, rfl⟩ := ra.int'; obtain ⟨r, vs, m, rfl, er, r2⟩ := rb.lst
      obtain ⟨ns, e', rfl⟩ := Option.map_eq_some_iff.mp e
      exact in_list_ints (isList_of er) (ints_are e' r2) hQ
    | _ => first | exact noneF e | cases e
  | str i => cases y with
    | tuple j =>
      obtain ⟨t, rfl⟩ := ra.str'; obtain ⟨r, vs, m, rfl, er, r2⟩ := rb.tup
      obtain ⟨ns, e', rfl⟩ := Option.map_eq_some_iff.mp e
      rw [show (ns.any fun z => eqS z _) = ns.any (· == _) from congrArg _ (funext fun z => eqS_eq z _)] at hQ
      exact in_tuple_strs (isTup_of er) (by simpa using strs_are e' r2) hQ
    | str j => obtain ⟨t, rfl⟩ := ra.str'; obtain ⟨t', rfl⟩ := rb.str'; exact PyProof.Rows.in_str (by rw [inStr_ok e]; exact hQ)
    | _ => first | exact noneF e | cases e
  | _ => first | exact noneF e | cases e
theorem notinP_ok {x y : PV} {b : Bool} {u v : Value} (e : notinP x y = some b) (ra : RpW ok s.heap u x) (rb : RpW ok s.heap v y) : ∀ Q E, Q (.bool b) s → wpAny (model prog w) A (compareOp .NotIn u v) Q E s := by
  intro Q E hQ
  cases x with
  | int i => cases y with
    | list j =>
      obtain ⟨t, rfl⟩ := ra.int'; obtain ⟨r, vs, m, rfl, er, r2⟩ := rb.lst
      obtain ⟨ns, e', rfl⟩ := Option.map_eq_some_iff.mp e
      exact notin_list_ints (isList_of er) (ints_are e' r2) hQ
    | _ => first | exact noneF e | cases e
  | str i => cases y with
    | str j =>
      obtain ⟨b', e', rfl⟩ := map_not e
      obtain ⟨t, rfl⟩ := ra.str'; obtain ⟨t', rfl⟩ := rb.str'; exact PyProof.Rows.notIn_str (by rw [inStr_ok e']; exact hQ)
    | _ => first | exact noneF e | cases e
  | _ => first | exact noneF e | cases e
theorem cmpop_ok {op : CmpOp} {x y : PV} {b : Bool} {u v : Value} {d : Nat} (hA : AOK d A) (hd : d ≤ 100) (e : cmpop op x y = some b) (ra : RpW ok s.heap u x) (rb : RpW ok s.heap v y) :
    ∀ Q E, Q (.bool b) s → wpAny (model prog w) A (compareOp op u v) Q E s := by
  cases op with
  | Eq => exact eqP_ok hA hd e ra rb
  | NotEq => exact neP_ok hA hd e ra rb
  | In => exact inP_ok e ra rb
  | NotIn => exact notinP_ok e ra rb
  | Is =>
    intro Q E hQ
    cases y with
    | none =>
      cases e
      have hv : v = .none := (rb.flat fun _ e => by cases e).none_inv
      subst hv
      refine is_none ?_
      have : (u == Value.none) = PV.isNone x := by
        rcases ra with ra | ⟨a, vs, xs, n, rfl, rfl, _, _⟩
        · cases ra <;> rfl
        · rfl
      rw [this]; exact hQ
    | _ => first | exact noneF e | cases e
  | _ => first | exact noneF e | cases e

/-- an item by its place -/
noncomputable def getitem : PV → PV → Option PV
  | .list xs, y => (match y with | .int k => if xs.length ≤ lim then (seqIndex? k xs.length).bind (xs[·]?) else none | _ => none)
  | .str x, y => (match y with | .int k => if -1000000 ≤ k ∧ k ≤ 1000000 then ((seqIndex? k x.length).bind (x.cps[·]?)).map fun c => .str ⟨#[c]⟩ else none | _ => none)
  | _, _ => none
theorem seqIndex_lt {k : Int} {n j : Nat} (h : seqIndex? k n = some j) : j < n ∧ (if k < 0 then k + n else k) = (j : Int) := by
  unfold seqIndex? at h
  dsimp only at h
  generalize (if k < 0 then k + (n : Int) else k) = q at h
  by_cases hc : (decide (0 ≤ q) && decide (q < (n : Int))) = true
  · rw [if_pos hc] at h
    have e := Option.some.inj h
    simp only [Bool.and_eq_true, decide_eq_true_eq] at hc
    omega
  · rw [if_neg hc] at h; cases h
theorem getitem_ok {x y z : PV} {a b : Value} (h : getitem x y = some z) (ra : RpW ok s.heap a x) (rb : Rp ok s.heap b y) : EvTo (model prog w) A (getItem a b) ok s z := by
  intro Q E hQ
  cases x with
  | list xs => cases y with
   | int k =>
    unfold getitem at h
    dsimp only at h
    split at h
    · rename_i hlen
      obtain ⟨l, us, n, rfl, el, r1⟩ := ra.lst
      obtain ⟨_, rfl⟩ := rb.int_inv
      rw [Option.bind_eq_some_iff] at h
      obtain ⟨j, hj, hx⟩ := h
      obtain ⟨hjl, hjk⟩ := seqIndex_lt hj
      obtain ⟨v, hv, r⟩ := r1.get hx
      have hus : us.length = xs.length := r1.length
      by_cases hk : k < 0
      · rw [if_pos hk] at hjk
        refine wpAny_getItem_list_neg (isList_of el) hk (by simp [hus]; omega) (by simp only [lim] at hlen; omega) (x := v) ?_ (hQ _ _ (Keeps.rfl' s) r)
        have : (k + (us.toArray.size : Int)).toNat = j := by simp [hus]; omega
        rw [this]; simpa using hv
      · rw [if_neg hk] at hjk
        refine wpAny_getItem_list (isList_of el) (by omega) (by simp only [lim] at hlen; omega) (x := v) ?_ (hQ _ _ (Keeps.rfl' s) r)
        have : k.toNat = j := by omega
        rw [this]; simpa using hv
    · first | exact noneF h | cases h
   | _ => first | exact noneF h | cases h
  | str x => cases y with
   | int k =>
    unfold getitem at h
    dsimp only at h
    split at h
    · rename_i hc
      obtain ⟨t, rfl⟩ := ra.str'
      obtain ⟨_, rfl⟩ := rb.int_inv
      simp only [Option.map_eq_some_iff] at h
      obtain ⟨c, hc', rfl⟩ := h
      exact PyProof.Rows.getItem_str (by simp; omega) hc' (hQ _ _ Keeps.tok (.str _ _))
    · first | exact noneF h | cases h
   | _ => first | exact noneF h | cases h
  | _ => first | exact noneF h | cases h
/-- a part of a list -/
noncomputable def slice (xs : List PV) (lo hi st : Option Int) : List PV :=
  (sliceRange (sliceBounds lo hi st xs.length).1 (sliceBounds lo hi st xs.length).2.1 (sliceBounds lo hi st xs.length).2.2).filterMap (xs[·]?)
theorem RpAll.pick {h : Heap} {vs : List Value} {xs : List PV} (r : RpAll ok h vs xs) : ∀ l : List Nat, RpAll ok h (l.filterMap (vs[·]?)) (l.filterMap (xs[·]?))
  | [] => .nil
  | i :: l => by
    rw [List.filterMap_cons, List.filterMap_cons]
    cases hx : xs[i]? with
    | some x =>
      obtain ⟨v, hv, rv⟩ := r.get hx
      rw [hv]
      exact .cons rv (r.pick l)
    | none =>
      have : vs[i]? = none := by
        rw [List.getElem?_eq_none_iff] at hx ⊢
        rw [r.length]; exact hx
      rw [this]
      exact r.pick l
theorem slice_ok {xs : List PV} {vs : List Value} {a sl : Addr} {n : Nat} {vl vu vk : Value} {lo hi st : Option Int} (el : s.heap.get? a = some (lstO vs n)) (r : RpAll ok s.heap vs xs) (hs : s.heap.IsSliceOf sl vl vu vk)
    (pl : IsPart vl lo) (pu : IsPart vu hi) (pk : IsPart vk st) (h0 : st ≠ some 0) (hz : xs.length ≤ lim) (ho : OkIn ok s.heap) : EvTo (model prog w) A (getItem (.ref a) (.ref sl)) ok s (.list (slice xs lo hi st)) := by
  intro Q E hQ
  refine wpAny_getItem_list_slice (isList_of el) hs pl pu pk h0 (hQ _ _ Keeps.push ?_) (by simp [r.length]; exact hz)
  have e : (slicePick vs.toArray lo hi st) = (((sliceRange (sliceBounds lo hi st xs.length).1 (sliceBounds lo hi st xs.length).2.1 (sliceBounds lo hi st xs.length).2.2).filterMap (vs[·]?))).toArray := by
    unfold slicePick
    simp [r.length]
  rw [e]
  refine .list (ho _ (fresh_none (Nat.le_refl _))) (Heap.get?_push_size _ rfl) ?_
  exact (r.pick _).hk (hk_push _ _)
end
end Mine
end
section
open PySem PySem.W PyProof.Rows
set_option maxRecDepth 100000
namespace Mine

/-- what the callees and the names of the top are taken to do -/
structure Tab where
  glob : Str → Option PV
  fn : Str → List PV → Option PV
  mth : Str → PV → List PV → Option PV
  sub : Str → PV → Option PV

noncomputable def forceN {α : Type} (n : Nat) (k : Nat → α) : α := match n with
  | 0 => k 0
  | m + 1 => k (m + 1)
noncomputable def forceI {α : Type} (i : Int) (k : Int → α) : α := match i with
  | .ofNat n => forceN n fun n => k (.ofNat n)
  | .negSucc n => forceN n fun n => k (.negSucc n)
noncomputable def forceL {α : Type} : List Nat → (List Nat → α) → α
  | [], k => k []
  | c :: r, k => forceN c fun c => forceL r fun r => k (c :: r)
noncomputable def force0 {α : Type} (u : PV) (k : PV → α) : α := match u with
  | .int i => forceI i fun i => k (.int i)
  | .str x => forceL x.cps.toList fun l => k (.str ⟨l.toArray⟩)
  | .bool true => k (.bool true)
  | .bool false => k (.bool false)
  | p => k p
noncomputable def forceVs {α : Type} : List PV → (List PV → α) → α
  | [], k => k []
  | x :: r, k => force0 x fun x => forceVs r fun r => k (x :: r)
/-- the same value, worked out -/
noncomputable def forceV {α : Type} (u : PV) (k : PV → α) : α := match u with
  | .list xs => forceVs xs fun xs => k (.list xs)
  | .tuple xs => forceVs xs fun xs => k (.tuple xs)
  | p => force0 p k
theorem forceN_eq {α : Type} (n : Nat) (k : Nat → α) : forceN n k = k n := by cases n <;> rfl
theorem forceI_eq {α : Type} (i : Int) (k : Int → α) : forceI i k = k i := by
  cases i with
  | ofNat n => exact forceN_eq n fun n => k (.ofNat n)
  | negSucc n => exact forceN_eq n fun n => k (.negSucc n)
theorem forceL_eq {α : Type} : ∀ (l : List Nat) (k : List Nat → α), forceL l k = k l
  | [], _ => rfl
  | c :: r, k => by
    unfold forceL
    rw [forceN_eq, forceL_eq r]
theorem force0_eq {α : Type} (u : PV) (k : PV → α) : force0 u k = k u := by
  unfold force0
  split
  · rw [forceI_eq]
  · rw [forceL_eq]
  · rfl
  · rfl
  · rfl
theorem forceVs_eq {α : Type} : ∀ (l : List PV) (k : List PV → α), forceVs l k = k l
  | [], _ => rfl
  | c :: r, k => by
    unfold forceVs
    rw [force0_eq, forceVs_eq r]
theorem forceV_eq {α : Type} (u : PV) (k : PV → α) : forceV u k = k u := by
  unfold forceV
  split
  · rw [forceVs_eq]
  · rw [forceVs_eq]
  · rw [force0_eq]
noncomputable def constPV : Const → Option PV
  | .none => some .none
  | .bool b => some (.bool b)
  | .int i => some (.int i)
  | .str x => some (.str x)
  | .bytes b => some (.bytes b.toArray)
  | _ => none

noncomputable def evs (f : Expr → Option PV) : List Expr → Option (List PV)
  | [] => some []
  | e :: r => match f e, evs f r with
    | some x, some xs => some (x :: xs)
    | _, _ => none
noncomputable def items : PV → Option (List PV)
  | .list xs => some xs
  | .tuple xs => some xs
  | .range n => if n ≤ 1000000 then some ((List.range n).map fun (i : Nat) => PV.int (i : Int)) else none
  | _ => none
noncomputable def allT (f : Expr → Option Bool) : List Expr → Option Bool
  | [] => some true
  | e :: r => match f e with
    | some true => allT f r
    | some false => some false
    | none => none
noncomputable def anyT (f : Expr → Option Bool) : List Expr → Option Bool
  | [] => some false
  | e :: r => match f e with
    | some true => some true
    | some false => anyT f r
    | none => none
/-- a comprehension's turns -/
noncomputable def compL (f : PV → Option (Option PV)) : List PV → Option (List PV)
  | [] => some []
  | x :: r => match f x, compL f r with
    | some (some y), some ys => some (y :: ys)
    | some none, some ys => some ys
    | _, _ => none
noncomputable def relab (sc' sc : Scope) : Scope := { sc' with names := sc'.names.map fun (n, k) => if (k == .free && sc.names.lookup n == some .cell) then (n, .cell) else (n, k) }
/-- the names that a comprehension takes from its frame stand there as cells -/
noncomputable def freeOk (sc' sc : Scope) (x : Str) : Bool := sc'.kind == .function && (sc'.names.lookup x == some .local || sc'.names.lookup x == some .cell) &&
  sc'.names.all fun p => (p.2 != .free || sc.names.lookup p.1 == some .cell) && (p.2 != .local || sc'.names.lookup p.1 == some .local) && (p.2 != .cell || p.1 == x)
noncomputable def rhoC (sc' : Scope) (ρ : Rho) (x : Str) (v : PV) : Rho := (x, .val v) :: ρ.filter fun p => p.1 != x && sc'.names.lookup p.1 == some .free
noncomputable def part (f : Expr → Option PV) : Option Expr → Option (Option Int)
  | none => some none
  | some e => (match f e with
    | some v => (match v with | .int i => some (some i) | _ => none)
    | none => none)
noncomputable def isStar : Expr → Bool
  | .Starred .. => true
  | _ => false
noncomputable def plainBase : Expr → Bool
  | .Call (.Name ..) [] [] _ => false
  | _ => true

/-- a name that may hold a list that is still written to -/
noncomputable def ownOf (sc : Scope) (ρ : Rho) : Expr → Option (List PV)
  | .Name x _ => if x == ("__debug__" : Str) then none else match sc.names.lookup x, ρ.lookup x with
    | some .local, some (.own xs) => some xs
    | _, _ => none
  | _ => none

/-- the same, faster to work out -/
noncomputable def lkS {β : Type} : List (Str × β) → Str → Option β
  | [], _ => none
  | (y, b) :: r, x => match eqS x y with
    | true => some b
    | false => lkS r x
theorem lkS_eq {β : Type} : ∀ (l : List (Str × β)) (x : Str), lkS l x = l.lookup x
  | [], _ => rfl
  | (y, b) :: r, x => by
    unfold lkS
    rw [List.lookup_cons, eqS_eq, lkS_eq r x]
    cases x == y <;> rfl
noncomputable def relabF (sc' sc : Scope) : Scope := { sc' with names := sc'.names.map fun (n, k) => if (k == .free && lkS sc.names n == some .cell) then (n, .cell) else (n, k) }
theorem relabF_eq (sc' sc : Scope) : relabF sc' sc = relab sc' sc := by
  unfold relabF relab
  simp only [lkS_eq]
noncomputable def freeOkF (sc' sc : Scope) (x : Str) : Bool := sc'.kind == .function && (lkS sc'.names x == some .local || lkS sc'.names x == some .cell) &&
  sc'.names.all fun p => (p.2 != .free || lkS sc.names p.1 == some .cell) && (p.2 != .local || lkS sc'.names p.1 == some .local) && (p.2 != .cell || eqS p.1 x)
theorem freeOkF_eq (sc' sc : Scope) (x : Str) : freeOkF sc' sc x = freeOk sc' sc x := by
  unfold freeOkF freeOk
  simp only [lkS_eq, eqS_eq]
noncomputable def rhoCF (sc' : Scope) (ρ : Rho) (x : Str) (v : PV) : Rho := (x, .val v) :: ρ.filter fun p => !(eqS p.1 x) && lkS sc'.names p.1 == some .free
theorem rhoCF_eq (sc' : Scope) (ρ : Rho) (x : Str) (v : PV) : rhoCF sc' ρ x v = rhoC sc' ρ x v := by
  unfold rhoCF rhoC
  simp only [lkS_eq, eqS_eq]
  rfl
noncomputable def ownOfF (sc : Scope) (ρ : Rho) : Expr → Option (List PV)
  | .Name x _ => if eqS x "__debug__" then none else match lkS sc.names x, lkS ρ x with
    | some .local, some (.own xs) => some xs
    | _, _ => none
  | _ => none
theorem ownOfF_eq (sc : Scope) (ρ : Rho) (e : Expr) : ownOfF sc ρ e = ownOf sc ρ e := by
  cases e <;> unfold ownOfF ownOf <;> simp only [lkS_eq, eqS_eq]

noncomputable def sliceOf : Expr → Option (Option Expr × Option Expr × Option Expr)
  | .Slice lo hi st _ => some (lo, hi, st)
  | _ => none
noncomputable def globOf (sc : Scope) : Expr → Option Str
  | .Name g _ => if eqS g "__debug__" then none else if lkS sc.names g == some .globalImplicit then some g else none
  | _ => none
noncomputable def strArg : Expr → Option Str
  | .Constant c _ _ => (match c with | .str a => some a | _ => none)
  | _ => none
noncomputable def replOf (m : Str) : List Expr → Option (Str × Str)
  | [a, b] => if eqS m "replace" then (strArg a).bind fun x => (strArg b).bind fun y => some (x, y) else none
  | _ => none
noncomputable def isSetE : Expr → Bool
  | .Set .. => true
  | _ => false
noncomputable def valOf : Option Bd → Option PV
  | some b => (match b with | .val v => some v | _ => none)
  | none => none
noncomputable def evName (T : Tab) (sc : Scope) (ρ : Rho) (x : Str) : Option PV := if eqS x "__debug__" then none else match lkS sc.names x with
  | some k => (match k with
    | .local => valOf (lkS ρ x)
    | .cell => valOf (lkS ρ x)
    | .globalImplicit => T.glob x
    | _ => none)
  | none => none
noncomputable def negP : Option PV → Option PV
  | some v => (match v with | .int i => some (.int (-i)) | _ => none)
  | none => none
noncomputable def cmpE (f : Expr → Option PV) (l : Expr) : List CmpOp → List Expr → Option Bool
  | [op], [r] => if behindInMarks op r then none else (match f l with | some a => (match f r with | some b => cmpop op a b | none => none) | none => none)
  | _, _ => none
noncomputable def boolOf : Option PV → Option Bool
  | some v => (match v with | .bool b => some b | _ => none)
  | none => none
noncomputable def sliceP (xs : List PV) (a b c : Option Int) : Option PV := if c = some 0 ∨ ¬ xs.length ≤ lim then none else some (.list (slice xs a b c))
noncomputable def listOf : Option PV → Option (List PV)
  | some v => (match v with | .list xs => some xs | _ => none)
  | none => none
noncomputable def replP (a b : Str) : Option PV → Option PV
  | some v => (match v with | .str x => if (a == b) = false ∧ x.length + (x.length + 1) * b.length ≤ lim ∧ 1 ≤ a.length then some (.str (strOfL (repl a.cps.toList b.cps.toList 0 x.cps.toList))) else none | _ => none)
  | none => none
noncomputable def genOf : List Comprehension → Option (Str × Expr × List Expr)
  | [] => none
  | g :: r => (match r with
    | [] => (match g.target with
      | .Name x _ => if g.is_async == 0 then some (x, g.iter, g.ifs) else none
      | _ => none)
    | _ => none)
mutual
noncomputable def evE (T : Tab) : Nat → Scope → Rho → Expr → Option PV
  | 0, _, _, _ => none
  | n + 1, sc, ρ, e => match e with
    | .Constant c _ _ => constPV c
    | .Name x _ => evName T sc ρ x
    | .BinOp l op r _ => (match evE T n sc ρ l with | some a => (match evE T n sc ρ r with | some b => binop op a b | none => none) | none => none)
    | .UnaryOp op x _ => (match op with | .USub => negP (evE T n sc ρ x) | _ => none)
    | .Compare l ops rs _ => (cmpE (evW T n sc ρ) l ops rs).map .bool
    | .IfExp t b o _ => (match evT T n sc ρ t with
      | some c => (match c with | true => evE T n sc ρ b | false => evE T n sc ρ o)
      | none => none)
    | .List es _ => if es.any isStar then none else (match evs (evE T n sc ρ) es with | some xs => if xs.length ≤ lim then some (.list xs) else none | none => none)
    | .Tuple es _ _ => if es.any isStar then none else (match evs (evE T n sc ρ) es with | some xs => if xs.length ≤ lim then some (.tuple xs) else none | none => none)
    | .Subscript v i _ => (match sliceOf i with
      | some (lo, hi, st) => (match listOf (evW T n sc ρ v) with
        | some xs => (match part (evE T n sc ρ) lo with
          | some a => (match part (evE T n sc ρ) hi with
            | some b => (match part (evE T n sc ρ) st with
              | some c => sliceP xs a b c
              | none => none)
            | none => none)
          | none => none)
        | none => none)
      | none => (match evE T n sc ρ i with
        | some y => (match globOf sc v with
          | some g => T.sub g y
          | none => (match evW T n sc ρ v with
            | some x => getitem x y
            | none => none))
        | none => none))
    | .Call f args ks pos => (match ks with
      | [] => (match f with
        | .Name f _ => if eqS f "__debug__" || args.any isStar || lkS sc.names f != some .globalImplicit then none else (match evs (evE T n sc ρ) args with
          | some xs => forceVs xs fun xs => T.fn f xs
          | none => none)
        | .Attribute o m apos => if args.any isStar || !plainBase o || decide (args.length > 8) || apos.endLine != pos.line then none else
          (match replOf m args with
          | some (a, b) => replP a b (evE T n sc ρ o)
          | none => (match evE T n sc ρ o with
            | some x => (match evs (evE T n sc ρ) args with
              | some xs => T.mth m x xs
              | none => none)
            | none => none))
        | _ => none)
      | _ => none)
    | .ListComp elt gens sc' _ => (match genOf gens with
      | some (x, iter, ifs) => (match (if isSetE iter then none else evE T n sc ρ iter) with
        | some it => (match items it with
          | some xs => if freeOkF sc' sc x && decide (xs.length ≤ lim) then
              (compL (fun v => (match allT (evT T n (relabF sc' sc) (rhoCF sc' ρ x v)) ifs with
                | some c => (match c with | true => (evE T n (relabF sc' sc) (rhoCF sc' ρ x v) elt).map some | false => some none)
                | none => none)) xs).map .list
            else none
          | none => none)
        | none => none)
      | none => none)
    | _ => none
termination_by structural n => n
noncomputable def evW (T : Tab) : Nat → Scope → Rho → Expr → Option PV
  | 0, _, _, _ => none
  | n + 1, sc, ρ, e => match ownOfF sc ρ e with
    | some xs => some (.list xs)
    | none => evE T n sc ρ e
termination_by structural n => n
noncomputable def evT (T : Tab) : Nat → Scope → Rho → Expr → Option Bool
  | 0, _, _, _ => none
  | n + 1, sc, ρ, e => match e with
    | .BoolOp op vs _ => (match op with | .And => allT (evT T n sc ρ) vs | .Or => anyT (evT T n sc ρ) vs)
    | .UnaryOp op x _ => (match op with | .Not => (evT T n sc ρ x).map (!·) | _ => none)
    | .Compare l ops rs _ => cmpE (evW T n sc ρ) l ops rs
    | .Call f as ks p => boolOf (evE T n sc ρ (.Call f as ks p))
    | .Subscript v i p => boolOf (evE T n sc ρ (.Subscript v i p))
    | _ => none
termination_by structural n => n
end
section
variable {T : Tab} {n : Nat} {sc : Scope} {ρ : Rho}
theorem cmpE_bd (f : Expr → Option PV) (l r : Expr) (op : CmpOp) : cmpE f l [op] [r] = if behindInMarks op r then none else (f l).bind fun a => (f r).bind fun b => cmpop op a b := by
  show (if behindInMarks op r then none else (match f l with | some a => (match f r with | some b => cmpop op a b | none => none) | none => none)) = _
  cases f l with
  | none => rfl
  | some a => cases f r <;> rfl
theorem evE_BinOp (l r : Expr) (op : Operator) (p : Pos) : evE T (n + 1) sc ρ (.BinOp l op r p) = (evE T n sc ρ l).bind fun a => (evE T n sc ρ r).bind fun b => binop op a b := by
  show (match evE T n sc ρ l with | some a => (match evE T n sc ρ r with | some b => binop op a b | none => none) | none => none) = _
  cases evE T n sc ρ l with
  | none => rfl
  | some a => cases evE T n sc ρ r <;> rfl
theorem evE_IfExp (t b o : Expr) (p : Pos) : evE T (n + 1) sc ρ (.IfExp t b o p) = (evT T n sc ρ t).bind fun c => (match c with | true => evE T n sc ρ b | false => evE T n sc ρ o) := by
  show (match evT T n sc ρ t with
      | some c => (match c with | true => evE T n sc ρ b | false => evE T n sc ρ o)
      | none => none) = _
  cases evT T n sc ρ t <;> rfl
theorem evE_List (es : List Expr) (p : Pos) : evE T (n + 1) sc ρ (.List es p) = if es.any isStar then none else (evs (evE T n sc ρ) es).bind fun xs => if xs.length ≤ lim then some (PV.list xs) else none := by
  show (if es.any isStar then none else (match evs (evE T n sc ρ) es with | some xs => if xs.length ≤ lim then some (PV.list xs) else none | none => none)) = _
  cases evs (evE T n sc ρ) es <;> rfl
theorem evE_Tuple (es : List Expr) (k : Nat) (p : Pos) : evE T (n + 1) sc ρ (.Tuple es k p) = if es.any isStar then none else (evs (evE T n sc ρ) es).bind fun xs => if xs.length ≤ lim then some (PV.tuple xs) else none := by
  show (if es.any isStar then none else (match evs (evE T n sc ρ) es with | some xs => if xs.length ≤ lim then some (PV.tuple xs) else none | none => none)) = _
  cases evs (evE T n sc ρ) es <;> rfl
theorem evE_part (v : Expr) (lo hi st : Option Expr) (p q : Pos) : evE T (n + 1) sc ρ (.Subscript v (.Slice lo hi st p) q) = (listOf (evW T n sc ρ v)).bind fun xs => (part (evE T n sc ρ) lo).bind fun a => (part (evE T n sc ρ) hi).bind fun b => (part (evE T n sc ρ) st).bind fun c => sliceP xs a b c := by
  show (match listOf (evW T n sc ρ v) with
        | some xs => (match part (evE T n sc ρ) lo with
          | some a => (match part (evE T n sc ρ) hi with
            | some b => (match part (evE T n sc ρ) st with
              | some c => sliceP xs a b c
              | none => none)
            | none => none)
          | none => none)
        | none => none) = _
  cases listOf (evW T n sc ρ v) with
  | none => rfl
  | some xs => cases part (evE T n sc ρ) lo with
    | none => rfl
    | some a => cases part (evE T n sc ρ) hi with
      | none => rfl
      | some b => cases part (evE T n sc ρ) st <;> rfl
theorem evE_item {v i : Expr} {q : Pos} (h : sliceOf i = none) : evE T (n + 1) sc ρ (.Subscript v i q) = (evE T n sc ρ i).bind fun y => (match globOf sc v with
          | some g => T.sub g y
          | none => (evW T n sc ρ v).bind fun x => getitem x y) := by
  have e : evE T (n + 1) sc ρ (.Subscript v i q) = (match sliceOf i with
      | some (lo, hi, st) => (match listOf (evW T n sc ρ v) with
        | some xs => (match part (evE T n sc ρ) lo with
          | some a => (match part (evE T n sc ρ) hi with
            | some b => (match part (evE T n sc ρ) st with
              | some c => sliceP xs a b c
              | none => none)
            | none => none)
          | none => none)
        | none => none)
      | none => (match evE T n sc ρ i with
        | some y => (match globOf sc v with
          | some g => T.sub g y
          | none => (match evW T n sc ρ v with
            | some x => getitem x y
            | none => none))
        | none => none)) := rfl
  rw [e, h]
  cases evE T n sc ρ i with
  | none => rfl
  | some y => cases globOf sc v with
    | some g => rfl
    | none => cases evW T n sc ρ v <;> rfl
theorem evE_fn (f : Str) (fp pos : Pos) (args : List Expr) : evE T (n + 1) sc ρ (.Call (.Name f fp) args [] pos) = if eqS f "__debug__" || args.any isStar || lkS sc.names f != some .globalImplicit then none else (evs (evE T n sc ρ) args).bind fun xs => forceVs xs fun xs => T.fn f xs := by
  show (if eqS f "__debug__" || args.any isStar || lkS sc.names f != some .globalImplicit then none else (match evs (evE T n sc ρ) args with
          | some xs => forceVs xs fun xs => T.fn f xs
          | none => none)) = _
  cases evs (evE T n sc ρ) args <;> rfl
theorem evE_mth (o : Expr) (m : Str) (apos pos : Pos) (args : List Expr) : evE T (n + 1) sc ρ (.Call (.Attribute o m apos) args [] pos) = if args.any isStar || !plainBase o || decide (args.length > 8) || apos.endLine != pos.line then none else
          (match replOf m args with
          | some (a, b) => replP a b (evE T n sc ρ o)
          | none => (evE T n sc ρ o).bind fun x => (evs (evE T n sc ρ) args).bind fun xs => T.mth m x xs) := by
  show (if args.any isStar || !plainBase o || decide (args.length > 8) || apos.endLine != pos.line then none else
          (match replOf m args with
          | some (a, b) => replP a b (evE T n sc ρ o)
          | none => (match evE T n sc ρ o with
            | some x => (match evs (evE T n sc ρ) args with
              | some xs => T.mth m x xs
              | none => none)
            | none => none))) = _
  cases replOf m args with
  | some ab => rfl
  | none => cases evE T n sc ρ o with
    | none => rfl
    | some x => cases evs (evE T n sc ρ) args <;> rfl
noncomputable def turnE (T : Tab) (n : Nat) (sc : Scope) (ρ : Rho) (ifs : List Expr) (elt : Expr) : Option (Option PV) := match allT (evT T n sc ρ) ifs with
  | some c => (match c with | true => (evE T n sc ρ elt).map some | false => some none)
  | none => none
theorem evE_lc {elt iter : Expr} {gens : List Comprehension} {sc' : Scope} {p : Pos} {x : Str} {ifs : List Expr} (h : genOf gens = some (x, iter, ifs)) : evE T (n + 1) sc ρ (.ListComp elt gens sc' p) =
    (if isSetE iter then none else evE T n sc ρ iter).bind fun it => (items it).bind fun xs => if freeOkF sc' sc x && decide (xs.length ≤ lim) then (compL (fun v => turnE T n (relabF sc' sc) (rhoCF sc' ρ x v) ifs elt) xs).map PV.list else none := by
  have e : evE T (n + 1) sc ρ (.ListComp elt gens sc' p) = (match genOf gens with
      | some (x, iter, ifs) => (match (if isSetE iter then none else evE T n sc ρ iter) with
        | some it => (match items it with
          | some xs => if freeOkF sc' sc x && decide (xs.length ≤ lim) then
              (compL (fun v => turnE T n (relabF sc' sc) (rhoCF sc' ρ x v) ifs elt) xs).map PV.list
            else none
          | none => none)
        | none => none)
      | none => none) := rfl
  rw [e, h]
  show (match (if isSetE iter then none else evE T n sc ρ iter) with
        | some it => (match items it with
          | some xs => if freeOkF sc' sc x && decide (xs.length ≤ lim) then
              (compL (fun v => turnE T n (relabF sc' sc) (rhoCF sc' ρ x v) ifs elt) xs).map PV.list
            else none
          | none => none)
        | none => none) = _
  cases (if isSetE iter then none else evE T n sc ρ iter) with
  | none => rfl
  | some it =>
    simp only [Option.bind_some]
    cases items it <;> rfl
theorem evE_lc0 {elt : Expr} {gens : List Comprehension} {sc' : Scope} {p : Pos} (h : genOf gens = none) : evE T (n + 1) sc ρ (.ListComp elt gens sc' p) = none := by
  have e : evE T (n + 1) sc ρ (.ListComp elt gens sc' p) = (match genOf gens with
      | some (x, iter, ifs) => (match (if isSetE iter then none else evE T n sc ρ iter) with
        | some it => (match items it with
          | some xs => if freeOkF sc' sc x && decide (xs.length ≤ lim) then
              (compL (fun v => turnE T n (relabF sc' sc) (rhoCF sc' ρ x v) ifs elt) xs).map PV.list
            else none
          | none => none)
        | none => none)
      | none => none) := rfl
  rw [e, h]
end
end Mine
end
section
open PySem PySem.W PyProof.Rows PySem.Calls
set_option maxRecDepth 100000
namespace Mine

inductive Callee (mg mb : Str → Option Value) (K : Frag) : Value → Prop
  | builtin (id : String) : Callee mg mb K (.builtin id)
  | type (n : String) : Callee mg mb K (.type n)
  | ref (a : Addr) : (∀ h, Base mg mb K h → ∃ o fd, h.get? a = some o ∧ o.data = .func fd) → Callee mg mb K (.ref a)
noncomputable def Glb (mg mb : Str → Option Value) (x : Str) (v : Value) : Prop := mg x = some v ∨ (mg x = none ∧ mb x = some v)

section
variable (prog : Program) (w : World) (mg mb : Str → Option Value) (K : Frag) (d : Nat)
structure TabOk (T : Tab) : Prop where
  glob : ∀ x v, T.glob x = some v → ∃ val, Glb mg mb x val ∧ ∀ ok h, Rp ok h val v
  fn : ∀ f xs r, T.fn f xs = some r → ∃ fv, Glb mg mb f fv ∧ Callee mg mb K fv ∧ ∀ A ok s vs, AOK d A → Base mg mb K s.heap → OkIn ok s.heap → 0 < s.toks → RpAll ok s.heap vs xs → EvTo (model prog w) A (call fv vs) ok s r
  mth : ∀ m x xs r, T.mth m x xs = some r → ∃ Ty id, PlainAttrs Ty ∧ Slot Ty m id ∧ typeOf (.builtin id) = pure (.type "method_descriptor") ∧
    (∀ (s : Shared) ok v, Rp ok s.heap v x → s.TypeIs v Ty ∧ ∀ a, v = .ref a → ∃ ob, s.heap.get? a = some ob ∧ ob.dict = none) ∧
    ∀ A ok s v vs, AOK d A → Base mg mb K s.heap → OkIn ok s.heap → Rp ok s.heap v x → RpAll ok s.heap vs xs → EvTo (model prog w) A (call (.builtin id) (v :: vs)) ok s r
  sub : ∀ g y r, T.sub g y = some r → ∃ gv, Glb mg mb g gv ∧ ∀ A ok s v value slice, AOK d A → Base mg mb K s.heap → OkIn ok s.heap → Rp ok s.heap v y → EvTo (model prog w) A (subscriptTail value slice gv v) ok s r
noncomputable def Snd (e : Expr) (env : Env) (ρ : Rho) (x : PV) : Prop := ∀ A ok s, Inv mg mb K d A ok s env ρ → EvTo (model prog w) A (eval e env) ok s x
noncomputable def SndW (e : Expr) (env : Env) (ρ : Rho) (x : PV) : Prop := ∀ A ok s, Inv mg mb K d A ok s env ρ → ∀ (Q : Value → Shared → Prop) (E : Value → Shared → Prop), (∀ v s', Keeps s s' → s.toks ≤ s'.toks → RpW ok s'.heap v x → Q v s') → wpAny (model prog w) A (eval e env) Q E s
noncomputable def SndT (e : Expr) (env : Env) (ρ : Rho) (b : Bool) : Prop := ∀ A ok s, Inv mg mb K d A ok s env ρ → ∀ (Q : Bool → Shared → Prop) (E : Value → Shared → Prop), (∀ s', Keeps s s' → s.toks ≤ s'.toks → Q b s') → wpAny (model prog w) A (isTrue e env (eval e env)) Q E s
end

section
variable {prog : Program} {w : World} {mg mb : Str → Option Value} {K : Frag} {d : Nat} {env : Env} {ρ : Rho}

theorem Snd.toW {e : Expr} {x : PV} (h : Snd prog w mg mb K d e env ρ x) : SndW prog w mg mb K d e env ρ x := fun A ok s I Q E hQ => (h A ok s I).use fun v s' k t r => hQ v s' k t (.inl r)

theorem loadGlb {A : Around} {s : Shared} {x : Str} {v : Value} {Q : Value → Shared → Prop} {E : Value → Shared → Prop} (hx : Glb mg mb x v) (B : Base mg mb K s.heap) (gl : env.globals = mainGlobals) (bl : env.builtins = builtinsNs) (h : Q v s) :
    wpAny (model prog w) A (loadGlobal env x) Q E s := by
  rcases hx with hx | ⟨h0, hx⟩
  · exact loadGlobal_global (gl ▸ B.g) hx h
  · exact loadGlobal_builtin (gl ▸ B.g) h0 (bl ▸ B.b) hx h
theorem name_glb {A : Around} {ok : Addr → Prop} {s : Shared} {x : Str} {p : Pos} {v : Value} {Q : Value → Shared → Prop} {E : Value → Shared → Prop} (I : Inv mg mb K d A ok s env ρ) (hk : env.kindOf x = some .globalImplicit) (hd : (x == ("__debug__" : Str)) = false) (hx : Glb mg mb x v) (h : Q v s) :
    wpAny (model prog w) A (eval (.Name x p) env) Q E s :=
  Name_function_global I.fm.kind hk (loadGlb hx I.base I.fm.gl I.fm.bl h) hd
theorem name_bd {A : Around} {ok : Addr → Prop} {s : Shared} {x : Str} {p : Pos} {bd : Bd} {Q : Value → Shared → Prop} {E : Value → Shared → Prop} (I : Inv mg mb K d A ok s env ρ) (hk : env.kindOf x = some .local ∨ env.kindOf x = some .cell) (hd : (x == ("__debug__" : Str)) = false)
    (hx : ρ.lookup x = some bd) (h : ∀ v, RpB ok s.heap v bd → Q v s) : wpAny (model prog w) A (eval (.Name x p) env) Q E s := by
  rcases hk with hk | hk
  · obtain ⟨m, hn, hm⟩ := I.fm.loc
    obtain ⟨v, hv, r⟩ := hm x bd hx hk
    exact wpAny_Name (wpAny_loadName_local I.fm.kind hk hn hv (h v r)) hd
  · obtain ⟨c, hc⟩ := I.fm.cells x hk
    obtain ⟨v, hv, r⟩ := I.fm.cel x bd c hx hk hc
    exact wpAny_Name (wpAny_loadName_cell I.fm.kind hk hc hv (h v r)) hd

theorem snd_const {c : Const} {k : Nat} {p : Pos} {x : PV} (h : constPV c = some x) : Snd prog w mg mb K d (.Constant c k p) env ρ x := by
  intro A ok s I Q E hQ
  cases c with
  | none => cases h; exact wpAny_Constant_none (hQ _ _ (Keeps.rfl' s) .none)
  | bool b => cases h; exact wpAny_Constant_bool (hQ _ _ (Keeps.rfl' s) (.bool _))
  | int b => cases h; exact wpAny_Constant_int (hQ _ _ Keeps.tok (.int _ _))
  | str b => cases h; exact wpAny_Constant_str (hQ _ _ Keeps.tok (.str _ _))
  | bytes b =>
    cases h
    show wpAny (model prog w) A (mkTextBytes _) Q E s
    exact wpAny_mkTextBytes (hQ _ _ Keeps.tok (.bytes _ _))
  | _ => exact noneF h

theorem snd_BinOp {l r : Expr} {op : Operator} {p : Pos} {x y z : PV} (hl : Snd prog w mg mb K d l env ρ x) (hr : Snd prog w mg mb K d r env ρ y) (h : binop op x y = some z) : Snd prog w mg mb K d (.BinOp l op r p) env ρ z := by
  intro A ok s I Q E hQ
  refine wpAny_BinOp ((hl A ok s I).use fun a s₁ k₁ t₁ r₁ => ?_)
  refine (hr A ok s₁ (I.kp k₁ t₁)).use fun b s₂ k₂ t₂ r₂ => ?_
  exact binop_ok h (r₁.hk (Keeps.hk k₂)) r₂ Q E fun v s' k r => hQ v s' (Keeps.tr (Keeps.tr k₁ k₂) k) r

theorem snd_neg {e : Expr} {p : Pos} {i : Int} (h : Snd prog w mg mb K d e env ρ (.int i)) : Snd prog w mg mb K d (.UnaryOp .USub e p) env ρ (.int (-i)) := by
  intro A ok s I Q E hQ
  refine wpAny_UnaryOp ((h A ok s I).use fun a s₁ k₁ t₁ r₁ => ?_)
  obtain ⟨_, rfl⟩ := r₁.int_inv
  exact neg_int (hQ _ _ (Keeps.tr k₁ Keeps.tok) (.int _ _))

theorem snd_Compare {l r : Expr} {op : CmpOp} {p : Pos} {x y : PV} {b : Bool} (hl : SndW prog w mg mb K d l env ρ x) (hr : SndW prog w mg mb K d r env ρ y) (h : cmpop op x y = some b) (hm : behindInMarks op r = false) : Snd prog w mg mb K d (.Compare l [op] [r] p) env ρ (.bool b) := by
  intro A ok s I Q E hQ
  refine wpAny_Compare1 (hl A ok s I _ _ fun a s₁ k₁ t₁ r₁ => ?_) hm
  refine hr A ok s₁ (I.kp k₁ t₁) _ _ fun c s₂ k₂ t₂ r₂ => ?_
  exact cmpop_ok I.aok (by have := I.dd; omega) h (r₁.hk (Keeps.hk k₂)) r₂ Q E (hQ _ _ (Keeps.tr k₁ k₂) (.bool _))
theorem sndT_Compare {l r : Expr} {op : CmpOp} {p : Pos} {x y : PV} {b : Bool} (hl : SndW prog w mg mb K d l env ρ x) (hr : SndW prog w mg mb K d r env ρ y) (h : cmpop op x y = some b) (hm : behindInMarks op r = false) : SndT prog w mg mb K d (.Compare l [op] [r] p) env ρ b := by
  intro A ok s I Q E hQ
  refine wpAny_isTrue_Compare1 (hl A ok s I _ _ fun a s₁ k₁ t₁ r₁ => ?_) hm
  refine hr A ok s₁ (I.kp k₁ t₁) _ _ fun c s₂ k₂ t₂ r₂ => ?_
  exact cmpop_ok I.aok (by have := I.dd; omega) h (r₁.hk (Keeps.hk k₂)) r₂ _ E (wpAny_truthy_bool (hQ _ (Keeps.tr k₁ k₂) (Nat.le_trans t₁ t₂)))

theorem snd_IfExp {t b o : Expr} {p : Pos} {c : Bool} {x : PV} (ht : SndT prog w mg mb K d t env ρ c) (h : if c then Snd prog w mg mb K d b env ρ x else Snd prog w mg mb K d o env ρ x) : Snd prog w mg mb K d (.IfExp t b o p) env ρ x := by
  intro A ok s I Q E hQ
  refine wpAny_IfExp (ht A ok s I _ _ fun s₁ k₁ t₁ => ?_)
  cases c
  · exact h A ok s₁ (I.kp k₁ t₁) Q E fun v s' k r => hQ v s' (Keeps.tr k₁ k) r
  · exact h A ok s₁ (I.kp k₁ t₁) Q E fun v s' k r => hQ v s' (Keeps.tr k₁ k) r

theorem star_cons {e : Expr} {rest : List Expr} (h : isStar e = false) : starEach (e :: rest) env = (false, eval e env) :: starEach rest env := by
  cases e <;> first | rfl | cases h
theorem star_plain {pos : Pos} : ∀ {es : List Expr}, es.any isStar = false → (backTo pos (starEach es env)).any (·.1) = false
  | [], _ => rfl
  | e :: r, h => by
    simp only [List.any_cons, Bool.or_eq_false_iff] at h
    rw [star_cons h.1]
    show (false || (backTo pos (starEach r env)).any (·.1)) = false
    rw [star_plain h.2]; rfl
theorem evs_snd {f : Expr → Option PV} (hf : ∀ e x, f e = some x → Snd prog w mg mb K d e env ρ x) {pos : Pos} : ∀ {es : List Expr} {xs : List PV}, evs f es = some xs → es.any isStar = false →
    ∀ A ok s, Inv mg mb K d A ok s env ρ → ∀ (Q : List Value → Shared → Prop) (E : Value → Shared → Prop), (∀ vs s', Keeps s s' → s.toks ≤ s'.toks → RpAll ok s'.heap vs xs → Q vs s') → wpAny (model prog w) A (spliced (backTo pos (starEach es env))) Q E s
  | [], xs, h, _, A, ok, s, I, Q, E, hQ => by
    cases h
    exact wpAny_items_nil (hQ _ _ (Keeps.rfl' s) (Nat.le_refl _) .nil)
  | e :: r, xs, h, hs, A, ok, s, I, Q, E, hQ => by
    unfold evs at h
    split at h
    · rename_i x xs' h1 h2
      cases h
      simp only [List.any_cons, Bool.or_eq_false_iff] at hs
      refine wpAny_items_cons ((hf e x h1 A ok s I).use fun v s₁ k₁ t₁ r₁ => ?_) (star_cons hs.1)
      refine evs_snd hf h2 hs.2 A ok s₁ (I.kp k₁ t₁) _ E fun vs s₂ k₂ t₂ r₂ => ?_
      exact hQ _ _ (Keeps.tr k₁ k₂) (Nat.le_trans t₁ t₂) (.cons (r₁.hk (Keeps.hk k₂)) r₂)
    · first | exact noneF h | cases h

theorem snd_List {f : Expr → Option PV} (hf : ∀ e x, f e = some x → Snd prog w mg mb K d e env ρ x) {es : List Expr} {xs : List PV} {p : Pos} (h : evs f es = some xs) (hs : es.any isStar = false) (hz : xs.length ≤ lim) : Snd prog w mg mb K d (.List es p) env ρ (.list xs) := by
  intro A ok s I Q E hQ
  refine wpAny_List (evs_snd hf h hs A ok s I _ E fun vs s₁ k₁ t₁ r₁ => ⟨by rw [r₁.length]; exact hz, ?_⟩)
  refine hQ _ _ (Keeps.tr k₁ Keeps.push) (.list (I.okin.hk (Keeps.hk k₁) _ (fresh_none (Nat.le_refl _))) (Heap.get?_push_size _ rfl) (r₁.hk (hk_push _ _)))
theorem snd_Tuple {f : Expr → Option PV} (hf : ∀ e x, f e = some x → Snd prog w mg mb K d e env ρ x) {es : List Expr} {xs : List PV} {k : Nat} {p : Pos} (h : evs f es = some xs) (hs : es.any isStar = false) (hz : xs.length ≤ lim) : Snd prog w mg mb K d (.Tuple es k p) env ρ (.tuple xs) := by
  intro A ok s I Q E hQ
  refine wpAny_Tuple (evs_snd hf h hs A ok s I _ E fun vs s₁ k₁ t₁ r₁ => ⟨by rw [r₁.length]; exact hz, ?_⟩)
  refine hQ _ _ (Keeps.tr k₁ Keeps.push) (.tuple (I.okin.hk (Keeps.hk k₁) _ (fresh_none (Nat.le_refl _))) (Heap.get?_push_size _ rfl) (r₁.hk (hk_push _ _)))

theorem subscripted_any (slice : Expr) (o i : Value) : ∃ ops, subscripted slice false o i = operate ops (getItem o i) := by
  unfold subscripted
  split
  · exact ⟨_, rfl⟩
  · rename_i h; cases h
  · exact ⟨_, rfl⟩
theorem tail_to {A : Around} {ok : Addr → Prop} {s : Shared} {value slice : Expr} {o i : Value} {Ty id : String} {x : PV} (hT : s.TypeIs o Ty) (hl : typeLookup (.type Ty) "__getitem__" = pure (some (.builtin id)))
    (hg : EvTo (model prog w) A (getItem o i) ok s x) : EvTo (model prog w) A (subscriptTail value slice o i) ok s x := by
  intro Q E hQ
  obtain ⟨ops, hs⟩ := subscripted_any slice o i
  exact tail_any hT hl (hg Q E hQ) hs
theorem snd_item {v i : Expr} {p : Pos} {x y z : PV} (hv : SndW prog w mg mb K d v env ρ x) (hi : Snd prog w mg mb K d i env ρ y) (h : getitem x y = some z) : Snd prog w mg mb K d (.Subscript v i p) env ρ z := by
  intro A ok s I Q E hQ
  refine Subscript_ (hv A ok s I _ _ fun a s₁ k₁ t₁ r₁ => ?_)
  refine (hi A ok s₁ (I.kp k₁ t₁)).use fun b s₂ k₂ t₂ r₂ => ?_
  have r₁' := r₁.hk (Keeps.hk k₂)
  have key : ∃ Ty id, s₂.TypeIs a Ty ∧ typeLookup (.type Ty) "__getitem__" = pure (some (.builtin id)) := by
    cases x with
    | list xs =>
      obtain ⟨l, us, n, rfl, el, _⟩ := r₁'.lst
      exact ⟨_, _, (isList_of el).typeIs, slot_list_getitem.lookup⟩
    | str xs =>
      obtain ⟨t, rfl⟩ := r₁'.str'
      exact ⟨_, _, typeIs_str _ _ _, PyProof.Rows.slot_str_getitem.lookup⟩
    | _ => exact noneF h
  obtain ⟨Ty, id, hT, hl⟩ := key
  exact tail_to hT hl (getitem_ok h r₁' r₂) Q E fun v s' k r => hQ v s' (Keeps.tr (Keeps.tr k₁ k₂) k) r
theorem snd_sub {T : Tab} (hT : TabOk prog w mg mb K d T) {g : Str} {p p' : Pos} {i : Expr} {y z : PV} (hk : env.kindOf g = some .globalImplicit) (hd : (g == ("__debug__" : Str)) = false) (hi : Snd prog w mg mb K d i env ρ y) (h : T.sub g y = some z) :
    Snd prog w mg mb K d (.Subscript (.Name g p) i p') env ρ z := by
  intro A ok s I Q E hQ
  obtain ⟨gv, hg, hs⟩ := hT.sub g y z h
  refine Subscript_ (name_glb I hk hd hg ?_)
  refine (hi A ok s I).use fun b s₂ k₂ t₂ r₂ => ?_
  exact hs A ok s₂ b _ _ I.aok (I.base.hk (Keeps.hk k₂)) (I.okin.hk (Keeps.hk k₂)) r₂ Q E fun v s' k r => hQ v s' (Keeps.tr k₂ k) r

theorem part_snd {f : Expr → Option PV} (hf : ∀ e x, f e = some x → Snd prog w mg mb K d e env ρ x) {o : Option Expr} {q : Option Int} (h : part f o = some q) :
    ∀ A ok s, Inv mg mb K d A ok s env ρ → ∀ (Q : Value → Shared → Prop) (E : Value → Shared → Prop), (∀ v s', Keeps s s' → s.toks ≤ s'.toks → IsPart v q → Q v s') → wpAny (model prog w) A (valueOrNone (evalOpt o env)) Q E s := by
  intro A ok s I Q E hQ
  cases o with
  | none => cases h; exact wpAny_pure (hQ _ _ (Keeps.rfl' s) (Nat.le_refl _) .none)
  | some e =>
    unfold part at h
    dsimp only at h
    cases e1 : f e with
    | none => rw [e1] at h; exact noneF h
    | some z =>
      rw [e1] at h
      cases z with
      | int i =>
        cases h
        refine (hf e _ e1 A ok s I).use fun v s' k t r => ?_
        obtain ⟨_, rfl⟩ := r.int_inv
        exact hQ _ _ k t (.int _ _)
      | _ => exact noneF h
theorem snd_Slice {f : Expr → Option PV} (hf : ∀ e x, f e = some x → Snd prog w mg mb K d e env ρ x) {v : Expr} {lo hi st : Option Expr} {p p' : Pos} {xs : List PV} {a b c : Option Int} (hv : SndW prog w mg mb K d v env ρ (.list xs))
    (ha : part f lo = some a) (hb : part f hi = some b) (hc : part f st = some c) (h0 : c ≠ some 0) (hz : xs.length ≤ lim) : Snd prog w mg mb K d (.Subscript v (.Slice lo hi st p) p') env ρ (.list (slice xs a b c)) := by
  intro A ok s I Q E hQ
  refine Subscript_ (hv A ok s I _ _ fun o s₁ k₁ t₁ r₁ => ?_)
  rw [arm_eval_Slice]
  refine wpAny_bind (part_snd hf ha A ok s₁ (I.kp k₁ t₁) _ _ fun l s₂ k₂ t₂ p₂ => wpAny_bind (wpAny_holding ?_))
  refine part_snd hf hb A ok s₂ ((I.kp k₁ t₁).kp k₂ t₂) _ _ fun u s₃ k₃ t₃ p₃ => wpAny_bind (wpAny_holding ?_)
  refine part_snd hf hc A ok s₃ (((I.kp k₁ t₁).kp k₂ t₂).kp k₃ t₃) _ _ fun m s₄ k₄ t₄ p₄ => ?_
  have k14 := Keeps.tr k₂ (Keeps.tr k₃ k₄)
  obtain ⟨r, us, n, rfl, er, rr⟩ := (r₁.hk (Keeps.hk k14)).lst
  refine wpAny_newObj_type ?_
  have I4 := (((I.kp k₁ t₁).kp k₂ t₂).kp k₃ t₃).kp k₄ t₄
  have er' : (s₄.heap.push { cls := .type "slice", data := .fields #[l, u, m] }).get? r = some (lstO us n) := hk_push _ _ _ _ er
  refine tail_to (isList_of er').typeIs slot_list_getitem.lookup (slice_ok er' (rr.hk (hk_push _ _)) (Heap.IsSliceOf.new ..) p₂ p₃ p₄ h0 hz (I4.okin.hk (hk_push _ _))) Q E fun v s' k r => ?_
  exact hQ v s' (Keeps.tr (Keeps.tr k₁ k14) (Keeps.tr Keeps.push k)) r

theorem base_plain {o : Expr} {name : Str} {whole : Sem Value} (h : plainBase o = true) : attributeBase o name env whole = whole := by
  unfold attributeBase
  split
  · first | exact noneF h | cases h
  · rfl
theorem evalArgs_any {M : Model} {A : Around} {s : Shared} {fv : Value} {pos : Pos} {es : List Expr} {Q : Args → Shared → Prop} {E : Value → Shared → Prop} (hs : es.any isStar = false)
    (h : wpAny M A (spliced (backTo pos (starEach es env))) (fun vs s' => Q ⟨vs, []⟩ s') E s) : wpAny M A (evalArgs fv true (backTo pos (starEach es env)) []) Q E s := by
  cases es with
  | nil =>
    unfold evalArgs
    show wpAny M A (spliced (backTo pos (starEach [] env)) >>= _) Q E s
    refine wpAny_bind (wpAny_mono h (fun vs s' h' => ?_) fun _ _ x => x)
    refine wpAny_holding ?_
    exact wpAny_bind (wpAny_pure (wpAny_bind (wpAny_pure (wpAny_pure h'))))
  | cons e r =>
    simp only [List.any_cons, Bool.or_eq_false_iff] at hs
    rw [star_cons hs.1] at h ⊢
    exact evalArgs_plain h

theorem callWith_function2 {M : Model} {A : Around} {s : Shared} {E : Value → Shared → Prop} {pos : Pos} {a : Addr} {first : List Value} {args : List (Bool × Sem Value)} {Q : Value → Shared → Prop}
    (h : wpAny M A (evalArgs (.ref a) true args []) (fun x s₁ => ∃ o fd, s₁.heap.get? a = some o ∧ o.data = .func fd ∧ wpAny M A (call (.ref a) (first ++ x.pos) x.kw) Q E s₁) E s) :
    wpAny M A (callWith pos (.ref a) first args []) Q E s := by
  unfold callWith
  refine wpAny_bind (wpAny_holding (wpAny_mono h (fun x s₁ h₁ => wpAny_bind (wpAny_standAt ?_)) fun _ _ x => x))
  obtain ⟨o, fd, ho, hd, h₁⟩ := h₁
  have tail : ∀ {t : Sem Value}, wpAny M A t Q E s₁ → wpAny M A (t >>= fun r => holding [r] point >>= fun _ => pure r) Q E s₁ :=
    fun ht => wpAny_bind (wpAny_mono ht (fun r s₂ hr => wpAny_bind (wpAny_holding (wpAny_point (wpAny_pure hr)))) fun _ _ x => x)
  cases hs : args.any (·.1) <;> simp only [List.any_nil, Bool.or_false] <;>
    refine wpAny_bind (m := keeperOf (.ref a)) ?_ <;> unfold keeperOf <;>
    refine wpAny_bind (wpAny_load ho ?_) <;> rw [hd] <;> refine wpAny_pure ?_
  · first
      | refine wpAny_ite ?_
      | skip
    split <;> first
      | exact tail h₁
      | exact tail (by unfold callMarked; exact wpAny_keep h₁)
  · first
      | exact tail (by unfold callMarked; exact wpAny_keep h₁)
      | exact tail h₁
theorem callWith_any {A : Around} {s : Shared} {fv : Value} {pos : Pos} {es : List Expr} {Q : Value → Shared → Prop} {E : Value → Shared → Prop} (hc : Callee mg mb K fv) (hs : es.any isStar = false)
    (h : wpAny (model prog w) A (spliced (backTo pos (starEach es env))) (fun vs s' => Base mg mb K s'.heap ∧ wpAny (model prog w) A (call fv vs) Q E s') E s) : wpAny (model prog w) A (callWith pos fv [] (backTo pos (starEach es env)) []) Q E s := by
  cases hc with
  | builtin id => exact callWith_builtin (star_plain hs) (evalArgs_any hs (wpAny_mono h (fun vs s' h' => h'.2) fun _ _ x => x))
  | type n => exact PySem.callWith_type (star_plain hs) (evalArgs_any hs (wpAny_mono h (fun vs s' h' => h'.2) fun _ _ x => x))
  | ref a ha =>
    refine callWith_function2 (evalArgs_any hs (wpAny_mono h (fun vs s' h' => ?_) fun _ _ x => x))
    obtain ⟨o, fd, ho, hd⟩ := ha _ h'.1
    exact ⟨o, fd, ho, hd, h'.2⟩
theorem snd_fn {T : Tab} (hT : TabOk prog w mg mb K d T) {f : Expr → Option PV} (hf : ∀ e x, f e = some x → Snd prog w mg mb K d e env ρ x) {g : Str} {p pos : Pos} {es : List Expr} {xs : List PV} {z : PV} (hk : env.kindOf g = some .globalImplicit) (hd : (g == ("__debug__" : Str)) = false)
    (hs : es.any isStar = false) (hx : evs f es = some xs) (h : T.fn g xs = some z) : Snd prog w mg mb K d (.Call (.Name g p) es [] pos) env ρ z := by
  intro A ok s I Q E hQ
  obtain ⟨fv, hg, hc, hcall⟩ := hT.fn g xs z h
  refine Call_Name rfl (name_glb I hk hd hg ?_)
  refine callWith_any hc hs (evs_snd hf hx hs A ok s I _ E fun vs s₁ k₁ t₁ r₁ => ?_)
  have I1 := I.kp k₁ t₁
  exact ⟨I1.base, hcall A ok s₁ vs I.aok I1.base I1.okin I1.tok r₁ Q E fun v s' k r => hQ v s' (Keeps.tr k₁ k) r⟩
theorem kw_nil {pos : Pos} : (backToKw pos (keywordEach [] env)).all (fun x => x.1.isSome) = true := rfl
theorem few_of {pos : Pos} {es : List Expr} (hs : es.any isStar = false) (hn : es.length ≤ 8) : ((backTo pos (starEach es env)).all (fun x => !x.1) && (backToKw pos (keywordEach [] env)).all (fun x => x.1.isSome)
      && decide (es.length + ([] : List Keyword).length + (if ([] : List Keyword).isEmpty then 0 else 1) < 30)) = true := by
  have h1 := star_plain (env := env) (pos := pos) hs
  have h2 : (backTo pos (starEach es env)).all (fun x => !x.1) = true := by
    rw [List.all_eq_true]
    intro x hx
    rw [List.any_eq_false] at h1
    simpa using h1 x hx
  rw [h2, kw_nil]
  simp
  omega
theorem callWith_meth {A : Around} {s : Shared} {id : String} {ov : Value} {pos : Pos} {es : List Expr} {Q : Value → Shared → Prop} {E : Value → Shared → Prop} (hs : es.any isStar = false)
    (h : wpAny (model prog w) A (spliced (backTo pos (starEach es env))) (fun vs s' => wpAny (model prog w) A (call (.builtin id) (ov :: vs)) Q E s') E s) : wpAny (model prog w) A (callWith pos (.builtin id) [ov] (backTo pos (starEach es env)) []) Q E s :=
  callWith_builtin (star_plain hs) (evalArgs_any hs (wpAny_mono h (fun vs s' h' => h') fun _ _ x => x))
theorem snd_mth {T : Tab} (hT : TabOk prog w mg mb K d T) {f : Expr → Option PV} (hf : ∀ e x, f e = some x → Snd prog w mg mb K d e env ρ x) {o : Expr} {m : Str} {ap pos : Pos} {es : List Expr} {x : PV} {xs : List PV} {z : PV}
    (ho : Snd prog w mg mb K d o env ρ x) (hb : plainBase o = true) (hn : es.length ≤ 8) (hl : (ap.endLine == pos.line) = true)
    (hs : es.any isStar = false) (hx : evs f es = some xs) (h : T.mth m x xs = some z) : Snd prog w mg mb K d (.Call (.Attribute o m ap) es [] pos) env ρ z := by
  intro A ok s I Q E hQ
  obtain ⟨Ty, id, pa, slot, hty, hself, hcall⟩ := hT.mth m x xs z h
  refine wpAny_Call_method_lateS (base_plain hb) (few_of hs hn) hl ((ho A ok s I).use fun v s₁ k₁ t₁ r₁ => ?_)
  refine ⟨Ty, id, pa, slot, hty, (hself s₁ ok v r₁).1, (hself s₁ ok v r₁).2, callWith_meth hs ?_⟩
  refine evs_snd hf hx hs A ok s₁ (I.kp k₁ t₁) _ E fun vs s₂ k₂ t₂ r₂ => ?_
  have I2 := (I.kp k₁ t₁).kp k₂ t₂
  exact hcall A ok s₂ v vs I.aok I2.base I2.okin (r₁.hk (Keeps.hk k₂)) r₂ Q E fun v s' k r => hQ v s' (Keeps.tr (Keeps.tr k₁ k₂) k) r
end
end Mine
end
section
open PySem PySem.W PyProof.Rows PySem.Calls
set_option maxRecDepth 100000
namespace Mine
section
variable {prog : Program} {w : World} {mg mb : Str → Option Value} {K : Frag} {d : Nat} {env : Env} {ρ : Rho}

theorem sndT_Call {f : Expr} {as : List Expr} {ks : List Keyword} {p : Pos} {b : Bool} (h : Snd prog w mg mb K d (.Call f as ks p) env ρ (.bool b)) : SndT prog w mg mb K d (.Call f as ks p) env ρ b := by
  intro A ok s I Q E hQ
  refine wpAny_isTrue_value ((h A ok s I).use fun v s₁ k₁ t₁ r₁ => ?_)
  cases r₁.bool_inv
  exact wpAny_truthy_bool (hQ _ k₁ t₁)
theorem sndT_Subscript {v i : Expr} {p : Pos} {b : Bool} (h : Snd prog w mg mb K d (.Subscript v i p) env ρ (.bool b)) : SndT prog w mg mb K d (.Subscript v i p) env ρ b := by
  intro A ok s I Q E hQ
  refine wpAny_isTrue_value ((h A ok s I).use fun v s₁ k₁ t₁ r₁ => ?_)
  cases r₁.bool_inv
  exact wpAny_truthy_bool (hQ _ k₁ t₁)
theorem sndT_Not {e : Expr} {p : Pos} {b : Bool} (h : SndT prog w mg mb K d e env ρ b) : SndT prog w mg mb K d (.UnaryOp .Not e p) env ρ (!b) := by
  intro A ok s I Q E hQ
  exact wpAny_isTrue_Not (h A ok s I _ _ fun s' k t => hQ s' k t)
theorem all_snd {f : Expr → Option Bool} (hf : ∀ e x, f e = some x → SndT prog w mg mb K d e env ρ x) : ∀ {es : List Expr} {b : Bool}, allT f es = some b →
    ∀ A ok s, Inv mg mb K d A ok s env ρ → ∀ (Q : Bool → Shared → Prop) (E : Value → Shared → Prop), (∀ s', Keeps s s' → s.toks ≤ s'.toks → Q b s') → wpAny (model prog w) A (allTrue .And es env) Q E s
  | [], b, h, A, ok, s, I, Q, E, hQ => by cases h; exact wpAny_allTrue_And_nil (hQ _ (Keeps.rfl' s) (Nat.le_refl _))
  | e :: r, b, h, A, ok, s, I, Q, E, hQ => by
    unfold allT at h
    refine wpAny_allTrue_And_cons ?_
    split at h
    · rename_i h1
      refine hf e true h1 A ok s I _ _ fun s₁ k₁ t₁ => ?_
      rw [if_pos rfl]
      exact all_snd hf h A ok s₁ (I.kp k₁ t₁) Q E fun s' k t => hQ s' (Keeps.tr k₁ k) (Nat.le_trans t₁ t)
    · rename_i h1
      cases h
      refine hf e false h1 A ok s I _ _ fun s₁ k₁ t₁ => ?_
      rw [if_neg Bool.false_ne_true]
      exact hQ s₁ k₁ t₁
    · first | exact noneF h | cases h
theorem any_snd {f : Expr → Option Bool} (hf : ∀ e x, f e = some x → SndT prog w mg mb K d e env ρ x) : ∀ {es : List Expr} {b : Bool}, anyT f es = some b →
    ∀ A ok s, Inv mg mb K d A ok s env ρ → ∀ (Q : Bool → Shared → Prop) (E : Value → Shared → Prop), (∀ s', Keeps s s' → s.toks ≤ s'.toks → Q b s') → wpAny (model prog w) A (allTrue .Or es env) Q E s
  | [], b, h, A, ok, s, I, Q, E, hQ => by cases h; exact wpAny_allTrue_Or_nil (hQ _ (Keeps.rfl' s) (Nat.le_refl _))
  | e :: r, b, h, A, ok, s, I, Q, E, hQ => by
    unfold anyT at h
    refine wpAny_allTrue_Or_cons ?_
    split at h
    · rename_i h1
      cases h
      refine hf e true h1 A ok s I _ _ fun s₁ k₁ t₁ => ?_
      rw [if_pos rfl]
      exact hQ s₁ k₁ t₁
    · rename_i h1
      refine hf e false h1 A ok s I _ _ fun s₁ k₁ t₁ => ?_
      rw [if_neg Bool.false_ne_true]
      exact any_snd hf h A ok s₁ (I.kp k₁ t₁) Q E fun s' k t => hQ s' (Keeps.tr k₁ k) (Nat.le_trans t₁ t)
    · first | exact noneF h | cases h
theorem sndT_And {f : Expr → Option Bool} (hf : ∀ e x, f e = some x → SndT prog w mg mb K d e env ρ x) {es : List Expr} {p : Pos} {b : Bool} (h : allT f es = some b) : SndT prog w mg mb K d (.BoolOp .And es p) env ρ b := by
  intro A ok s I Q E hQ
  exact wpAny_isTrue_BoolOp (all_snd hf h A ok s I Q E hQ)
theorem sndT_Or {f : Expr → Option Bool} (hf : ∀ e x, f e = some x → SndT prog w mg mb K d e env ρ x) {es : List Expr} {p : Pos} {b : Bool} (h : anyT f es = some b) : SndT prog w mg mb K d (.BoolOp .Or es p) env ρ b := by
  intro A ok s I Q E hQ
  exact wpAny_isTrue_BoolOp (any_snd hf h A ok s I Q E hQ)

theorem snd_replace {o : Expr} {ap pos p1 p2 : Pos} {k1 k2 : Nat} {x a b : Str} (ho : Snd prog w mg mb K d o env ρ (.str x)) (hb : plainBase o = true) (hl : (ap.endLine == pos.line) = true) (hab : (a == b) = false) (hz : x.length + (x.length + 1) * b.length ≤ lim) :
    Snd prog w mg mb K d (.Call (.Attribute o "replace" ap) [.Constant (.str a) k1 p1, .Constant (.str b) k2 p2] [] pos) env ρ (.str (Txt.replace x a b)) := by
  intro A ok s I Q E hQ
  refine wpAny_Call_method_lateS (base_plain hb) (few_of rfl (by simp)) hl ((ho A ok s I).use fun v s₁ k₁ t₁ r₁ => ?_)
  obtain ⟨_, rfl⟩ := r₁.str_inv
  refine ⟨"str", "str.replace", F.plainAttrs_str, F.slot_str_replace, F.type_str_replace, typeIs_str _ _ _, (fun _ e => nomatch e), callWith_meth rfl ?_⟩
  refine wpAny_items_cons (wpAny_Constant_str (wpAny_items_cons (wpAny_Constant_str (wpAny_items_nil ?_))))
  have h0 : 0 < s₁.toks := (I.kp k₁ t₁).tok
  refine SC.replace (Nat.pos_iff_ne_zero.mp h0) (Nat.succ_ne_zero _) (Nat.ne_of_lt (Nat.lt_succ_self _)) hab hz fun t' k => ?_
  exact hQ _ _ (Keeps.tr k₁ Keeps.tok) (.str _ _)
end
end Mine
end
section
open PySem PySem.W PyProof.Rows PySem.Calls
set_option maxRecDepth 100000
namespace Mine
section
variable {prog : Program} {w : World} {mg mb : Str → Option Value} {K : Frag} {d : Nat} {env : Env} {ρ : Rho}

/-- an iterator over what is told, and where it stands -/
structure Itr (prog : Program) (w : World) (A : Around) (ok : Addr → Prop) (h₁ : Heap) (I : Addr) (xs : List PV) (P : Nat → Value → Prop) (St : Nat → Heap → Prop) (fp : List Addr) : Prop where
  wk : Walks prog w A I fp [I] xs.length P St
  fp : ∀ b ∈ fp, b = I ∨ (ok b ∧ ∃ o, h₁.get? b = some o)
  it : ∀ i v, i < xs.length → P i v → ∃ x, xs[i]? = some x ∧ Rp ok h₁ v x
  live : ∀ i h, St i h → ∃ o, h.get? I = some o ∧ ¬ isD o
theorem iter_ok {A : Around} {ok : Addr → Prop} {s : Shared} {v : Value} {x : PV} {xs : List PV} {dd : Nat} (hA : AOK dd A) (r : Rp ok s.heap v x) (h : items x = some xs) :
    ∀ (Q : Value → Shared → Prop) (E : Value → Shared → Prop), (∀ I P St fp s', s.heap.get? I = none → Keeps s s' → St 0 s'.heap → (∃ o, s'.heap.get? I = some o) → Itr prog w A ok s.heap I xs P St fp → Q (.ref I) s') → wpAny (model prog w) A (pyIter v) Q E s := by
  intro Q E hQ
  have hfr : s.heap.get? s.heap.objs.size = none := fresh_none (Nat.le_refl _)
  unfold items at h
  split at h
  · first | exact noneF h | cases h
    cases r with
    | @list a vs xs' n hk ho hr =>
      refine wpAny_pyIter_list (isList_of ho) ?_
      have hne : a ≠ s.heap.objs.size := fun e => by rw [e, hfr] at ho; cases ho
      have hsz : vs.toArray.size = xs.length := by simp [hr.length]
      refine hQ s.heap.objs.size _ _ _ _ hfr Keeps.push ?_ ⟨_, Heap.get?_push_size _ rfl⟩ ⟨hsz ▸ Walks.list hA.hn _ a hne vs.toArray, ?_, ?_, ?_⟩
      · exact ⟨⟨_, Heap.get?_push_size _ rfl, rfl, rfl⟩, isList_of (hk_push _ _ _ _ ho)⟩
      · intro b hb
        simp at hb
        rcases hb with rfl | rfl
        · exact .inl rfl
        · exact .inr ⟨hk, _, ho⟩
      · intro i v _ hv
        exact hr.get' (by simpa using hv)
      · rintro i h ⟨⟨o, ho', hcl, _⟩, _⟩
        exact ⟨o, ho', by unfold isD; rw [hcl]; simp⟩
  · first | exact noneF h | cases h
    cases r with
    | @tuple a vs xs' n hk ho hr =>
      refine wpAny_pyIter_tuple (isTuple_of ho) ?_
      have hne : a ≠ s.heap.objs.size := fun e => by rw [e, hfr] at ho; cases ho
      have hsz : vs.toArray.size = xs.length := by simp [hr.length]
      refine hQ s.heap.objs.size _ _ _ _ hfr Keeps.push ?_ ⟨_, Heap.get?_push_size _ rfl⟩ ⟨hsz ▸ Walks.tuple hA.hn _ a hne vs.toArray, ?_, ?_, ?_⟩
      · exact ⟨⟨_, Heap.get?_push_size _ rfl, rfl, rfl⟩, isTuple_of (hk_push _ _ _ _ ho)⟩
      · intro b hb
        simp at hb
        rcases hb with rfl | rfl
        · exact .inl rfl
        · exact .inr ⟨hk, _, ho⟩
      · intro i v _ hv
        exact hr.get' (by simpa using hv)
      · rintro i h ⟨⟨o, ho', hcl, _⟩, _⟩
        exact ⟨o, ho', by unfold isD; rw [hcl]; simp⟩
  · split at h
    · rename_i n hn
      cases h
      cases r with
      | @range a n t u v hk ho =>
        have hsz : Builtin.Range.rangeSize 0 (n : Int) 1 = (n : Int) := by rw [PyProof.Rows.rangeSize_nat]; simp
        have hsm : Builtin.Range.small 0 (n : Int) 1 = true := by
          have h1 : ∀ i : Int, -1 ≤ i → i ≤ 1000000 → Builtin.Range.rangeFitsLong i = true := fun i h h' => by
            simp only [Builtin.Range.rangeFitsLong, Bool.and_eq_true, decide_eq_true_eq]
            omega
          unfold Builtin.Range.small
          rw [hsz, h1 0 (by omega) (by omega), h1 1 (by omega) (by omega), h1 n (by omega) (by omega), if_pos (by omega), h1 _ (by omega) (by omega)]
          simp
        refine wpAny_pyIter_range ho hsm ?_
        refine hQ s.heap.objs.size _ _ _ _ hfr Keeps.push ?_ ⟨_, Heap.get?_push_size _ rfl⟩ ⟨by
          have := LCg.range_walks (prog := prog) (w := w) (A := A) (I := s.heap.objs.size) hA.hn 0 n
          simpa using this, ?_, ?_, ?_⟩
        · show IsRangeIter _ _ _ _ _
          rw [hsz]
          have := Heap.get?_push_size s.heap (o := { cls := .type "range_iterator", data := .fields #[rawInt 0, rawInt (n : Int), rawInt 1] }) rfl
          simpa using this
        · intro b hb
          simp at hb
          exact .inl hb
        · intro i v hi hv
          obtain ⟨t, rfl⟩ := hv
          rw [List.length_map, List.length_range] at hi
          exact ⟨.int (i : Int), by simp [hi], by exact .int _ _⟩
        · intro i h hs
          exact ⟨_, hs, by unfold isD; simp⟩
    · first | exact noneF h | cases h
  · first | exact noneF h | cases h

noncomputable def clOf (env : Env) : List (Str × NameKind) → List (Str × Addr) → List (Str × Addr)
  | [], cs => cs
  | (n, k) :: r, cs => if k == .free then clOf env r ((n, (env.cells.lookup n).getD 0) :: cs) else clOf env r cs
theorem clo_loop {env : Env} (f : Str × NameKind → List (Str × Addr) → Sem (ForInStep (List (Str × Addr))))
    (hf : ∀ n k cs, f (n, k) cs = if k == .free then (do let a ← cellOf env n; pure (.yield ((n, a) :: cs))) else pure (.yield cs)) :
    ∀ (names : List (Str × NameKind)) (cs : List (Str × Addr)), (∀ x ∈ names, x.2 = .free → ∃ c, env.cells.lookup x.1 = some c) → forIn names cs f = pure (clOf env names cs)
  | [], cs, _ => by rw [List.forIn_nil]; rfl
  | (n, k) :: r, cs, h => by
    rw [List.forIn_cons, hf]
    unfold clOf
    have hr := clo_loop f hf r
    by_cases hk : (k == NameKind.free) = true
    · rw [if_pos hk, if_pos hk]
      obtain ⟨c, hc⟩ := h (n, k) List.mem_cons_self (by simpa using hk)
      unfold cellOf
      rw [hc]
      simp only [Option.getD_some, pure_bind]
      exact hr _ fun x hx => h x (List.mem_cons_of_mem _ hx)
    · rw [if_neg hk, if_neg hk]
      simp only [pure_bind]
      exact hr _ fun x hx => h x (List.mem_cons_of_mem _ hx)
theorem clo_ok {scope : Scope} {env : Env} (h : ∀ x ∈ scope.names, x.2 = .free → ∃ c, env.cells.lookup x.1 = some c) : closureFor scope env = pure (clOf env scope.names []) := by
  unfold closureFor
  show (forIn scope.names ([] : List (Str × Addr)) (fun x cs => match x with | (name, kind) => if (kind == NameKind.free) = true then (do let a ← cellOf env name; pure (ForInStep.yield ((name, a) :: cs))) else pure (ForInStep.yield cs)) >>= fun s => pure s) = _
  rw [clo_loop (env := env) _ (fun n k cs => rfl) scope.names [] h]
  rfl
theorem clOf_sound {env : Env} : ∀ (names : List (Str × NameKind)) (cs : List (Str × Addr)), (∀ x ∈ names, x.2 = .free → ∃ c, env.cells.lookup x.1 = some c) → (∀ n c, cs.lookup n = some c → env.cells.lookup n = some c) →
    ∀ n c, (clOf env names cs).lookup n = some c → env.cells.lookup n = some c
  | [], cs, _, hcs, n, c, e => hcs n c e
  | (m, k) :: r, cs, h, hcs, n, c, e => by
    unfold clOf at e
    have hr := fun x hx => h x (List.mem_cons_of_mem (m, k) hx)
    split at e
    · rename_i hk
      refine clOf_sound r _ hr (fun n' c' e' => ?_) n c e
      rw [List.lookup_cons] at e'
      obtain ⟨c0, hc0⟩ := h (m, k) List.mem_cons_self (by simpa using hk)
      cases hb : n' == m with
      | true =>
        rw [hb] at e'
        rw [beq_iff_eq.mp hb, hc0]
        rw [hc0] at e'
        exact e'
      | false => rw [hb] at e'; exact hcs n' c' e'
    · exact clOf_sound r cs hr hcs n c e
theorem clOf_has {env : Env} : ∀ (names : List (Str × NameKind)) (cs : List (Str × Addr)) (n : Str), ((n, NameKind.free) ∈ names ∨ ∃ c, cs.lookup n = some c) → ∃ c, (clOf env names cs).lookup n = some c
  | [], cs, n, h => by
    rcases h with h | h
    · first | exact noneF h | cases h
    · exact h
  | (m, k) :: r, cs, n, h => by
    unfold clOf
    split
    · rename_i hk
      refine clOf_has r _ n ?_
      rcases h with h | ⟨c, h⟩
      · rcases List.mem_cons.mp h with e | h
        · first | exact noneF e | cases e
          exact .inr ⟨_, by rw [List.lookup_cons, beq_self_eq_true]⟩
        · exact .inl h
      · rw [List.lookup_cons]
        cases hb : n == m with
        | true => exact .inr ⟨_, rfl⟩
        | false => exact .inr ⟨c, h⟩
    · rename_i hk
      refine clOf_has r cs n ?_
      rcases h with h | h
      · rcases List.mem_cons.mp h with e | h
        · cases e; exact absurd rfl hk
        · exact .inl h
      · exact .inr h

theorem cells_own (x : Str) : ∀ (names : List (Str × NameKind)) (h : Heap) (acc : List (Str × Addr)), (∀ p ∈ names, p.2 = .cell → p.1 = x) →
    (∀ n, n ≠ x → (cellsFrom h.objs.size names acc).lookup n = acc.lookup n) ∧
    (((x, NameKind.cell) ∈ names ∧ ∃ c, (cellsFrom h.objs.size names acc).lookup x = some c ∧ h.objs.size ≤ c ∧ (pushCells h names).IsCell c none) ∨ ((x, NameKind.cell) ∉ names ∧ (cellsFrom h.objs.size names acc).lookup x = acc.lookup x))
  | [], h, acc, _ => ⟨fun _ _ => rfl, .inr ⟨by simp, rfl⟩⟩
  | (m, k) :: r, h, acc, hc => by
    have hr := fun p hp => hc p (List.mem_cons_of_mem (m, k) hp)
    unfold cellsFrom pushCells
    by_cases hk : (k == NameKind.cell) = true
    · rw [if_pos hk, if_pos hk]
      have hm : m = x := hc (m, k) List.mem_cons_self (by simpa using hk)
      have hkk : k = .cell := by simpa using hk
      subst hm hkk
      have ih := cells_own m r (h.push { cls := .type "cell", data := .cell none }) ((m, h.objs.size) :: acc) hr
      rw [Heap.size_push] at ih
      refine ⟨fun n hn => ?_, .inl ⟨List.mem_cons_self, ?_⟩⟩
      · rw [ih.1 n hn, List.lookup_cons]
        have : (n == m) = false := by simpa using hn
        rw [this]
      · rcases ih.2 with ⟨_, c, e1, e2, e3⟩ | ⟨_, e⟩
        · exact ⟨c, e1, by omega, e3⟩
        · refine ⟨h.objs.size, by rw [e, List.lookup_cons, beq_self_eq_true], Nat.le_refl _, ?_⟩
          exact Heap.IsCell.keeps ⟨_, Heap.get?_push_size _ rfl, rfl⟩ (pushCells_keeps r _)
    · rw [if_neg hk, if_neg hk]
      have ih := cells_own x r h acc hr
      refine ⟨ih.1, ?_⟩
      have hne : (x, NameKind.cell) ≠ (m, k) := fun e => by cases e; exact hk rfl
      rcases ih.2 with ⟨h1, h2⟩ | ⟨h1, h2⟩
      · exact .inl ⟨List.mem_cons_of_mem _ h1, h2⟩
      · exact .inr ⟨fun h' => (List.mem_cons.mp h').elim (fun e => hne e) h1, h2⟩

noncomputable def cEnv (scope : Scope) (C : Addr) (cs : List (Str × Addr)) (env : Env) : Env :=
  { scope := scope, locals := C, globals := env.globals, cells := cs, qual := env.qual, func := none, code := env.code, frame := env.frame, builtins := env.builtins }
theorem newEnv_ok {M : Model} {A : Around} {s : Shared} {scope : Scope} {cl : List (Str × Addr)} {env : Env} {Q : Env → Shared → Prop} {E : Value → Shared → Prop}
    (hQ : Q (cEnv scope s.heap.objs.size (cellsFrom (s.heap.objs.size + 1) scope.names cl) env) { s with heap := pushCells (s.heap.push { cls := .type "dict", data := .dict #[] }) scope.names }) :
    wpAny M A (newFunctionEnv scope env.globals cl [] env.qual none .none (some env)) Q E s := by
  simp only [newFunctionEnv, Option.isSome_some, if_true]
  refine wpAny_bind (wpAny_alloc ?_)
  refine wpAny_bind (wpAny_layCells _ (fun name kind cells => by cases hkc : kind == NameKind.cell <;> simp [hkc]) _ _ _ _ ?_)
  rw [show ({ s with heap := s.heap.push { cls := .type "dict", data := .dict #[] } } : Shared).heap.objs.size = s.heap.objs.size + 1 from Heap.size_push ..]
  rw [List.forIn_nil]
  exact wpAny_bind (wpAny_pure (wpAny_pure hQ))
theorem relab_lookup {sc' sc : Scope} {y : Str} : (relab sc' sc).names.lookup y = (sc'.names.lookup y).map fun k => if (k == .free && sc.names.lookup y == some .cell) then .cell else k := by
  unfold relab
  dsimp only
  induction sc'.names with
  | nil => rfl
  | cons p r ih =>
    obtain ⟨n, k⟩ := p
    rw [List.map_cons, List.lookup_cons]
    by_cases hc : (k == NameKind.free && sc.names.lookup n == some .cell) = true
    · rw [if_pos hc]
      dsimp only
      rw [List.lookup_cons]
      cases hb : y == n with
      | true =>
        rw [beq_iff_eq.mp hb]
        show some NameKind.cell = some (if (k == NameKind.free && List.lookup n sc.names == some NameKind.cell) = true then NameKind.cell else k)
        rw [if_pos hc]
      | false => exact ih
    · rw [if_neg hc]
      dsimp only
      rw [List.lookup_cons]
      cases hb : y == n with
      | true =>
        rw [beq_iff_eq.mp hb]
        show some k = some (if (k == NameKind.free && List.lookup n sc.names == some NameKind.cell) = true then NameKind.cell else k)
        rw [if_neg hc]
      | false => exact ih
theorem relabel_eq {sc' : Scope} {env : Env} (hk : env.scope.kind = .function) : relabel sc' env = relab sc' env.scope := by
  unfold relabel relab
  rw [hk]
  simp [Env.kindOf]

/-- where a comprehension's own things lie -/
structure CAdr where
  D : Addr
  I : Addr
  C : Addr
  xc : Option Addr
noncomputable def CAdr.ok (a : CAdr) (ok : Addr → Prop) (b : Addr) : Prop := ok b ∧ b ≠ a.D ∧ b ≠ a.I ∧ b ≠ a.C ∧ a.xc ≠ some b
structure CAdr.New (a : CAdr) (h : Heap) : Prop where
  D : h.get? a.D = none
  I : h.get? a.I = none
  C : h.get? a.C = none
  xc : ∀ c, a.xc = some c → h.get? c = none
theorem CAdr.New.ok {a : CAdr} {h : Heap} {ok : Addr → Prop} (N : a.New h) : ∀ b o, ok b → h.get? b = some o → a.ok ok b := fun b o hk e =>
  ⟨hk, (by rintro rfl; rw [N.D] at e; cases e), (by rintro rfl; rw [N.I] at e; cases e), (by rintro rfl; rw [N.C] at e; cases e), (by intro hx; rw [N.xc b hx] at e; cases e)⟩
theorem CAdr.New.rp {a : CAdr} {h h' : Heap} {ok : Addr → Prop} {v : Value} {x : PV} (N : a.New h) (k : Hk h h') (r : Rp ok h v x) : Rp (a.ok ok) h' v x := r.imp fun b o e q => ⟨N.ok b o e q, k b o q⟩
theorem CAdr.New.rpB {a : CAdr} {h h' : Heap} {ok : Addr → Prop} {v : Value} {x : Bd} (N : a.New h) (k : Hk h h') (r : RpB ok h v x) : RpB (a.ok ok) h' v x := by
  cases x with
  | val x => exact N.rp k r
  | own xs =>
    obtain ⟨b, vs, n, e, hn, ho, hr⟩ := r
    exact ⟨b, vs, n, e, fun h => hn h.1, k _ _ ho, hr.imp fun b o e q => ⟨N.ok b o e q, k b o q⟩⟩

/-- the comprehension's frame, made -/
structure CFr (sc' : Scope) (env : Env) (x : Str) (a : CAdr) (cs : List (Str × Addr)) : Prop where
  kind : sc'.kind = .function
  isx : sc'.names.lookup x = some .local ∨ (sc'.names.lookup x = some .cell ∧ ∃ c, a.xc = some c ∧ cs.lookup x = some c)
  clo : ∀ n, n ≠ x → sc'.names.lookup n = some .free → env.scope.names.lookup n = some .cell ∧ ∃ c, cs.lookup n = some c ∧ env.cells.lookup n = some c
  cel : ∀ n, sc'.names.lookup n = some .cell → n = x

theorem lookup_filter {α β : Type} [BEq α] [LawfulBEq α] (p : α → Bool) : ∀ (l : List (α × β)) (y : α), (l.filter fun q => p q.1).lookup y = if p y then l.lookup y else none
  | [], y => by simp
  | (n, k) :: r, y => by
    have ih := lookup_filter p r y
    rw [List.filter_cons]
    dsimp only
    cases hb : y == n with
    | true =>
      have e := beq_iff_eq.mp hb
      subst e
      cases hp : p y with
      | true => simp
      | false => simp [ih, hp]
    | false =>
      cases hp : p n with
      | true => simp [List.lookup_cons, hb, ih]
      | false => simp [List.lookup_cons, hb, ih]
/-- the frame behind a store of the loop's name -/
theorem cfr_fm {sc' : Scope} {x : Str} {a : CAdr} {cs : List (Str × Addr)} {ok : Addr → Prop} {h₁ h : Heap} {m : Str → Option Value} {v : Value} {y : PV} (X : CFr sc' env x a cs) (N : a.New h₁) (F : Fm ok h₁ env ρ) (k : Hk h₁ h)
    (hn : h.Ns a.C m) (hx : sc'.names.lookup x = some .local → m x = some v) (hc : ∀ c, sc'.names.lookup x = some .cell → a.xc = some c → h.IsCell c (some v)) (r : Rp (a.ok ok) h v y) :
    Fm (a.ok ok) h (cEnv (relab sc' env.scope) a.C cs env) (rhoC sc' ρ x y) := by
  have hlk : ∀ n, (cEnv (relab sc' env.scope) a.C cs env).kindOf n = (sc'.names.lookup n).map fun k => if (k == .free && env.scope.names.lookup n == some .cell) then .cell else k := fun n => relab_lookup
  have hrho : ∀ n bd, (rhoC sc' ρ x y).lookup n = some bd → (n = x ∧ bd = .val y) ∨ (n ≠ x ∧ sc'.names.lookup n = some .free ∧ ρ.lookup n = some bd) := by
    intro n bd e
    unfold rhoC at e
    rw [List.lookup_cons] at e
    cases hb : n == x with
    | true => rw [hb] at e; cases e; exact .inl ⟨beq_iff_eq.mp hb, rfl⟩
    | false =>
      rw [hb] at e
      dsimp only at e
      rw [lookup_filter (fun n => n != x && sc'.names.lookup n == some .free)] at e
      split at e
      · rename_i hp
        simp only [Bool.and_eq_true, bne_iff_ne, ne_eq, beq_iff_eq] at hp
        exact .inr ⟨hp.1, hp.2, e⟩
      · first | exact noneF e | cases e
  refine ⟨X.kind, F.gl, F.bl, fun n hn' => ?_, ⟨m, hn, fun n bd e hk => ?_⟩, fun n bd c e hk hc' => ?_⟩
  · rw [hlk] at hn'
    simp only [Option.map_eq_some_iff] at hn'
    obtain ⟨k', e1, e2⟩ := hn'
    by_cases hnx : n = x
    · subst hnx
      rcases X.isx with h1 | ⟨h1, c, h2, h3⟩
      · rw [h1] at e1; cases e1; cases e2
      · exact ⟨c, h3⟩
    · split at e2
      · rename_i hc'
        simp only [Bool.and_eq_true, beq_iff_eq] at hc'
        obtain ⟨_, c, h1, _⟩ := X.clo n hnx (by rw [e1, hc'.1])
        exact ⟨c, h1⟩
      · subst e2
        exact absurd (X.cel n e1) hnx
  · rcases hrho n bd e with ⟨rfl, rfl⟩ | ⟨hnx, hf, _⟩
    · rw [hlk] at hk
      simp only [Option.map_eq_some_iff] at hk
      obtain ⟨k', e1, e2⟩ := hk
      split at e2
      · first | exact noneF e2 | cases e2
      · subst e2
        exact ⟨v, hx e1, r⟩
    · rw [hlk, hf, Option.map_some] at hk
      have := (X.clo n hnx hf).1
      simp [this] at hk
  · rcases hrho n bd e with ⟨rfl, rfl⟩ | ⟨hnx, hf, hρ⟩
    · rcases X.isx with h1 | ⟨h1, c0, h2, h3⟩
      · rw [hlk, h1] at hk
        simp at hk
      · have : c = c0 := by
          have e3 : cs.lookup n = some c := hc'
          rw [h3] at e3; cases e3; rfl
        subst this
        exact ⟨v, hc c h1 h2, r⟩
    · obtain ⟨h1, c0, h2, h3⟩ := X.clo n hnx hf
      have : c = c0 := by
        have e3 : cs.lookup n = some c := hc'
        rw [h2] at e3; cases e3; rfl
      subst this
      obtain ⟨v', hv, rv⟩ := F.cel n bd c hρ h1 h3
      exact ⟨v', hv.keeps k, N.rpB k rv⟩

theorem compL_get {F : PV → Option (Option PV)} : ∀ {xs ys : List PV}, compL F xs = some ys → ∀ {i : Nat} {x : PV}, xs[i]? = some x → ∃ o, F x = some o
  | [], _, _, i, x, e => by simp at e
  | z :: xs, ys, h, i, x, e => by
    unfold compL at h
    cases i with
    | zero =>
      simp at e
      subst e
      split at h
      · rename_i y ys' h1 h2; exact ⟨_, h1⟩
      · rename_i ys' h1 h2; exact ⟨_, h1⟩
      · first | exact noneF h | cases h
    | succ i =>
      simp at e
      split at h
      · rename_i y ys' h1 h2; exact compL_get h2 e
      · rename_i ys' h1 h2; exact compL_get h2 e
      · first | exact noneF h | cases h
theorem compL_snoc {F : PV → Option (Option PV)} {x : PV} {o : Option PV} (hx : F x = some o) : ∀ {xs ys : List PV}, compL F xs = some ys → compL F (xs ++ [x]) = some (ys ++ o.toList)
  | [], ys, h => by
    cases h
    show compL F [x] = _
    unfold compL
    rw [hx]
    cases o <;> rfl
  | z :: xs, ys, h => by
    rw [List.cons_append]
    unfold compL at h ⊢
    split at h
    · rename_i y ys' h1 h2
      cases h
      rw [compL_snoc hx h2, h1]; rfl
    · rename_i ys' h1 h2
      cases h
      rw [compL_snoc hx h2, h1]
    · first | exact noneF h | cases h
theorem compL_take {F : PV → Option (Option PV)} : ∀ {xs ys : List PV}, compL F xs = some ys → ∀ i, ∃ zs, compL F (xs.take i) = some zs
  | [], ys, h, i => ⟨[], by simp [compL]⟩
  | z :: xs, ys, h, 0 => ⟨[], rfl⟩
  | z :: xs, ys, h, i + 1 => by
    unfold compL at h
    rw [List.take_succ_cons]
    split at h
    · rename_i y ys' h1 h2
      obtain ⟨zs, hz⟩ := compL_take h2 i
      exact ⟨y :: zs, by unfold compL; rw [h1, hz]⟩
    · rename_i ys' h1 h2
      obtain ⟨zs, hz⟩ := compL_take h2 i
      exact ⟨zs, by unfold compL; rw [h1, hz]⟩
    · first | exact noneF h | cases h

theorem compL_len {F : PV → Option (Option PV)} : ∀ {xs ys : List PV}, compL F xs = some ys → ys.length ≤ xs.length
  | [], ys, h => by cases h; exact Nat.le_refl _
  | z :: xs, ys, h => by
    unfold compL at h
    split at h
    · rename_i y ys' h1 h2; cases h; have := compL_len h2; simp; omega
    · rename_i ys' h1 h2; cases h; have := compL_len h2; simp; omega
    · first | exact noneF h | cases h

section
variable (prog w mg mb K d)
noncomputable def TestsTo (ifs : List Expr) (env : Env) (ρ : Rho) (b : Bool) : Prop := ∀ A ok s, Inv mg mb K d A ok s env ρ → ∀ (Q : Bool → Shared → Prop) (E : Value → Shared → Prop), (∀ s', Keeps s s' → s.toks ≤ s'.toks → Q b s') →
  wpAny (model prog w) A (forIn ifs true fun c r => if r = true then do let ok ← isTrue c env (eval c env); pure (ForInStep.yield ok) else pure (ForInStep.yield r)) Q E s
end
theorem tests_false {ifs : List Expr} {A : Around} {s : Shared} {Q : Bool → Shared → Prop} {E : Value → Shared → Prop} (h : Q false s) :
    wpAny (model prog w) A (forIn ifs false fun c r => if r = true then do let ok ← isTrue c env (eval c env); pure (ForInStep.yield ok) else pure (ForInStep.yield r)) Q E s := by
  induction ifs with
  | nil => rw [List.forIn_nil]; exact wpAny_pure h
  | cons c r ih =>
    rw [List.forIn_cons]
    simp only [Bool.false_eq_true, if_false]
    exact wpAny_bind (wpAny_pure ih)
theorem tests_snd {f : Expr → Option Bool} (hf : ∀ e x, f e = some x → SndT prog w mg mb K d e env ρ x) : ∀ {es : List Expr} {b : Bool}, allT f es = some b → TestsTo prog w mg mb K d es env ρ b
  | [], b, h, A, ok, s, I, Q, E, hQ => by
    cases h
    rw [List.forIn_nil]
    exact wpAny_pure (hQ _ (Keeps.rfl' s) (Nat.le_refl _))
  | e :: r, b, h, A, ok, s, I, Q, E, hQ => by
    unfold allT at h
    rw [List.forIn_cons]
    simp only [if_true]
    split at h
    · rename_i h1
      refine wpAny_bind (wpAny_bind (hf e true h1 A ok s I _ _ fun s₁ k₁ t₁ => wpAny_pure ?_))
      exact tests_snd hf h A ok s₁ (I.kp k₁ t₁) Q E fun s' k t => hQ s' (Keeps.tr k₁ k) (Nat.le_trans t₁ t)
    · rename_i h1
      cases h
      refine wpAny_bind (wpAny_bind (hf e false h1 A ok s I _ _ fun s₁ k₁ t₁ => wpAny_pure ?_))
      exact tests_false (hQ s₁ k₁ t₁)
    · first | exact noneF h | cases h

structure CRd (a : CAdr) (h : Heap) : Prop where
  ns : ∃ m, h.Ns a.C m
  cell : ∀ c, a.xc = some c → ∃ o, h.IsCell c o
theorem store_x {sc' : Scope} {x : Str} {a : CAdr} {cs : List (Str × Addr)} {A : Around} {s : Shared} {v : Value} {Q : Unit → Shared → Prop} {E : Value → Shared → Prop} (X : CFr sc' env x a cs) (R : CRd a s.heap) (hCx : a.xc ≠ some a.C)
    (hQ : ∀ h tk m, (∀ b o, b ≠ a.C → a.xc ≠ some b → s.heap.get? b = some o → h.get? b = some o) → s.toks ≤ tk → CRd a h → h.Ns a.C m → (sc'.names.lookup x = some .local → m x = some v) → (∀ c, sc'.names.lookup x = some .cell → a.xc = some c → h.IsCell c (some v)) → Q () { s with heap := h, toks := tk }) :
    wpAny (model prog w) A (storeName (cEnv (relab sc' env.scope) a.C cs env) x v) Q E s := by
  have hlk : (cEnv (relab sc' env.scope) a.C cs env).kindOf x = (sc'.names.lookup x).map fun k => if (k == .free && env.scope.names.lookup x == some .cell) then .cell else k := relab_lookup
  obtain ⟨m, hn⟩ := R.ns
  rcases X.isx with h1 | ⟨h1, c, h2, h3⟩
  · have hl : (cEnv (relab sc' env.scope) a.C cs env).kindOf x = some .local := by rw [hlk, h1]; rfl
    refine wpAny_storeName_local hl hn (fun h' hn' hs => ?_) (by
      show ((relab sc' env.scope).kind == .class || ((relab sc' env.scope).kind == .module && _)) = false
      rw [show (relab sc' env.scope).kind = .function from X.kind]; rfl)
    refine hQ h' _ _ (fun b o hb _ e => hs.extBut b o hb e) (Nat.le_succ _) ⟨⟨_, hn'⟩, fun c hc => ?_⟩ hn' (fun _ => by simp) fun c hc => by rw [h1] at hc; cases hc
    obtain ⟨o, ho⟩ := R.cell c hc
    exact ⟨o, ho.sameBut hs fun e => hCx (by rw [hc, e]; rfl)⟩
  · have hl : (cEnv (relab sc' env.scope) a.C cs env).kindOf x = some .cell := by rw [hlk, h1]; rfl
    obtain ⟨o, ho⟩ := R.cell c h2
    refine wpAny_storeName_cell X.kind hl h3 ho fun h' hc' hs => ?_
    have hne : a.C ≠ c := fun e => hCx (by rw [h2, e])
    refine hQ h' s.toks m (fun b o _ hb e => hs.extBut b o (fun q => hb (by rw [h2, q])) e) (Nat.le_refl _) ⟨⟨m, hn.sameBut hs hne⟩, fun c' hc'' => ?_⟩ (hn.sameBut hs hne) (fun e => by rw [h1] at e; cases e) fun c' _ hc'' => ?_
    · rw [h2] at hc''; cases hc''; exact ⟨_, hc'⟩
    · rw [h2] at hc''; cases hc''; exact hc'

noncomputable def Turn (prog : Program) (w : World) (mg mb : Str → Option Value) (K : Frag) (d : Nat) (ifs : List Expr) (elt : Expr) (env : Env) (ρ : Rho) : Option PV → Prop
  | none => TestsTo prog w mg mb K d ifs env ρ false
  | some y => TestsTo prog w mg mb K d ifs env ρ true ∧ Snd prog w mg mb K d elt env ρ y
theorem comp_loop {sc' : Scope} {x : Str} {px pos : Pos} {a : CAdr} {cs : List (Str × Addr)} {A : Around} {ok : Addr → Prop} {s₁ s₄ : Shared} {elt iter : Expr} {ifs : List Expr} {xs ys : List PV} {F : PV → Option (Option PV)} {P : Nat → Value → Prop} {St : Nat → Heap → Prop} {fp : List Addr} {R : Result → Shared → Prop}
    (X : CFr sc' env x a cs) (N : a.New s₁.heap) (I₁ : Inv mg mb K d A ok s₁ env ρ) (W : Itr prog w A ok s₁.heap a.I xs P St fp) (hCx : a.xc ≠ some a.C) (hDC : a.D ≠ a.C) (hDx : a.xc ≠ some a.D) (hDI : a.D ≠ a.I) (hIC : a.I ≠ a.C) (hIx : a.xc ≠ some a.I)
    (hy : compL F xs = some ys) (hz : xs.length ≤ lim) (hF : ∀ v o, F v = some o → Turn prog w mg mb K d ifs elt (cEnv (relab sc' env.scope) a.C cs env) (rhoC sc' ρ x v) o)
    (hst : St 0 s₄.heap) (hD : ∃ n, s₄.heap.get? a.D = some (lstO [] n)) (R₄ : CRd a s₄.heap) (k₁₄ : Hk s₁.heap s₄.heap) (t₁₄ : s₁.toks ≤ s₄.toks)
    (hR : ∀ h tk ws n, Hk s₁.heap h → s₁.toks ≤ tk → h.get? a.D = some (lstO ws n) → RpAll (a.ok ok) h ws ys → CRd a h → R (.ok .next) { s₄ with heap := h, toks := tk }) :
    codeAny (model prog w) A (.compLoop (.ListComp elt [⟨.Name x px, iter, ifs, 0⟩] sc' pos) 0 (.ref a.I) (.ref a.D) (cEnv (relab sc' env.scope) a.C cs env)) R s₄ := by
  refine codeAny_compLoop_tests
    (fun k s' => ∃ i h tk zs ws n, k = xs.length + 1 - i ∧ i ≤ xs.length ∧ s' = { s₄ with heap := h, toks := tk } ∧ s₁.toks ≤ tk ∧ Hk s₁.heap h ∧ St i h ∧ compL F (xs.take i) = some zs ∧ h.get? a.D = some (lstO ws n) ∧ RpAll (a.ok ok) h ws zs ∧ CRd a h)
    ?_ (xs.length + 1) ⟨0, s₄.heap, s₄.toks, [], [], hD.choose, rfl, Nat.zero_le _, rfl, t₁₄, k₁₄, hst, rfl, hD.choose_spec, .nil, R₄⟩
  rintro k s' ⟨i, h, tk, zs, ws, n, rfl, hi, rfl, htk, hk, hst', hzs, hDo, hws, hR'⟩
  have okin : ∀ h', Hk s₁.heap h' → (∃ o, h'.get? a.D = some o) → (∃ o, h'.get? a.I = some o) → CRd a h' → OkIn (a.ok ok) h' := by
    intro h' k' hd' hi' r' b hb
    refine ⟨I₁.okin.hk k' b hb, ?_, ?_, ?_, ?_⟩
    · rintro rfl; obtain ⟨o, ho⟩ := hd'; rw [ho] at hb; cases hb
    · rintro rfl; obtain ⟨o, ho⟩ := hi'; rw [ho] at hb; cases hb
    · rintro rfl; obtain ⟨m, o, _, _, ho, _⟩ := r'.ns; rw [ho] at hb; cases hb
    · intro hx; obtain ⟨_, o, ho, _⟩ := r'.cell b hx; rw [ho] at hb; cases hb
  by_cases hlt : i < xs.length
  · refine wpAny_with_toks (n := s₁.toks) htk (W.wk.item i _ _ _ hlt hst' fun v h₁ tk₁ hP hst₁ hk₁ htk₁ => ?_)
    dsimp only
    replace htk₁ : s₁.toks ≤ tk₁ := htk₁
    obtain ⟨xv, hxv, rv⟩ := W.it i v hlt hP
    obtain ⟨o, ho⟩ := compL_get hy hxv
    have hki : Hk s₁.heap h₁ := fun b o e => hk₁ b o (by simp; rintro rfl; rw [N.I] at e; cases e) (hk b o e)
    have keepI : ∀ b o, b ≠ a.I → h.get? b = some o → h₁.get? b = some o := fun b o hb e => hk₁ b o (by simpa using hb) e
    have hR₁ : CRd a h₁ := ⟨by obtain ⟨m, hm⟩ := hR'.ns; exact ⟨m, hm.at' fun o e => keepI _ o (Ne.symm hIC) e⟩, fun c hc => by
      obtain ⟨q, o, ho, hd⟩ := hR'.cell c hc
      exact ⟨q, o, keepI c o (fun e => hIx (by rw [hc, e])) ho, hd⟩⟩
    refine wpAny_assign_Name (store_x X hR₁ hCx fun h₂ tk₂ m₂ hk₂ ht₂ hR₂ hn₂ hx₂ hc₂ => ?_)
    dsimp only at ht₂
    have hk₂' : Hk s₁.heap h₂ := fun b o e => hk₂ b o (by rintro rfl; rw [N.C] at e; cases e) (fun q => by rw [N.xc b q] at e; cases e) (hki b o e)
    have D₂ : h₂.get? a.D = some (lstO ws n) := hk₂ _ _ hDC hDx (keepI _ _ hDI hDo)
    have I₂ : ∃ o, h₂.get? a.I = some o := by obtain ⟨o, ho, _⟩ := W.live _ _ hst₁; exact ⟨o, hk₂ _ _ hIC hIx ho⟩
    have st₂ : St (i + 1) h₂ := W.wk.frame _ _ _ hst₁ fun b hb o e => by
      rcases W.fp b hb with rfl | ⟨_, o', ho'⟩
      · exact hk₂ _ _ hIC hIx e
      · exact hk₂ b o (by rintro rfl; rw [N.C] at ho'; cases ho') (fun q => by rw [N.xc b q] at ho'; cases ho') e
    have w₂ : RpAll (a.ok ok) h₂ ws zs := hws.imp fun b o hb e => ⟨hb, hk₂ b o hb.2.2.2.1 hb.2.2.2.2 (keepI b o hb.2.2.1 e)⟩
    have INV : Inv mg mb K d A (a.ok ok) { s₄ with heap := h₂, toks := tk₂ } (cEnv (relab sc' env.scope) a.C cs env) (rhoC sc' ρ x xv) :=
      ⟨I₁.aok, I₁.dd, I₁.base.hk hk₂', okin h₂ hk₂' ⟨_, D₂⟩ I₂ hR₂, Nat.lt_of_lt_of_le I₁.tok (Nat.le_trans htk₁ ht₂), cfr_fm X N I₁.fm hk₂' hn₂ hx₂ hc₂ (N.rp hk₂' rv)⟩
    have T := hF xv o ho
    have hsn : xs.take (i + 1) = xs.take i ++ [xv] := by rw [List.take_succ, hxv]; rfl
    have hzs' : compL F (xs.take (i + 1)) = some (zs ++ o.toList) := by rw [hsn]; exact compL_snoc ho hzs
    -- behind the tests
    have next : ∀ h₃ tk₃ ws₃ n₃, Hk s₁.heap h₃ → s₁.toks ≤ tk₃ → St (i + 1) h₃ → h₃.get? a.D = some (lstO ws₃ n₃) → RpAll (a.ok ok) h₃ ws₃ (zs ++ o.toList) → CRd a h₃ →
        ∃ m, m < xs.length + 1 - i ∧ ∃ i h tk zs ws n, m = xs.length + 1 - i ∧ i ≤ xs.length ∧ ({ s₄ with heap := h₃, toks := tk₃ } : Shared) = { s₄ with heap := h, toks := tk } ∧ s₁.toks ≤ tk ∧ Hk s₁.heap h ∧ St i h ∧ compL F (xs.take i) = some zs ∧ h.get? a.D = some (lstO ws n) ∧ RpAll (a.ok ok) h ws zs ∧ CRd a h :=
      fun h₃ tk₃ ws₃ n₃ e1 e2 e3 e4 e5 e6 => ⟨xs.length + 1 - (i + 1), by omega, i + 1, h₃, tk₃, _, ws₃, n₃, rfl, hlt, rfl, e2, e1, e3, hzs', e4, e5, e6⟩
    have crd : ∀ {h₃}, Hk h₂ h₃ → CRd a h₃ := fun k' => ⟨⟨m₂, hn₂.keeps k'⟩, fun c hc => by obtain ⟨q, hq⟩ := hR₂.cell c hc; exact ⟨q, hq.keeps k'⟩⟩
    cases o with
    | none =>
      refine T A _ _ INV _ _ fun s₃ k₃ t₃ => ?_
      rw [if_neg Bool.false_ne_true]
      obtain ⟨h₃, tk₃, rfl, k₃⟩ := k₃
      exact next h₃ tk₃ ws n (fun b o e => k₃ b o (hk₂' b o e)) (Nat.le_trans htk₁ (Nat.le_trans ht₂ t₃)) (W.wk.frame _ _ _ st₂ fun b _ o e => k₃ b o e) (k₃ _ _ D₂) (by simpa using w₂.hk k₃) (crd k₃)
    | some y =>
      refine T.1 A _ _ INV _ _ fun s₃ k₃ t₃ => ?_
      rw [if_pos rfl]
      refine (T.2 A _ s₃ (INV.kp k₃ t₃)).use fun yv s₅ k₅ t₅ r₅ => ?_
      have k35 := Keeps.tr k₃ k₅
      obtain ⟨h₅, tk₅, rfl, k₅'⟩ := k35
      have k₅'' : Hk h₂ h₅ := k₅'
      have hlen : ws.length ≤ lim := by
        have h1 := hws.length
        have : zs.length ≤ (xs.take i).length := compL_len hzs
        rw [List.length_take] at this
        omega
      refine wpAny_list_append_plain (items := ws.toArray) ⟨n, k₅'' _ _ D₂⟩ (fun h₆ hp₆ hs₆ => ?_) (by rw [sizeLine_eq]; simpa using hlen)
      obtain ⟨n₆, hp₆⟩ := hp₆
      have k₆ : ∀ b o, b ≠ a.D → h₅.get? b = some o → h₆.get? b = some o := fun b o hb e => hs₆.extBut b o hb e
      refine next h₆ _ (ws ++ [yv]) n₆ (fun b o e => k₆ b o (by rintro rfl; rw [N.D] at e; cases e) (k₅'' b o (hk₂' b o e))) (Nat.le_trans htk₁ (Nat.le_trans ht₂ (Nat.le_trans t₃ t₅))) ?_ (by simpa [lstO] using hp₆) ?_ ⟨⟨m₂, (hn₂.keeps k₅'').at' fun o e => k₆ _ o (Ne.symm hDC) e⟩, fun c hc => ?_⟩
      · refine W.wk.frame _ _ _ st₂ fun b hb o e => k₆ b o ?_ (k₅'' b o e)
        rintro rfl
        rcases W.fp _ hb with e' | ⟨_, o', ho'⟩
        · exact hDI e'
        · rw [N.D] at ho'; cases ho'
      · refine RpAll.imp (fun b o hb e => ⟨hb, k₆ b o hb.2.1 e⟩) (RpAll.append (w₂.hk k₅'') (.one r₅))
      · obtain ⟨q, hq⟩ := hR₂.cell c hc
        obtain ⟨o, ho, hd⟩ := hq.keeps k₅''
        exact ⟨q, o, k₆ c o (fun e => hDx (by rw [hc, e])) ho, hd⟩
  · have hin : i = xs.length := by omega
    subst hin
    refine wpAny_with_toks (n := s₁.toks) htk (W.wk.done _ _ _ hst' fun h₁ tk₁ hk₁ htk₁ => ?_)
    have keepI : ∀ b o, b ≠ a.I → h.get? b = some o → h₁.get? b = some o := fun b o hb e => hk₁ b o (by simpa using hb) e
    have e : zs = ys := by rw [List.take_length] at hzs; rw [hy] at hzs; cases hzs; rfl
    subst e
    refine hR h₁ tk₁ ws n (fun b o e => keepI b o (by rintro rfl; rw [N.I] at e; cases e) (hk b o e)) htk₁ (keepI _ _ hDI hDo) (hws.imp fun b o hb e => ⟨hb, keepI b o hb.2.2.1 e⟩) ⟨?_, fun c hc => ?_⟩
    · obtain ⟨m, hm⟩ := hR'.ns; exact ⟨m, hm.at' fun o e => keepI _ o (Ne.symm hIC) e⟩
    · obtain ⟨q, o, ho, hd⟩ := hR'.cell c hc
      exact ⟨q, o, keepI c o (fun e => hIx (by rw [hc, e])) ho, hd⟩

theorem not_set {iter : Expr} (h : ∀ a b c, iter ≠ .Set a b c) (x : Value) : foldedSetIterable iter env x = pure x := by
  unfold foldedSetIterable
  split
  · exact absurd rfl (h _ _ _)
  · rfl
theorem comp_any {sc' : Scope} {x : Str} {px pos cpos : Pos} {A : Around} {ok : Addr → Prop} {s : Shared} {elt iter : Expr} {ifs : List Expr} {it : PV} {xs ys : List PV} {F : PV → Option (Option PV)} {use : Option (Value → Sem Unit)} {Q : Value → Shared → Prop} {E : Value → Shared → Prop}
    (I₀ : Inv mg mb K d A ok s env ρ) (hset : ∀ a b c, iter ≠ .Set a b c) (hi : Snd prog w mg mb K d iter env ρ it) (hxs : items it = some xs) (hfree : freeOk sc' env.scope x = true) (hz : xs.length ≤ lim) (hy : compL F xs = some ys)
    (hF : ∀ C cs v o, F v = some o → Turn prog w mg mb K d ifs elt (cEnv (relab sc' env.scope) C cs env) (rhoC sc' ρ x v) o)
    (hQ : ∀ s' C acc, Keeps s s' → s.toks ≤ s'.toks → s.heap.get? C = none → (∃ m, s'.heap.Ns C m) → Rp (fun b => ok b ∧ b ≠ C) s'.heap acc (.list ys) → compPost (model prog w) A E use Q acc C (.ok .next) s') :
    wpAny (model prog w) A (comprehension (.ListComp elt [⟨.Name x px, iter, ifs, 0⟩] sc' pos) sc' env cpos (newList []) false (eval iter env) use) Q E s := by
  simp only [freeOk, Bool.and_eq_true, beq_iff_eq, List.all_eq_true, Bool.or_eq_true, bne_iff_ne, ne_eq] at hfree
  obtain ⟨⟨hkind, hx⟩, hall⟩ := hfree
  have hcl0 : ∀ y ∈ sc'.names, y.2 = .free → ∃ c, env.cells.lookup y.1 = some c := fun y hy' he => by
    rcases (hall y hy').1.1 with h | h
    · exact absurd he h
    · exact I₀.fm.cells y.1 h
  refine wpAny_comprehension_free (cl := clOf env sc'.names []) rfl (not_set hset) (clo_ok hcl0) hkind (fun y hy' he => by
    rcases (hall y hy').1.2 with h | h
    · exact absurd he h
    · exact h) ?_
  refine (hi A ok s I₀).use fun xv s₁ k₁ t₁ r₁ => ?_
  have I₁ := I₀.kp k₁ t₁
  refine wpAny_with_toks (n := s₁.toks) (Nat.le_refl _) (iter_ok I₁.aok r₁ hxs _ _ fun I P St fp s₂ hI k₂ hst hIl W t₂ => ?_)
  refine wpAny_newObj_type (newEnv_ok ?_)
  obtain ⟨h₂, tk₂, rfl, k₂⟩ := k₂
  dsimp only at hst hIl t₂ ⊢
  have szP : (h₂.push { cls := .type "list", dict := none, data := .seq ([] : List Value).toArray }).objs.size = h₂.objs.size + 1 := Heap.size_push ..
  have szP2 : ((h₂.push { cls := .type "list", dict := none, data := .seq ([] : List Value).toArray }).push { cls := .type "dict", data := .dict #[] }).objs.size = h₂.objs.size + 1 + 1 := by rw [Heap.size_push, szP]
  generalize hP : h₂.push { cls := .type "list", dict := none, data := .seq ([] : List Value).toArray } = hp at szP szP2 ⊢
  generalize hP2 : hp.push { cls := .type "dict", data := .dict #[] } = hp2 at szP2 ⊢
  have kp : Hk h₂ hp := by rw [← hP]; exact hk_push _ _
  have kp2 : Hk hp hp2 := by rw [← hP2]; exact hk_push _ _
  have kp3 : Hk hp2 (pushCells hp2 sc'.names) := pushCells_keeps _ _
  have hcells := cells_own x sc'.names hp2 (clOf env sc'.names []) (fun p hp' he => by
    rcases (hall p hp').2 with h | h
    · exact absurd he h
    · exact h)
  rw [szP2] at hcells
  rw [szP]
  have fr : ∀ b, h₂.objs.size ≤ b → s₁.heap.get? b = none := fun b hb => by
    cases e : s₁.heap.get? b with
    | none => rfl
    | some o =>
      have hlt : b < h₂.objs.size := Heap.lt_size (k₂ b o e)
      exact absurd hb (Nat.not_le.mpr hlt)
  have hIlt : I < h₂.objs.size := by obtain ⟨o, ho⟩ := hIl; exact Heap.lt_size ho
  have Dat : hp.get? h₂.objs.size = some (lstO [] 0) := by rw [← hP]; exact Heap.get?_push_size _ rfl
  have Cat : hp2.Ns (h₂.objs.size + 1) (fun _ => none) := by
    rw [← hP2, ← szP]; exact Heap.Ns.new _ _
  rw [relabel_eq I₀.fm.kind]
  -- its own cell, if it has one
  have key : ∃ a : CAdr, a.D = h₂.objs.size ∧ a.I = I ∧ a.C = h₂.objs.size + 1 ∧ a.New s₁.heap ∧ CFr sc' env x a (cellsFrom (h₂.objs.size + 1 + 1) sc'.names (clOf env sc'.names [])) ∧
      (∀ c, a.xc = some c → h₂.objs.size + 1 + 1 ≤ c ∧ (pushCells hp2 sc'.names).IsCell c none) := by
    have hclo : ∀ n, n ≠ x → sc'.names.lookup n = some .free → env.scope.names.lookup n = some .cell ∧ ∃ c, (cellsFrom (h₂.objs.size + 1 + 1) sc'.names (clOf env sc'.names [])).lookup n = some c ∧ env.cells.lookup n = some c := fun n hn he => by
      have hm := PySem.mem_of_lookup he
      refine ⟨?_, ?_⟩
      · rcases (hall _ hm).1.1 with h | h
        · exact absurd rfl h
        · exact h
      · obtain ⟨c, hc⟩ := clOf_has sc'.names [] n (.inl hm)
        exact ⟨c, by rw [hcells.1 n hn]; exact hc, clOf_sound sc'.names [] hcl0 (fun _ _ e => by simp at e) n c hc⟩
    have hcel : ∀ n, sc'.names.lookup n = some .cell → n = x := fun n he => by
      rcases (hall _ (PySem.mem_of_lookup he)).2 with h | h
      · exact absurd rfl h
      · exact h
    rcases hx with hx | hx
    · exact ⟨⟨h₂.objs.size, I, h₂.objs.size + 1, none⟩, rfl, rfl, rfl, ⟨fr _ (Nat.le_refl _), hI, fr _ (Nat.le_succ _), fun _ e => by cases e⟩, ⟨hkind, .inl hx, hclo, hcel⟩, fun _ e => by cases e⟩
    · rcases hcells.2 with ⟨_, c, e1, e2, e3⟩ | ⟨e1, _⟩
      · exact ⟨⟨h₂.objs.size, I, h₂.objs.size + 1, some c⟩, rfl, rfl, rfl, ⟨fr _ (Nat.le_refl _), hI, fr _ (Nat.le_succ _), fun c' e => by cases e; exact fr _ (Nat.le_trans (Nat.le_trans (Nat.le_succ _) (Nat.le_succ _)) e2)⟩, ⟨hkind, .inr ⟨hx, c, rfl, e1⟩, hclo, hcel⟩, fun c' e => by cases e; exact ⟨e2, e3⟩⟩
      · exact absurd (PySem.mem_of_lookup hx) e1
  obtain ⟨a, aD, aI, aC, N, X, hxc⟩ := key
  have xne : ∀ b, b < h₂.objs.size + 1 + 1 → a.xc ≠ some b := fun b hb e => absurd (hxc b e).1 (Nat.not_le.mpr hb)
  have hR₄ : CRd a (pushCells hp2 sc'.names) := ⟨⟨_, by rw [aC]; exact Cat.keeps kp3⟩, fun c hc => ⟨_, (hxc c hc).2⟩⟩
  have k14 : Hk s₁.heap (pushCells hp2 sc'.names) := fun b o e => kp3 b o (kp2 b o (kp b o (k₂ b o e)))
  have st4 : St 0 (pushCells hp2 sc'.names) := W.wk.frame _ _ _ hst fun b _ o e => kp3 b o (kp2 b o (kp b o e))
  have aC2 : h₂.objs.size + 1 + 1 = a.C + 1 := by rw [aC]
  rw [aC2] at X
  have xD := xne h₂.objs.size (Nat.lt_succ_of_lt (Nat.lt_succ_self _))
  have xC := xne (h₂.objs.size + 1) (Nat.lt_succ_self _)
  have xI := xne I (Nat.lt_succ_of_lt (Nat.lt_succ_of_lt hIlt))
  rw [← aD] at xD
  rw [← aC] at xC
  rw [← aI] at xI
  have hDC : a.D ≠ a.C := by rw [aD, aC]; exact Nat.ne_of_lt (Nat.lt_succ_self _)
  have hDI : a.D ≠ a.I := by rw [aD, aI]; exact Nat.ne_of_gt hIlt
  have hIC : a.I ≠ a.C := by rw [aI, aC]; exact Nat.ne_of_lt (Nat.lt_succ_of_lt hIlt)
  rw [show h₂.objs.size + 1 = a.C from aC.symm, ← aD, ← aI]
  subst aI
  have loop := comp_loop (elt := elt) (iter := iter) (ifs := ifs) (px := px) (pos := pos) (s₄ := { s₁ with heap := pushCells hp2 sc'.names, toks := tk₂ }) (R := compPost (model prog w) A E use Q (.ref a.D) a.C) X N I₁ W xC hDC xD hDI hIC xI hy hz (fun v o => hF _ _ v o) st4 ⟨0, by rw [aD]; exact kp3 _ _ (kp2 _ _ Dat)⟩ hR₄ k14 t₂ fun h tk ws n hk htk hD hw hr => ?_
  · exact codeAny_compStart_list loop (W.wk.self 0 _ _ _ st4 loop)
  · have kk : Keeps s₁ { s₁ with heap := h, toks := tk } := Keeps.of hk
    refine hQ { s₁ with heap := h, toks := tk } a.C (.ref a.D) (Keeps.tr k₁ kk) (Nat.le_trans t₁ htk) ?_ hr.ns ?_
    · cases e : s.heap.get? a.C with
      | none => rfl
      | some o => have := Keeps.hk k₁ _ _ e; rw [N.C] at this; cases this
    · exact .list ⟨I₁.okin _ N.D, hDC⟩ hD (hw.imp fun b o hb e => ⟨⟨hb.1, hb.2.2.2.1⟩, e⟩)
end
end Mine
end
section
open PySem PySem.W PyProof.Rows PySem.Calls
set_option maxRecDepth 100000
namespace Mine
section
variable {prog : Program} {w : World} {mg mb : Str → Option Value} {K : Frag} {d : Nat} {env : Env} {ρ : Rho}

theorem snd_ListComp {sc' : Scope} {x : Str} {px pos : Pos} {elt iter : Expr} {ifs : List Expr} {it : PV} {xs ys : List PV} {F : PV → Option (Option PV)}
    (hset : ∀ a b c, iter ≠ .Set a b c) (hi : Snd prog w mg mb K d iter env ρ it) (hxs : items it = some xs) (hfree : freeOk sc' env.scope x = true) (hz : xs.length ≤ lim) (hy : compL F xs = some ys)
    (hF : ∀ C cs v o, F v = some o → Turn prog w mg mb K d ifs elt (cEnv (relab sc' env.scope) C cs env) (rhoC sc' ρ x v) o) :
    Snd prog w mg mb K d (.ListComp elt [⟨.Name x px, iter, ifs, 0⟩] sc' pos) env ρ (.list ys) := by
  intro A ok s I Q E hQ
  rw [eval_ListComp]
  refine comp_any (use := none) I hset hi hxs hfree hz hy hF fun s' C acc k t hC hn r => ?_
  obtain ⟨m, hn⟩ := hn
  obtain ⟨h₁, tk, rfl, k'⟩ := k
  exact ⟨m, hn, fun h' hs => hQ _ _ (Keeps.of fun b o e => hs.extBut b o (by rintro rfl; rw [hC] at e; cases e) (k' b o e)) (r.imp fun b o hb e => ⟨hb.1, hs.extBut b o hb.2 e⟩)⟩

theorem boolOf_inv {o : Option PV} {b : Bool} (h : boolOf o = some b) : o = some (.bool b) := by
  cases o with
  | none => exact noneF h
  | some v => cases v with
    | bool c => cases h; rfl
    | _ => exact noneF h
theorem ownOf_inv {sc : Scope} {e : Expr} {xs : List PV} (h : ownOf sc ρ e = some xs) : ∃ y p, e = .Name y p ∧ (y == ("__debug__" : Str)) = false ∧ sc.names.lookup y = some .local ∧ ρ.lookup y = some (.own xs) := by
  cases e with
  | Name y p =>
    unfold ownOf at h
    dsimp only at h
    split at h
    · exact noneF h
    · rename_i hd
      split at h
      · rename_i h1 h2
        cases h
        exact ⟨y, p, rfl, by simpa using hd, h1, h2⟩
      · exact noneF h
  | _ => exact noneF h
theorem some_of {α β : Type} {o : Option α} {f : α → Option β} {z : β} (h : o.bind f = some z) : ∃ a, o = some a ∧ f a = some z := Option.bind_eq_some_iff.mp h
theorem ite_some {c : Bool} {α : Type} {o : Option α} {z : α} (h : (if c = true then none else o) = some z) : c = false ∧ o = some z := by
  cases c with
  | true => exact noneF h
  | false => exact ⟨rfl, h⟩
theorem cmpE_inv {f : Expr → Option PV} {l : Expr} {ops : List CmpOp} {rs : List Expr} {b : Bool} (h : cmpE f l ops rs = some b) :
    ∃ op r x y, ops = [op] ∧ rs = [r] ∧ f l = some x ∧ f r = some y ∧ cmpop op x y = some b ∧ behindInMarks op r = false := by
  match ops, rs, h with
  | [op], [r], h =>
    rw [cmpE_bd] at h
    obtain ⟨h0, h⟩ := ite_some h
    obtain ⟨x, h1, h⟩ := some_of h
    obtain ⟨y, h2, h⟩ := some_of h
    exact ⟨op, r, x, y, rfl, rfl, h1, h2, h, h0⟩
theorem name_snd {T : Tab} (hT : TabOk prog w mg mb K d T) {y : Str} {p : Pos} {x : PV} (h : evName T env.scope ρ y = some x) : Snd prog w mg mb K d (.Name y p) env ρ x := by
  unfold evName at h
  rw [lkS_eq, lkS_eq, eqS_eq] at h
  obtain ⟨hd, h⟩ := ite_some h
  cases h1 : env.scope.names.lookup y with
  | none => rw [h1] at h; exact noneF h
  | some k =>
  rw [h1] at h
  have bd : (env.kindOf y = some .local ∨ env.kindOf y = some .cell) → valOf (ρ.lookup y) = some x → Snd prog w mg mb K d (.Name y p) env ρ x := fun hk h => by
    cases h2 : ρ.lookup y with
    | none => rw [h2] at h; exact noneF h
    | some b =>
      rw [h2] at h
      cases b with
      | own _ => exact noneF h
      | val v => cases h; exact fun A ok s I Q E hQ => name_bd I hk hd h2 fun u r => hQ _ _ (Keeps.rfl' s) r
  cases k with
  | «local» => exact bd (.inl h1) h
  | cell => exact bd (.inr h1) h
  | globalImplicit =>
    obtain ⟨val, hg, hr⟩ := hT.glob _ _ h
    exact fun A ok s I Q E hQ => name_glb I h1 hd hg (hQ _ _ (Keeps.rfl' s) (hr _ _))
  | _ => exact noneF h
theorem sub_snd {T : Tab} {n : Nat} (hT : TabOk prog w mg mb K d T) (ihE : ∀ (env : Env) ρ e x, evE T n env.scope ρ e = some x → Snd prog w mg mb K d e env ρ x) (ihW : ∀ (env : Env) ρ e x, evW T n env.scope ρ e = some x → SndW prog w mg mb K d e env ρ x)
    {v i : Expr} {p : Pos} {x : PV} (h : evE T (n + 1) env.scope ρ (.Subscript v i p) = some x) : Snd prog w mg mb K d (.Subscript v i p) env ρ x := by
  cases hs : sliceOf i with
  | some t =>
    obtain ⟨lo, hi, st⟩ := t
    have hi : ∃ p', i = .Slice lo hi st p' := by
      cases i with
      | Slice a b c p' => cases hs; exact ⟨_, rfl⟩
      | _ => exact noneF hs
    obtain ⟨p', rfl⟩ := hi
    rw [evE_part] at h
    obtain ⟨xs, h1, h⟩ := some_of h
    obtain ⟨a, h2, h⟩ := some_of h
    obtain ⟨b, h3, h⟩ := some_of h
    obtain ⟨c, h4, h⟩ := some_of h
    have h1 : evW T n env.scope ρ v = some (.list xs) := by
      cases e : evW T n env.scope ρ v with
      | none => rw [e] at h1; exact noneF h1
      | some u =>
        rw [e] at h1
        cases u with
        | list l => cases h1; rfl
        | _ => exact noneF h1
    unfold sliceP at h
    split at h
    · exact noneF h
    · rename_i hc
      cases h
      simp only [not_or, Decidable.not_not] at hc
      exact snd_Slice (fun e x => ihE env ρ e x) (ihW _ _ _ _ h1) h2 h3 h4 hc.1 hc.2
  | none =>
    rw [evE_item hs] at h
    obtain ⟨y, h2, h⟩ := some_of h
    cases hg : globOf env.scope v with
    | some g =>
      rw [hg] at h
      have hv : ∃ p', v = .Name g p' ∧ (g == ("__debug__" : Str)) = false ∧ env.kindOf g = some .globalImplicit := by
        cases v with
        | Name g' p' =>
          unfold globOf at hg
          dsimp only at hg
          rw [lkS_eq, eqS_eq] at hg
          obtain ⟨hd, hg⟩ := ite_some hg
          split at hg
          · rename_i hk
            cases hg
            exact ⟨p', rfl, hd, beq_iff_eq.mp hk⟩
          · exact noneF hg
        | _ => exact noneF hg
      obtain ⟨p', rfl, hd, hk⟩ := hv
      exact snd_sub hT hk hd (ihE _ _ _ _ h2) h
    | none =>
      rw [hg] at h
      obtain ⟨u, h3, h⟩ := some_of h
      exact snd_item (ihW _ _ _ _ h3) (ihE _ _ _ _ h2) h
theorem replOf_inv {m : Str} {es : List Expr} {a b : Str} (h : replOf m es = some (a, b)) : m = ("replace" : Str) ∧ ∃ k1 p1 k2 p2, es = [.Constant (.str a) k1 p1, .Constant (.str b) k2 p2] := by
  match es, h with
  | [e1, e2], h =>
    unfold replOf at h
    dsimp only at h
    split at h
    · rename_i hm
      rw [eqS_eq] at hm
      obtain ⟨x, h1, h⟩ := some_of h
      obtain ⟨y, h2, h⟩ := some_of h
      cases h
      have sa : ∀ {e : Expr} {x : Str}, strArg e = some x → ∃ k p, e = .Constant (.str x) k p := fun {e x} h => by
        cases e with
        | Constant c k p => cases c with
          | str a => cases h; exact ⟨k, p, rfl⟩
          | _ => exact noneF h
        | _ => exact noneF h
      obtain ⟨k1, p1, rfl⟩ := sa h1
      obtain ⟨k2, p2, rfl⟩ := sa h2
      exact ⟨beq_iff_eq.mp hm, k1, p1, k2, p2, rfl⟩
    · exact noneF h
theorem call_snd {T : Tab} {n : Nat} (hT : TabOk prog w mg mb K d T) (ihE : ∀ (env : Env) ρ e x, evE T n env.scope ρ e = some x → Snd prog w mg mb K d e env ρ x)
    {f : Expr} {args : List Expr} {ks : List Keyword} {pos : Pos} {x : PV} (h : evE T (n + 1) env.scope ρ (.Call f args ks pos) = some x) : Snd prog w mg mb K d (.Call f args ks pos) env ρ x := by
  cases ks with
  | cons a b => exact noneF h
  | nil =>
    cases f with
    | Name f p =>
      rw [evE_fn] at h
      rw [lkS_eq, eqS_eq] at h
      obtain ⟨hc, h⟩ := ite_some h
      obtain ⟨hc, h2⟩ := Bool.or_eq_false_iff.mp hc
      obtain ⟨hd, hs⟩ := Bool.or_eq_false_iff.mp hc
      obtain ⟨xs, h1, h⟩ := some_of h
      rw [forceVs_eq] at h
      exact snd_fn hT (fun e x => ihE env ρ e x) (bne_eq_false_iff_eq.mp h2) hd hs h1 h
    | Attribute o m apos =>
      rw [evE_mth] at h
      obtain ⟨hc, h⟩ := ite_some h
      obtain ⟨hc, hl⟩ := Bool.or_eq_false_iff.mp hc
      obtain ⟨hc, hn⟩ := Bool.or_eq_false_iff.mp hc
      obtain ⟨hs, hp⟩ := Bool.or_eq_false_iff.mp hc
      have hp : plainBase o = true := by simpa using hp
      have hl : (apos.endLine == pos.line) = true := by simpa using hl
      cases hr : replOf m args with
      | some ab =>
        obtain ⟨a, b⟩ := ab
        rw [hr] at h
        obtain ⟨rfl, k1, p1, k2, p2, rfl⟩ := replOf_inv hr
        cases e : evE T n env.scope ρ o with
        | none => rw [e] at h; exact noneF h
        | some u =>
          rw [e] at h
          cases u with
          | str z =>
            unfold replP at h
            dsimp only at h
            split at h
            · rename_i hz
              cases h
              rw [← show Txt.replace z a b = strOfL (repl a.cps.toList b.cps.toList 0 z.cps.toList) from replace_eq z a b hz.2.2]
              exact snd_replace (ihE _ _ _ _ e) hp hl hz.1 hz.2.1
            · exact noneF h
          | _ => exact noneF h
      | none =>
        rw [hr] at h
        obtain ⟨u, h1, h⟩ := some_of h
        obtain ⟨xs, h2, h⟩ := some_of h
        exact snd_mth hT (fun e x => ihE env ρ e x) (ihE _ _ _ _ h1) hp (by simpa using hn) hl hs h2 h
    | _ => exact noneF h
/-- what a comprehension says -/
theorem comp_inv {T : Tab} {n : Nat} {elt : Expr} {gens : List Comprehension} {sc' : Scope} {pos : Pos} {sc : Scope} {x : PV} (h : evE T (n + 1) sc ρ (.ListComp elt gens sc' pos) = some x) :
    ∃ y px iter ifs it xs ys, gens = [⟨.Name y px, iter, ifs, 0⟩] ∧ x = .list ys ∧ isSetE iter = false ∧ evE T n sc ρ iter = some it ∧ items it = some xs ∧ freeOk sc' sc y = true ∧ xs.length ≤ lim ∧
      compL (fun v => turnE T n (relab sc' sc) (rhoC sc' ρ y v) ifs elt) xs = some ys := by
  cases hg : genOf gens with
  | none =>
    rw [evE_lc0 hg] at h
    exact noneF h
  | some t =>
    obtain ⟨y, iter, ifs⟩ := t
    obtain ⟨px, rfl⟩ : ∃ px, gens = [⟨.Name y px, iter, ifs, 0⟩] := by
      cases gens with
      | nil => exact noneF hg
      | cons g r => cases r with
        | cons _ _ => exact noneF hg
        | nil =>
          obtain ⟨t, it, fs, as⟩ := g
          cases t with
          | Name z pz =>
            unfold genOf at hg
            dsimp only at hg
            split at hg
            · rename_i ha
              cases hg
              cases beq_iff_eq.mp ha
              exact ⟨pz, rfl⟩
            · exact noneF hg
          | _ => exact noneF hg
    rw [evE_lc hg] at h
    simp only [relabF_eq, freeOkF_eq, rhoCF_eq] at h
    obtain ⟨it, h1, h⟩ := some_of h
    obtain ⟨hi, h1⟩ := ite_some h1
    obtain ⟨xs, h2, h⟩ := some_of h
    split at h
    · rename_i hc
      obtain ⟨c1, c2⟩ := Bool.and_eq_true_iff.mp hc
      obtain ⟨ys, hy, rfl⟩ := Option.map_eq_some_iff.mp h
      exact ⟨y, px, iter, ifs, it, xs, ys, rfl, rfl, hi, h1, h2, c1, of_decide_eq_true c2, hy⟩
    · exact noneF h
theorem not_set_of {e : Expr} (h : isSetE e = false) : ∀ a b c, e ≠ .Set a b c := fun a b c q => by subst q; cases h
theorem turn_of {T : Tab} {n : Nat} (ihE : ∀ (env : Env) ρ e x, evE T n env.scope ρ e = some x → Snd prog w mg mb K d e env ρ x) (ihT : ∀ (env : Env) ρ e x, evT T n env.scope ρ e = some x → SndT prog w mg mb K d e env ρ x)
    {env' : Env} {sc : Scope} {ρ' : Rho} {ifs : List Expr} {elt : Expr} {o : Option PV} (es : env'.scope = sc) (hv : turnE T n sc ρ' ifs elt = some o) : Turn prog w mg mb K d ifs elt env' ρ' o := by
  subst es
  unfold turnE at hv
  cases h3 : allT (evT T n env'.scope ρ') ifs with
  | none => rw [h3] at hv; exact noneF hv
  | some c =>
    rw [h3] at hv
    cases c with
    | true =>
      obtain ⟨y, h4, rfl⟩ := Option.map_eq_some_iff.mp hv
      exact ⟨tests_snd (fun e x h => ihT env' _ e x h) h3, ihE env' _ _ _ h4⟩
    | false =>
      cases hv
      exact tests_snd (fun e x h => ihT env' _ e x h) h3
theorem ev_snd {T : Tab} (hT : TabOk prog w mg mb K d T) : ∀ n, (∀ (env : Env) ρ e x, evE T n env.scope ρ e = some x → Snd prog w mg mb K d e env ρ x) ∧
    (∀ (env : Env) ρ e x, evW T n env.scope ρ e = some x → SndW prog w mg mb K d e env ρ x) ∧ (∀ (env : Env) ρ e x, evT T n env.scope ρ e = some x → SndT prog w mg mb K d e env ρ x)
  | 0 => ⟨fun env ρ e x h => noneF h, fun env ρ e x h => noneF h, fun env ρ e x h => noneF h⟩
  | n + 1 => by
    obtain ⟨ihE, ihW, ihT⟩ := ev_snd hT n
    refine ⟨fun env ρ e x h => ?_, fun env ρ e x h => ?_, fun env ρ e x h => ?_⟩
    · cases e with
      | Constant c k p => exact snd_const h
      | Name y p => exact name_snd hT h
      | BinOp l op r p =>
        rw [evE_BinOp] at h
        obtain ⟨a, h1, h⟩ := some_of h
        obtain ⟨b, h2, h⟩ := some_of h
        exact snd_BinOp (ihE _ _ _ _ h1) (ihE _ _ _ _ h2) h
      | UnaryOp op y p =>
        cases op with
        | USub =>
          have h : negP (evE T n env.scope ρ y) = some x := h
          cases e : evE T n env.scope ρ y with
          | none => rw [e] at h; exact noneF h
          | some u =>
            rw [e] at h
            cases u with
            | int i => cases h; exact snd_neg (ihE _ _ _ _ e)
            | _ => exact noneF h
        | _ => exact noneF h
      | Compare l ops rs p =>
        obtain ⟨b, h', rfl⟩ := Option.map_eq_some_iff.mp (show (cmpE (evW T n env.scope ρ) l ops rs).map PV.bool = some x from h)
        obtain ⟨op, r, y, z, rfl, rfl, h1, h2, h3, h4⟩ := cmpE_inv h'
        exact snd_Compare (ihW _ _ _ _ h1) (ihW _ _ _ _ h2) h3 h4
      | IfExp t b o p =>
        rw [evE_IfExp] at h
        obtain ⟨c, h1, h⟩ := some_of h
        cases c with
        | true => exact snd_IfExp (ihT _ _ _ _ h1) (ihE _ _ _ _ h)
        | false => exact snd_IfExp (ihT _ _ _ _ h1) (ihE _ _ _ _ h)
      | List es p =>
        rw [evE_List] at h
        obtain ⟨hs, h⟩ := ite_some h
        obtain ⟨xs, h1, h⟩ := some_of h
        split at h
        · rename_i hz
          cases h
          exact snd_List (fun e x => ihE env ρ e x) h1 hs hz
        · exact noneF h
      | Tuple es k p =>
        rw [evE_Tuple] at h
        obtain ⟨hs, h⟩ := ite_some h
        obtain ⟨xs, h1, h⟩ := some_of h
        split at h
        · rename_i hz
          cases h
          exact snd_Tuple (fun e x => ihE env ρ e x) h1 hs hz
        · exact noneF h
      | Subscript v i p => exact sub_snd hT ihE ihW h
      | Call f as ks p => exact call_snd hT ihE h
      | ListComp elt gens sc' p =>
        obtain ⟨y, px, iter, ifs, it, xs, ys, rfl, rfl, hi, h1, h2, c1, c2, hy⟩ := comp_inv h
        exact snd_ListComp (not_set_of hi) (ihE _ _ _ _ h1) h2 c1 c2 hy fun C cs v o hv => turn_of ihE ihT (env' := cEnv (relab sc' env.scope) C cs env) rfl hv
      | _ => exact noneF h
    · have h : (match ownOfF env.scope ρ e with | some xs => some (.list xs) | none => evE T n env.scope ρ e) = some x := h
      rw [ownOfF_eq] at h
      cases ho : ownOf env.scope ρ e with
      | none => rw [ho] at h; exact (ihE _ _ _ _ h).toW
      | some xs =>
        rw [ho] at h
        cases h
        obtain ⟨y, p, rfl, hd, h1, h2⟩ := ownOf_inv ho
        refine fun A ok s I Q E hQ => name_bd I (.inl h1) hd h2 fun u r => hQ _ _ (Keeps.rfl' s) (Nat.le_refl _) (.inr ?_)
        obtain ⟨a, vs, n, e, hn, ho, hr⟩ := r
        exact ⟨a, vs, _, n, e, rfl, ho, hr⟩
    · cases e with
      | BoolOp op vs p =>
        cases op with
        | And => exact sndT_And (fun e x => ihT env ρ e x) h
        | Or => exact sndT_Or (fun e x => ihT env ρ e x) h
      | UnaryOp op y p =>
        cases op with
        | Not =>
          obtain ⟨b, h', rfl⟩ := Option.map_eq_some_iff.mp (show (evT T n env.scope ρ y).map (!·) = some x from h)
          exact sndT_Not (ihT _ _ _ _ h')
        | _ => exact noneF h
      | Compare l ops rs p =>
        obtain ⟨op, r, y, z, rfl, rfl, h1, h2, h3, h4⟩ := cmpE_inv h
        exact sndT_Compare (ihW _ _ _ _ h1) (ihW _ _ _ _ h2) h3 h4
      | Call f as ks p => exact sndT_Call (ihE _ _ _ _ (boolOf_inv h))
      | Subscript v i p => exact sndT_Subscript (ihE _ _ _ _ (boolOf_inv h))
      | _ => exact noneF h
end
end Mine
end
section
open PySem PySem.W PyProof.Rows PySem.Calls
set_option maxRecDepth 100000
namespace Mine

inductive Fl where
  | next
  | ret (x : PV)

noncomputable def setR : Rho → Str → Bd → Rho
  | [], x, v => [(x, v)]
  | (y, b) :: r, x, v => if y == x then (x, v) :: r else (y, b) :: setR r x v
theorem setR_lookup (ρ : Rho) (x : Str) (v : Bd) (y : Str) : (setR ρ x v).lookup y = if y = x then some v else ρ.lookup y := by
  induction ρ with
  | nil =>
    unfold setR
    rw [List.lookup_cons]
    by_cases h : y = x
    · simp [h]
    · have : (y == x) = false := beq_eq_false_iff_ne.mpr h
      simp [h, this]
  | cons p r ih =>
    obtain ⟨z, b⟩ := p
    unfold setR
    by_cases hz : (z == x) = true
    · rw [if_pos hz, List.lookup_cons, List.lookup_cons]
      have e := beq_iff_eq.mp hz
      subst e
      by_cases h : y = z
      · simp [h]
      · have : (y == z) = false := beq_eq_false_iff_ne.mpr h
        simp [h, this]
    · rw [if_neg hz, List.lookup_cons, List.lookup_cons, ih]
      by_cases h : y = x
      · subst h
        have : (y == z) = false := by
          rw [beq_eq_false_iff_ne]
          exact fun e => hz (by rw [e, beq_self_eq_true])
        simp [this]
      · simp [h]

/-- the frame of a call, in the middle of its body -/
structure FS (ok : Addr → Prop) (base h : Heap) (env : Env) (ρ : Rho) (m : Str → Option Value) : Prop where
  kind : env.scope.kind = .function
  gl : env.globals = mainGlobals
  bl : env.builtins = builtinsNs
  cells : ∀ n, env.kindOf n = some .cell → ∃ c, env.cells.lookup n = some c
  ns : h.Ns env.locals m
  loc : ∀ x v, ρ.lookup x = some (.val v) → env.kindOf x = some .local → ∃ u, m x = some u ∧ Rp ok h u v
  own : ∀ x xs, ρ.lookup x = some (.own xs) → env.kindOf x = some .local ∧ ∃ a vs n, m x = some (.ref a) ∧ base.get? a = none ∧ ¬ ok a ∧ h.get? a = some (lstO vs n) ∧ RpAll ok h vs xs
  ownD : ∀ x y xs ys a, x ≠ y → ρ.lookup x = some (.own xs) → ρ.lookup y = some (.own ys) → m x = some (.ref a) → m y ≠ some (.ref a)
  cel : ∀ x v c, ρ.lookup x = some (.val v) → env.kindOf x = some .cell → env.cells.lookup x = some c → ∃ u, h.IsCell c (some u) ∧ Rp ok h u v
  Lnew : base.get? env.locals = none
  Lok : ¬ ok env.locals
  cnew : ∀ n c, env.cells.lookup n = some c → base.get? c = none ∧ ¬ ok c ∧ ∃ o, h.IsCell c o
  apart : ∀ n n' c, env.cells.lookup n = some c → env.cells.lookup n' = some c → n = n'
  keep : Hk base h

theorem ns_not_list {h : Heap} {L : Addr} {m : Str → Option Value} {vs : List Value} {n : Nat} (hn : h.Ns L m) : h.get? L ≠ some (lstO vs n) := by
  intro e
  obtain ⟨o, es, ep, ho, hd, _⟩ := hn
  rw [e] at ho; cases ho; cases hd
theorem cell_not_list {h : Heap} {c : Addr} {v : Option Value} {vs : List Value} {n : Nat} (hc : h.IsCell c v) : h.get? c ≠ some (lstO vs n) := by
  intro e
  obtain ⟨o, ho, hd⟩ := hc
  rw [e] at ho; cases ho; cases hd
theorem cell_not_ns {h : Heap} {c : Addr} {v : Option Value} {m : Str → Option Value} (hc : h.IsCell c v) (hn : h.Ns c m) : False := by
  obtain ⟨o, ho, hd⟩ := hc
  obtain ⟨o', es, ep, ho', hd', _⟩ := hn
  rw [ho] at ho'; cases ho'; rw [hd] at hd'; cases hd'

section
variable {mg mb : Str → Option Value} {K : Frag} {d : Nat} {env : Env} {ρ : Rho} {ok : Addr → Prop} {base : Heap} {m : Str → Option Value}
theorem FS.fm {h : Heap} (F : FS ok base h env ρ m) : Fm ok h env ρ := by
  refine ⟨F.kind, F.gl, F.bl, F.cells, ⟨m, F.ns, fun x bd e hk => ?_⟩, fun x bd c e hk hc => ?_⟩
  · cases bd with
    | val v => exact F.loc x v e hk
    | own xs =>
      obtain ⟨_, a, vs, n, h1, h2, h3, h4, h5⟩ := F.own x xs e
      exact ⟨_, h1, a, vs, n, rfl, h3, h4, h5⟩
  · cases bd with
    | val v => exact F.cel x v c e hk hc
    | own xs => have := (F.own x xs e).1; rw [hk] at this; cases this
theorem FS.hk {h h' : Heap} (F : FS ok base h env ρ m) (k : Hk h h') : FS ok base h' env ρ m where
  kind := F.kind
  gl := F.gl
  bl := F.bl
  cells := F.cells
  ns := F.ns.keeps k
  loc := fun x v e hk => by obtain ⟨u, h1, h2⟩ := F.loc x v e hk; exact ⟨u, h1, h2.hk k⟩
  own := fun x xs e => by
    obtain ⟨h0, a, vs, n, h1, h2, h3, h4, h5⟩ := F.own x xs e
    exact ⟨h0, a, vs, n, h1, h2, h3, k _ _ h4, h5.hk k⟩
  ownD := F.ownD
  cel := fun x v c e hk hc => by obtain ⟨u, h1, h2⟩ := F.cel x v c e hk hc; exact ⟨u, h1.keeps k, h2.hk k⟩
  Lnew := F.Lnew
  Lok := F.Lok
  cnew := fun n c e => by obtain ⟨h1, h2, o, h3⟩ := F.cnew n c e; exact ⟨h1, h2, o, h3.keeps k⟩
  apart := F.apart
  keep := fun b o e => k b o (F.keep b o e)

theorem FS.apartOk {h : Heap} {b : Addr} (F : FS ok base h env ρ m) (hb : ok b) : b ≠ env.locals ∧ ∀ n, env.cells.lookup n ≠ some b :=
  ⟨by rintro rfl; exact F.Lok hb, fun n e => (F.cnew n b e).2.1 hb⟩
/-- a name is stored -/
theorem FS.store {prog : Program} {w : World} {A : Around} {s : Shared} {x : Str} {u : Value} {v : PV} {Q : Unit → Shared → Prop} {E : Value → Shared → Prop} (F : FS ok base s.heap env ρ m) (O : OkIn ok s.heap) (r : Rp ok s.heap u v)
    (hk : env.kindOf x = some .local ∨ env.kindOf x = some .cell)
    (hQ : ∀ h tk m', s.toks ≤ tk → (∀ b o, b ≠ env.locals → (∀ n, env.cells.lookup n ≠ some b) → s.heap.get? b = some o → h.get? b = some o) → OkIn ok h → FS ok base h env (setR ρ x (.val v)) m' → Q () { s with heap := h, toks := tk }) :
    wpAny (model prog w) A (storeName env x u) Q E s := by
  have live : ∀ {h' : Heap} {b : Addr}, Heap.SameBut b s.heap h' → (∃ o, h'.get? b = some o) → OkIn ok h' := fun {h' b} hs hb a ha => by
    by_cases hab : a = b
    · subst hab; obtain ⟨o, ho⟩ := hb; rw [ho] at ha; cases ha
    · exact O a (by rw [← hs.2 a hab]; exact ha)
  rcases hk with hk | hk
  · refine wpAny_storeName_local hk F.ns (fun h' hn' hs => ?_) (by rw [F.kind]; rfl)
    have kk : ∀ b o, ok b → s.heap.get? b = some o → h'.get? b = some o := fun b o hb e => hs.extBut b o (by rintro rfl; exact F.Lok hb) e
    have im : ∀ b o, ok b → s.heap.get? b = some o → ok b ∧ h'.get? b = some o := fun b o hb e => ⟨hb, kk b o hb e⟩
    refine hQ h' _ (fun y => if y = x then some u else m y) (Nat.le_succ _) (fun b o hb _ e => hs.extBut b o hb e) (live hs (by obtain ⟨o, _, _, ho, _⟩ := hn'; exact ⟨o, ho⟩)) ?_
    refine ⟨F.kind, F.gl, F.bl, F.cells, hn', fun y z e hk' => ?_, fun y ys e => ?_, fun y z ys zs a hne e1 e2 e3 => ?_, fun y z c e hk' hc => ?_, F.Lnew, F.Lok, fun n c e => ?_, F.apart, fun b o e => ?_⟩
    · rw [setR_lookup] at e
      by_cases hy : y = x
      · rw [if_pos hy] at e; cases e
        exact ⟨u, if_pos hy, r.imp im⟩
      · rw [if_neg hy] at e
        obtain ⟨q, h1, h2⟩ := F.loc y z e hk'
        exact ⟨q, by rw [if_neg hy]; exact h1, h2.imp im⟩
    · rw [setR_lookup] at e
      by_cases hy : y = x
      · rw [if_pos hy] at e; cases e
      · rw [if_neg hy] at e
        obtain ⟨h0, a, vs, n, h1, h2, h3, h4, h5⟩ := F.own y ys e
        exact ⟨h0, a, vs, n, by rw [if_neg hy]; exact h1, h2, h3, hs.extBut a _ (by rintro rfl; exact ns_not_list F.ns h4) h4, h5.imp im⟩
    · rw [setR_lookup] at e1 e2
      by_cases hy : y = x
      · rw [if_pos hy] at e1; cases e1
      · by_cases hz : z = x
        · rw [if_pos hz] at e2; cases e2
        · rw [if_neg hy] at e1
          rw [if_neg hz] at e2
          rw [if_neg hy] at e3
          rw [if_neg hz]
          exact F.ownD y z ys zs a hne e1 e2 e3
    · rw [setR_lookup] at e
      by_cases hy : y = x
      · subst hy; rw [hk] at hk'; cases hk'
      · rw [if_neg hy] at e
        obtain ⟨q, h1, h2⟩ := F.cel y z c e hk' hc
        exact ⟨q, h1.sameBut hs (by rintro rfl; exact cell_not_ns h1 F.ns), h2.imp im⟩
    · obtain ⟨h1, h2, o, h3⟩ := F.cnew n c e
      exact ⟨h1, h2, o, h3.sameBut hs (by rintro rfl; exact cell_not_ns h3 F.ns)⟩
    · exact hs.extBut b o (by rintro rfl; rw [F.Lnew] at e; cases e) (F.keep b o e)
  · obtain ⟨c, hc⟩ := F.cells x hk
    obtain ⟨c1, c2, o, c3⟩ := F.cnew x c hc
    refine wpAny_storeName_cell F.kind hk hc c3 fun h' hc' hs => ?_
    have kk : ∀ b o, ok b → s.heap.get? b = some o → h'.get? b = some o := fun b o hb e => hs.extBut b o (by rintro rfl; exact c2 hb) e
    have im : ∀ b o, ok b → s.heap.get? b = some o → ok b ∧ h'.get? b = some o := fun b o hb e => ⟨hb, kk b o hb e⟩
    refine hQ h' s.toks m (Nat.le_refl _) (fun b o _ hb e => hs.extBut b o (by rintro rfl; exact hb x hc) e) (live hs (by obtain ⟨o, ho, _⟩ := hc'; exact ⟨o, ho⟩)) ?_
    have hL : env.locals ≠ c := by rintro e; exact cell_not_ns c3 (e ▸ F.ns)
    refine ⟨F.kind, F.gl, F.bl, F.cells, F.ns.sameBut hs hL, fun y z e hk' => ?_, fun y ys e => ?_, fun y z ys zs a hne e1 e2 e3 => ?_, fun y z c' e hk' hc'' => ?_, F.Lnew, F.Lok, fun n c' e => ?_, F.apart, fun b o e => ?_⟩
    · rw [setR_lookup] at e
      by_cases hy : y = x
      · subst hy; rw [hk] at hk'; cases hk'
      · rw [if_neg hy] at e
        obtain ⟨q, h1, h2⟩ := F.loc y z e hk'
        exact ⟨q, h1, h2.imp im⟩
    · rw [setR_lookup] at e
      by_cases hy : y = x
      · rw [if_pos hy] at e; cases e
      · rw [if_neg hy] at e
        obtain ⟨h0, a, vs, n, h1, h2, h3, h4, h5⟩ := F.own y ys e
        exact ⟨h0, a, vs, n, h1, h2, h3, hs.extBut a _ (by rintro rfl; exact cell_not_list c3 h4) h4, h5.imp im⟩
    · rw [setR_lookup] at e1 e2
      by_cases hy : y = x
      · rw [if_pos hy] at e1; cases e1
      · by_cases hz : z = x
        · rw [if_pos hz] at e2; cases e2
        · rw [if_neg hy] at e1
          rw [if_neg hz] at e2
          exact F.ownD y z ys zs a hne e1 e2 e3
    · rw [setR_lookup] at e
      by_cases hy : y = x
      · subst hy
        rw [if_pos rfl] at e; cases e
        rw [hc] at hc''; cases hc''
        exact ⟨u, hc', r.imp im⟩
      · rw [if_neg hy] at e
        obtain ⟨q, h1, h2⟩ := F.cel y z c' e hk' hc''
        exact ⟨q, h1.sameBut hs (by rintro rfl; exact hy (F.apart _ _ _ hc'' hc)), h2.imp im⟩
    · obtain ⟨h1, h2, o', h3⟩ := F.cnew n c' e
      by_cases hcc : c' = c
      · subst hcc; exact ⟨h1, h2, _, hc'⟩
      · exact ⟨h1, h2, o', h3.sameBut hs hcc⟩
    · exact hs.extBut b o (by rintro rfl; rw [c1] at e; cases e) (F.keep b o e)
end
end Mine
end
section
open PySem PySem.W PyProof.Rows PySem.Calls
set_option maxRecDepth 100000
namespace Mine

noncomputable def seqL (f : Rho → Stmt → Option (Rho × Fl)) : List Stmt → Rho → Option (Rho × Fl)
  | [], ρ => some (ρ, .next)
  | st :: r, ρ => match f ρ st with
    | some (ρ', .next) => seqL f r ρ'
    | some (ρ', .ret v) => some (ρ', .ret v)
    | none => none
noncomputable def forL (f : Rho → PV → Option (Rho × Fl)) : List PV → Rho → Option (Rho × Fl)
  | [], ρ => some (ρ, .next)
  | x :: r, ρ => match f ρ x with
    | some (ρ', .next) => forL f r ρ'
    | some (ρ', .ret v) => some (ρ', .ret v)
    | none => none
noncomputable def nameOk (sc : Scope) (x : Str) : Bool := sc.names.lookup x == some .local || sc.names.lookup x == some .cell
noncomputable def setAll (sc : Scope) : Rho → List Expr → List PV → Option Rho
  | ρ, [], xs => (match xs with | [] => some ρ | _ => none)
  | ρ, t :: ts, xs => (match xs with
    | [] => none
    | v :: vs => (match t with
      | .Name x _ => if nameOk sc x then setAll sc (setR ρ x (.val v)) ts vs else none
      | _ => none))
noncomputable def setRF : Rho → Str → Bd → Rho
  | [], x, v => [(x, v)]
  | (y, b) :: r, x, v => match eqS y x with
    | true => (x, v) :: r
    | false => (y, b) :: setRF r x v
theorem setRF_eq : ∀ (ρ : Rho) (x : Str) (v : Bd), setRF ρ x v = setR ρ x v
  | [], _, _ => rfl
  | (y, b) :: r, x, v => by
    unfold setRF setR
    rw [eqS_eq, setRF_eq r x v]
    cases y == x <;> rfl
noncomputable def nameOkF (sc : Scope) (x : Str) : Bool := lkS sc.names x == some .local || lkS sc.names x == some .cell
theorem nameOkF_eq (sc : Scope) (x : Str) : nameOkF sc x = nameOk sc x := by
  unfold nameOkF nameOk
  simp only [lkS_eq]
noncomputable def isNewOwn (owns : List Str) (sc : Scope) (x : Str) : Expr → Bool
  | .List es _ => (match es with | [] => owns.any (eqS x) && lkS sc.names x == some .local | _ => false)
  | _ => false
noncomputable def callOrName : Expr → Bool
  | .Name .. => true
  | .Call .. => true
  | _ => false
noncomputable def tupOf : Option PV → Option (List PV)
  | some v => (match v with | .tuple xs => some xs | _ => none)
  | none => none
noncomputable def intOf : Option PV → Option Int
  | some v => (match v with | .int i => some i | _ => none)
  | none => none
noncomputable def ownBd : Option Bd → Option (List PV)
  | some b => (match b with | .own xs => some xs | _ => none)
  | none => none
noncomputable def apOf : Expr → Option (Str × Expr)
  | .Call f as ks cp => (match f with
    | .Attribute o m ap => (match o with
      | .Name y _ => (match ks with
        | [] => (match as with
          | [] => none
          | e :: r => (match r with
            | [] => if eqS m "append" && ap.endLine == cp.line && !isStar e && !(eqS y "__debug__") then some (y, e) else none
            | _ => none))
        | _ => none)
      | _ => none)
    | _ => none)
  | _ => none
noncomputable def exS (T : Tab) (owns : List Str) : Nat → Scope → Rho → Stmt → Option (Rho × Fl)
  | 0, _, _, _ => none
  | n + 1, sc, ρ, st => match st with
    | .Assign ts v _ => (match ts with
      | [] => none
      | t :: r => (match r with
        | [] => (match t with
          | .Name x _ => if nameOkF sc x then (match isNewOwn owns sc x v with
            | true => some (setRF ρ x (.own []), .next)
            | false => (match evE T n sc ρ v with | some u => forceV u fun u => some (setRF ρ x (.val u), .next) | none => none)) else none
          | .Tuple ts _ _ => if callOrName v then (match tupOf (evE T n sc ρ v) with | some xs => if ts.any isStar || decide (ts.length ≠ xs.length) then none else (setAll sc ρ ts xs).map fun ρ' => (ρ', .next) | none => none) else none
          | _ => none)
        | _ => none))
    | .AugAssign t op v _ => (match t with
      | .Name x _ => (match op with
        | .Add => if nameOkF sc x then (match intOf (valOf (lkS ρ x)) with | some a => (match intOf (evE T n sc ρ v) with | some b => forceI (a + b) fun c => some (setRF ρ x (.val (.int c)), .next) | none => none) | none => none) else none
        | _ => none)
      | _ => none)
    | .Return e _ => (match e with | some e => (evW T n sc ρ e).map fun u => (ρ, .ret u) | none => none)
    | .If t b o _ => (match evT T n sc ρ t with | some c => (match c with | true => seqL (exS T owns n sc) b ρ | false => seqL (exS T owns n sc) o ρ) | none => none)
    | .For t it b o _ => (match t with
      | .Name x _ => (match o with
        | [] => if nameOkF sc x then (match (if isSetE it then none else evE T n sc ρ it) with | some y => (match items y with | some xs => forL (fun ρ v => seqL (exS T owns n sc) b (setRF ρ x (.val v))) xs ρ | none => none) | none => none) else none
        | _ => none)
      | _ => none)
    | .Expr e _ => (match apOf e with
      | some (y, e) => (match ownBd (lkS ρ y) with | some xs => (match evE T n sc ρ e with | some u => if xs.length < lim then forceV u fun u => some (setRF ρ y (.own (xs ++ [u])), .next) else none | none => none) | none => none)
      | none => none)
    | .Try b hs o f _ => (match hs with
      | [] => none
      | _ :: _ => (match o with | [] => (match f with | [] => seqL (exS T owns n sc) b ρ | _ => none) | _ => none))
    | _ => none
termination_by structural n => n

section
variable {T : Tab} {owns : List Str} {n : Nat} {sc : Scope} {ρ : Rho}
theorem exS_name (x : Str) (p pos : Pos) (v : Expr) : exS T owns (n + 1) sc ρ (.Assign [.Name x p] v pos) = if nameOkF sc x then (match isNewOwn owns sc x v with
            | true => some (setRF ρ x (.own []), .next)
            | false => (evE T n sc ρ v).bind fun u => forceV u fun u => some (setRF ρ x (.val u), .next)) else none := by
  show (if nameOkF sc x then (match isNewOwn owns sc x v with
            | true => some (setRF ρ x (.own []), Fl.next)
            | false => (match evE T n sc ρ v with | some u => forceV u fun u => some (setRF ρ x (.val u), Fl.next) | none => none)) else none) = _
  cases evE T n sc ρ v <;> rfl
theorem exS_tuple (ts : List Expr) (k : Nat) (p pos : Pos) (v : Expr) : exS T owns (n + 1) sc ρ (.Assign [.Tuple ts k p] v pos) = if callOrName v then (tupOf (evE T n sc ρ v)).bind fun xs => if ts.any isStar || decide (ts.length ≠ xs.length) then none else (setAll sc ρ ts xs).map fun ρ' => (ρ', .next) else none := by
  show (if callOrName v then (match tupOf (evE T n sc ρ v) with | some xs => if ts.any isStar || decide (ts.length ≠ xs.length) then none else (setAll sc ρ ts xs).map fun ρ' => (ρ', Fl.next) | none => none) else none) = _
  cases tupOf (evE T n sc ρ v) <;> rfl
theorem exS_aug (x : Str) (p pos : Pos) (v : Expr) : exS T owns (n + 1) sc ρ (.AugAssign (.Name x p) .Add v pos) = if nameOkF sc x then (intOf (valOf (lkS ρ x))).bind fun a => (intOf (evE T n sc ρ v)).bind fun b => forceI (a + b) fun c => some (setRF ρ x (.val (.int c)), .next) else none := by
  show (if nameOkF sc x then (match intOf (valOf (lkS ρ x)) with | some a => (match intOf (evE T n sc ρ v) with | some b => forceI (a + b) fun c => some (setRF ρ x (.val (.int c)), Fl.next) | none => none) | none => none) else none) = _
  cases intOf (valOf (lkS ρ x)) with
  | none => rfl
  | some a => cases intOf (evE T n sc ρ v) <;> rfl
theorem exS_if' (t : Expr) (b o : List Stmt) (pos : Pos) : exS T owns (n + 1) sc ρ (.If t b o pos) = (evT T n sc ρ t).bind fun c => (match c with | true => seqL (exS T owns n sc) b ρ | false => seqL (exS T owns n sc) o ρ) := by
  show (match evT T n sc ρ t with | some c => (match c with | true => seqL (exS T owns n sc) b ρ | false => seqL (exS T owns n sc) o ρ) | none => none) = _
  cases evT T n sc ρ t <;> rfl
theorem exS_for (x : Str) (p pos : Pos) (it : Expr) (b : List Stmt) : exS T owns (n + 1) sc ρ (.For (.Name x p) it b [] pos) = if nameOkF sc x then (if isSetE it then none else evE T n sc ρ it).bind fun y => (items y).bind fun xs => forL (fun ρ v => seqL (exS T owns n sc) b (setRF ρ x (.val v))) xs ρ else none := by
  show (if nameOkF sc x then (match (if isSetE it then none else evE T n sc ρ it) with | some y => (match items y with | some xs => forL (fun ρ v => seqL (exS T owns n sc) b (setRF ρ x (.val v))) xs ρ | none => none) | none => none) else none) = _
  cases (if isSetE it then none else evE T n sc ρ it) with
  | none => rfl
  | some y =>
    simp only [Option.bind_some]
    cases items y <;> rfl
theorem exS_expr {e e' : Expr} {y : Str} (pos : Pos) (h : apOf e = some (y, e')) : exS T owns (n + 1) sc ρ (.Expr e pos) = (ownBd (lkS ρ y)).bind fun xs => (evE T n sc ρ e').bind fun u => if xs.length < lim then forceV u fun u => some (setRF ρ y (.own (xs ++ [u])), .next) else none := by
  have q : exS T owns (n + 1) sc ρ (.Expr e pos) = (match apOf e with
      | some (y, e) => (match ownBd (lkS ρ y) with | some xs => (match evE T n sc ρ e with | some u => if xs.length < lim then forceV u fun u => some (setRF ρ y (.own (xs ++ [u])), Fl.next) else none | none => none) | none => none)
      | none => none) := rfl
  rw [q, h]
  show (match ownBd (lkS ρ y) with | some xs => (match evE T n sc ρ e' with | some u => if xs.length < lim then forceV u fun u => some (setRF ρ y (.own (xs ++ [u])), Fl.next) else none | none => none) | none => none) = _
  cases ownBd (lkS ρ y) with
  | none => rfl
  | some xs => cases evE T n sc ρ e' <;> rfl
theorem exS_expr0 {e : Expr} (pos : Pos) (h : apOf e = none) : exS T owns (n + 1) sc ρ (.Expr e pos) = none := by
  have q : exS T owns (n + 1) sc ρ (.Expr e pos) = (match apOf e with
      | some (y, e) => (match ownBd (lkS ρ y) with | some xs => (match evE T n sc ρ e with | some u => if xs.length < lim then forceV u fun u => some (setRF ρ y (.own (xs ++ [u])), Fl.next) else none | none => none) | none => none)
      | none => none) := rfl
  rw [q, h]
end
structure SI (mg mb : Str → Option Value) (K : Frag) (d : Nat) (A : Around) (ok : Addr → Prop) (base : Heap) (s : Shared) (env : Env) (ρ : Rho) (m : Str → Option Value) : Prop where
  aok : AOK d A
  dd : d ≤ 50
  bb : Base mg mb K base
  okin : OkIn ok s.heap
  tok : 0 < s.toks
  fs : FS ok base s.heap env ρ m
noncomputable def RetR (ok : Addr → Prop) (base h : Heap) (v : Value) (x : PV) : Prop := Rp ok h v x ∨ ∃ a vs xs n, v = .ref a ∧ x = .list xs ∧ base.get? a = none ∧ h.get? a = some (lstO vs n) ∧ RpAll ok h vs xs
noncomputable def FlOk (ok : Addr → Prop) (base h : Heap) (f : Flow) : Fl → Prop
  | .next => f = .next
  | .ret x => ∃ v, f = .ret v ∧ RetR ok base h v x

section
variable (prog : Program) (w : World) (mg mb : Str → Option Value) (K : Frag) (d : Nat)
noncomputable def Post (A : Around) (ok : Addr → Prop) (base : Heap) (s : Shared) (env : Env) (ρ' : Rho) (fl : Fl) (Q : Flow → Shared → Prop) : Prop :=
  ∀ ok' h tk m' f, (∀ b, ok' b → ok b) → (∀ b o, ok b → s.heap.get? b = some o → ok' b ∧ h.get? b = some o) → s.toks ≤ tk → SI mg mb K d A ok' base { s with heap := h, toks := tk } env ρ' m' → FlOk ok' base h f fl → Q f { s with heap := h, toks := tk }
noncomputable def SndS (st : Stmt) (env : Env) (ρ ρ' : Rho) (fl : Fl) : Prop := ∀ A ok base s m, SI mg mb K d A ok base s env ρ m → ∀ (Q : Flow → Shared → Prop) (E : Value → Shared → Prop), Post mg mb K d A ok base s env ρ' fl Q → wpAny (model prog w) A (exec st env) Q E s
noncomputable def SndSs (sts : List Stmt) (env : Env) (ρ ρ' : Rho) (fl : Fl) : Prop := ∀ A ok base s m, SI mg mb K d A ok base s env ρ m → ∀ (Q : Flow → Shared → Prop) (E : Value → Shared → Prop), Post mg mb K d A ok base s env ρ' fl Q → wpAny (model prog w) A (execs sts env) Q E s
end

section
variable {prog : Program} {w : World} {mg mb : Str → Option Value} {K : Frag} {d : Nat} {env : Env} {ρ ρ' : Rho} {fl : Fl} {ok : Addr → Prop} {base : Heap} {m : Str → Option Value} {A : Around}
theorem SI.bs {s : Shared} (S : SI mg mb K d A ok base s env ρ m) : Base mg mb K s.heap := S.bb.hk S.fs.keep
theorem SI.inv {s : Shared} (S : SI mg mb K d A ok base s env ρ m) : Inv mg mb K d A ok s env ρ := ⟨S.aok, S.dd, S.bs, S.okin, S.tok, S.fs.fm⟩
theorem SI.kp {s s' : Shared} (S : SI mg mb K d A ok base s env ρ m) (k : Keeps s s') (t : s.toks ≤ s'.toks) : SI mg mb K d A ok base s' env ρ m :=
  ⟨S.aok, S.dd, S.bb, S.okin.hk (Keeps.hk k), Nat.lt_of_lt_of_le S.tok t, S.fs.hk (Keeps.hk k)⟩

theorem Post.of_keeps {s s₁ : Shared} {Q : Flow → Shared → Prop} (k : Keeps s s₁) (t : s.toks ≤ s₁.toks) (h : Post mg mb K d A ok base s env ρ' fl Q) : Post mg mb K d A ok base s₁ env ρ' fl Q := by
  obtain ⟨h₁, tk₁, rfl, k⟩ := k
  exact fun ok' h' tk m' f h1 h2 h3 h4 h5 => h ok' h' tk m' f h1 (fun b o hb e => h2 b o hb (k b o e)) (Nat.le_trans t h3) h4 h5
theorem Post.of_step {s : Shared} {ok₁ : Addr → Prop} {h₁ : Heap} {tk₁ : Nat} {Q : Flow → Shared → Prop} (h : Post mg mb K d A ok base s env ρ' fl Q) (h1 : ∀ b, ok₁ b → ok b) (h2 : ∀ b o, ok b → s.heap.get? b = some o → ok₁ b ∧ h₁.get? b = some o) (t : s.toks ≤ tk₁) :
    Post mg mb K d A ok₁ base { s with heap := h₁, toks := tk₁ } env ρ' fl Q :=
  fun ok' h' tk m' f g1 g2 g3 g4 g5 => h ok' h' tk m' f (fun b hb => h1 b (g1 b hb)) (fun b o hb e => g2 b o (h2 b o hb e).1 (h2 b o hb e).2) (Nat.le_trans t g3) g4 g5

theorem seq_snd {f : Rho → Stmt → Option (Rho × Fl)} (hf : ∀ ρ st ρ' fl, f ρ st = some (ρ', fl) → SndS prog w mg mb K d st env ρ ρ' fl) : ∀ {sts : List Stmt} {ρ ρ' : Rho} {fl : Fl}, seqL f sts ρ = some (ρ', fl) → SndSs prog w mg mb K d sts env ρ ρ' fl
  | [], ρ, ρ', fl, h => by
    cases h
    intro A ok base s m S Q E hQ
    exact wpAny_execs_nil (hQ ok s.heap s.toks m .next (fun _ h => h) (fun _ _ h e => ⟨h, e⟩) (Nat.le_refl _) S rfl)
  | st :: r, ρ, ρ', fl, h => by
    intro A ok base s m S Q E hQ
    unfold seqL at h
    refine wpAny_execs_cons ?_
    split at h
    · rename_i ρ₁ h1
      refine hf _ _ _ _ h1 A ok base s m S _ E fun ok₁ h₁ tk₁ m₁ f₁ g1 g2 g3 g4 g5 => ?_
      have g5 : f₁ = .next := g5
      subst g5
      exact seq_snd hf h A ok₁ base _ m₁ g4 Q E (hQ.of_step g1 g2 g3)
    · rename_i ρ₁ v h1
      cases h
      refine hf _ _ _ _ h1 A ok base s m S _ E fun ok₁ h₁ tk₁ m₁ f₁ g1 g2 g3 g4 g5 => ?_
      have g6 := g5
      obtain ⟨u, rfl, _⟩ := g6
      exact hQ ok₁ h₁ tk₁ m₁ _ g1 g2 g3 g4 g5
    · first | exact noneF h | cases h

theorem sndS_If {t : Expr} {b o : List Stmt} {p : Pos} {c : Bool} (ht : SndT prog w mg mb K d t env ρ c) (h : if c then SndSs prog w mg mb K d b env ρ ρ' fl else SndSs prog w mg mb K d o env ρ ρ' fl) : SndS prog w mg mb K d (.If t b o p) env ρ ρ' fl := by
  intro A ok base s m S Q E hQ
  refine wpAny_If (ht A ok s S.inv _ _ fun s₁ k₁ t₁ => ?_)
  cases c
  · exact h A ok base s₁ m (S.kp k₁ t₁) Q E (hQ.of_keeps k₁ t₁)
  · exact h A ok base s₁ m (S.kp k₁ t₁) Q E (hQ.of_keeps k₁ t₁)
theorem sndS_Return {e : Expr} {p : Pos} {x : PV} (h : Snd prog w mg mb K d e env ρ x) : SndS prog w mg mb K d (.Return (some e) p) env ρ ρ (.ret x) := by
  intro A ok base s m S Q E hQ
  refine wpAny_Return_some ((h A ok s S.inv).use fun v s₁ k₁ t₁ r₁ => ?_)
  have S1 := S.kp k₁ t₁
  obtain ⟨h₁, tk₁, rfl, k₁⟩ := k₁
  exact hQ ok h₁ tk₁ m _ (fun _ h => h) (fun b o hb e => ⟨hb, k₁ b o e⟩) t₁ S1 ⟨v, rfl, .inl r₁⟩
theorem sndS_ReturnOwn {y : Str} {q p : Pos} {xs : List PV} (hd : (y == ("__debug__" : Str)) = false) (hy : ρ.lookup y = some (.own xs)) : SndS prog w mg mb K d (.Return (some (.Name y q)) p) env ρ ρ (.ret (.list xs)) := by
  intro A ok base s m S Q E hQ
  obtain ⟨hk, a, vs, n, h1, h2, h3, h4, h5⟩ := S.fs.own y xs hy
  refine wpAny_Return_some (wpAny_Name (wpAny_loadName_local S.fs.kind hk S.fs.ns h1 ?_) hd)
  exact hQ ok s.heap s.toks m _ (fun _ h => h) (fun b o hb e => ⟨hb, e⟩) (Nat.le_refl _) S ⟨_, rfl, .inr ⟨a, vs, xs, n, rfl, rfl, h2, h4, h5⟩⟩
/-- a value is stored under a name: the end of an assignment -/
theorem SI.put {s : Shared} {x : Str} {u : Value} {v : PV} {Q : Unit → Shared → Prop} {E : Value → Shared → Prop} (S : SI mg mb K d A ok base s env ρ m) (hx : env.kindOf x = some .local ∨ env.kindOf x = some .cell) (r : Rp ok s.heap u v)
    (hQ : ∀ h tk m', (∀ b o, ok b → s.heap.get? b = some o → ok b ∧ h.get? b = some o) → s.toks ≤ tk → SI mg mb K d A ok base { s with heap := h, toks := tk } env (setR ρ x (.val v)) m' → Q () { s with heap := h, toks := tk }) :
    wpAny (model prog w) A (storeName env x u) Q E s :=
  S.fs.store S.okin r hx fun h tk m' t k o F => hQ h tk m' (fun b o hb e => ⟨hb, k b o (S.fs.apartOk hb).1 (S.fs.apartOk hb).2 e⟩) t ⟨S.aok, S.dd, S.bb, o, Nat.lt_of_lt_of_le S.tok t, F⟩
end
end Mine
end
section
open PySem PySem.W PyProof.Rows PySem.Calls
set_option maxRecDepth 100000
namespace Mine
section
variable {prog : Program} {w : World} {mg mb : Str → Option Value} {K : Frag} {d : Nat} {env : Env} {ρ ρ' : Rho} {fl : Fl} {ok : Addr → Prop} {base : Heap} {m : Str → Option Value} {A : Around}

theorem FS.hkind {h : Heap} {x : Str} (F : FS ok base h env ρ m) (hx : nameOk env.scope x = true) : env.kindOf x = some .local ∨ env.kindOf x = some .cell := by
  simpa [nameOk, Env.kindOf] using hx

/-- an address that was not taken is set aside -/
theorem FS.narrow {h h' : Heap} {C : Addr} (F : FS ok base h env ρ m) (k : Hk h h') (hC : h.get? C = none) : FS (fun b => ok b ∧ b ≠ C) base h' env ρ m := by
  have im : ∀ b o, ok b → h.get? b = some o → (ok b ∧ b ≠ C) ∧ h'.get? b = some o := fun b o hb e => ⟨⟨hb, by rintro rfl; rw [hC] at e; cases e⟩, k b o e⟩
  refine ⟨F.kind, F.gl, F.bl, F.cells, F.ns.keeps k, fun x v e hk => ?_, fun x xs e => ?_, F.ownD, fun x v c e hk hc => ?_, F.Lnew, fun hL => F.Lok hL.1, fun n c e => ?_, F.apart, fun b o e => k b o (F.keep b o e)⟩
  · obtain ⟨u, h1, h2⟩ := F.loc x v e hk; exact ⟨u, h1, h2.imp im⟩
  · obtain ⟨h0, a, vs, n, h1, h2, h3, h4, h5⟩ := F.own x xs e
    exact ⟨h0, a, vs, n, h1, h2, fun q => h3 q.1, k _ _ h4, h5.imp im⟩
  · obtain ⟨u, h1, h2⟩ := F.cel x v c e hk hc; exact ⟨u, h1.keeps k, h2.imp im⟩
  · obtain ⟨h1, h2, o, h3⟩ := F.cnew n c e
    exact ⟨h1, fun q => h2 q.1, o, h3.keeps k⟩
theorem FS.away {h : Heap} {C : Addr} (F : FS ok base h env ρ m) (hC : h.get? C = none) : env.locals ≠ C ∧ (∀ n c, env.cells.lookup n = some c → c ≠ C) ∧ base.get? C = none := by
  refine ⟨?_, ?_, ?_⟩
  · rintro rfl; obtain ⟨o, _, _, ho, _⟩ := F.ns; rw [hC] at ho; cases ho
  · rintro n c e rfl; obtain ⟨_, _, o, q, hq, _⟩ := F.cnew n c e; rw [hC] at hq; cases hq
  · cases e : base.get? C with
    | none => rfl
    | some o => have := F.keep _ _ e; rw [hC] at this; cases this
/-- a thing that is no list, tuple or range is turned -/
theorem FS.turn {ok' : Addr → Prop} {h h' : Heap} {C : Addr} {oC : Obj} (F : FS ok' base h env ρ m) (hs : ∀ b o, b ≠ C → h.get? b = some o → h'.get? b = some o) (ho : h.get? C = some oC) (hd : ¬ isD oC)
    (hw : env.locals ≠ C ∧ (∀ n c, env.cells.lookup n = some c → c ≠ C) ∧ base.get? C = none) (h1 : ∀ b, ok' b → ok b) (h2 : ∀ b, b ≠ C → ok b → ok' b) : FS ok base h' env ρ m := by
  obtain ⟨hL, hc, hb⟩ := hw
  have im : ∀ b o, ok' b → isD o → h.get? b = some o → ok b ∧ h'.get? b = some o := fun b o hb hi e => ⟨h1 b hb, hs b o (by rintro rfl; rw [ho] at e; cases e; exact hd hi) e⟩
  refine ⟨F.kind, F.gl, F.bl, F.cells, F.ns.at' fun o e => hs _ o hL e, fun x v e hk => ?_, fun x xs e => ?_, F.ownD, fun x v c e hk hc' => ?_, F.Lnew, fun q => F.Lok (h2 _ hL q), fun n c e => ?_, F.apart, fun b o e => ?_⟩
  · obtain ⟨u, h1, h2⟩ := F.loc x v e hk; exact ⟨u, h1, h2.imp2 im⟩
  · obtain ⟨h0, a, vs, n, e1, e2, e3, e4, e5⟩ := F.own x xs e
    have hne : a ≠ C := by rintro rfl; rw [e4] at ho; cases ho; exact hd ⟨.inl rfl, fun _ _ e => by cases e⟩
    exact ⟨h0, a, vs, n, e1, e2, fun q => e3 (h2 _ hne q), hs _ _ hne e4, e5.imp2 im⟩
  · obtain ⟨u, ⟨o, e1, e2⟩, e3⟩ := F.cel x v c e hk hc'
    exact ⟨u, ⟨o, hs _ _ (hc x c hc') e1, e2⟩, e3.imp2 im⟩
  · obtain ⟨e1, e2, o, q, e3, e4⟩ := F.cnew n c e
    exact ⟨e1, fun q => e2 (h2 _ (hc n c e) q), o, q, hs _ _ (hc n c e) e3, e4⟩
  · exact hs b o (by rintro rfl; rw [hb] at e; cases e) (F.keep b o e)
theorem ns_not_D {h : Heap} {C : Addr} {m : Str → Option Value} (hn : h.Ns C m) : ∃ o, h.get? C = some o ∧ ¬ isD o := by
  obtain ⟨o, es, ep, ho, hd, hc⟩ := hn
  exact ⟨o, ho, fun q => q.2 _ _ hd⟩

theorem sndS_Assign {x : Str} {p pos : Pos} {v : Expr} {u : PV} (hx : nameOk env.scope x = true) (hv : Snd prog w mg mb K d v env ρ u) (hns : swapsWith v (some (.Name x p)) pos.line env = pure false) :
    SndS prog w mg mb K d (.Assign [.Name x p] v pos) env ρ (setR ρ x (.val u)) .next := by
  intro A ok base s m S Q E hQ
  refine wpAny_Assign_Name ((hv A ok s S.inv).use fun v s₁ k₁ t₁ r₁ => ?_) hns
  refine (S.kp k₁ t₁).put (S.fs.hkind hx) r₁ fun h tk m' g1 g2 g3 => ?_
  exact (hQ.of_keeps k₁ t₁) ok h tk m' .next (fun _ h => h) g1 g2 g3 rfl

/-- a comprehension whose names are let go behind the store -/
theorem sndS_AssignComp {y : Str} {py spos : Pos} {sc' : Scope} {x : Str} {px pos : Pos} {elt iter : Expr} {ifs : List Expr} {it : PV} {xs ys : List PV} {F : PV → Option (Option PV)}
    (hy0 : nameOk env.scope y = true) (hset : ∀ a b c, iter ≠ .Set a b c) (hi : Snd prog w mg mb K d iter env ρ it) (hxs : items it = some xs) (hfree : freeOk sc' env.scope x = true) (hz : xs.length ≤ lim) (hy : compL F xs = some ys)
    (hF : ∀ C cs v o, F v = some o → Turn prog w mg mb K d ifs elt (cEnv (relab sc' env.scope) C cs env) (rhoC sc' ρ x v) o) :
    SndS prog w mg mb K d (.Assign [.Name y py] (.ListComp elt [⟨.Name x px, iter, ifs, 0⟩] sc' pos) spos) env ρ (setR ρ y (.val (.list ys))) .next := by
  have hsw : ∃ b, swapsWith (.ListComp elt [⟨.Name x px, iter, ifs, 0⟩] sc' pos) (some (.Name y py)) spos.line env = pure b := ⟨_, rfl⟩
  obtain ⟨b, hsw⟩ := hsw
  cases b with
  | false => exact sndS_Assign hy0 (snd_ListComp hset hi hxs hfree hz hy hF) hsw
  | true =>
    intro A ok base s m S Q E hQ
    rw [exec_Assign_Name_used _ _ _ _ hsw]
    refine wpAny_bind (wpAny_standAt (wpAny_bind ?_))
    show wpAny _ A (do let _ ← comprehension (.ListComp elt [⟨.Name x px, iter, ifs, 0⟩] sc' pos) sc' env _ (newList []) false (eval iter env) (some (assign (.Name y py) env))) _ _ s
    refine wpAny_bind (wpAny_mono (comp_any (use := some (assign (.Name y py) env)) (Q := fun _ s' => Q .next s') S.inv hset hi hxs hfree hz hy hF fun s₁ C acc k₁ t₁ hC hn r => ?_) (fun _ s' hq => wpAny_pure (wpAny_pure hq)) fun _ _ e => e)
    show wpAny _ A (assign (.Name y py) env acc) _ _ _
    obtain ⟨mC, hn⟩ := hn
    obtain ⟨oC, hoC, hdC⟩ := ns_not_D hn
    have S₁ : SI mg mb K d A (fun b => ok b ∧ b ≠ C) base s₁ env ρ m := ⟨S.aok, S.dd, S.bb, fun b hb => ⟨S.okin.hk (Keeps.hk k₁) b hb, by rintro rfl; rw [hoC] at hb; cases hb⟩, Nat.lt_of_lt_of_le S.tok t₁, S.fs.narrow (Keeps.hk k₁) hC⟩
    have away := S.fs.away hC
    have hq1 := hQ.of_keeps k₁ t₁
    refine wpAny_assign_Name (FS.store S₁.fs S₁.okin r (S.fs.hkind hy0) fun h₂ tk₂ m₂ t₂ k₂ O₂ F₂ => ?_)
    have cC : h₂.get? C = some oC := k₂ C oC (Ne.symm away.1) (fun n e => away.2.1 n C e rfl) hoC
    refine ⟨mC, hn.at' fun o e => k₂ C o (Ne.symm away.1) (fun n e => away.2.1 n C e rfl) e, fun h₃ hs₃ => ?_⟩
    have F₃ := F₂.turn (ok := ok) (fun b o hb e => hs₃.extBut b o hb e) cC hdC away (fun b hb => hb.1) fun b hb h => ⟨h, hb⟩
    have O₃ : OkIn ok h₃ := fun b hb => by
      by_cases hbC : b = C
      · subst hbC; exact S.okin b hC
      · refine (O₂ b ?_).1
        rw [hs₃.2 b hbC] at hb; exact hb
    obtain ⟨h₁, tk₁, rfl, k₁⟩ := k₁
    refine hQ ok h₃ tk₂ m₂ .next (fun _ h => h) (fun b o hb e => ⟨hb, ?_⟩) (Nat.le_trans t₁ t₂) ⟨S.aok, S.dd, S.bb, O₃, Nat.lt_of_lt_of_le (Nat.lt_of_lt_of_le S.tok t₁) t₂, F₃⟩ rfl
    have hbC : b ≠ C := by rintro rfl; rw [hC] at e; cases e
    exact hs₃.extBut b o hbC (k₂ b o (S.fs.apartOk hb).1 (S.fs.apartOk hb).2 (k₁ b o e))

/-- a list that is written to later -/
theorem sndS_New {x : Str} {p lp pos : Pos} (hx : env.kindOf x = some .local) : SndS prog w mg mb K d (.Assign [.Name x p] (.List [] lp) pos) env ρ (setR ρ x (.own [])) .next := by
  intro A ok base s m S Q E hQ
  refine wpAny_Assign_Name (wpAny_List (wpAny_items_nil ⟨by simp, ?_⟩))
  have hfr : s.heap.get? s.heap.objs.size = none := fresh_none (Nat.le_refl _)
  have F₁ := S.fs.narrow (hk_push s.heap (lstO [] 0)) hfr
  have away := S.fs.away hfr
  have new : (s.heap.push (lstO [] 0)).get? s.heap.objs.size = some (lstO [] 0) := Heap.get?_push_size _ rfl
  refine wpAny_storeName_local hx F₁.ns (fun h' hn' hs => ?_) (by rw [F₁.kind]; rfl)
  have kk : ∀ b o, ok b → s.heap.get? b = some o → h'.get? b = some o := fun b o hb e => hs.extBut b o (S.fs.apartOk hb).1 (hk_push _ _ b o e)
  have im : ∀ b o, (ok b ∧ b ≠ s.heap.objs.size) → (s.heap.push (lstO [] 0)).get? b = some o → (ok b ∧ b ≠ s.heap.objs.size) ∧ h'.get? b = some o := fun b o hb e => ⟨hb, hs.extBut b o (S.fs.apartOk hb.1).1 e⟩
  have newh : h'.get? s.heap.objs.size = some (lstO [] 0) := hs.extBut _ _ (Ne.symm away.1) new
  refine hQ (fun b => ok b ∧ b ≠ s.heap.objs.size) h' (s.toks + 1) (fun y => if y = x then some (.ref s.heap.objs.size) else m y) .next (fun _ h => h.1) (fun b o hb e => ⟨⟨hb, by rintro rfl; rw [hfr] at e; cases e⟩, kk b o hb e⟩) (Nat.le_succ _) ⟨S.aok, S.dd, S.bb, ?_, Nat.succ_pos _, ?_⟩ rfl
  · intro b hb
    have hne : b ≠ s.heap.objs.size := by rintro rfl; rw [newh] at hb; cases hb
    refine ⟨?_, hne⟩
    by_cases hbL : b = env.locals
    · subst hbL; obtain ⟨o, _, _, ho, _⟩ := hn'; rw [ho] at hb; cases hb
    · rw [hs.2 b hbL] at hb
      exact S.okin.hk (hk_push _ _) b hb
  · refine ⟨F₁.kind, F₁.gl, F₁.bl, F₁.cells, hn', fun y z e hk' => ?_, fun y ys e => ?_, fun y z ys zs a hne e1 e2 e3 => ?_, fun y z c e hk' hc => ?_, F₁.Lnew, F₁.Lok, fun n c e => ?_, F₁.apart, fun b o e => ?_⟩
    · rw [setR_lookup] at e
      by_cases hy : y = x
      · rw [if_pos hy] at e; cases e
      · rw [if_neg hy] at e
        obtain ⟨q, h1, h2⟩ := F₁.loc y z e hk'
        exact ⟨q, by rw [if_neg hy]; exact h1, h2.imp im⟩
    · rw [setR_lookup] at e
      by_cases hy : y = x
      · rw [if_pos hy] at e; cases e
        exact ⟨hy ▸ hx, s.heap.objs.size, [], 0, if_pos hy, away.2.2, fun q => q.2 rfl, newh, .nil⟩
      · rw [if_neg hy] at e
        obtain ⟨h0, a, vs, n, h1, h2, h3, h4, h5⟩ := F₁.own y ys e
        exact ⟨h0, a, vs, n, by rw [if_neg hy]; exact h1, h2, h3, hs.extBut a _ (by rintro rfl; exact ns_not_list F₁.ns h4) h4, h5.imp im⟩
    · rw [setR_lookup] at e1 e2
      have old : ∀ u us, u ≠ x → ρ.lookup u = some (.own us) → m u ≠ some (.ref s.heap.objs.size) := fun u us hu e q => by
        obtain ⟨_, a, vs, n, h1, _, _, h4, _⟩ := S.fs.own u us e
        rw [h1] at q; cases q
        rw [hfr] at h4; cases h4
      by_cases hy : y = x
      · rw [if_pos hy] at e3; cases e3
        by_cases hz : z = x
        · exact absurd (hy.trans hz.symm) hne
        · rw [if_neg hz] at e2 ⊢
          exact old z zs hz e2
      · by_cases hz : z = x
        · rw [if_pos hz]
          rw [if_neg hy] at e1 e3
          intro q
          cases q
          exact old y ys hy e1 e3
        · rw [if_neg hy] at e1 e3
          rw [if_neg hz] at e2 ⊢
          exact F₁.ownD y z ys zs a hne e1 e2 e3
    · rw [setR_lookup] at e
      by_cases hy : y = x
      · subst hy; rw [hx] at hk'; cases hk'
      · rw [if_neg hy] at e
        obtain ⟨q, h1, h2⟩ := F₁.cel y z c e hk' hc
        exact ⟨q, h1.sameBut hs (by rintro rfl; exact cell_not_ns h1 F₁.ns), h2.imp im⟩
    · obtain ⟨h1, h2, o, h3⟩ := F₁.cnew n c e
      exact ⟨h1, h2, o, h3.sameBut hs (by rintro rfl; exact cell_not_ns h3 F₁.ns)⟩
    · exact hs.extBut b o (by rintro rfl; rw [F₁.Lnew] at e; cases e) (F₁.keep b o e)

theorem load_bd {A : Around} {s : Shared} {x : Str} {bd : PV} {Q : Value → Shared → Prop} {E : Value → Shared → Prop} (F : FS ok base s.heap env ρ m) (hk : env.kindOf x = some .local ∨ env.kindOf x = some .cell)
    (hx : ρ.lookup x = some (.val bd)) (h : ∀ v, Rp ok s.heap v bd → Q v s) : wpAny (model prog w) A (loadName env x) Q E s := by
  rcases hk with hk | hk
  · obtain ⟨u, h1, h2⟩ := F.loc x bd hx hk
    exact wpAny_loadName_local F.kind hk F.ns h1 (h u h2)
  · obtain ⟨c, hc⟩ := F.cells x hk
    obtain ⟨u, h1, h2⟩ := F.cel x bd c hx hk hc
    exact wpAny_loadName_cell F.kind hk hc h1 (h u h2)
theorem sndS_AugAdd {x : Str} {p pos : Pos} {v : Expr} {a b : Int} (hx : nameOk env.scope x = true) (ha : ρ.lookup x = some (.val (.int a))) (hv : Snd prog w mg mb K d v env ρ (.int b)) :
    SndS prog w mg mb K d (.AugAssign (.Name x p) .Add v pos) env ρ (setR ρ x (.val (.int (a + b)))) .next := by
  intro A ok base s m S Q E hQ
  refine wpAny_AugAssign_Name (load_bd S.fs (S.fs.hkind hx) ha fun old r => ?_)
  obtain ⟨_, rfl⟩ := r.int_inv
  refine (hv A ok s S.inv).use fun u s₁ k₁ t₁ r₁ => ?_
  obtain ⟨_, rfl⟩ := r₁.int_inv
  refine PyProof.Rows.iadd_int ?_
  have k2 : Keeps s { s₁ with toks := s₁.toks + 1 } := Keeps.tr k₁ Keeps.tok
  refine SI.put (s := { s₁ with toks := s₁.toks + 1 }) (S.kp k2 (Nat.le_succ_of_le t₁)) (S.fs.hkind hx) (.int _ _) fun h tk m' g1 g2 g3 => ?_
  exact (hQ.of_keeps k2 (Nat.le_succ_of_le t₁)) ok h tk m' .next (fun _ h => h) g1 g2 g3 rfl

end
end Mine
end
section
open PySem PySem.W PyProof.Rows PySem.Calls
set_option maxRecDepth 100000
namespace Mine
section
variable {prog : Program} {w : World} {mg mb : Str → Option Value} {K : Frag} {d : Nat} {env : Env} {ρ ρ' : Rho} {fl : Fl} {ok : Addr → Prop} {base : Heap} {m : Str → Option Value} {A : Around}

theorem setAll_shape : ∀ (ts : List Expr) {xs : List PV} {ρ ρ' : Rho}, setAll env.scope ρ ts xs = some ρ' → (assignEach ts env).length = xs.length ∧ (assignEach ts env).findIdx? (·.1) = none := by
  intro ts
  induction ts with
  | nil =>
    intro xs ρ ρ' h
    cases xs with
    | nil => exact ⟨rfl, rfl⟩
    | cons _ _ => exact noneF h
  | cons t ts ih =>
    intro xs ρ ρ' h
    cases xs with
    | nil => exact noneF h
    | cons v vs =>
      cases t with
      | Name x p =>
        unfold setAll at h
        dsimp only at h
        split at h
        · have ih := ih h
          have e : assignEach (.Name x p :: ts) env = (false, assign (.Name x p) env) :: assignEach ts env := rfl
          rw [e, List.findIdx?_cons, List.length_cons, List.length_cons, ih.1, ih.2]
          exact ⟨rfl, rfl⟩
        · exact noneF h
      | _ => exact noneF h
theorem setAll_ok (ts : List Expr) : ∀ (xs : List PV) (ρ ρ' : Rho) (vs : List Value) (s : Shared) (m : Str → Option Value), setAll env.scope ρ ts xs = some ρ' → RpAll ok s.heap vs xs → SI mg mb K d A ok base s env ρ m →
    ∀ (Q : Unit → Shared → Prop) (E : Value → Shared → Prop), (∀ h tk m', (∀ b o, ok b → s.heap.get? b = some o → ok b ∧ h.get? b = some o) → s.toks ≤ tk → SI mg mb K d A ok base { s with heap := h, toks := tk } env ρ' m' → Q () { s with heap := h, toks := tk }) →
      wpAny (model prog w) A (assignInOrder ((assignEach ts env).map (·.2)) vs) Q E s := by
  induction ts with
  | nil =>
    intro xs ρ ρ' vs s m h r S Q E hQ
    cases xs with
    | nil =>
      cases h
      exact wpAny_pure (hQ s.heap s.toks m (fun b o hb e => ⟨hb, e⟩) (Nat.le_refl _) S)
    | cons x xs => exact noneF h
  | cons t ts ih =>
    intro xs ρ ρ' vs s m h r S Q E hQ
    cases xs with
    | nil => exact noneF h
    | cons v xs =>
      cases t with
      | Name x p =>
        unfold setAll at h
        dsimp only at h
        split at h
        · rename_i hx
          obtain ⟨u, us, rfl, r1, r2⟩ := r.cons_inv
          have e : assignEach (.Name x p :: ts) env = (false, assign (.Name x p) env) :: assignEach ts env := rfl
          rw [e, List.map_cons]
          refine wpAny_bind (m := holding us (assign (.Name x p) env u)) (wpAny_holding (wpAny_assign_Name (S.put (S.fs.hkind hx) r1 fun h' tk m' g1 g2 g3 => ?_)))
          refine ih _ _ _ _ _ _ h (r2.imp g1) g3 Q E fun h2 tk2 m2 e1 e2 e3 => ?_
          exact hQ h2 tk2 m2 (fun b o hb e => e1 b o (g1 b o hb e).1 (g1 b o hb e).2) (Nat.le_trans g2 e2) e3
        · exact noneF h
      | _ => exact noneF h
theorem sndS_AssignTuple {ts : List Expr} {k : Nat} {tp pos : Pos} {v : Expr} {xs : List PV} (hv : Snd prog w mg mb K d v env ρ (.tuple xs)) (h : setAll env.scope ρ ts xs = some ρ')
    (hs : swapsWithSole [.Tuple ts k tp] v pos.line env = pure false) (hw : swappedStores [.Tuple ts k tp] v env = pure none) :
    SndS prog w mg mb K d (.Assign [.Tuple ts k tp] v pos) env ρ ρ' .next := by
  intro A ok base s m S Q E hQ
  refine Assign_Tuple ((hv A ok s S.inv).use fun u s₁ k₁ t₁ r₁ => ?_) hs hw
  have r₁ : RpW ok s₁.heap u (.tuple xs) := .inl r₁
  obtain ⟨a, vs, n, rfl, ho, r⟩ := r₁.tup
  have sh := setAll_shape _ h
  have S₁ := S.kp k₁ t₁
  refine assign_Tuple_tuple S.aok.hn (isTup_of ho) (by rw [sh.1, ← r.length]; simp) sh.2 fun h' he => ?_
  have kk : Hk s₁.heap h' := fun b o e => he b o (Nat.ne_of_lt (Heap.lt_size e)) e
  have k2 : Keeps s₁ { s₁ with heap := h' } := Keeps.of (tk := s₁.toks) kk
  refine setAll_ok _ _ _ _ _ _ _ h (by simpa using r.hk kk) (S₁.kp k2 (Nat.le_refl _)) _ _ fun h2 tk2 m2 e1 e2 e3 => ?_
  exact (hQ.of_keeps (Keeps.tr k₁ k2) t₁) ok h2 tk2 m2 .next (fun _ h => h) e1 e2 e3 rfl

theorem inter_no (h : env.scope.kind = .function) : interactive env = false := by
  unfold interactive
  simp [h]
theorem sndS_append {f : Expr → Option PV} (hf : ∀ e x, f e = some x → Snd prog w mg mb K d e env ρ x) {y : Str} {p ap cp pos : Pos} {e : Expr} {xs : List PV} {u : PV} (hl : (ap.endLine == cp.line) = true) (hs : isStar e = false) (hd : (y == ("__debug__" : Str)) = false)
    (hy : ρ.lookup y = some (.own xs)) (he : f e = some u) (hz : xs.length < lim) : SndS prog w mg mb K d (.Expr (.Call (.Attribute (.Name y p) "append" ap) [e] [] cp) pos) env ρ (setR ρ y (.own (xs ++ [u]))) .next := by
  intro A ok base s m S Q E hQ
  obtain ⟨hk, a, vs, n, h1, h2, h3, h4, h5⟩ := S.fs.own y xs hy
  refine wpAny_Expr ?_ (inter_no S.fs.kind) rfl
  refine wpAny_Call_method_lateS rfl (few_of (by simp [hs]) (by simp)) hl (wpAny_Name (wpAny_loadName_local S.fs.kind hk S.fs.ns h1 ?_) hd)
  refine ⟨"list", "list.append", F.plainAttrs_list, F.slot_list_append, F.type_list_append, (isList_of h4).typeIs, fun b e => by cases e; exact ⟨_, h4, rfl⟩, callWith_meth (by simp [hs]) ?_⟩
  refine evs_snd hf (es := [e]) (xs := [u]) (by simp [evs, he]) (by simp [hs]) A ok s S.inv _ _ fun us s₁ k₁ t₁ r₁ => ?_
  obtain ⟨v, rfl, r1⟩ := r₁.one_inv
  · skip
    have S₁ := S.kp k₁ t₁
    have h4' := Keeps.hk k₁ _ _ h4
    have h5' := h5.hk (Keeps.hk k₁)
    refine wpAny_list_append_plain (items := vs.toArray) ⟨n, h4'⟩ (fun h' hp hs' => ?_) (by rw [sizeLine_eq]; have := h5.length; simp only [List.size_toArray]; unfold lim at hz; omega)
    obtain ⟨n', hp⟩ := hp
    have hp : h'.get? a = some (lstO (vs ++ [v]) n') := by simpa [lstO] using hp
    have im : ∀ b o, ok b → s₁.heap.get? b = some o → ok b ∧ h'.get? b = some o := fun b o hb e => ⟨hb, hs'.extBut b o (by rintro rfl; exact h3 hb) e⟩
    have F := S₁.fs
    refine (hQ.of_keeps k₁ t₁) ok h' s₁.toks m .next (fun _ h => h) im (Nat.le_refl _) ⟨S.aok, S.dd, S.bb, ?_, S₁.tok, ?_⟩ rfl
    · intro b hb
      refine S₁.okin b ?_
      have hne : b ≠ a := by rintro rfl; rw [hp] at hb; cases hb
      rw [hs'.2 b hne] at hb; exact hb
    · have nL : env.locals ≠ a := by rintro rfl; exact ns_not_list F.ns h4'
      refine ⟨F.kind, F.gl, F.bl, F.cells, F.ns.sameBut hs' nL, fun z v' e hk' => ?_, fun z zs e => ?_, fun z z' zs zs' b hne e1 e2 e3 => ?_, fun z v' c e hk' hc => ?_, F.Lnew, F.Lok, fun n c e => ?_, F.apart, fun b o e => ?_⟩
      · rw [setR_lookup] at e
        by_cases hz : z = y
        · rw [if_pos hz] at e; cases e
        · rw [if_neg hz] at e
          obtain ⟨q, g1, g2⟩ := F.loc z v' e hk'
          exact ⟨q, g1, g2.imp im⟩
      · rw [setR_lookup] at e
        by_cases hz : z = y
        · rw [if_pos hz] at e; cases e
          exact ⟨hz ▸ hk, a, vs ++ [v], n', hz ▸ h1, h2, h3, hp, (h5'.imp im).append (.one (r1.imp im))⟩
        · rw [if_neg hz] at e
          obtain ⟨g0, b, ws, n2, g1, g2, g3, g4, g5⟩ := F.own z zs e
          exact ⟨g0, b, ws, n2, g1, g2, g3, hs'.extBut b _ (by rintro rfl; exact F.ownD y z xs zs _ (Ne.symm hz) hy e h1 g1) g4, g5.imp im⟩
      · rw [setR_lookup] at e1 e2
        have key : ∀ t ts, (if t = y then some (Bd.own (xs ++ [u])) else ρ.lookup t) = some (.own ts) → ∃ ts', ρ.lookup t = some (.own ts') := fun t ts e => by
          by_cases ht : t = y
          · exact ⟨xs, ht ▸ hy⟩
          · rw [if_neg ht] at e; exact ⟨ts, e⟩
        obtain ⟨ts1, q1⟩ := key z zs e1
        obtain ⟨ts2, q2⟩ := key z' zs' e2
        exact F.ownD z z' ts1 ts2 b hne q1 q2 e3
      · rw [setR_lookup] at e
        by_cases hz : z = y
        · rw [if_pos hz] at e; cases e
        · rw [if_neg hz] at e
          obtain ⟨q, g1, g2⟩ := F.cel z v' c e hk' hc
          exact ⟨q, g1.sameBut hs' (by rintro rfl; exact cell_not_list g1 h4'), g2.imp im⟩
      · obtain ⟨g1, g2, o, g3⟩ := F.cnew n c e
        exact ⟨g1, g2, o, g3.sameBut hs' (by rintro rfl; exact cell_not_list g3 h4')⟩
      · exact hs'.extBut b o (by rintro rfl; rw [h2] at e; cases e) (F.keep b o e)

theorem sndS_Try {b : List Stmt} {h₀ : ExceptHandler} {hs : List ExceptHandler} {pos : Pos} (h : SndSs prog w mg mb K d b env ρ ρ' fl) : SndS prog w mg mb K d (.Try b (h₀ :: hs) [] [] pos) env ρ ρ' fl := by
  intro A ok base s m S Q E hQ
  refine wpAny_Try_except (h A ok base s m S _ _ fun ok' h' tk m' f g1 g2 g3 g4 g5 => ?_)
  have q := hQ ok' h' tk m' f g1 g2 g3 g4 g5
  cases f with
  | next => exact wpAny_execs_nil q
  | _ => exact q

theorem sndS_For {x : Str} {p pos : Pos} {iter : Expr} {b : List Stmt} {it : PV} {xs : List PV} {f : Rho → PV → Option (Rho × Fl)} (hx : nameOk env.scope x = true) (hset : ∀ a b c, iter ≠ .Set a b c)
    (hi : Snd prog w mg mb K d iter env ρ it) (hxs : items it = some xs) (hf : ∀ ρ v ρ' fl, f ρ v = some (ρ', fl) → SndSs prog w mg mb K d b env (setR ρ x (.val v)) ρ' fl)
    (h : forL f xs ρ = some (ρ', fl)) : SndS prog w mg mb K d (.For (.Name x p) iter b [] pos) env ρ ρ' fl := by
  intro A ok base s m S Q E hQ
  refine wpAny_For ((hi A ok s S.inv).use fun xv s₁ k₁ t₁ r₁ => ?_) (not_set hset)
  have S₁ := S.kp k₁ t₁
  have hQ₁ := hQ.of_keeps k₁ t₁
  refine wpAny_with_toks (n := s₁.toks) (Nat.le_refl _) (iter_ok S₁.aok r₁ hxs _ _ fun I P St fp s₂ hI k₂ hst hIl W t₂ => ?_)
  have S₂ := S₁.kp k₂ t₂
  have away := S₁.fs.away hI
  obtain ⟨h₂, tk₂, rfl, k₂⟩ := k₂
  refine codeAny_forLoop_any (fun k s' => ∃ i ok' h tk ρi m', k = xs.length + 1 - i ∧ i ≤ xs.length ∧ s' = { s₁ with heap := h, toks := tk } ∧ s₁.toks ≤ tk ∧ SI mg mb K d A ok' base { s₁ with heap := h, toks := tk } env ρi m' ∧ ok' I ∧ (∀ b, ok' b → ok b) ∧
      (∀ b o, ok b → s₁.heap.get? b = some o → ok' b ∧ h.get? b = some o) ∧ St i h ∧ forL f (xs.drop i) ρi = some (ρ', fl)) ?_ (xs.length + 1) ⟨0, ok, h₂, tk₂, ρ, m, rfl, Nat.zero_le _, rfl, t₂, S₂, S₁.okin I hI, fun _ h => h, fun b o hb e => ⟨hb, k₂ b o e⟩, hst, by simpa using h⟩
  rintro k s' ⟨i, ok', h₃, tk₃, ρi, m', rfl, hi', rfl, ht₃, S₃, oI, hok, kp, hst₃, hrun⟩
  obtain ⟨oI0, hoI, hdI⟩ := W.live _ _ hst₃
  -- behind a step of the iterator
  have stepped : ∀ h₄ tk₄, s₁.toks ≤ tk₄ → (∀ b o, b ∉ [I] → h₃.get? b = some o → h₄.get? b = some o) → (∀ b, b ≠ I → h₄.get? b = none → h₃.get? b = none) →
      SI mg mb K d A ok' base { s₁ with heap := h₄, toks := tk₄ } env ρi m' := fun h₄ tk₄ ht hk₄ hn => by
    refine ⟨S.aok, S.dd, S.bb, fun b hb => ?_, Nat.lt_of_lt_of_le S₁.tok ht, S₃.fs.turn (fun b o hb e => hk₄ b o (by simpa using hb) e) hoI hdI away (fun _ h => h) fun _ _ h => h⟩
    by_cases hbI : b = I
    · subst hbI; exact oI
    · exact S₃.okin b (hn b hbI hb)
  have dead : ∀ {h₄ : Heap}, (∀ b o, b ∉ [I] → h₃.get? b = some o → h₄.get? b = some o) → ∀ b, b ≠ I → h₄.get? b = none → h₃.get? b = none := fun hk₄ b hb e => by
    cases q : h₃.get? b with
    | none => rfl
    | some o => rw [hk₄ b o (by simpa using hb) q] at e; cases e
  by_cases hlt : i < xs.length
  · refine wpAny_with_toks (n := s₁.toks) ht₃ (W.wk.item i _ _ _ hlt hst₃ fun v h₄ tk₄ hP hst₄ hk₄ ht₄ => ?_)
    have S₄ := stepped h₄ tk₄ ht₄ hk₄ (dead hk₄)
    obtain ⟨xv, hxv, rv⟩ := W.it i v hlt hP
    have kp₄ : ∀ b o, ok b → s₁.heap.get? b = some o → ok' b ∧ h₄.get? b = some o := fun b o hb e => ⟨(kp b o hb e).1, hk₄ b o (by simp; rintro rfl; rw [hI] at e; cases e) (kp b o hb e).2⟩
    have hdrop : xs.drop i = xv :: xs.drop (i + 1) := by
      rw [List.drop_eq_getElem_cons hlt]
      rw [List.getElem?_eq_getElem hlt] at hxv
      cases hxv; rfl
    rw [hdrop] at hrun
    unfold forL at hrun
    refine wpAny_pure (wpAny_assign_Name (SI.put S₄ (S₄.fs.hkind hx) (rv.imp kp₄) fun h₅ tk₅ m₅ g1 g2 g3 => ?_))
    have st₅ : St (i + 1) h₅ := W.wk.frame _ _ _ hst₄ fun b hb o e => by
      rcases W.fp b hb with rfl | ⟨hb', o', ho'⟩
      · exact (g1 _ o oI e).2
      · exact (g1 _ o (kp₄ b o' hb' ho').1 e).2
    have body : ∀ ρ₁ fl₁, f ρi xv = some (ρ₁, fl₁) → ∀ Q' E', Post mg mb K d A ok' base { s₁ with heap := h₅, toks := tk₅ } env ρ₁ fl₁ Q' → wpAny (model prog w) A (execs b env) Q' E' { s₁ with heap := h₅, toks := tk₅ } :=
      fun ρ₁ fl₁ e Q' E' hp => hf _ _ _ _ e A ok' base _ m₅ g3 Q' E' hp
    split at hrun
    · rename_i ρ₁ e₁
      refine body _ _ e₁ _ _ fun ok₆ h₆ tk₆ m₆ fw q1 q2 q3 q4 q5 => ?_
      have q5 : fw = .next := q5
      subst q5
      refine ⟨xs.length + 1 - (i + 1), by omega, i + 1, ok₆, h₆, tk₆, ρ₁, m₆, rfl, hlt, rfl, Nat.le_trans ht₄ (Nat.le_trans g2 q3), q4, ?_, fun b hb => hok b (q1 b hb), fun b o hb e => ?_, ?_, hrun⟩
      · obtain ⟨o, ho, _⟩ := W.live _ _ st₅
        exact (q2 I o oI ho).1
      · have e4 := kp₄ b o hb e
        have e5 := g1 b o e4.1 e4.2
        exact q2 b o e5.1 e5.2
      · refine W.wk.frame _ _ _ st₅ fun b hb o e => ?_
        rcases W.fp b hb with rfl | ⟨hb', o', ho'⟩
        · exact (q2 _ o oI e).2
        · exact (q2 _ o (kp₄ b o' hb' ho').1 e).2
    · rename_i ρ₁ xr e₁
      cases hrun
      refine body _ _ e₁ _ _ fun ok₆ h₆ tk₆ m₆ fw q1 q2 q3 q4 q5 => ?_
      have q6 := q5
      obtain ⟨u, rfl, _⟩ := q6
      refine hQ₁ ok₆ h₆ tk₆ m₆ _ (fun b hb => hok b (q1 b hb)) (fun b o hb e => ?_) (Nat.le_trans ht₄ (Nat.le_trans g2 q3)) q4 q5
      have e4 := kp₄ b o hb e
      have e5 := g1 b o e4.1 e4.2
      exact q2 b o e5.1 e5.2
    · cases hrun
  · have hin : i = xs.length := by omega
    subst hin
    rw [List.drop_length] at hrun
    cases hrun
    refine wpAny_with_toks (n := s₁.toks) ht₃ (W.wk.done _ _ _ hst₃ fun h₄ tk₄ hk₄ ht₄ => wpAny_execs_nil ?_)
    refine hQ₁ ok' h₄ tk₄ m' .next hok (fun b o hb e => ⟨(kp b o hb e).1, hk₄ b o (by simp; rintro rfl; rw [hI] at e; cases e) (kp b o hb e).2⟩) ht₄ (stepped h₄ tk₄ ht₄ hk₄ (dead hk₄)) rfl
end
end Mine
end
section
open PySem PySem.W PyProof.Rows PySem.Calls
set_option maxRecDepth 100000
namespace Mine
section
variable {prog : Program} {w : World} {mg mb : Str → Option Value} {K : Frag} {d : Nat}

theorem swaps_no {T : Tab} {n : Nat} {sc : Scope} {ρ : Rho} {v : Expr} {u : PV} {t : Option Expr} {l : Nat} {env : Env} (h : evE T n sc ρ v = some u) (hn : ∀ a b c e, v ≠ .ListComp a b c e) : swapsWith v t l env = pure false := by
  cases n with
  | zero => exact noneF h
  | succ n =>
    cases v with
    | ListComp a b c e => exact absurd rfl (hn _ _ _ _)
    | _ => first | rfl | exact noneF h
theorem intOf_inv {o : Option PV} {i : Int} (h : intOf o = some i) : o = some (.int i) := by
  cases o with
  | none => exact noneF h
  | some v => cases v with
    | int c => cases h; rfl
    | _ => exact noneF h
theorem tupOf_inv {o : Option PV} {i : List PV} (h : tupOf o = some i) : o = some (.tuple i) := by
  cases o with
  | none => exact noneF h
  | some v => cases v with
    | tuple c => cases h; rfl
    | _ => exact noneF h
theorem valOf_inv {o : Option Bd} {i : PV} (h : valOf o = some i) : o = some (.val i) := by
  cases o with
  | none => exact noneF h
  | some v => cases v with
    | val c => cases h; rfl
    | own _ => exact noneF h
theorem ownBd_inv {o : Option Bd} {i : List PV} (h : ownBd o = some i) : o = some (.own i) := by
  cases o with
  | none => exact noneF h
  | some v => cases v with
    | own c => cases h; rfl
    | val _ => exact noneF h
theorem apOf_inv {e : Expr} {y : Str} {e' : Expr} (h : apOf e = some (y, e')) : ∃ p ap cp, e = .Call (.Attribute (.Name y p) "append" ap) [e'] [] cp ∧ (ap.endLine == cp.line) = true ∧ isStar e' = false ∧ (y == ("__debug__" : Str)) = false := by
  cases e with
  | Call f as ks cp => cases f with
    | Attribute o m ap => cases o with
      | Name z p => cases ks with
        | nil => cases as with
          | nil => exact noneF h
          | cons e r => cases r with
            | nil =>
              unfold apOf at h
              dsimp only at h
              split at h
              · rename_i hc
                cases h
                rw [eqS_eq, eqS_eq] at hc
                simp only [Bool.and_eq_true, Bool.not_eq_true', beq_iff_eq] at hc
                obtain ⟨⟨⟨rfl, hl⟩, hs⟩, hd⟩ := hc
                exact ⟨p, ap, cp, rfl, beq_iff_eq.mpr hl, hs, hd⟩
              · exact noneF h
            | cons _ _ => exact noneF h
        | cons _ _ => exact noneF h
      | _ => exact noneF h
    | _ => exact noneF h
  | _ => exact noneF h
theorem isNewOwn_inv {owns : List Str} {sc : Scope} {x : Str} {v : Expr} (h : isNewOwn owns sc x v = true) : ∃ p, v = .List [] p ∧ sc.names.lookup x = some .local := by
  cases v with
  | List es p => cases es with
    | nil =>
      have h := (Bool.and_eq_true_iff.mp h).2
      rw [lkS_eq] at h
      exact ⟨p, rfl, beq_iff_eq.mp h⟩
    | cons _ _ => cases h
  | _ => cases h
theorem ite_then {c : Bool} {α : Type} {o : Option α} {z : α} (h : (if c = true then o else none) = some z) : c = true ∧ o = some z := by
  cases c with
  | false => exact noneF h
  | true => exact ⟨rfl, h⟩
theorem asg_snd {T : Tab} (hT : TabOk prog w mg mb K d T) {n : Nat} {env : Env} {ρ ρ' : Rho} {fl : Fl} {x : Str} {p pos : Pos} {v : Expr} (hx : nameOk env.scope x = true)
    (h : ((evE T n env.scope ρ v).bind fun u => forceV u fun u => some (setRF ρ x (.val u), Fl.next)) = some (ρ', fl)) : SndS prog w mg mb K d (.Assign [.Name x p] v pos) env ρ ρ' fl := by
  obtain ⟨u, h1, h2⟩ := some_of h
  rw [forceV_eq, setRF_eq] at h2
  cases h2
  by_cases hv : ∃ a b c e, v = .ListComp a b c e
  · obtain ⟨elt, gens, sc', p', rfl⟩ := hv
    cases n with
    | zero => exact noneF h1
    | succ n =>
      obtain ⟨y, px, iter, ifs, it, xs, ys, rfl, rfl, hi, h3, h4, c1, c2, hy⟩ := comp_inv h1
      exact sndS_AssignComp hx (not_set_of hi) ((ev_snd hT n).1 _ _ _ _ h3) h4 c1 c2 hy fun C cs v o hv => turn_of (ev_snd hT n).1 (ev_snd hT n).2.2 (env' := cEnv (relab sc' env.scope) C cs env) rfl hv
  · exact sndS_Assign hx ((ev_snd hT n).1 _ _ _ _ h1) (swaps_no h1 fun a b c e q => hv ⟨a, b, c, e, q⟩)
theorem ret_snd {T : Tab} (hT : TabOk prog w mg mb K d T) {n : Nat} {env : Env} {ρ : Rho} {e : Expr} {p : Pos} {u : PV} (h : evW T n env.scope ρ e = some u) : SndS prog w mg mb K d (.Return (some e) p) env ρ ρ (.ret u) := by
  cases n with
  | zero => exact noneF h
  | succ n =>
    have h : (match ownOfF env.scope ρ e with | some xs => some (.list xs) | none => evE T n env.scope ρ e) = some u := h
    rw [ownOfF_eq] at h
    cases ho : ownOf env.scope ρ e with
    | none => rw [ho] at h; exact sndS_Return ((ev_snd hT n).1 env _ _ _ h)
    | some xs =>
      rw [ho] at h
      cases h
      obtain ⟨y, p, rfl, hd, h1, h2⟩ := ownOf_inv ho
      exact sndS_ReturnOwn hd h2
theorem exS_snd {T : Tab} (hT : TabOk prog w mg mb K d T) (owns : List Str) : ∀ n (env : Env) ρ st ρ' fl, exS T owns n env.scope ρ st = some (ρ', fl) → SndS prog w mg mb K d st env ρ ρ' fl
  | 0, env, ρ, st, ρ', fl, h => noneF h
  | n + 1, env, ρ, st, ρ', fl, h => by
    have ih := exS_snd hT owns n env
    have hE := fun ρ e x => (ev_snd hT n).1 env ρ e x
    have hB := fun ρ e x => (ev_snd hT n).2.2 env ρ e x
    cases st with
    | Assign ts v pos =>
      cases ts with
      | nil => exact noneF h
      | cons t r => cases r with
        | cons _ _ => exact noneF h
        | nil => cases t with
          | Name x p =>
            rw [exS_name] at h
            obtain ⟨hx, h⟩ := ite_then h
            rw [nameOkF_eq] at hx
            cases hn : isNewOwn owns env.scope x v with
            | true =>
              rw [hn] at h
              dsimp only at h
              rw [setRF_eq] at h
              cases h
              obtain ⟨p, rfl, hl⟩ := isNewOwn_inv hn
              exact sndS_New hl
            | false =>
              rw [hn] at h
              exact asg_snd hT hx h
          | Tuple ts k tp =>
            rw [exS_tuple] at h
            obtain ⟨hc, h⟩ := ite_then h
            obtain ⟨xs, h1, h⟩ := some_of h
            obtain ⟨_, h⟩ := ite_some h
            obtain ⟨ρ1, h5, he⟩ := Option.map_eq_some_iff.mp h
            cases he
            cases v with
            | Name a b => exact sndS_AssignTuple (hE _ _ _ (tupOf_inv h1)) h5 rfl rfl
            | Call a b c e => exact sndS_AssignTuple (hE _ _ _ (tupOf_inv h1)) h5 rfl rfl
            | _ => cases hc
          | _ => exact noneF h
    | AugAssign t op v pos =>
      cases t with
      | Name x p => cases op with
        | Add =>
          rw [exS_aug] at h
          obtain ⟨hx, h⟩ := ite_then h
          rw [nameOkF_eq] at hx
          obtain ⟨a, h1, h⟩ := some_of h
          obtain ⟨b, h2, h⟩ := some_of h
          rw [forceI_eq, setRF_eq] at h
          cases h
          rw [lkS_eq] at h1
          exact sndS_AugAdd hx (valOf_inv (intOf_inv h1)) (hE _ _ _ (intOf_inv h2))
        | _ => exact noneF h
      | _ => exact noneF h
    | Return e pos =>
      cases e with
      | none => exact noneF h
      | some e =>
        obtain ⟨u, h5, he⟩ := Option.map_eq_some_iff.mp (show (evW T n env.scope ρ e).map (fun u => (ρ, Fl.ret u)) = some (ρ', fl) from h)
        cases he
        exact ret_snd hT h5
    | If t b o pos =>
      rw [exS_if'] at h
      obtain ⟨c, h1, h⟩ := some_of h
      cases c with
      | true => exact sndS_If (hB _ _ _ h1) (seq_snd ih h)
      | false => exact sndS_If (hB _ _ _ h1) (seq_snd ih h)
    | For t it b o pos =>
      cases t with
      | Name x p => cases o with
        | nil =>
          rw [exS_for] at h
          obtain ⟨hx, h⟩ := ite_then h
          rw [nameOkF_eq] at hx
          obtain ⟨y, h1, h⟩ := some_of h
          obtain ⟨hi, h1⟩ := ite_some h1
          obtain ⟨xs, h2, h⟩ := some_of h
          simp only [setRF_eq] at h
          exact sndS_For hx (not_set_of hi) (hE _ _ _ h1) h2 (fun ρ v ρ' fl e => seq_snd ih e) h
        | cons _ _ => exact noneF h
      | _ => exact noneF h
    | Expr e pos =>
      cases ha : apOf e with
      | none =>
        rw [exS_expr0 _ ha] at h
        exact noneF h
      | some q =>
        obtain ⟨y, e'⟩ := q
        rw [exS_expr _ ha] at h
        obtain ⟨xs, h1, h⟩ := some_of h
        obtain ⟨u, h2, h5⟩ := some_of h
        obtain ⟨p, ap, cp, rfl, hl, hs, hd⟩ := apOf_inv ha
        split at h5
        · rename_i hz
          rw [forceV_eq, setRF_eq] at h5
          cases h5
          rw [lkS_eq] at h1
          exact sndS_append (hE _) hl hs hd (ownBd_inv h1) h2 hz
        · exact noneF h5
    | Try b hs o f pos =>
      cases hs with
      | nil => exact noneF h
      | cons h0 hs => cases o with
        | nil => cases f with
          | nil => exact sndS_Try (seq_snd ih h)
          | cons _ _ => exact noneF h
        | cons _ _ => exact noneF h
    | _ => exact noneF h
end
end Mine
end
section
open PySem PySem.W PyProof.Rows PySem.Calls
set_option maxRecDepth 100000
namespace Mine
section
variable {prog : Program} {w : World} {mg mb : Str → Option Value} {K : Frag} {d : Nat}

theorem call_toks {A : Around} {s : Shared} {R : Result → Shared → Prop} {a : Addr} {o : Obj} {fd : FuncData} {body : List Stmt} {vals : List Value} {binds : List (Str × Value)}
    (hroom : A.depth < recursionLimit) (ho : s.heap.get? a = some o) (hdata : o.data = .func fd) (hlim : s.heap.NoLimit) (hcd : s.heap.CodeRec fd.code fd.qualname)
    (hbody : fd.body = .stmts body) (hbind : bindArgs fd ⟨vals, []⟩ = pure binds) (hclo : fd.closure = [])
    (hkind : ∀ x ∈ binds, fd.scope.names.lookup x.1 = some .local ∨ (fd.scope.names.lookup x.1 = some .cell ∧ ((cellsFrom (s.heap.objs.size + 1) fd.scope.names []).lookup x.1).isSome = true))
    (h : ∀ s₁, s.toks ≤ s₁.toks → InCallC s (callEnvC fd s.heap.objs.size a).locals (bindL (callEnvC fd s.heap.objs.size a).kindOf binds fun _ => none) (callEnvC fd s.heap.objs.size a).cells
        (bindC (callEnvC fd s.heap.objs.size a).kindOf binds fun _ => none) s₁ →
      wpAny (model prog w) (A.deeper (callEnvC fd s.heap.objs.size a)) (execs body (callEnvC fd s.heap.objs.size a)) (fun f s' => R (.ok (.ret (match f with | .ret v => v | _ => .none))) s') (fun _ _ => False) s₁)
    (hco : fd.scope.isCoroutine = false) (hgen : fd.scope.isGenerator = false) (hk : fd.scope.kind = .function) :
    codeAny (model prog w) A (.call (.ref a) ⟨vals, []⟩) R s := by
  refine codeAny_call_function hroom ho hdata hco hgen hbody hcd ?_
  rw [hbind, hclo]
  refine wpAny_pure (wpAny_with_toks (n := s.toks) (Nat.le_refl _) (wpAny_newFunctionEnv_cells hk hkind fun env he s' x ht => ?_))
  subst he
  exact ⟨hlim.keeps x.toInCall.keep, codeAny_func (wpAny_mono (h s' ht x) (fun _ _ q => q) fun _ _ q => q.elim)⟩

noncomputable def rho0 (args : List Str) (xs : List PV) : Rho := (args.zip xs).map fun p => (p.1, .val p.2)

theorem bindL_get {ok : Addr → Prop} {h : Heap} {kindOf : Str → Option NameKind} : ∀ {args : List Str} {vs : List Value} {xs : List PV} (m : Str → Option Value), args.Nodup → RpAll ok h vs xs →
    (∀ x, x ∉ args → bindL kindOf (args.zip vs) m x = m x) ∧ ∀ x v, (rho0 args xs).lookup x = some (.val v) → kindOf x = some .local → ∃ u, bindL kindOf (args.zip vs) m x = some u ∧ Rp ok h u v
  | [], vs, xs, m, _, _ => ⟨fun x _ => by simp [bindL], fun x v e => by simp [rho0] at e⟩
  | a :: args, [], _, m, _, .nil => ⟨fun x _ => by simp [bindL], fun x v e => by simp [rho0] at e⟩
  | a :: args, u :: vs, y :: xs, m, hn, .cons r1 r2 => by
    obtain ⟨hn1, hn2⟩ := List.nodup_cons.mp hn
    simp only [List.zip_cons_cons, bindL]
    obtain ⟨i1, i2⟩ := bindL_get (kindOf := kindOf) (if kindOf a = some .local then fun z => if z = a then some u else m z else m) hn2 r2
    refine ⟨fun x hx => ?_, fun x v e hk => ?_⟩
    · rw [List.mem_cons, not_or] at hx
      rw [i1 x hx.2]
      split
      · exact if_neg hx.1
      · rfl
    · simp only [rho0, List.zip_cons_cons, List.map_cons, List.lookup_cons] at e
      by_cases hxa : x = a
      · subst hxa
        rw [beq_self_eq_true] at e
        cases e
        rw [i1 x hn1, if_pos hk, if_pos rfl]
        exact ⟨u, rfl, r1⟩
      · have : (x == a) = false := beq_eq_false_iff_ne.mpr hxa
        rw [this] at e
        exact i2 x v e hk
theorem bindC_get {ok : Addr → Prop} {h : Heap} {kindOf : Str → Option NameKind} : ∀ {args : List Str} {vs : List Value} {xs : List PV} (m : Str → Option Value), args.Nodup → RpAll ok h vs xs →
    (∀ x, x ∉ args → bindC kindOf (args.zip vs) m x = m x) ∧ ∀ x v, (rho0 args xs).lookup x = some (.val v) → kindOf x ≠ some .local → ∃ u, bindC kindOf (args.zip vs) m x = some u ∧ Rp ok h u v
  | [], vs, xs, m, _, _ => ⟨fun x _ => by simp [bindC], fun x v e => by simp [rho0] at e⟩
  | a :: args, [], _, m, _, .nil => ⟨fun x _ => by simp [bindC], fun x v e => by simp [rho0] at e⟩
  | a :: args, u :: vs, y :: xs, m, hn, .cons r1 r2 => by
    obtain ⟨hn1, hn2⟩ := List.nodup_cons.mp hn
    simp only [List.zip_cons_cons, bindC]
    obtain ⟨i1, i2⟩ := bindC_get (kindOf := kindOf) (if kindOf a = some .local then m else fun z => if z = a then some u else m z) hn2 r2
    refine ⟨fun x hx => ?_, fun x v e hk => ?_⟩
    · rw [List.mem_cons, not_or] at hx
      rw [i1 x hx.2]
      split
      · rfl
      · exact if_neg hx.1
    · simp only [rho0, List.zip_cons_cons, List.map_cons, List.lookup_cons] at e
      by_cases hxa : x = a
      · subst hxa
        rw [beq_self_eq_true] at e
        cases e
        rw [i1 x hn1, if_neg hk, if_pos rfl]
        exact ⟨u, rfl, r1⟩
      · have : (x == a) = false := beq_eq_false_iff_ne.mpr hxa
        rw [this] at e
        exact i2 x v e hk
theorem rho0_own {args : List Str} {xs : List PV} {x : Str} {ys : List PV} : (rho0 args xs).lookup x ≠ some (.own ys) := by
  intro e
  have := PySem.mem_of_lookup e
  simp [rho0] at this

/-- the frame of a call, as its body begins -/
theorem enter {ok : Addr → Prop} {s s₁ : Shared} {A : Around} {fd : FuncData} {a : Addr} {args : List Str} {vs : List Value} {xs : List PV} (hA : AOK d A) (hd : d ≤ 50) (B : Base mg mb K s.heap) (O : OkIn ok s.heap) (ht : 0 < s₁.toks)
    (hk : fd.scope.kind = .function) (hg : fd.globals = mainGlobals) (hb : fd.builtins = builtinsNs) (hn : args.Nodup) (r : RpAll ok s.heap vs xs)
    (X : InCallC s (callEnvC fd s.heap.objs.size a).locals (bindL (callEnvC fd s.heap.objs.size a).kindOf (args.zip vs) fun _ => none) (callEnvC fd s.heap.objs.size a).cells (bindC (callEnvC fd s.heap.objs.size a).kindOf (args.zip vs) fun _ => none) s₁) :
    SI mg mb K d A (fun b => ok b ∧ b ≠ s.heap.objs.size ∧ ∀ n, (callEnvC fd s.heap.objs.size a).cells.lookup n ≠ some b) s.heap s₁ (callEnvC fd s.heap.objs.size a) (rho0 args xs) (bindL (callEnvC fd s.heap.objs.size a).kindOf (args.zip vs) fun _ => none) := by
  have hL : (callEnvC fd s.heap.objs.size a).locals = s.heap.objs.size := rfl
  have fr : ∀ b, s.heap.objs.size ≤ b → s.heap.get? b = none := fun b hb => fresh_none hb
  have kk : Hk s.heap s₁.heap := X.toInCall.keep
  have im : ∀ b o, ok b → s.heap.get? b = some o → (ok b ∧ b ≠ s.heap.objs.size ∧ ∀ n, (callEnvC fd s.heap.objs.size a).cells.lookup n ≠ some b) ∧ s₁.heap.get? b = some o := fun b o hb e => by
    refine ⟨⟨hb, ?_, fun n q => ?_⟩, kk b o e⟩
    · rintro rfl; rw [fr _ (Nat.le_refl _)] at e; cases e
    · have := X.above n b (PySem.mem_of_lookup q)
      rw [hL] at this
      rw [fr _ (Nat.le_of_lt this)] at e; cases e
  have r' := r.imp im
  have gl := bindL_get (kindOf := (callEnvC fd s.heap.objs.size a).kindOf) (fun _ => none) hn r'
  have gc := bindC_get (kindOf := (callEnvC fd s.heap.objs.size a).kindOf) (fun _ => none) hn r'
  refine ⟨hA, hd, B, fun b hb => ?_, ht, ⟨hk, hg, hb, fun n e => ?_, X.toInCall.ns, fun x v e hk' => ?_, fun x ys e => absurd e rho0_own, fun x y ys zs b _ e => absurd e rho0_own, fun x v c e hk' hc => ?_, fr _ (Nat.le_refl _), fun q => q.2.1 rfl, fun n c e => ?_, fun n n' c e e' => name_of_addr X.apart (PySem.mem_of_lookup e) (PySem.mem_of_lookup e'), kk⟩⟩
  · refine ⟨O b ?_, ?_, fun n q => ?_⟩
    · cases e : s.heap.get? b with
      | none => rfl
      | some o => rw [kk b o e] at hb; first | exact noneF hb | cases hb
    · rintro rfl
      obtain ⟨o, _, _, ho, _⟩ := X.toInCall.ns
      rw [hL] at ho; rw [ho] at hb; cases hb
    · obtain ⟨o, ho, _⟩ := X.cell n b q
      rw [ho] at hb; cases hb
  · have := cellsFrom_some fd.scope.names (s.heap.objs.size + 1) [] (.inl e)
    exact Option.isSome_iff_exists.mp this
  · obtain ⟨u, h1, h2⟩ := gl.2 x v e hk'
    exact ⟨u, h1, h2⟩
  · obtain ⟨u, h1, h2⟩ := gc.2 x v e (by rw [hk']; simp)
    exact ⟨u, h1 ▸ X.cell x c hc, h2⟩
  · have := X.above n c (PySem.mem_of_lookup e)
    rw [hL] at this
    exact ⟨fr _ (Nat.le_of_lt this), fun q => q.2.2 n e, _, X.cell n c e⟩

/-- a call of a function of the text -/
theorem call_fn {T : Tab} (hT : TabOk prog w mg mb K (d + 1) T) (hd : d + 1 ≤ 50) {owns : List Str} {n : Nat} {fd : FuncData} {body : List Stmt} {a : Addr} {o : Obj} {args : List Str} {vs : List Value} {xs : List PV} {x : PV} {ρ' : Rho} {A : Around} {ok : Addr → Prop} {s : Shared}
    (hA : AOK d A) (B : Base mg mb K s.heap) (O : OkIn ok s.heap) (ht : 0 < s.toks) (r : RpAll ok s.heap vs xs)
    (ho : s.heap.get? a = some o) (hdata : o.data = .func fd) (hcd : s.heap.CodeRec fd.code fd.qualname) (hbody : fd.body = .stmts body) (hclo : fd.closure = []) (hg : fd.globals = mainGlobals) (hb : fd.builtins = builtinsNs)
    (hco : fd.scope.isCoroutine = false) (hgen : fd.scope.isGenerator = false) (hk : fd.scope.kind = .function) (hn : args.Nodup) (hnames : ∀ z ∈ args, nameOk fd.scope z = true)
    (hbind : bindArgs fd ⟨vs, []⟩ = pure (args.zip vs)) (hrun : seqL (exS T owns n fd.scope) body (rho0 args xs) = some (ρ', .ret x)) : EvTo (model prog w) A (call (.ref a) vs) ok s x := by
  intro Q E hQ
  refine wpAny_call (call_toks (hA.room (by omega)) ho hdata B.lim hcd hbody hbind hclo (fun z hz => ?_) (fun s₁ t₁ X => ?_) hco hgen hk)
  · have := hnames z.1 (List.of_mem_zip hz).1
    simp only [nameOk, Bool.or_eq_true, beq_iff_eq] at this
    rcases this with h | h
    · exact .inl h
    · exact .inr ⟨h, cellsFrom_some fd.scope.names _ [] (.inl h)⟩
  · have S := enter (hA.deeper (callEnvC fd s.heap.objs.size a)) hd B O (Nat.lt_of_lt_of_le ht t₁) hk hg hb hn r X
    obtain ⟨h₁, tk₁, rfl, k₁⟩ := X.done
    refine seq_snd (fun ρ st ρ' fl e => exS_snd hT owns n (callEnvC fd s.heap.objs.size a) ρ st ρ' fl e) hrun _ _ _ _ _ S _ _ fun ok' h tk m' f g1 g2 g3 g4 g5 => ?_
    obtain ⟨v, rfl, g5⟩ := g5
    refine hQ v _ (Keeps.of g4.fs.keep) ?_
    have im : ∀ b o, ok' b → h.get? b = some o → ok b ∧ h.get? b = some o := fun b o hb e => ⟨(g1 b hb).1, e⟩
    rcases g5 with g5 | ⟨b, us, ys, n', rfl, rfl, q1, q2, q3⟩
    · exact g5.imp im
    · exact .list (O b q1) q2 (q3.imp im)
end
end Mine
end
section
open PySem PySem.W PyProof.Rows
set_option maxRecDepth 100000
namespace Mine

noncomputable def rxC : Array Nat := #[14, 4, 0, 8, 4294967295, 24, 5, 0, 4294967295, 2, 1, 16, 70, 16, 76, 16, 65, 16, 71, 16, 83, 16, 32, 16, 40, 17, 0, 24, 6, 0, 4294967295, 20, 41, 1, 17, 1, 16, 41, 1]

noncomputable def it : Nat → Sre.M → Sre.M
  | 0, m => m
  | n + 1, m => it n m.step
theorem it_add : ∀ a b m, it (a + b) m = it b (it a m)
  | 0, b, m => by rw [Nat.zero_add]; rfl
  | a + 1, b, m => by rw [Nat.succ_add]; exact it_add a b m.step
theorem step_done {m : Sre.M} (h : m.outcome.isSome = true) : m.step = m := by
  unfold Sre.M.step; rw [if_pos h]
theorem it_done : ∀ {n : Nat} {m : Sre.M}, m.outcome.isSome = true → it n m = m
  | 0, _, _ => rfl
  | n + 1, m, h => by
    show it n m.step = m
    rw [step_done h]; exact it_done h
theorem runFor_it : ∀ (n : Nat) (m : Sre.M), m.runFor n = it n m
  | 0, _ => rfl
  | n + 1, m => by
    unfold Sre.M.runFor
    split
    · rename_i h; exact (it_done h).symm
    · exact runFor_it n m.step

/-- within k steps -/
noncomputable def Fin (k : Nat) (m : Sre.M) (Q : Sre.M → Prop) : Prop := ∃ j, j ≤ k ∧ Q (it j m)
theorem Fin.here {k : Nat} {m : Sre.M} {Q : Sre.M → Prop} (h : Q m) : Fin k m Q := ⟨0, Nat.zero_le _, h⟩
theorem Fin.step {k : Nat} {m m' : Sre.M} {Q : Sre.M → Prop} (e : m.step = m') (h : Fin k m' Q) : Fin (k + 1) m Q := by
  obtain ⟨j, hj, hq⟩ := h
  exact ⟨j + 1, Nat.succ_le_succ hj, by show Q (it j m.step); rw [e]; exact hq⟩
theorem Fin.mono {k k' : Nat} {m : Sre.M} {Q : Sre.M → Prop} (h : Fin k m Q) (hk : k ≤ k') : Fin k' m Q := by
  obtain ⟨j, hj, hq⟩ := h
  exact ⟨j, Nat.le_trans hj hk, hq⟩

noncomputable abbrev Mk := Option Nat × Option Nat
noncomputable def mk (T : Array Nat) (pc pos handed : Nat) (marks : Array (Option Nat)) (lm li : Int) (fs : List Sre.Frame) (wt : Nat) (ans : Option Bool) (seen : Sre.Seen) : Sre.M :=
  { code := rxC, text := T, lim := T.size, start := 0, pc, pos, handed, marks, lastmark := lm, lastindex := li, frames := fs, weight := wt, answer := ans, seen }

section
variable {T : Array Nat} {pc pos hd : Nat} {mk0 : Array (Option Nat)} {lm li : Int} {fs : List Sre.Frame} {wt : Nat} {seen : Sre.Seen} {k : Nat} {Q : Sre.M → Prop}

theorem step_lit {c : Nat} (hpc : pc < 39) (h0 : rxC.getD pc 0 = 16) (h1 : rxC.getD (pc + 1) 0 = c) (hp : pos < T.size) (ht : T.getD pos 0 = c)
    (h : ∀ seen, Fin k (mk T (pc + 2) (pos + 1) hd mk0 lm li fs wt none seen) Q) : Fin (k + 1) (mk T pc pos hd mk0 lm li fs wt none seen) Q := by
  have e : (mk T pc pos hd mk0 lm li fs wt none seen).step = mk T (pc + 2) (pos + 1) hd mk0 lm li fs wt none (seen.add ((mk T pc pos hd mk0 lm li fs wt none seen).word 0)) := by
    unfold Sre.M.step
    rw [if_neg (by simp [mk])]
    show (if pc < rxC.size then _ else _) = _
    rw [if_pos (by exact hpc)]
    unfold Sre.M.exec
    have e : Sre.ops[(mk T pc pos hd mk0 lm li fs wt none seen).word 0]? = some .LITERAL := by
      show Sre.ops[rxC.getD (pc + 0) 0]? = _
      rw [Nat.add_zero, h0]; rfl
    rw [e]
    dsimp only
    rw [if_neg (by simp [mk]; omega)]
    have ea : ∀ sn, Sre.accepts (mk T pc pos hd mk0 lm li fs wt none seen).code (mk T pc pos hd mk0 lm li fs wt none seen).pc ((mk T pc pos hd mk0 lm li fs wt none seen).text.getD (mk T pc pos hd mk0 lm li fs wt none seen).pos 0) sn = .ok (true, sn) := fun sn => by
      show Sre.accepts rxC pc (T.getD pos 0) sn = _
      unfold Sre.accepts
      rw [h0]
      show Except.ok (T.getD pos 0 == rxC.getD (pc + 1) 0, sn) = _
      rw [ht, h1]; simp
    rw [ea]
    have ew : Sre.itemWidth (mk T pc pos hd mk0 lm li fs wt none seen).code (mk T pc pos hd mk0 lm li fs wt none seen).pc = 2 := by
      show Sre.itemWidth rxC pc = 2
      unfold Sre.itemWidth
      rw [h0]; rfl
    dsimp only
    rw [ew]
    rfl
  exact Fin.step e (h _)

theorem word_pc {pc pos hd : Nat} {mk0 : Array (Option Nat)} {lm li : Int} {fs : List Sre.Frame} {wt : Nat} {ans : Option Bool} {seen : Sre.Seen} (j : Nat) : (mk T pc pos hd mk0 lm li fs wt ans seen).word j = rxC.getD (pc + j) 0 := rfl
theorem step_lit_no {c : Nat} (hpc : pc < 39) (h0 : rxC.getD pc 0 = 16) (h1 : rxC.getD (pc + 1) 0 = c) (ht : pos < T.size → T.getD pos 0 ≠ c)
    (h : ∀ seen, Fin k (mk T pc pos hd mk0 lm li fs wt (some false) seen) Q) : Fin (k + 1) (mk T pc pos hd mk0 lm li fs wt none seen) Q := by
  have e : (mk T pc pos hd mk0 lm li fs wt none seen).step = mk T pc pos hd mk0 lm li fs wt (some false) (seen.add ((mk T pc pos hd mk0 lm li fs wt none seen).word 0)) := by
    unfold Sre.M.step
    rw [if_neg (by simp [mk])]
    show (if pc < rxC.size then _ else _) = _
    rw [if_pos (by exact hpc)]
    unfold Sre.M.exec
    have e : Sre.ops[(mk T pc pos hd mk0 lm li fs wt none seen).word 0]? = some .LITERAL := by
      show Sre.ops[rxC.getD (pc + 0) 0]? = _
      rw [Nat.add_zero, h0]; rfl
    rw [e]
    dsimp only
    by_cases hp : pos < T.size
    · rw [if_neg (by simp [mk]; omega)]
      have ea : ∀ sn, Sre.accepts (mk T pc pos hd mk0 lm li fs wt none seen).code (mk T pc pos hd mk0 lm li fs wt none seen).pc ((mk T pc pos hd mk0 lm li fs wt none seen).text.getD (mk T pc pos hd mk0 lm li fs wt none seen).pos 0) sn = .ok (false, sn) := fun sn => by
        show Sre.accepts rxC pc (T.getD pos 0) sn = _
        unfold Sre.accepts
        rw [h0]
        show Except.ok (T.getD pos 0 == rxC.getD (pc + 1) 0, sn) = _
        rw [h1, beq_eq_false_iff_ne.mpr (ht hp)]
      rw [ea]
      rfl
    · rw [if_pos (by simp [mk]; omega)]
      rfl
  exact Fin.step e (h _)
theorem step_mark0 (hs : mk0.size = 2) (hl : lm = -1)
    (h : ∀ seen, Fin k (mk T 27 pos hd (mk0.setIfInBounds 0 (some pos)) 0 li fs wt none seen) Q) : Fin (k + 1) (mk T 25 pos hd mk0 lm li fs wt none seen) Q := by
  subst hl
  have e : (mk T 25 pos hd mk0 (-1) li fs wt none seen).step = mk T 27 pos hd (mk0.setIfInBounds 0 (some pos)) 0 li fs wt none (seen.add ((mk T 25 pos hd mk0 (-1) li fs wt none seen).word 0)) := rfl
  exact Fin.step e (h _)
theorem step_mark1 (hs : mk0.size = 2) (hl : lm = 0)
    (h : ∀ seen, Fin k (mk T 36 pos hd (mk0.setIfInBounds 1 (some pos)) 1 1 fs wt none seen) Q) : Fin (k + 1) (mk T 34 pos hd mk0 lm li fs wt none seen) Q := by
  subst hl
  have e : (mk T 34 pos hd mk0 0 li fs wt none seen).step = mk T 36 pos hd (mk0.setIfInBounds 1 (some pos)) 1 1 fs wt none (seen.add ((mk T 34 pos hd mk0 0 li fs wt none seen).word 0)) := by
    unfold Sre.M.step
    rw [if_neg (by simp [mk])]
    show (if 34 < rxC.size then _ else _) = _
    rw [if_pos (by decide)]
    unfold Sre.M.exec
    have e : Sre.ops[(mk T 34 pos hd mk0 0 li fs wt none seen).word 0]? = some .MARK := rfl
    rw [e]
    show Sre.M.mark _ 1 = _
    unfold Sre.M.mark
    rw [if_pos (by simp [mk])]
    simp [mk]
    omega
  exact Fin.step e (h _)
theorem step_success (h : ∀ seen, Fin k (mk T 38 pos pos mk0 lm li fs wt (some true) seen) Q) : Fin (k + 1) (mk T 38 pos hd mk0 lm li fs wt none seen) Q := by
  have e : (mk T 38 pos hd mk0 lm li fs wt none seen).step = mk T 38 pos pos mk0 lm li fs wt (some true) (seen.add ((mk T 38 pos hd mk0 lm li fs wt none seen).word 0)) := by
    unfold Sre.M.step
    rw [if_neg (by simp [mk])]
    show (if 38 < rxC.size then _ else _) = _
    rw [if_pos (by decide)]
    unfold Sre.M.exec
    have e : Sre.ops[(mk T 38 pos hd mk0 lm li fs wt none seen).word 0]? = some .SUCCESS := rfl
    rw [e]
    dsimp only
    rw [if_neg (by simp [mk])]
    rfl
  exact Fin.step e (h _)
noncomputable def gb (pc pos n : Nat) (lm li : Int) : Sre.Frame := { wait := .giveBack, pc, pos, outermost := true, count := n, kept := { lastmark := lm, lastindex := li } }
theorem step_yes {c p n : Nat} {lm0 li0 : Int} (h : ∀ seen, Fin k (mk T c p hd mk0 lm li fs (wt - 1) (some true) seen) Q) : Fin (k + 1) (mk T pc pos hd mk0 lm li (gb c p n lm0 li0 :: fs) wt (some true) seen) Q := by
  have e : (mk T pc pos hd mk0 lm li (gb c p n lm0 li0 :: fs) wt (some true) seen).step = mk T c p hd mk0 lm li fs (wt - 1) (some true) seen := rfl
  exact Fin.step e (h _)
theorem step_end (h : ∀ seen, Q { mk T pc pos hd mk0 lm li [] wt (some true) seen with outcome := some .matched }) : Fin (k + 1) (mk T pc pos hd mk0 lm li [] wt (some true) seen) Q := by
  have e : (mk T pc pos hd mk0 lm li [] wt (some true) seen).step = { mk T pc pos hd mk0 lm li [] wt (some true) seen with outcome := some .matched } := rfl
  exact Fin.step e (.here (h _))
theorem step_end_no (h : ∀ seen, Q { mk T pc pos hd mk0 lm li [] wt (some false) seen with outcome := some .failed }) : Fin (k + 1) (mk T pc pos hd mk0 lm li [] wt (some false) seen) Q := by
  have e : (mk T pc pos hd mk0 lm li [] wt (some false) seen).step = { mk T pc pos hd mk0 lm li [] wt (some false) seen with outcome := some .failed } := rfl
  exact Fin.step e (.here (h _))
/-- a character less -/
theorem step_back {c p n : Nat} {lm0 li0 : Int} (hc : rxC.getD (c + 2) 0 = 0) (hw : wt ≤ 100)
    (h : ∀ seen, Fin k (mk T (c + 1 + rxC.getD (c + 1) 0) (p - 1) (p - 1) mk0 lm0 li0 (gb c (p - 1) n lm0 li0 :: fs) (wt - 1 + 1) none seen) Q) : Fin (k + 1) (mk T pc pos hd mk0 lm li (gb c p (n + 1) lm0 li0 :: fs) wt (some false) seen) Q := by
  have e : (mk T pc pos hd mk0 lm li (gb c p (n + 1) lm0 li0 :: fs) wt (some false) seen).step = mk T (c + 1 + rxC.getD (c + 1) 0) (p - 1) (p - 1) mk0 lm0 li0 (gb c (p - 1) n lm0 li0 :: fs) (wt - 1 + 1) none seen := by
    unfold Sre.M.step
    rw [if_neg (by simp [mk])]
    show Sre.M.resume _ (gb c p (n + 1) lm0 li0) false = _
    unfold Sre.M.resume gb
    dsimp only
    rw [if_neg (by simp), if_neg (by
      show ¬ (((n + 1 : Nat) : Int) - 1 < ((rxC.getD (c + 2) 0 : Nat) : Int))
      rw [hc]; omega)]
    unfold Sre.M.afterRun Sre.M.attempt
    rw [if_neg (by simp [mk, Sre.M.putBack]; omega)]
    simp [mk, Sre.M.putBack, Sre.M.frame, Sre.M.word]
  exact Fin.step e (h _)
theorem step_out {c p : Nat} {lm0 li0 : Int} (hc : rxC.getD (c + 2) 0 = 0)
    (h : ∀ seen, Fin k (mk T c p hd mk0 lm0 li0 fs (wt - 1) (some false) seen) Q) : Fin (k + 1) (mk T pc pos hd mk0 lm li (gb c p 0 lm0 li0 :: fs) wt (some false) seen) Q := by
  have e : (mk T pc pos hd mk0 lm li (gb c p 0 lm0 li0 :: fs) wt (some false) seen).step = mk T c p hd mk0 lm0 li0 fs (wt - 1) (some false) seen := by
    unfold Sre.M.step
    rw [if_neg (by simp [mk])]
    show Sre.M.resume _ (gb c p 0 lm0 li0) false = _
    unfold Sre.M.resume gb
    dsimp only
    rw [if_neg (by simp), if_pos (by
      show (((0 : Nat) : Int) - 1 < ((rxC.getD (c + 2) 0 : Nat) : Int))
      rw [hc]; decide)]
    rfl
  exact Fin.step e (h _)
/-- how far a run goes -/
theorem run_len {i : Nat} {f : Nat → Bool} (hf : ∀ c seen, Sre.accepts rxC i c seen = .ok (f c, seen)) : ∀ (n p found : Nat) (seen : Sre.Seen) (r : Nat), r ≤ n → (∀ j, j < r → f (T.getD (p + j) 0) = true) → (r = n ∨ f (T.getD (p + r) 0) = false) →
    Sre.run rxC T i n p found seen = .ok (found + r, seen)
  | 0, p, found, seen, r, h1, _, _ => by
    have : r = 0 := by omega
    subst this; rfl
  | n + 1, p, found, seen, r, h1, h2, h3 => by
    unfold Sre.run
    show (Sre.accepts rxC i (T.getD p 0) seen >>= _) = _
    rw [hf]
    cases r with
    | zero =>
      rcases h3 with h3 | h3
      · first | exact noneF h3 | cases h3
      · rw [Nat.add_zero] at h3
        rw [h3]; rfl
    | succ r =>
      have h0 := h2 0 (by omega)
      rw [Nat.add_zero] at h0
      rw [h0]
      show Sre.run rxC T i n (p + 1) (found + 1) seen = _
      rw [run_len hf n (p + 1) (found + 1) seen r (by omega) (fun j hj => by have := h2 (j + 1) (by omega); rwa [show p + 1 + j = p + (j + 1) by omega]) (by
        rcases h3 with h3 | h3
        · exact .inl (by omega)
        · exact .inr (by rwa [show p + 1 + r = p + (r + 1) by omega]))]
      rw [show found + 1 + r = found + (r + 1) by omega]
theorem step_rep {f : Nat → Bool} {r : Nat} (hpc : pc < 39) (h0 : rxC.getD pc 0 = 24) (h2 : rxC.getD (pc + 2) 0 = 0) (h3 : rxC.getD (pc + 3) 0 = 4294967295) (hsz : T.size ≤ 4294967295) (hw : wt ≤ 100) (hp : pos ≤ T.size)
    (hf : ∀ c seen, Sre.accepts rxC (pc + 4) c seen = .ok (f c, seen)) (hr : pos + r ≤ T.size) (hr1 : ∀ j, j < r → f (T.getD (pos + j) 0) = true) (hr2 : pos + r = T.size ∨ f (T.getD (pos + r) 0) = false)
    (h : ∀ seen, Fin k (mk T (pc + 1 + rxC.getD (pc + 1) 0) (pos + r) (pos + r) mk0 lm li (gb pc (pos + r) r lm li :: fs) (wt + 1) none seen) Q) : Fin (k + 1) (mk T pc pos hd mk0 lm li fs wt none seen) Q := by
  have e : (mk T pc pos hd mk0 lm li fs wt none seen).step = mk T (pc + 1 + rxC.getD (pc + 1) 0) (pos + r) (pos + r) mk0 lm li (gb pc (pos + r) r lm li :: fs) (wt + 1) none ((seen.add (rxC.getD (pc + 0) 0)).add (rxC.getD (pc + 4) 0)) := by
    unfold Sre.M.step
    rw [if_neg (by simp [mk])]
    show (if pc < rxC.size then _ else _) = _
    rw [if_pos (by exact hpc)]
    unfold Sre.M.exec
    have e : Sre.ops[(mk T pc pos hd mk0 lm li fs wt none seen).word 0]? = some .REPEAT_ONE := by
      show Sre.ops[rxC.getD (pc + 0) 0]? = _
      rw [Nat.add_zero, h0]; rfl
    rw [e]
    dsimp only
    have w2 : ∀ sn, (mk T pc pos hd mk0 lm li fs wt none sn).word 2 = 0 := fun sn => h2
    have w3 : ∀ sn, (mk T pc pos hd mk0 lm li fs wt none sn).word 3 = 4294967295 := fun sn => h3
    rw [if_neg (by
      show ¬ (((rxC.getD (pc + 2) 0 : Nat) : Int) > ((T.size : Nat) : Int) - pos)
      rw [h2]; omega)]
    have er : ∀ sn, Sre.run (mk T pc pos hd mk0 lm li fs wt none seen).code (mk T pc pos hd mk0 lm li fs wt none seen).text ((mk T pc pos hd mk0 lm li fs wt none seen).pc + 4) (min 4294967295 (((mk T pc pos hd mk0 lm li fs wt none seen).lim : Int) - (mk T pc pos hd mk0 lm li fs wt none seen).pos).toNat) (mk T pc pos hd mk0 lm li fs wt none seen).pos 0 sn = .ok (0 + r, sn) := fun sn => by
      refine run_len (T := T) (i := pc + 4) hf _ pos 0 sn r ?_ hr1 ?_
      · show r ≤ min 4294967295 (((T.size : Nat) : Int) - (pos : Nat)).toNat
        omega
      · rcases hr2 with h | h
        · left
          show r = min 4294967295 (((T.size : Nat) : Int) - (pos : Nat)).toNat
          omega
        · exact .inr h
    have er' : ∀ sn, Sre.run (mk T pc pos hd mk0 lm li fs wt none seen).code (mk T pc pos hd mk0 lm li fs wt none seen).text ((mk T pc pos hd mk0 lm li fs wt none seen).pc + 4) (min (if false = true then rxC.getD (pc + 2) 0 else rxC.getD (pc + 3) 0) (((mk T pc pos hd mk0 lm li fs wt none seen).lim : Int) - (mk T pc pos hd mk0 lm li fs wt none seen).pos).toNat) (mk T pc pos hd mk0 lm li fs wt none seen).pos 0 sn = .ok (0 + r, sn) := fun sn => by
      rw [if_neg Bool.false_ne_true, h3]; exact er sn
    show (match Sre.run _ _ _ (min (if false = true then rxC.getD (pc + 2) 0 else rxC.getD (pc + 3) 0) _) _ 0 ((seen.add (rxC.getD (pc + 0) 0)).add (rxC.getD (pc + 4) 0)) with | .error why => _ | .ok (n, seen) => _) = _
    rw [er']
    dsimp only
    rw [if_neg (by
      show ¬ (0 + r < rxC.getD (pc + 2) 0)
      rw [h2]; omega)]
    unfold Sre.M.afterRun Sre.M.attempt
    rw [if_neg (by simp [mk, Sre.M.keep]; omega)]
    simp only [Nat.zero_add]
    rfl
  exact Fin.step e (h _)
end
end Mine
end
section
open PySem PySem.W PyProof.Rows
set_option maxRecDepth 100000
namespace Mine

noncomputable def isAt (T : Array Nat) (p : Nat) : List Nat → Bool
  | [] => true
  | c :: r => decide (p < T.size) && T.getD p 0 == c && isAt T (p + 1) r
noncomputable def CodeLit (pc : Nat) : List Nat → Prop
  | [] => True
  | c :: r => pc < 39 ∧ rxC.getD pc 0 = 16 ∧ rxC.getD (pc + 1) 0 = c ∧ CodeLit (pc + 2) r
noncomputable def rxL : List Nat := [70, 76, 65, 71, 83, 32, 40]
theorem code_rxL : CodeLit 11 rxL := by
  simp only [CodeLit, rxL]
  decide

section
variable {T : Array Nat} {pc pos hd : Nat} {mk0 : Array (Option Nat)} {lm li : Int} {fs : List Sre.Frame} {wt : Nat} {seen : Sre.Seen} {k : Nat} {Q : Sre.M → Prop}
theorem lits_yes : ∀ {ls : List Nat} {pc p : Nat} {seen : Sre.Seen}, isAt T p ls = true → CodeLit pc ls → (∀ seen, Fin k (mk T (pc + 2 * ls.length) (p + ls.length) hd mk0 lm li fs wt none seen) Q) → Fin (k + ls.length) (mk T pc p hd mk0 lm li fs wt none seen) Q
  | [], pc, p, seen, _, _, h => h seen
  | c :: r, pc, p, seen, hi, hc, h => by
    unfold isAt at hi
    simp only [Bool.and_eq_true, decide_eq_true_eq, beq_iff_eq] at hi
    obtain ⟨h1, h2, h3, h4⟩ := hc
    refine step_lit (k := k + r.length) h1 h2 h3 hi.1.1 hi.1.2 fun seen => ?_
    refine lits_yes hi.2 h4 fun seen => ?_
    have := h seen
    rw [show pc + 2 * (c :: r).length = pc + 2 + 2 * r.length by rw [List.length_cons]; omega, show p + (c :: r).length = p + 1 + r.length by rw [List.length_cons]; omega] at this
    exact this
theorem lits_no : ∀ {ls : List Nat} {pc p : Nat} {seen : Sre.Seen}, isAt T p ls = false → CodeLit pc ls → (∀ pc' pos' seen, Fin k (mk T pc' pos' hd mk0 lm li fs wt (some false) seen) Q) → Fin (k + ls.length) (mk T pc p hd mk0 lm li fs wt none seen) Q
  | [], pc, p, seen, hi, _, _ => by cases hi
  | c :: r, pc, p, seen, hi, hc, h => by
    obtain ⟨h1, h2, h3, h4⟩ := hc
    by_cases hp : p < T.size ∧ T.getD p 0 = c
    · refine step_lit (k := k + r.length) h1 h2 h3 hp.1 hp.2 fun seen => ?_
      refine lits_no ?_ h4 h
      unfold isAt at hi
      rw [hp.2] at hi
      simpa [hp.1] using hi
    · refine Fin.mono (step_lit_no (k := k) h1 h2 h3 (fun a b => hp ⟨a, b⟩) fun seen => h _ _ seen) (by rw [List.length_cons]; omega)

theorem acc_any (c : Nat) (seen : Sre.Seen) : Sre.accepts rxC (5 + 4) c seen = .ok (c != 10, seen) := rfl
theorem acc_not (c : Nat) (seen : Sre.Seen) : Sre.accepts rxC (27 + 4) c seen = .ok (c != 41, seen) := rfl

/-- the group is opened, but closed nowhere -/
theorem inner_fail {p : Nat} {a : Option Nat} (hn : ∀ j, p ≤ j → j < T.size → T.getD j 0 ≠ 41) : ∀ (c : Nat) (b : Option Nat) (hd : Nat) (seen : Sre.Seen), p + c ≤ T.size →
    (∀ b hd seen, Fin k (mk T 27 p hd #[a, b] 0 li fs 1 (some false) seen) Q) → Fin (k + 3 * (c + 1)) (mk T 34 (p + c) hd #[a, b] 0 li (gb 27 (p + c) c 0 li :: fs) 2 none seen) Q
  | 0, b, hd, seen, hc, h => by
    refine step_mark1 (k := k + 2) rfl rfl fun seen => step_lit_no (k := k + 1) (c := 41) (by decide) rfl rfl (fun hp => hn _ (Nat.le_add_right _ _) hp) fun seen => ?_
    exact step_out (wt := 2) (by rfl) fun seen => h _ _ seen
  | c + 1, b, hd, seen, hc, h => by
    rw [show k + 3 * (c + 1 + 1) = k + 3 * (c + 1) + 1 + 1 + 1 by omega]
    refine step_mark1 rfl rfl fun seen => step_lit_no (c := 41) (by decide) rfl rfl (fun hp => hn _ (Nat.le_add_right _ _) hp) fun seen => ?_
    refine step_back (wt := 2) (by rfl) (by decide) fun seen => ?_
    have := inner_fail hn c (some (p + (c + 1))) (p + c) seen (by omega) h
    exact this

noncomputable def missAt (T : Array Nat) (p : Nat) : Prop := isAt T p rxL = false ∨ ∀ j, p + 7 ≤ j → j < T.size → T.getD j 0 ≠ 41
theorem isAt_size : ∀ {ls : List Nat} {p : Nat}, isAt T p ls = true → p ≤ T.size → p + ls.length ≤ T.size
  | [], p, _, hp => hp
  | c :: r, p, h, _ => by
    unfold isAt at h
    simp only [Bool.and_eq_true, decide_eq_true_eq] at h
    have := isAt_size h.2 (by omega)
    rw [List.length_cons]; omega

theorem try_miss {p : Nat} {a b : Option Nat} (hsz : T.size ≤ 16000000) (hp : p ≤ T.size) (hm : missAt T p) (h : ∀ pc pos hd a b lm li seen, Fin k (mk T pc pos hd #[a, b] lm li fs 1 (some false) seen) Q) :
    Fin (k + (3 * T.size + 20)) (mk T 11 p hd #[a, b] (-1) li fs 1 none seen) Q := by
  cases hi : isAt T p rxL with
  | false => exact Fin.mono (lits_no hi code_rxL fun pc' pos' seen => h _ _ _ _ _ _ _ seen) (by have : rxL.length = 7 := rfl; omega)
  | true =>
    have hn : ∀ j, p + 7 ≤ j → j < T.size → T.getD j 0 ≠ 41 := by
      rcases hm with hm | hm
      · rw [hi] at hm; cases hm
      · exact hm
    have hs := isAt_size hi hp
    have hs : p + 7 ≤ T.size := hs
    refine Fin.mono (k := k + 3 * (T.size - (p + 7) + 1) + 1 + 1 + 7) (lits_yes hi code_rxL fun seen => ?_) (by omega)
    show Fin _ (mk T 25 (p + 7) hd #[a, b] (-1) li fs 1 none seen) Q
    refine step_mark0 rfl rfl fun seen => ?_
    show Fin _ (mk T 27 (p + 7) hd #[some (p + 7), b] 0 li fs 1 none seen) Q
    refine step_rep (f := fun c => c != 41) (r := T.size - (p + 7)) (by decide) rfl rfl rfl (by omega) (by decide) hs acc_not (by omega) (fun j hj => ?_) (.inl (by omega)) fun seen => ?_
    · have := hn (p + 7 + j) (by omega) (by omega)
      simpa using this
    · exact inner_fail (p := p + 7) hn _ b _ seen (by omega) fun b hd seen => h _ _ _ _ _ _ _ seen

noncomputable def Found (b e : Nat) (m : Sre.M) : Prop := m.outcome = some .matched ∧ m.lastmark = 1 ∧ m.lastindex = 1 ∧ m.marks = #[some b, some e] ∧ m.start = 0 ∧ m.handed = e + 1
structure hitAt (T : Array Nat) (p q : Nat) : Prop where
  lit : isAt T p rxL = true
  le : p + 7 ≤ q
  lt : q < T.size
  cl : T.getD q 0 = 41
  no : ∀ j, p + 7 ≤ j → j < q → T.getD j 0 ≠ 41

theorem try_hit {p q n : Nat} {a b : Option Nat} {lm0 li0 : Int} (hsz : T.size ≤ 16000000) (hm : hitAt T p q) : Fin 20 (mk T 11 p hd #[a, b] (-1) li [gb 5 p n lm0 li0] 1 none seen) (Found (p + 7) q) := by
  have h1 := hm.le
  have h2 := hm.lt
  refine Fin.mono (k := 1 + 1 + 1 + 1 + 1 + 1 + 1 + 1 + 7) (lits_yes hm.lit code_rxL fun seen => ?_) (by omega)
  show Fin _ (mk T 25 (p + 7) hd #[a, b] (-1) li _ 1 none seen) _
  refine step_mark0 rfl rfl fun seen => ?_
  show Fin _ (mk T 27 (p + 7) hd #[some (p + 7), b] 0 li _ 1 none seen) _
  refine step_rep (f := fun c => c != 41) (r := q - (p + 7)) (by decide) rfl rfl rfl (by omega) (by decide) (by omega) acc_not (by omega) (fun j hj => ?_) (.inr ?_) fun seen => ?_
  · have := hm.no (p + 7 + j) (by omega) (by omega)
    simpa using this
  · rw [show p + 7 + (q - (p + 7)) = q by omega, hm.cl]; rfl
  · rw [show p + 7 + (q - (p + 7)) = q by omega]
    refine step_mark1 rfl rfl fun seen => ?_
    show Fin _ (mk T 36 q q #[some (p + 7), some q] 1 1 _ 2 none seen) _
    refine step_lit (c := 41) (by decide) rfl rfl h2 hm.cl fun seen => step_success fun seen => step_yes fun seen => step_yes fun seen => step_end fun seen => ?_
    exact ⟨rfl, rfl, rfl, rfl, rfl, rfl⟩

theorem outer_hit {h q : Nat} (hsz : T.size ≤ 16000000) (hh : hitAt T h q) : ∀ (c : Nat) (hd : Nat) (a b : Option Nat) (seen : Sre.Seen), h + c ≤ T.size → (∀ p, h < p → p ≤ h + c → missAt T p) →
    Fin (20 + c * (3 * T.size + 21)) (mk T 11 (h + c) hd #[a, b] (-1) (-1) [gb 5 (h + c) (h + c) (-1) (-1)] 1 none seen) (Found (h + 7) q)
  | 0, hd, a, b, seen, _, _ => Fin.mono (try_hit hsz hh) (by omega)
  | c + 1, hd, a, b, seen, hc, hm => by
    refine Fin.mono (k := 20 + c * (3 * T.size + 21) + 1 + (3 * T.size + 20)) ?_ (by rw [Nat.succ_mul c]; omega)
    refine try_miss hsz hc (hm _ (by omega) (by omega)) fun pc pos hd a b lm li seen => ?_
    refine step_back (c := 5) (p := h + (c + 1)) (n := h + c) (wt := 1) rfl (by decide) fun seen => ?_
    exact outer_hit hsz hh c _ a b seen (by omega) fun p h1 h2 => hm p h1 (by omega)
theorem outer_none (hsz : T.size ≤ 16000000) : ∀ (c : Nat) (hd : Nat) (a b : Option Nat) (seen : Sre.Seen), c ≤ T.size → (∀ p, p ≤ c → missAt T p) →
    Fin (2 + (c + 1) * (3 * T.size + 21)) (mk T 11 c hd #[a, b] (-1) (-1) [gb 5 c c (-1) (-1)] 1 none seen) (fun m => m.outcome = some .failed)
  | 0, hd, a, b, seen, hc, hm => by
    refine Fin.mono (k := 1 + 1 + (3 * T.size + 20)) ?_ (by omega)
    refine try_miss hsz hc (hm _ (Nat.le_refl _)) fun pc pos hd a b lm li seen => ?_
    exact step_out (c := 5) (p := 0) (wt := 1) rfl fun seen => step_end_no fun seen => rfl
  | c + 1, hd, a, b, seen, hc, hm => by
    refine Fin.mono (k := 2 + (c + 1) * (3 * T.size + 21) + 1 + (3 * T.size + 20)) ?_ (by rw [Nat.succ_mul (c + 1)]; omega)
    refine try_miss hsz hc (hm _ (Nat.le_refl _)) fun pc pos hd a b lm li seen => ?_
    refine step_back (c := 5) (p := c + 1) (n := c) (wt := 1) rfl (by decide) fun seen => ?_
    exact outer_none hsz c _ a b seen (by omega) fun p h1 => hm p (by omega)

theorem start_eq (h8 : 8 ≤ T.size) : Sre.forMatch rxC T 1 0 T.size false false = mk T 5 0 0 #[none, none] (-1) (-1) [] 0 none (({} : Sre.Seen).add 14) := by
  unfold Sre.forMatch
  rw [show (Sre.header rxC).1 = 8 from rfl]
  rw [if_neg (by simp; omega)]
  rfl
/-- the first row's length -/
structure RowLen (T : Array Nat) (r : Nat) : Prop where
  le : r ≤ T.size
  ok : ∀ j, j < r → T.getD j 0 ≠ 10
  stop : r = T.size ∨ T.getD r 0 = 10
theorem match_hit {h q r : Nat} (h8 : 8 ≤ T.size) (hsz : T.size ≤ 16000000) (R : RowLen T r) (hr : h ≤ r) (hh : hitAt T h q) (hm : ∀ p, h < p → p ≤ r → missAt T p) :
    Fin (2 ^ 60) (Sre.forMatch rxC T 1 0 T.size false false) (Found (h + 7) q) := by
  rw [start_eq h8]
  have h1 := R.le
  refine Fin.mono (k := 20 + (r - h) * (3 * T.size + 21) + 1) ?_ ?_
  · refine step_rep (f := fun c => c != 10) (r := r) (by decide) rfl rfl rfl (by omega) (by decide) (by omega) acc_any (by omega) (fun j hj => ?_) ?_ fun seen => ?_
    · have := R.ok j hj
      simpa using this
    · rcases R.stop with h | h
      · exact .inl (by omega)
      · exact .inr (by rw [Nat.zero_add, h]; rfl)
    · have := outer_hit hsz hh (r - h) (0 + r) none none seen (by omega) fun p q1 q2 => hm p q1 (by omega)
      rw [show h + (r - h) = 0 + r by omega] at this
      rw [show gb 5 (0 + r) r (-1) (-1) = gb 5 (0 + r) (0 + r) (-1) (-1) by rw [Nat.zero_add]]
      exact this
  · have : (r - h) * (3 * T.size + 21) ≤ 16000000 * (3 * 16000000 + 21) := Nat.mul_le_mul (by omega) (by omega)
    have e : 16000000 * (3 * 16000000 + 21) + 21 ≤ 2 ^ 60 := by decide
    omega
theorem match_none {r : Nat} (h8 : 8 ≤ T.size) (hsz : T.size ≤ 16000000) (R : RowLen T r) (hm : ∀ p, p ≤ r → missAt T p) :
    Fin (2 ^ 60) (Sre.forMatch rxC T 1 0 T.size false false) (fun m => m.outcome = some .failed) := by
  rw [start_eq h8]
  have h1 := R.le
  refine Fin.mono (k := 2 + (r + 1) * (3 * T.size + 21) + 1) ?_ ?_
  · refine step_rep (f := fun c => c != 10) (r := r) (by decide) rfl rfl rfl (by omega) (by decide) (by omega) acc_any (by omega) (fun j hj => ?_) ?_ fun seen => ?_
    · have := R.ok j hj
      simpa using this
    · rcases R.stop with h | h
      · exact .inl (by omega)
      · exact .inr (by rw [Nat.zero_add, h]; rfl)
    · have := outer_none hsz r (0 + r) none none seen (by omega) hm
      rw [show gb 5 (0 + r) r (-1) (-1) = gb 5 r r (-1) (-1) by rw [Nat.zero_add]]
      rw [Nat.zero_add] at this ⊢
      exact this
  · have : (r + 1) * (3 * T.size + 21) ≤ 16000001 * (3 * 16000000 + 21) := Nat.mul_le_mul (by omega) (by omega)
    have e : 16000001 * (3 * 16000000 + 21) + 21 ≤ 2 ^ 60 := by decide
    omega
end
end Mine
end
section
open PySem PySem.W PyProof.Rows
set_option maxRecDepth 100000
namespace Mine
theorem pa_pat : PlainAttrs "re.Pattern" :=
  ⟨⟨"object.__getattribute__", by rw [typeLookup_type, builtinLookup_eq_fast]; kernel_rfl, by decide +kernel⟩, by rw [typeLookup_type, builtinLookup_eq_fast]; kernel_rfl⟩
theorem pa_mo : PlainAttrs "re.Match" :=
  ⟨⟨"object.__getattribute__", by rw [typeLookup_type, builtinLookup_eq_fast]; kernel_rfl, by decide +kernel⟩, by rw [typeLookup_type, builtinLookup_eq_fast]; kernel_rfl⟩
theorem slot_match : Slot "re.Pattern" "match" "re.Pattern.match" :=
  .of (owner := "re.Pattern") (n := "match") (by rw [typeLookup_type, builtinLookup_eq_fast]; kernel_rfl) (by decide +kernel) (by decide +kernel) (by decide +kernel)
    (by first | exact .inl (by decide +kernel) | exact .inr (by decide +kernel)) (by rw [isSubtype_type]; kernel_rfl)
theorem type_match : typeOf (.builtin "re.Pattern.match") = pure (.type "method_descriptor") := by show builtinType _ = _; rw [builtinType_eq_fast]; kernel_rfl
theorem entry_match : entryFor table "re.Pattern.match" = some Builtin.«re.Pattern.match» := entryFor_of_tree (by kernel_rfl)
theorem owner_pat : Manifest.owners.lookup (String.ofList ['n', 'r', 'e', 't', 't', 'a', 'P', '.', 'e', 'r'].reverse) = some Manifest.sig_re_Pattern := by kernel_rfl
theorem args_match (a b : Value) : argsOk "re.Pattern.match" ⟨[a, b], []⟩ := by
  unfold argsOk; rw [signature?_of (id := "re.Pattern.match") (n := ['h', 'c', 't', 'a', 'm']) (o := ['n', 'r', 'e', 't', 't', 'a', 'P', '.', 'e', 'r']) (by kernel_rfl) owner_pat]; kernel_rfl
theorem slot_group : Slot "re.Match" "group" "re.Match.group" :=
  .of (owner := "re.Match") (n := "group") (by rw [typeLookup_type, builtinLookup_eq_fast]; kernel_rfl) (by decide +kernel) (by decide +kernel) (by decide +kernel)
    (by first | exact .inl (by decide +kernel) | exact .inr (by decide +kernel)) (by rw [isSubtype_type]; kernel_rfl)
theorem type_group : typeOf (.builtin "re.Match.group") = pure (.type "method_descriptor") := by show builtinType _ = _; rw [builtinType_eq_fast]; kernel_rfl
theorem entry_group : entryFor table "re.Match.group" = some Builtin.«re.Match.group» := entryFor_of_tree (by kernel_rfl)
theorem owner_mo : Manifest.owners.lookup (String.ofList ['h', 'c', 't', 'a', 'M', '.', 'e', 'r'].reverse) = some Manifest.sig_re_Match := by kernel_rfl
theorem args_group (a b : Value) : argsOk "re.Match.group" ⟨[a, b], []⟩ := by
  unfold argsOk; rw [signature?_of (id := "re.Match.group") (n := ['p', 'u', 'o', 'r', 'g']) (o := ['h', 'c', 't', 'a', 'M', '.', 'e', 'r']) (by kernel_rfl) owner_mo]; kernel_rfl
theorem slot_bsplit : Slot "bytes" "split" "bytes.split" :=
  .of (owner := "bytes") (n := "split") (by rw [typeLookup_type, builtinLookup_eq_fast]; kernel_rfl) (by decide +kernel) (by decide +kernel) (by decide +kernel)
    (by first | exact .inl (by decide +kernel) | exact .inr (by decide +kernel)) (by rw [isSubtype_type]; kernel_rfl)
theorem type_bsplit : typeOf (.builtin "bytes.split") = pure (.type "method_descriptor") := by show builtinType _ = _; rw [builtinType_eq_fast]; kernel_rfl
theorem entry_bsplit : entryFor table "bytes.split" = some Builtin.«bytes.split» := entryFor_of_tree (by kernel_rfl)
theorem args_bsplit (a : Value) : argsOk "bytes.split" ⟨[a], []⟩ := by
  unfold argsOk; rw [signature?_of (id := "bytes.split") (n := ['t', 'i', 'l', 'p', 's']) (o := ['s', 'e', 't', 'y', 'b']) (by kernel_rfl) FB.owner_bytes]; kernel_rfl
theorem slot_bjoin : Slot "bytes" "join" "bytes.join" :=
  .of (owner := "bytes") (n := "join") (by rw [typeLookup_type, builtinLookup_eq_fast]; kernel_rfl) (by decide +kernel) (by decide +kernel) (by decide +kernel)
    (by first | exact .inl (by decide +kernel) | exact .inr (by decide +kernel)) (by rw [isSubtype_type]; kernel_rfl)
theorem type_bjoin : typeOf (.builtin "bytes.join") = pure (.type "method_descriptor") := by show builtinType _ = _; rw [builtinType_eq_fast]; kernel_rfl
theorem entry_bjoin : entryFor table "bytes.join" = some Builtin.«bytes.join» := entryFor_of_tree (by kernel_rfl)
theorem args_bjoin (a b : Value) : argsOk "bytes.join" ⟨[a, b], []⟩ := by
  unfold argsOk; rw [signature?_of (id := "bytes.join") (n := ['n', 'i', 'o', 'j']) (o := ['s', 'e', 't', 'y', 'b']) (by kernel_rfl) FB.owner_bytes]; kernel_rfl
end Mine
end
section
open PySem PySem.W PyProof.Rows
set_option maxRecDepth 100000
namespace Mine
open PySem.Builtin.Re in
theorem drive_ok {M : Model} {A : Around} {s : Shared} {Q : Sre.M → Shared → Prop} {E : Value → Shared → Prop} : ∀ (turns j : Nat) (m : Sre.M), j < 4 * turns → (it j m).outcome.isSome = true → Q (it j m) s → wpAny M A (reDrive turns m) Q E s
  | 0, j, m, h, _, _ => by omega
  | turns + 1, j, m, h, ho, hq => by
    unfold reDrive
    show wpAny M A (if (m.runFor 4).outcome.isSome then pure (m.runFor 4) else rule "sre.turn" >>= fun _ => reDrive turns (m.runFor 4)) Q E s
    rw [runFor_it]
    by_cases hj : j ≤ 4
    · have e : it 4 m = it j m := by
        rw [show 4 = j + (4 - j) by omega, it_add]
        exact it_done ho
      rw [e, if_pos ho]
      exact wpAny_pure hq
    · have e : it j m = it (j - 4) (it 4 m) := by
        rw [← it_add]; congr 1; omega
      split
      · rename_i h4
        rw [e, it_done h4] at hq
        exact wpAny_pure hq
      · rw [e] at ho hq
        exact wpAny_bind (wpAny_rule (drive_ok turns (j - 4) (it 4 m) (by omega) ho hq))
theorem rules_ok {M : Model} {A : Around} {s : Shared} {Q : PUnit → Shared → Prop} {E : Value → Shared → Prop} (f : Nat → PUnit → Sem (ForInStep PUnit)) (hf : ∀ i u (Q : ForInStep PUnit → Shared → Prop), Q (.yield ⟨⟩) s → wpAny M A (f i u) Q E s) : ∀ (l : List Nat), Q ⟨⟩ s → wpAny M A (forIn l ⟨⟩ f) Q E s
  | [], h => by rw [List.forIn_nil]; exact wpAny_pure h
  | i :: l, h => by
    rw [List.forIn_cons]
    exact wpAny_bind (hf i ⟨⟩ _ (rules_ok f hf l h))
open PySem.Builtin.Re in
theorem toEnd_ok {M : Model} {A : Around} {s : Shared} {Q : Option Sre.M → Shared → Prop} {E : Value → Shared → Prop} {m : Sre.M} {P : Sre.M → Prop} (h : Fin (2 ^ 60) m P) (hP : ∀ m, P m → m.outcome = some .matched ∧ Q (some m) s ∨ m.outcome = some .failed ∧ Q none s) :
    wpAny M A (reRunToEnd m) Q E s := by
  obtain ⟨j, hj, hp⟩ := h
  have hq := hP _ hp
  unfold reRunToEnd
  refine wpAny_bind (drive_ok (2 ^ 64) j m ?_ ?_ ?_)
  · have e : 2 ^ 60 < 4 * 2 ^ 64 := by decide
    exact Nat.lt_of_le_of_lt hj e
  · rcases hq with hq | hq <;> rw [hq.1] <;> rfl
  · refine wpAny_bind (rules_ok _ (fun i u Q' hQ' => ?_) _ ?_)
    · split
      · exact wpAny_bind (wpAny_rule (wpAny_pure hQ'))
      · exact wpAny_pure hQ'
    · rcases hq with hq | hq
      · rw [hq.1]; exact wpAny_pure hq.2
      · rw [hq.1]; exact wpAny_pure hq.2

open PySem.Builtin PySem.Builtin.Re
theorem named_eq {v : Value} : reNamed "re.Pattern.match" "match" ["string", "pos", "endpos"] 1 [v] [] = pure [some v, none, none] := by kernel_rfl
theorem text_eq {b : Array UInt8} {t : Tok} : reTextOf (.bytes b t) = pure (b.map (·.toNat), 1) := by
  unfold reTextOf
  rw [KBy.quiet_eq]
  rfl
theorem coll_eq {b : Array UInt8} {t : Tok} : reNoCollectionInside (.bytes b t) 1 = pure () := by
  kernel_rfl

/-- the pattern that the top laid -/
structure PatAt (prog : Program) (w : World) (h : Heap) (p : Addr) : Prop where
  pat : ∃ pb t1 t2 dd dt ct, h.get? p = some { cls := .type "re.Pattern", data := .fields #[.bytes pb t1, .int 0 t2, .int 1 0, .ref dd, .ref dt, .ref ct, .int 1 0] } ∧
    (∃ f t4, h.MapOf (strKind prog w) dd f ∧ f "flags" = some (.int 1 t4)) ∧
    ∃ o items n, h.get? ct = some o ∧ o.data = .seq items n ∧ (items.map reRawOf).map (·.toNat) = rxC
theorem PatAt.hk {prog : Program} {w : World} {h h' : Heap} {p : Addr} (x : PatAt prog w h p) (k : ∀ b o, h.get? b = some o → h'.get? b = some o) : PatAt prog w h' p := by
  obtain ⟨pb, t1, t2, dd, dt, ct, h1, ⟨f, t4, h2, h3⟩, o, items, n, h4, h5, h6⟩ := x.pat
  obtain ⟨od, es, ep, q1, q2⟩ := h2
  exact ⟨pb, t1, t2, dd, dt, ct, k _ _ h1, ⟨f, t4, ⟨od, es, ep, k _ _ q1, q2⟩, h3⟩, o, items, n, k _ _ h4, h5, h6⟩
/-- a match, found -/
structure MoAt (prog : Program) (w : World) (h : Heap) (p a : Addr) (b : Array UInt8) (i j : Nat) : Prop where
  mo : ∃ t tk u v x1 x2 x3 x4 x5 st hd, PatAt prog w h p ∧ h.get? a = some { cls := .type "re.Match", data := .fields #[.bytes b t, .ref p, x1, x2, x3, .ref tk] } ∧
    h.get? tk = some { cls := .type "tuple", data := .seq #[.int st u, .int hd v, .int (i : Int) x4, .int (j : Int) x5] }
theorem MoAt.hk {prog : Program} {w : World} {h h' : Heap} {p a : Addr} {b : Array UInt8} {i j : Nat} (x : MoAt prog w h p a b i j) (k : ∀ b o, h.get? b = some o → h'.get? b = some o) : MoAt prog w h' p a b i j := by
  obtain ⟨t, tk, u, v, x1, x2, x3, x4, x5, st, hd, h1, h2, h3⟩ := x.mo
  exact ⟨t, tk, u, v, x1, x2, x3, x4, x5, st, hd, h1.hk k, k _ _ h2, k _ _ h3⟩
section
variable {prog : Program} {w : World} {A : Around} {E : Value → Shared → Prop} {s : Shared} {p : Addr} {b : Array UInt8} {t : Tok} {Q : Value → Shared → Prop}
theorem target_ok {Q : ReTarget → Shared → Prop} (P : PatAt prog w s.heap p) (hsz : b.size ≤ 16000000)
    (h : Q { pattern := .ref p, string := .bytes b t, code := rxC, text := b.map (·.toNat), kind := 1, groups := 1, pos := 0, lim := b.size } s) :
    wpAny (model prog w) A (reTarget "re.Pattern.match" "match" ⟨[.ref p, .bytes b t], []⟩) Q E s := by
  obtain ⟨pb, t1, t2, dd, dt, ct, h1, _, o, items, n, h4, h5, h6⟩ := P.pat
  unfold reTarget
  show wpAny _ _ (reNamed "re.Pattern.match" "match" ["string", "pos", "endpos"] 1 [.bytes b t] [] >>= _) _ _ _
  rw [named_eq]
  refine wpAny_bind (wpAny_pure ?_)
  dsimp only
  refine wpAny_bind (wpAny_pure (wpAny_bind (wpAny_pure ?_)))
  refine wpAny_bind (wpAny_fieldsOf h1 rfl ?_)
  rw [text_eq]
  refine wpAny_bind (wpAny_pure ?_)
  dsimp only
  show wpAny _ _ (reNoCollectionInside (.bytes b t) 1 >>= _) _ _ _
  rw [coll_eq]
  refine wpAny_bind (wpAny_pure ?_)
  show wpAny _ _ ((reRawItems (.ref ct)) >>= _) _ _ _
  unfold reRawItems
  refine wpAny_bind (wpAny_bind (wpAny_seqItems h4 h5 (wpAny_pure (wpAny_pure ?_))))
  show Q { pattern := .ref p, string := .bytes b t, code := (items.map reRawOf).map (·.toNat), text := b.map (·.toNat), kind := 1, groups := 1, pos := min (0 : Int).toNat (b.map (·.toNat)).size, lim := min ((2 ^ 63 - 1 : Int)).toNat (b.map (·.toNat)).size } s
  rw [h6]
  have e1 : min (0 : Int).toNat (b.map (·.toNat)).size = 0 := by simp
  have e2 : min ((2 ^ 63 - 1 : Int)).toNat (b.map (·.toNat)).size = b.size := by
    rw [Array.size_map]
    exact Nat.min_eq_right (Nat.le_trans hsz (by decide))
  rw [e1, e2]
  exact h

theorem newMatch_ok {M : Model} {Q : Value → Shared → Prop} {i j : Nat} {m : Sre.M} (P : PatAt prog w s.heap p) (hm : Found i j m) (hij : i ≤ j) (h : ∀ h' a, (∀ b o, s.heap.get? b = some o → h'.get? b = some o) → s.heap.get? a = none → MoAt prog w h' p a b i j → Q (.ref a) { s with heap := h' }) :
    wpAny M A (reNewMatch (.ref p) (.bytes b t) 1 0 b.size m) Q E s := by
  obtain ⟨_, h1, h2, h3, h4, h5⟩ := hm
  unfold reNewMatch
  rw [h1, h2, h3, h4, h5]
  dsimp only
  split
  · rename_i hc
    simp [List.range_succ] at hc
    omega
  show wpAny M A (newTuple [rawInt ((0 : Nat) : Int), rawInt ((j + 1 : Nat) : Int), rawInt (i : Int), rawInt (j : Int)] >>= fun x => newFields "re.Match" [.bytes b t, .ref p, rawInt ((0 : Nat) : Int), rawInt (b.size : Int), rawInt 1, x]) Q E s
  refine wpAny_bind (wpAny_newObj_type ?_)
  show wpAny _ _ (newFields "re.Match" [.bytes b t, .ref p, rawInt _, rawInt _, rawInt _, .ref _]) _ _ _
  refine wpAny_newObj_type ?_
  have k1 : ∀ o b' o', s.heap.get? b' = some o' → (s.heap.push o).get? b' = some o' := fun o b' o' e => Heap.get?_push_of_some _ e
  refine h _ _ (fun b' o' e => Heap.get?_push_of_some _ (k1 _ b' o' e)) ?_ ⟨?_⟩
  · cases e : s.heap.get? (s.heap.push _).objs.size with
    | none => rfl
    | some o =>
      have := Heap.lt_size e
      rw [Heap.size_push] at this
      exact absurd (Nat.lt_of_succ_lt this) (Nat.lt_irrefl _)
  · refine ⟨t, s.heap.objs.size, 0, 0, rawInt 0, rawInt b.size, rawInt 1, 0, 0, ((0 : Nat) : Int), ((j + 1 : Nat) : Int), P.hk fun b' o' e => Heap.get?_push_of_some _ (k1 _ b' o' e), ?_, ?_⟩
    · exact Heap.get?_push_size _ rfl
    · exact Heap.get?_push_of_some _ (Heap.get?_push_size _ rfl)
theorem match_ok {Q : Value → Shared → Prop} {i j : Nat} (P : PatAt prog w s.heap p) (hsz : b.size ≤ 16000000) (hm : Fin (2 ^ 60) (Sre.forMatch rxC (b.map (·.toNat)) 1 0 b.size false false) (Found i j)) (hij : i ≤ j)
    (h : ∀ h' a, (∀ b o, s.heap.get? b = some o → h'.get? b = some o) → s.heap.get? a = none → MoAt prog w h' p a b i j → Q (.ref a) { s with heap := h' }) :
    wpAny (model prog w) A (call (.builtin "re.Pattern.match") [.ref p, .bytes b t]) Q E s := by
  obtain ⟨pb, t1, t2, dd, dt, ct, h1, _⟩ := P.pat
  refine wpAny_call_entry slot_match ⟨_, h1, rfl⟩ entry_match ?_ (args_match _ _)
  show wpAny _ _ (reTarget "re.Pattern.match" "match" ⟨[.ref p, .bytes b t], []⟩ >>= fun t => reAnswer t (Sre.forMatch t.code t.text t.groups t.pos t.lim false false)) _ _ _
  refine wpAny_bind (target_ok P hsz ?_)
  unfold reAnswer
  refine wpAny_bind (toEnd_ok hm fun m hf => .inl ⟨hf.1, ?_⟩)
  exact wpAny_bind (newMatch_ok P hf hij fun h' a k ha hmo => wpAny_pure ⟨_, rfl, h h' a k ha hmo⟩)
theorem match_no {Q : Value → Shared → Prop} (P : PatAt prog w s.heap p) (hsz : b.size ≤ 16000000) (hm : Fin (2 ^ 60) (Sre.forMatch rxC (b.map (·.toNat)) 1 0 b.size false false) (fun m => m.outcome = some .failed))
    (h : Q .none s) : wpAny (model prog w) A (call (.builtin "re.Pattern.match") [.ref p, .bytes b t]) Q E s := by
  obtain ⟨pb, t1, t2, dd, dt, ct, h1, _⟩ := P.pat
  refine wpAny_call_entry slot_match ⟨_, h1, rfl⟩ entry_match ?_ (args_match _ _)
  show wpAny _ _ (reTarget "re.Pattern.match" "match" ⟨[.ref p, .bytes b t], []⟩ >>= fun t => reAnswer t (Sre.forMatch t.code t.text t.groups t.pos t.lim false false)) _ _ _
  refine wpAny_bind (target_ok P hsz ?_)
  unfold reAnswer
  exact wpAny_bind (toEnd_ok hm fun m hf => .inr ⟨hf, wpAny_pure ⟨_, rfl, h⟩⟩)
end
end Mine
end
section
open PySem PySem.W PyProof.Rows
set_option maxRecDepth 100000
namespace Mine
open PySem.Builtin PySem.Builtin.Re
theorem noIndex : typeLookup (.type "str") "__index__" = pure none := by rw [typeLookup_type, builtinLookup_eq_fast]; kernel_rfl
theorem extract_back {b : Array UInt8} {i j : Nat} : (((b.map (·.toNat)).extract i j).map (·.toUInt8)) = b.extract i j := by
  rw [← Array.map_extract, Array.map_map]
  have : ((fun x : Nat => x.toUInt8) ∘ fun x : UInt8 => x.toNat) = _root_.id := by
    funext x; simp
  rw [this, Array.map_id]
section
variable {prog : Program} {w : World} {A : Around} {E : Value → Shared → Prop} {s : Shared} {p : Addr} {b : Array UInt8} {t : Tok} {Q : Value → Shared → Prop}
theorem group_ok {a : Addr} {i j : Nat} (H : MoAt prog w s.heap p a b i j) (hsz : b.size ≤ 16000000) (h : ∀ t' tk, Q (.bytes (b.extract i j) t') { s with toks := tk }) :
    wpAny (model prog w) A (call (.builtin "re.Match.group") [.ref a, .str "flags" t]) Q E s := by
  obtain ⟨t0, tk, u, v, x1, x2, x3, x4, x5, st, hd, P, h2, h3⟩ := H.mo
  obtain ⟨pb, t1, t2, dd, dt, ct, h1, ⟨f, t4, hf, hf4⟩, _⟩ := P.pat
  refine wpAny_call_entry slot_group ⟨_, h2, rfl⟩ entry_group ?_ (args_group _ _)
  show wpAny _ _ (noKeywords "Match.group" ⟨[.ref a, .str "flags" t], []⟩ >>= fun _ => reFound (.ref a) >>= fun x => (reGroupNumber x (.str "flags" t) >>= fun g => reGroupText x g .none >>= fun v => ret v)) _ _ _
  refine wpAny_bind (wpAny_pure ?_)
  unfold reFound
  refine wpAny_bind (wpAny_bind (wpAny_fieldsOf h2 rfl ?_))
  show wpAny _ _ (reRawItems (.ref tk) >>= _) _ _ _
  unfold reRawItems
  refine wpAny_bind (wpAny_bind (wpAny_seqItems h3 rfl (wpAny_pure (wpAny_pure ?_))))
  refine wpAny_bind ?_
  unfold reGroupNumber
  rw [show asInt? (.str "flags" t) = pure none from rfl]
  refine wpAny_bind (wpAny_pure ?_)
  dsimp only [Option.isSome]
  rw [if_neg Bool.false_ne_true]
  refine wpAny_bind (wpAny_specialOf (typeIs_str _ _ _) noIndex ?_)
  rw [if_neg (by simp)]
  refine wpAny_bind (wpAny_fieldsOf h1 rfl ?_)
  show wpAny _ _ (dictGet dd (.str "flags" t) >>= _) _ _ _
  refine wpAny_bind (wpAny_dictGet_of (strKind_is prog w "flags" t) hf ?_)
  rw [hf4]
  refine wpAny_bind (wpAny_pure (wpAny_bind (wpAny_pure ?_)))
  split
  · rename_i hc
    exact absurd hc (by simp)
  refine wpAny_pure ?_
  show wpAny _ _ (reGroupText _ 1 .none >>= fun v => ret v) _ _ _
  unfold reGroupText
  have g1 : (Array.map reRawOf ((some #[Value.int st u, Value.int hd v, Value.int (i : Int) x4, Value.int (j : Int) x5]).getD #[])).getD (2 * 1) (-1) = (i : Int) := by simp [reRawOf]
  have g2 : (Array.map reRawOf ((some #[Value.int st u, Value.int hd v, Value.int (i : Int) x4, Value.int (j : Int) x5]).getD #[])).getD (2 * 1 + 1) (-1) = (j : Int) := by simp [reRawOf]
  dsimp only
  rw [g1, g2]
  split
  · rename_i hc
    exfalso
    have hi : ¬ (i : Int) < 0 := by omega
    have hj : ¬ (j : Int) < 0 := by omega
    rcases Bool.or_eq_true_iff.mp hc with hc | hc
    · exact hi (of_decide_eq_true hc)
    · exact hj (of_decide_eq_true hc)
  show wpAny _ _ ((reTextOf (.bytes b t0) >>= _) >>= _) _ _ _
  rw [text_eq]
  refine wpAny_bind (wpAny_bind (wpAny_pure ?_))
  show wpAny _ _ (mkBytes (((b.map (·.toNat)).extract (i : Int).toNat (j : Int).toNat).map (·.toUInt8))) _ _ _
  rw [extract_back]
  refine wpAny_mkBytes (wpAny_pure ⟨_, rfl, ?_⟩) (by rw [sizeLine_eq, Array.size_extract]; omega)
  simp only [Int.toNat_natCast]
  exact h _ _
end
end Mine
end
section
open PySem PySem.W PyProof.Rows PySem.Calls
set_option maxRecDepth 100000
namespace Mine

noncomputable def seqL' (f : Rho → Stmt → Option (Rho × Option PV)) : List Stmt → Rho → Option (Rho × Option PV)
  | [], ρ => some (ρ, none)
  | st :: r, ρ => match f ρ st with
    | some (ρ', none) => seqL' f r ρ'
    | x => x

noncomputable def encS (x : Str) : Option (Array UInt8) := if x.cps.toList.all (fun c => decide (c < 128)) then some (x.cps.toList.map (·.toUInt8)).toArray else none
noncomputable def decB (b : Array UInt8) : Option Str := if !b.toList.isEmpty && b.toList.all (fun c => decide (c.toNat < 128)) then some ⟨(b.toList.map (·.toNat)).toArray⟩ else none
noncomputable def bsplit (b : Array UInt8) : List (Array UInt8) := (Builtin.Bytes.words (b.size + 1) (b.size + 1) b.toList).map (·.toArray)
noncomputable def bytes? : List PV → Option (List (Array UInt8))
  | [] => some []
  | .bytes b :: r => (bytes? r).map (b :: ·)
  | _ => none
noncomputable def fnB (f : Str) (xs : List PV) : Option PV :=
  match xs with
  | [.list ys] =>
    if eqS f "sum" then (ints? ys).map fun ns => .int ns.sum
    else if eqS f "len" && decide (ys.length ≤ lim) then some (.int ys.length)
    else if eqS f "min" then (ints? ys).bind fun ns => match ns with | [] => none | n :: r => some (.int (r.foldl min n))
    else if eqS f "max" then (ints? ys).bind fun ns => match ns with | [] => none | n :: r => some (.int (r.foldl max n))
    else if eqS f "tuple" && decide (ys.length ≤ lim) then some (.tuple ys)
    else none
  | [.int n] => if eqS f "range" && decide (0 ≤ n) then some (.range n.toNat) else none
  | [.bool b, .ty t] => if eqS f "isinstance" && t == "bool" then some (.bool true) else none
  | _ => none
noncomputable def mthB (m : Str) (x : PV) (xs : List PV) : Option PV :=
  match x, xs with
  | .str x, [] => if eqS m "encode" && decide (x.length ≤ 1000000) then (encS x).map .bytes else none
  | .bytes b, [] => if eqS m "decode" && decide (b.size ≤ 1000000) then (decB b).map .str else none
  | .str x, [.str y] => match y.cps.toList with
    | [c] =>
      if ¬ x.length ≤ 1000000 then none
      else if eqS m "split" then some (.list ((splitL c x.cps.toList).map fun l => .str (strOfL l)))
      else if eqS m "partition" then some (.tuple [.str (strOfL (partL c x.cps.toList).1), .str (strOfL (partL c x.cps.toList).2.1), .str (strOfL (partL c x.cps.toList).2.2)])
      else none
    | _ => none
  | .bytes sep, [.list ys] => if eqS m "join" then (bytes? ys).bind fun bs => if bs.foldl (fun n b => n + b.size) (sep.size * (bs.length - 1)) ≤ lim ∧ (Builtin.Bytes.joined sep bs).size ≤ lim then some (.bytes (Builtin.Bytes.joined sep bs)) else none else none
  | _, _ => none
end Mine
end
section
open PySem PySem.W PyProof.Rows PySem.Calls
set_option maxRecDepth 100000
namespace Mine
noncomputable def findDef (n : Str) : List Stmt → Option (List Str × List Stmt × Scope)
  | [] => none
  | .FunctionDef nm args body _ _ _ sc _ _ _ :: r => if eqS nm n then some (args.args.map (·.arg), body, sc) else findDef n r
  | _ :: r => findDef n r
noncomputable def prg : Program := PySem.Challenge.pw_kl0207_01
noncomputable def defOf (n : Str) : List Str × List Stmt × Scope := (findDef n prg.main.body).getD ([], [], default)
noncomputable def runOf (T : Tab) (d : List Str × List Stmt × Scope) (xs : List PV) : Option PV :=
  if d.1.length = xs.length then
    match seqL (exS T [Str.ofString "found", Str.ofString "lists", Str.ofString "due"] 30 d.2.2) d.2.1 (rho0 d.1 xs) with
    | some (_, .ret x) => some x
    | _ => none
  else none
noncomputable def tokTab : List (Str × Int) := [("%=", 40), ("&=", 41), ("*=", 38), ("+=", 36), ("-=", 37), ("/=", 39), ("^=", 43), ("|=", 42), (".", 23)]
noncomputable def subB (g : Str) (y : PV) : Option PV := match y with
  | .str x => if eqS g "EXACT_TOKEN_TYPES" then (lkS tokTab x).map .int else none
  | _ => none
noncomputable def T0 : Tab := { glob := fun x => if eqS x "ENDMARKER" then some (.int 0) else if eqS x "bool" then some (.ty "bool") else none, fn := fnB, mth := mthB, sub := subB }
noncomputable def Tab.withFn (T : Tab) (n : Str) (g : List PV → Option PV) : Tab := { T with fn := fun f xs => if eqS f n then g xs else T.fn f xs }

/-- the first closing bracket from p on -/
noncomputable def closeAt (T : Array Nat) (p : Nat) : Option Nat := (List.range' p (T.size - p)).find? fun q => T.getD q 0 == 41
noncomputable def lastHit (T : Array Nat) : Nat → Option (Nat × Nat)
  | 0 => if isAt T 0 rxL then (closeAt T 7).map fun q => (0, q) else none
  | p + 1 => match (if isAt T (p + 1) rxL then closeAt T (p + 1 + 7) else none) with
    | some q => some (p + 1, q)
    | none => lastHit T p
noncomputable def rowLen (T : Array Nat) : Nat := ((List.range T.size).find? fun j => T.getD j 0 == 10).getD T.size
noncomputable def pfOf (b : Array UInt8) : List (Array UInt8) :=
  match lastHit (b.map (·.toNat)) (rowLen (b.map (·.toNat))) with
  | some (p, q) => bsplit (b.extract (p + 7) q)
  | none => []
noncomputable def pfSpec : List PV → Option PV
  | [.bytes b] => if 8 ≤ b.size ∧ b.size ≤ 16000000 then some (.tuple ((pfOf b).map .bytes)) else none
  | _ => none
noncomputable def dISEOF := defOf "ISEOF"
noncomputable def dApp := defOf "_append_modifier"
noncomputable def dBuild := defOf "_build_localename"
noncomputable def dName := defOf "_law_name"
noncomputable def dFlags := defOf "_law_flags"
noncomputable def dMeet := defOf "_law_meeting"
noncomputable def dNums := defOf "_law_numbers"
noncomputable def dLaw := defOf "law"
noncomputable def T1 : Tab := (((T0.withFn "ISEOF" (runOf T0 dISEOF)).withFn "_append_modifier" (runOf T0 dApp)).withFn "_build_localename" (runOf T0 dBuild)).withFn "ParseFlags" pfSpec
noncomputable def T2 : Tab := (((T1.withFn "_law_name" (runOf T1 dName)).withFn "_law_flags" (runOf T1 dFlags)).withFn "_law_meeting" (runOf T1 dMeet)).withFn "_law_numbers" (runOf T1 dNums)
end Mine
end
section
open PySem PySem.W PyProof.Rows PySem.Calls
set_option maxRecDepth 100000
namespace Mine
section
variable {prog : Program} {w : World} {A : Around} {ok : Addr → Prop} {s : Shared}

theorem ints_rp {h : Heap} {xs : List PV} {ns : List Int} {vs : List Value} (e : ints? xs = some ns) (r : RpAll ok h vs xs) : IntsAre vs ns := ints_are e r
theorem ct_sum {xs : List PV} {ns : List Int} {v : Value} (hh : A.handled = none) (e : ints? xs = some ns) (r : Rp ok s.heap v (.list xs)) : EvTo (model prog w) A (call (.builtin "sum") [v]) ok s (.int ns.sum) := by
  intro Q E hQ
  cases r with
  | list hk ho hr =>
    have hi := ints_rp e hr
    obtain ⟨ys, ey⟩ := hi.allInts.items
    have hl := isList_of ho
    rw [ey] at hl
    refine sum_intListG hh hl fun h' tk t' k => ?_
    have hns : ns = ys.toList.map (·.1) := by rw [← hi.numsOf, ← nums_intItems, ← ey]
    rw [preSum_eq, List.take_of_length_le (by simp), ← hns]
    exact hQ _ _ (Keeps.of k) (.int _ _)
theorem ct_len {xs : List PV} {v : Value} (hz : xs.length ≤ lim) (r : Rp ok s.heap v (.list xs)) : EvTo (model prog w) A (call (.builtin "len") [v]) ok s (.int xs.length) := by
  intro Q E hQ
  cases r with
  | list hk ho hr =>
    have hlen := hr.length
    refine call_len_list (isList_of ho) (by simp [hlen]; unfold lim at hz; omega) ?_
    simp only [List.size_toArray, hlen]
    exact hQ _ _ Keeps.tok (.int _ _)
theorem foldl_min : ∀ (l : List Int) (n : Int), l.foldl min n ∈ n :: l ∧ ∀ a ∈ n :: l, l.foldl min n ≤ a
  | [], n => by simp
  | b :: l, n => by
    obtain ⟨h1, h2⟩ := foldl_min l (min n b)
    refine ⟨?_, fun a ha => ?_⟩
    · rw [List.foldl_cons]
      rcases List.mem_cons.mp h1 with h | h
      · rw [h]
        rcases Int.le_total n b with hb | hb
        · rw [Int.min_eq_left hb]; simp
        · rw [Int.min_eq_right hb]; simp
      · exact List.mem_cons_of_mem _ (List.mem_cons_of_mem _ h)
    · rw [List.foldl_cons]
      have h0 := h2 (min n b) (List.mem_cons_self ..)
      rcases List.mem_cons.mp ha with rfl | ha
      · omega
      · rcases List.mem_cons.mp ha with rfl | ha
        · omega
        · exact h2 a (List.mem_cons_of_mem _ ha)
theorem foldl_max : ∀ (l : List Int) (n : Int), l.foldl max n ∈ n :: l ∧ ∀ a ∈ n :: l, a ≤ l.foldl max n
  | [], n => by simp
  | b :: l, n => by
    obtain ⟨h1, h2⟩ := foldl_max l (max n b)
    refine ⟨?_, fun a ha => ?_⟩
    · rw [List.foldl_cons]
      rcases List.mem_cons.mp h1 with h | h
      · rw [h]
        rcases Int.le_total n b with hb | hb
        · rw [Int.max_eq_right hb]; simp
        · rw [Int.max_eq_left hb]; simp
      · exact List.mem_cons_of_mem _ (List.mem_cons_of_mem _ h)
    · rw [List.foldl_cons]
      have h0 := h2 (max n b) (List.mem_cons_self ..)
      rcases List.mem_cons.mp ha with rfl | ha
      · omega
      · rcases List.mem_cons.mp ha with rfl | ha
        · omega
        · exact h2 a (List.mem_cons_of_mem _ ha)
theorem ct_min {xs : List PV} {n : Int} {ns : List Int} {v : Value} (hh : A.handled = none) (e : ints? xs = some (n :: ns)) (r : Rp ok s.heap v (.list xs)) : EvTo (model prog w) A (call (.builtin "min") [v]) ok s (.int (ns.foldl min n)) := by
  intro Q E hQ
  cases r with
  | list hk ho hr =>
    have hi := ints_rp e hr
    obtain ⟨ys, ey⟩ := hi.allInts.items
    have hl := isList_of ho
    have hns : n :: ns = ys.toList.map (·.1) := by rw [← hi.numsOf, ← nums_intItems, ← ey]
    have hsz : 0 < ys.size := by
      have h3 : 0 < (n :: ns).length := by simp
      rw [hns, List.length_map, Array.length_toList] at h3; exact h3
    rw [ey] at hl
    refine min_intList hh hl hsz fun v h' tk hv k => ?_
    obtain ⟨t, rfl⟩ := intItems_at hv
    obtain ⟨h1, h2⟩ := argBest_lt (numAt ys) (ys.size - 1)
    have hm : numAt ys (argBest (fun i j => decide (numAt ys i < numAt ys j)) (ys.size - 1)) = ns.foldl min n := by
      obtain ⟨g1, g2⟩ := foldl_min ns n
      refine Int.le_antisymm ?_ (g2 _ ?_)
      · rw [hns] at g1
        obtain ⟨j, hj, ej⟩ := mem_getD g1
        rw [List.length_map, Array.length_toList] at hj
        rw [← ej, ← numAt_eq]; exact h2 j (by omega)
      · rw [hns, numAt_eq]; exact getD_mem (by rw [List.length_map, Array.length_toList]; omega)
    rw [hm]
    exact hQ _ _ (Keeps.of k) (.int _ _)
theorem ct_max {xs : List PV} {n : Int} {ns : List Int} {v : Value} (hh : A.handled = none) (e : ints? xs = some (n :: ns)) (r : Rp ok s.heap v (.list xs)) : EvTo (model prog w) A (call (.builtin "max") [v]) ok s (.int (ns.foldl max n)) := by
  intro Q E hQ
  cases r with
  | list hk ho hr =>
    have hi := ints_rp e hr
    obtain ⟨ys, ey⟩ := hi.allInts.items
    have hl := isList_of ho
    have hns : n :: ns = ys.toList.map (·.1) := by rw [← hi.numsOf, ← nums_intItems, ← ey]
    have hsz : 0 < ys.size := by
      have h3 : 0 < (n :: ns).length := by simp
      rw [hns, List.length_map, Array.length_toList] at h3; exact h3
    rw [ey] at hl
    refine max_intList hh hl hsz fun v h' tk hv k => ?_
    obtain ⟨t, rfl⟩ := intItems_at hv
    obtain ⟨h1, h2⟩ := argBest_gt (numAt ys) (ys.size - 1)
    have hm : numAt ys (argBest (fun i j => decide (numAt ys i > numAt ys j)) (ys.size - 1)) = ns.foldl max n := by
      obtain ⟨g1, g2⟩ := foldl_max ns n
      refine Int.le_antisymm (g2 _ ?_) ?_
      · rw [hns, numAt_eq]; exact getD_mem (by rw [List.length_map, Array.length_toList]; omega)
      · rw [hns] at g1
        obtain ⟨j, hj, ej⟩ := mem_getD g1
        rw [List.length_map, Array.length_toList] at hj
        rw [← ej, ← numAt_eq]; exact h2 j (by omega)
    rw [hm]
    exact hQ _ _ (Keeps.of k) (.int _ _)
theorem ct_range {n : Int} {v : Value} (O : OkIn ok s.heap) (hn : 0 ≤ n) (r : Rp ok s.heap v (.int n)) : EvTo (model prog w) A (call (.type "range") [v]) ok s (.range n.toNat) := by
  intro Q E hQ
  cases r
  refine call_range_1 (hQ _ _ (Keeps.of (hk_push _ _)) ?_)
  refine .range (O _ (fresh_none (Nat.le_refl _))) (t := s.toks) (u := ‹Tok›) (v := s.toks + 1) ?_
  rw [Int.toNat_of_nonneg hn]
  exact Heap.get?_push_size _ rfl
theorem ct_tuple {xs : List PV} {v : Value} (hz : xs.length ≤ lim) (O : OkIn ok s.heap) (r : Rp ok s.heap v (.list xs)) : EvTo (model prog w) A (call (.type "tuple") [v]) ok s (.tuple xs) := by
  intro Q E hQ
  cases r with
  | @list a vs _ n hk ho hr =>
    refine call_tuple_list (isList_of ho) (fun h' k => ?_) (by rw [sizeLine_eq, List.size_toArray, hr.length]; exact hz)
    have kk : Hk s.heap (h'.push (tupO vs 0)) := fun b o e => hk_push _ _ b o (k b o e)
    exact hQ _ _ (Keeps.of (tk := s.toks) kk) (.tuple (O.hk k _ (fresh_none (Nat.le_refl _))) (Heap.get?_push_size _ rfl) (hr.hk kk))
end
end Mine
end
section
open PySem PySem.W PyProof.Rows PySem.Calls
set_option maxRecDepth 100000
namespace Mine
open PySem.Builtin PySem.Builtin._codecs
/-- a loop that is over in one turn -/
theorem range_two {σ : Type} (n : Nat) (f : Nat → σ → Sem (ForInStep σ)) (a b : σ) (h0 : n ≠ 0 → f 0 a = pure (.yield b)) (h1 : f 1 b = pure (.done b)) (hn : n = 0 → a = b) : forIn [:n] a f = pure b := by
  rw [Std.Legacy.Range.forIn_eq_forIn_range']
  show forIn (List.range' 0 ((n - 0 + 1 - 1) / 1) 1) a f = _
  rw [show (n - 0 + 1 - 1) / 1 = n by omega]
  match n with
  | 0 => rw [hn rfl]; rfl
  | 1 =>
    show forIn [0] a f = _
    rw [List.forIn_cons, h0 (by simp)]
    rfl
  | k + 2 =>
    rw [List.range'_succ, List.range'_succ, List.forIn_cons, h0 (by simp)]
    show forIn (1 :: _) b f = _
    rw [List.forIn_cons, h1]
    rfl
theorem fold_ascii : ∀ (l : List Nat) (out : Array UInt8), (∀ c ∈ l, c < 128) → l.foldl (fun acc y => acc ++ (utf8Codec.bytesOf y).toArray) out = out ++ (l.map (·.toUInt8)).toArray
  | [], out, _ => by simp
  | c :: r, out, h => by
    rw [List.foldl_cons, fold_ascii r _ fun c hc => h c (List.mem_cons_of_mem _ hc)]
    have : utf8Codec.bytesOf c = [c.toUInt8] := by
      show Str.utf8Of c = _
      unfold Str.utf8Of
      rw [if_pos (h c (List.mem_cons_self ..))]
    rw [this]
    simp
theorem not_bad {c : Nat} (h : c < 128) : utf8Codec.bad c = false := by
  show Str.isSurrogate c = false
  unfold Str.isSurrogate
  simp; omega
theorem narrow_ok {id : String} {self : Value} {x : Str} (hx : ∀ c ∈ x.cps.toList, c < 128) (hz : x.length ≤ 16000000) : encodeNarrow id utf8Codec none self x = pure (x.cps.toList.map (·.toUInt8)).toArray := by
  unfold encodeNarrow
  dsimp only
  rw [range_two x.length _ ((0 : Nat), (#[] : Array UInt8), ({} : Faults)) (x.cps.size, (x.cps.toList.map (·.toUInt8)).toArray, ({} : Faults))]
  · rfl
  · intro hn
    have hn' : 0 < x.cps.size := Nat.pos_of_ne_zero hn
    rw [if_neg (by simp)]
    rw [show x.cps[0]? = some x.cps[0] from Array.getElem?_eq_getElem hn']
    dsimp only
    have hb : ∀ c ∈ x.cps.toList, utf8Codec.bad c = false := fun c hc => not_bad (hx c hc)
    rw [if_pos (by rw [hb _ (by simp)]; rfl)]
    have hf : Array.findIdx? utf8Codec.bad x.cps = none := by
      rw [Array.findIdx?_eq_none_iff]
      intro c hc
      exact hb c (Array.mem_toList_iff.mpr hc)
    have he : x.cps.extract 0 = x.cps := by simp
    rw [he, hf]
    simp only [Option.getD_none, Nat.zero_add]
    rw [Array.extract_size, ← Array.foldl_toList, fold_ascii _ _ hx]
    simp
  · rw [if_neg (by rw [sizeLine_eq]; simp [Str.length] at hz ⊢; omega)]
    rw [show x.cps[x.cps.size]? = none by simp]
  · intro h0
    have : x.cps.toList = [] := by
      apply List.length_eq_zero_iff.mp
      simpa [Str.length] using h0
    have h1 : x.cps.size = 0 := h0
    rw [this, h1]; rfl

theorem range_all' {σ : Type} (f : Nat → σ → Sem (ForInStep σ)) (st : Nat → σ) (n : Nat) (h : ∀ i, i < n → f i (st i) = pure (.yield (st (i + 1)))) : ∀ (m k : Nat), k + m = n → forIn (List.range' k m) (st k) f = pure (st n)
  | 0, k, e => by
    rw [show k = n by omega]; rfl
  | m + 1, k, e => by
    rw [List.range'_succ, List.forIn_cons, h k (by omega)]
    show forIn (List.range' (k + 1) m) (st (k + 1)) f = _
    exact range_all' f st n h m (k + 1) (by omega)
theorem range_run {σ : Type} (f : Nat → σ → Sem (ForInStep σ)) (st : Nat → σ) (n : Nat) (a : σ) (ha : a = st 0) (h : ∀ i, i < n → f i (st i) = pure (.yield (st (i + 1)))) : forIn [:n] a f = pure (st n) := by
  subst ha
  rw [Std.Legacy.Range.forIn_eq_forIn_range']
  show forIn (List.range' 0 ((n - 0 + 1 - 1) / 1) 1) (st 0) f = _
  rw [show (n - 0 + 1 - 1) / 1 = n by omega]
  exact range_all' f st n h n 0 (by omega)
theorem decoder_ok {id : String} {b : Array UInt8} (hb : ∀ c ∈ b.toList, c.toNat < 128) (hz : b.size ≤ 16000000) : runDecoder id utf8Decoder none true b 0 [] = pure ((b.toList.map (·.toNat)).toArray, b.size) := by
  unfold runDecoder
  dsimp only
  rw [range_run _ (fun i => (i, ((b.toList.take i).map (·.toNat)).toArray, ({ held := [] } : Faults))) b.size ((0 : Nat), (#[] : Array Nat), ({ held := [] } : Faults)) (by simp)]
  · have e : (b.toList.take b.size) = b.toList := List.take_of_length_le (by simp)
    rw [e]
    rfl
  · intro i hi
    have hlen : ((b.toList.take i).map (·.toNat)).toArray.size = i := by simp; omega
    rw [if_neg (by rw [hlen, sizeLine_eq]; omega), if_neg (by omega)]
    have hc : (b.getD i 0).toNat < 128 := by
      have e : b.getD i 0 = b[i] := by simp [hi]
      rw [e]
      exact hb _ (by simp)
    have hf : utf8Decoder.find true b i = .char (b.getD i 0).toNat (i + 1) := by
      have e : Bytes.utf8At b i = (.char (b.getD i 0).toNat, i + 1) := by
        unfold Bytes.utf8At
        rw [if_pos hc]
      unfold utf8Decoder
      dsimp only
      rw [e]
    rw [hf]
    have ht : (b.toList.take (i + 1)).map (·.toNat) = (b.toList.take i).map (·.toNat) ++ [(b.getD i 0).toNat] := by
      have hi' : i < b.toList.length := by simpa using hi
      rw [List.take_succ_eq_append_getElem hi', List.map_append]
      simp [hi]
    rw [ht]
    show pure (ForInStep.yield (i + 1, ((b.toList.take i).map (·.toNat)).toArray ++ [(b.getD i 0).toNat].toArray, _)) = _
    simp
end Mine
end
section
open PySem PySem.W PyProof.Rows PySem.Calls
set_option maxRecDepth 100000
namespace Mine
open PySem.Builtin PySem.Builtin.Str PySem.Builtin._codecs
section
variable {prog : Program} {w : World} {A : Around} {ok : Addr → Prop} {s : Shared}
theorem rp_strs {ok : Addr → Prop} {h : Heap} : ∀ l : List (Str × Tok), RpAll ok h (strValues l) ((l.map (·.1)).map PV.str)
  | [] => .nil
  | p :: r => .cons (.str p.1 p.2) (rp_strs r)
theorem ct_split {x : Str} {c : Nat} {u v : Value} (O : OkIn ok s.heap) (hsz : x.length ≤ 1000000) (r1 : Rp ok s.heap u (.str x)) (r2 : Rp ok s.heap v (.str ⟨#[c]⟩)) :
    EvTo (model prog w) A (call (.builtin "str.split") [u, v]) ok s (.list ((splitL c x.cps.toList).map fun l => .str (strOfL l))) := by
  intro Q E hQ
  cases r1 with
  | str _ t =>
  cases r2 with
  | str _ t' =>
  have hsz' : x.length + 2 ≤ sizeLine := by rw [sizeLine_eq]; omega
  have fin : ∀ (l : List (Str × Tok)) (k : Nat), l.map (·.1) = Txt.split x ⟨#[c]⟩ → Q (.ref s.heap.objs.size) { s with heap := s.heap.push { cls := .type "list", data := .seq (strValues l).toArray }, toks := k } := fun l k e => by
    refine hQ _ _ (Keeps.of (hk_push _ _)) ?_
    have e' : ((splitL c x.cps.toList).map fun l => PV.str (strOfL l)) = (l.map (·.1)).map PV.str := by
      rw [e, split_eq, List.map_map]; rfl
    rw [e']
    exact .list (O _ (fresh_none (Nat.le_refl _))) (Heap.get?_push_size _ rfl) (rp_strs l)
  have hy : ((⟨#[c]⟩ : Str).length == 0) = false := rfl
  have hn : (partsBetween x (occurrences x ⟨#[c]⟩ 0 x.length (x.length + 1)) (⟨#[c]⟩ : Str).length).length ≤ sizeLine := by
    have e1 := StrLaws.occ_length_le x ⟨#[c]⟩ 0 x.length (x.length + 1)
    rw [length_partsBetween]; omega
  cases h1 : (decide (x.length < (⟨#[c]⟩ : Str).length) || decide (strKind x < strKind ⟨#[c]⟩))
  · cases hf : (occurrences x ⟨#[c]⟩ 0 x.length (x.length + 1)).isEmpty
    · refine call_meets F.slot_str_split (typeIs_str _ _ _) F.entry_str_split (F.args_str_split_2 _ _) (meets_str_split_sep x ⟨#[c]⟩ t t' h1 hy hf (by omega) hn) ?_
      show wants Q E _ { s with toks := _, heap := s.heap.push { cls := .type "list", data := .seq (strsFrom s.toks (partsBetween x (occurrences x ⟨#[c]⟩ 0 x.length (x.length + 1)) (⟨#[c]⟩ : Str).length)).toArray } }
      rw [strsFrom_eq]
      exact fin (numbered s.toks _) _ ((numbered_texts _ _).trans ((if_neg (ne_true_of_eq_false h1)).trans (if_neg (ne_true_of_eq_false hf))).symm)
    · exact call_meets F.slot_str_split (typeIs_str _ _ _) F.entry_str_split (F.args_str_split_2 _ _) (meets_str_split_not_found x ⟨#[c]⟩ t t' h1 hy hf)
        (fin [(x, t)] s.toks ((if_neg (ne_true_of_eq_false h1)).trans (if_pos hf)).symm)
  · exact call_meets F.slot_str_split (typeIs_str _ _ _) F.entry_str_split (F.args_str_split_2 _ _) (meets_str_split_cannot_occur x ⟨#[c]⟩ t t' h1)
      (fin [(x, t)] s.toks (if_pos h1).symm)
theorem ct_partition {x : Str} {c : Nat} {u v : Value} (O : OkIn ok s.heap) (hsz : x.length ≤ 1000000) (r1 : Rp ok s.heap u (.str x)) (r2 : Rp ok s.heap v (.str ⟨#[c]⟩)) :
    EvTo (model prog w) A (call (.builtin "str.partition") [u, v]) ok s (.tuple [.str (strOfL (partL c x.cps.toList).1), .str (strOfL (partL c x.cps.toList).2.1), .str (strOfL (partL c x.cps.toList).2.2)]) := by
  intro Q E hQ
  cases r1 with
  | str _ t =>
  cases r2 with
  | str _ t' =>
  have hq : ∀ ta tb tc k, Q (.ref s.heap.objs.size) { s with heap := s.heap.push { cls := .type "tuple", data := .seq [.str (Txt.partition x ⟨#[c]⟩).1 ta, .str (Txt.partition x ⟨#[c]⟩).2.1 tb, .str (Txt.partition x ⟨#[c]⟩).2.2 tc].toArray }, toks := k } := fun ta tb tc k => by
    refine hQ _ _ (Keeps.of (hk_push _ _)) ?_
    refine .tuple (O _ (fresh_none (Nat.le_refl _))) (Heap.get?_push_size _ rfl) ?_
    rw [partition_eq]
    exact .cons (.str _ _) (.cons (.str _ _) (.cons (.str _ _) .nil))
  refine call_meets F.slot_str_partition (typeIs_str _ _ _) F.entry_str_partition (F.args_str_partition_2 _ _) (meets_str_partition x ⟨#[c]⟩ t t' rfl (by rw [sizeLine_eq]; omega)) ?_
  unfold Txt.partition at hq
  revert hq
  cases occurrences x ⟨#[c]⟩ 0 x.length 1 with
  | nil => intro h'; exact h' _ _ _ _
  | cons i r => intro h'; exact h' _ _ _ _
theorem ct_encode {x : Str} {b : Array UInt8} {u : Value} (hsz : x.length ≤ 1000000) (e : encS x = some b) (r : Rp ok s.heap u (.str x)) : EvTo (model prog w) A (call (.builtin "str.encode") [u]) ok s (.bytes b) := by
  intro Q E hQ
  cases r with
  | str _ t =>
  unfold encS at e
  split at e
  · rename_i hx
    cases e
    have hx : ∀ c ∈ x.cps.toList, c < 128 := fun c hc => of_decide_eq_true (List.all_eq_true.mp hx c hc)
    refine wpAny_call_entry F.slot_str_encode (typeIs_str _ _ _) F.entry_str_encode ?_ (F.args_str_encode_1 _)
    rw [encode_tree, encodeRoad_utf8, narrow_ok hx (by omega)]
    refine wpAny_bind (wpAny_bind (wpAny_pure (wpAny_mkBytes (wpAny_pure ⟨_, rfl, ?_⟩) ?_)))
    · exact hQ _ _ Keeps.tok (.bytes _ _)
    · rw [sizeLine_eq]; simp [Str.length] at hsz ⊢; omega
  · first | exact noneF e | cases e
theorem ct_decode {b : Array UInt8} {x : Str} {u : Value} (hsz : b.size ≤ 1000000) (e : decB b = some x) (r : Rp ok s.heap u (.bytes b)) : EvTo (model prog w) A (call (.builtin "bytes.decode") [u]) ok s (.str x) := by
  intro Q E hQ
  cases r with
  | bytes _ t =>
  unfold decB at e
  split at e
  · rename_i hx
    cases e
    simp only [Bool.and_eq_true, Bool.not_eq_true', List.isEmpty_eq_false_iff, List.all_eq_true, decide_eq_true_eq] at hx
    obtain ⟨l⟩ := b
    cases l with
    | nil => exact absurd rfl hx.1
    | cons c cs =>
      have hsz : (c :: cs).toArray.size ≤ 1000000 := hsz
      exact KBd.decode (n := (c :: cs).toArray.size) (fun id => decoder_ok (b := (c :: cs).toArray) hx.2 (by omega)) (by simp [Str.length] at hsz ⊢; omega) fun t' k => hQ _ _ Keeps.tok (.str _ _)
  · first | exact noneF e | cases e
end
end Mine
end
section
open PySem PySem.W PyProof.Rows PySem.Calls
set_option maxRecDepth 100000
namespace Mine
open PySem.Builtin PySem.Builtin.Bytes
theorem bind_two : bindOptional "bytes.split" "split" ["sep", "maxsplit"] [] [] = pure [none, none] := by kernel_rfl
theorem while_all {α : Type} {p : α → Bool} : ∀ {l : List α}, (∀ c ∈ l, p c = true) → l.takeWhile p = l ∧ l.dropWhile p = []
  | [], _ => ⟨rfl, rfl⟩
  | c :: r, h => by
    have ih := while_all fun d hd => h d (List.mem_cons_of_mem _ hd)
    rw [List.takeWhile_cons, List.dropWhile_cons, h c (List.mem_cons_self ..)]
    exact ⟨by rw [if_pos rfl, ih.1], by rw [if_pos rfl, ih.2]⟩
theorem words_whole : ∀ {l : List UInt8} {n m : Nat}, l ≠ [] → (l.any isSpace) = false → words (n + 2) (m + 1) l = [l] := by
  intro l n m hl hs
  have hd : ∀ c ∈ l, isSpace c = false := by simpa using hs
  have e1 : l.dropWhile isSpace = l := by
    cases l with
    | nil => rfl
    | cons c r => rw [List.dropWhile_cons, hd c (List.mem_cons_self ..)]; rfl
  have e23 := while_all (l := l) (p := (!isSpace ·)) fun c hc => by rw [hd c hc]; rfl
  have e2 := e23.1
  have e3 := e23.2
  unfold words
  rw [e1]
  cases l with
  | nil => exact absurd rfl hl
  | cons c r =>
    show (if (m + 1 == 0) = true then _ else _) = _
    rw [if_neg (by simp)]
    rw [e2, e3]
    rfl
section
variable {prog : Program} {w : World} {A : Around} {ok : Addr → Prop} {s : Shared}
theorem new_each {M : Model} {A : Around} {E : Value → Shared → Prop} {n : Nat} : ∀ (ws : List (List UInt8)) (s : Shared) (Q : List Value → Shared → Prop), (∀ w ∈ ws, w.length ≤ 16000000) →
    (∀ vs tk, RpAll (fun _ => True) s.heap vs (ws.map fun w => PV.bytes w.toArray) → vs.length = ws.length → Q vs { s with toks := tk }) → wpAny M A (ws.mapM fun w => PySem.Builtin.Bytes.Kind.bytes.new w.toArray) Q E s
  | [], s, Q, _, h => by
    rw [List.mapM_nil]
    exact wpAny_pure (h [] s.toks .nil rfl)
  | x :: ws, s, Q, hz, h => by
    rw [List.mapM_cons]
    refine wpAny_bind (wpAny_mkBytes ?_ (by rw [sizeLine_eq]; have := hz x (List.mem_cons_self ..); simp; omega))
    refine wpAny_bind (new_each (n := n) ws _ _ (fun y hy => hz y (List.mem_cons_of_mem _ hy)) fun vs tk r hl => wpAny_pure ?_)
    exact h _ tk (.cons (.bytes _ _) r) (by simp [hl])
theorem rp_any {ok : Addr → Prop} {h h' : Heap} {bs : List (Array UInt8)} : ∀ {l : List (Array UInt8)} {vs : List Value}, RpAll (fun _ => True) h vs (l.map PV.bytes) → RpAll ok h' vs (l.map PV.bytes)
  | [], _, r => by cases r; exact .nil
  | b :: l, _, r => by
    cases r with
    | cons hd tl => cases hd; exact .cons (.bytes _ _) (rp_any (bs := bs) tl)
theorem words_len : ∀ (n m : Nat) (l : List UInt8), ∀ w ∈ words n m l, w.length ≤ l.length
  | 0, _, _, w, h => by simp [words] at h
  | n + 1, m, l, w, h => by
    have hsub : ∀ {r : List UInt8}, l.dropWhile isSpace = r → r.length ≤ l.length := fun e => e ▸ (List.dropWhile_suffix _).length_le
    unfold words at h
    split at h
    · first | exact noneF h | cases h
    · rename_i rest hr
      split at h
      · rw [List.mem_singleton.mp h]; exact hsub rfl
      · rcases List.mem_cons.mp h with rfl | h
        · exact Nat.le_trans (List.takeWhile_prefix _).length_le (hsub rfl)
        · exact Nat.le_trans (words_len n _ _ w h) (Nat.le_trans (List.dropWhile_suffix _).length_le (hsub rfl))
theorem words_count : ∀ (n m : Nat) (l : List UInt8), (words n m l).length ≤ n
  | 0, _, _ => by simp [words]
  | n + 1, m, l => by
    unfold words
    split
    · simp
    · split
      · simp
      · rw [List.length_cons]
        have := words_count n (m - 1) ((l.dropWhile isSpace).dropWhile (!isSpace ·))
        omega
theorem ct_bsplit {b : Array UInt8} {u : Value} (O : OkIn ok s.heap) (hsz : b.size ≤ 16000000) (r : Rp ok s.heap u (.bytes b)) :
    EvTo (model prog w) A (call (.builtin "bytes.split") [u]) ok s (.list ((bsplit b).map .bytes)) := by
  intro Q E hQ
  cases r with
  | bytes _ t =>
  refine wpAny_call_entry slot_bsplit (typeIs_bytes _ _ _) entry_bsplit ?_ (args_bsplit _)
  show wpAny _ _ (bindOptional "bytes.split" "split" ["sep", "maxsplit"] [] [] >>= _) _ _ _
  rw [bind_two]
  refine wpAny_bind (wpAny_pure ?_)
  dsimp only
  refine wpAny_bind (wpAny_pure ?_)
  show wpAny _ _ (payload (.bytes b t) >>= _) _ _ _
  refine wpAny_bind (m := payload (.bytes b t)) (wpAny_pure ?_)
  refine wpAny_bind (wpAny_rule ?_)
  rw [show (if (-1 : Int) < 0 then b.size + 1 else (-1 : Int).toNat) = b.size + 1 from if_pos (by decide), if_neg Bool.false_ne_true]
  split
  · rename_i hc
    simp only [Bool.and_eq_true, decide_eq_true_eq, Bool.not_eq_true'] at hc
    have hne : b.toList ≠ [] := fun e => by
      have : b = #[] := by apply Array.toList_inj.mp; rw [e]
      rw [this] at hc; simp at hc
    have hsp : b.toList.any isSpace = false := by rw [Array.any_toList]; exact hc.2
    have hb : bsplit b = [b] := by
      unfold bsplit
      have hp : 0 < b.toList.length := List.length_pos_iff.mpr hne
      obtain ⟨k, hk⟩ : ∃ k, b.size = k + 1 := ⟨b.size - 1, by simp at hp; omega⟩
      rw [hk, words_whole hne hsp]
      simp
    rw [hb] at hQ
    have hs : PySem.Builtin.Bytes.Kind.bytes.same (.bytes b t) = pure (.bytes b t) := by kernel_rfl
    rw [hs]
    refine wpAny_bind (wpAny_pure (wpAny_bind (wpAny_newObj_type (wpAny_pure ⟨_, rfl, ?_⟩) (by show 1 ≤ sizeLine; decide))))
    exact hQ _ _ Keeps.push (.list (O _ (fresh_none (Nat.le_refl _))) (Heap.get?_push_size _ rfl) (.one (.bytes _ _)))
  · refine wpAny_bind (new_each (n := 0) _ _ _ (fun x hx => ?_) fun vs tk r hl => ?_)
    · have := words_len _ _ _ x hx
      simp at this; omega
    · have hcnt := words_count (b.size + 1) (b.size + 1) b.toList
      refine wpAny_bind (wpAny_newObj_type (wpAny_pure ⟨_, rfl, ?_⟩) (by show vs.toArray.size ≤ sizeLine; rw [sizeLine_eq, List.size_toArray, hl]; omega))
      refine hQ _ _ (Keeps.of (tk := tk) (hk_push _ _)) (.list (O _ (fresh_none (Nat.le_refl _))) (Heap.get?_push_size _ rfl) ?_)
      have r' : RpAll (fun _ => True) s.heap vs ((bsplit b).map PV.bytes) := by
        unfold bsplit
        rw [List.map_map]
        exact r
      exact rp_any (bs := []) r'
end
end Mine
end
section
open PySem PySem.W PyProof.Rows PySem.Calls
set_option maxRecDepth 100000
namespace Mine
open PySem.Builtin PySem.Builtin.Bytes
section
variable {prog : Program} {w : World} {A : Around} {ok : Addr → Prop} {s : Shared}
theorem bytes_rp {ok : Addr → Prop} {h : Heap} : ∀ {ys : List PV} {bs : List (Array UInt8)} {vs : List Value}, bytes? ys = some bs → RpAll ok h vs ys → vs.length = bs.length ∧ ∀ i (hi : i < bs.length), ∃ t, vs[i]? = some (Value.bytes bs[i] t)
  | [], _, _, e, r => by
    cases e; cases r
    exact ⟨rfl, fun i hi => absurd hi (by simp)⟩
  | y :: ys, bs, vs, e, r => by
    unfold bytes? at e
    split at e
    · cases ‹_ :: _ = []›
    · rename_i b r' heq
      cases heq
      simp only [Option.map_eq_some_iff] at e
      obtain ⟨bs', e, rfl⟩ := e
      cases r with
      | cons hd tl =>
        cases hd
        obtain ⟨h1, h2⟩ := bytes_rp e tl
        refine ⟨by simp [h1], fun i hi => ?_⟩
        cases i with
        | zero => exact ⟨_, rfl⟩
        | succ i => simpa using h2 i (by simpa using hi)
    · first | exact noneF e | cases e
theorem take_ok {id : String} {b : Array UInt8} {t : Tok} : takeBufferQuiet? id (.bytes b t) 0 = pure (some (b, none)) := by
  have hb : ∀ fl, Bytes.buffer? id (.bytes b t) fl = pure (some b) := fun fl => by
    unfold Bytes.buffer?
    rw [KBy.special_eq KBy.look_buffer, KBy.own_buffer, KBy.own_release]
    kernel_rfl
  unfold takeBufferQuiet? takeBuffer?
  rw [KBy.special_eq KBy.look_buffer, KBy.own_buffer, hb]
  kernel_rfl
theorem letgo_ok {M : Model} {A : Around} {E : Value → Shared → Prop} {s : Shared} {Q : Unit → Shared → Prop} (keep : List Value) : ∀ (taken : List (Value × Option Value)), (∀ p ∈ taken, p.2 = none) → Q () s → wpAny M A (joinLetGo taken keep) Q E s
  | [], _, h => wpAny_pure h
  | (x, u) :: r, hn, h => by
    have hu : u = none := hn (x, u) (List.mem_cons_self ..)
    subst hu
    unfold joinLetGo
    dsimp only
    refine wpAny_bind (wpAny_letGo ?_)
    exact letgo_ok keep r (fun p hp => hn p (List.mem_cons_of_mem _ hp)) h
theorem range_wp' {M : Model} {A : Around} {E : Value → Shared → Prop} {s : Shared} {σ : Type} {Q : σ → Shared → Prop} (f : Nat → σ → Sem (ForInStep σ)) (st : Nat → σ) (n : Nat)
    (h : ∀ i, i < n → ∀ Q : ForInStep σ → Shared → Prop, Q (.yield (st (i + 1))) s → wpAny M A (f i (st i)) Q E s) (hq : Q (st n) s) : ∀ (m k : Nat), k + m = n → wpAny M A (forIn (List.range' k m) (st k) f) Q E s
  | 0, k, e => by
    rw [show k = n by omega]
    exact wpAny_pure hq
  | m + 1, k, e => by
    rw [List.range'_succ, List.forIn_cons]
    exact wpAny_bind (h k (by omega) _ (range_wp' f st n h hq m (k + 1) (by omega)))
theorem range_wp {M : Model} {A : Around} {E : Value → Shared → Prop} {s : Shared} {σ : Type} {Q : σ → Shared → Prop} (f : Nat → σ → Sem (ForInStep σ)) (st : Nat → σ) (n : Nat) (a : σ) (ha : a = st 0)
    (h : ∀ i, i < n → ∀ Q : ForInStep σ → Shared → Prop, Q (.yield (st (i + 1))) s → wpAny M A (f i (st i)) Q E s) (hq : Q (st n) s) : wpAny M A (forIn [:n] a f) Q E s := by
  subst ha
  rw [Std.Legacy.Range.forIn_eq_forIn_range']
  show wpAny M A (forIn (List.range' 0 ((n - 0 + 1 - 1) / 1) 1) (st 0) f) Q E s
  rw [show (n - 0 + 1 - 1) / 1 = n by omega]
  exact range_wp' f st n h hq n 0 (by omega)
theorem m1_one {α : Type} {x : Value} {f : Value → α} {g : Array Value → α} : PySem.Builtin.Bytes.joinM.match_1 (fun _ => α) #[x] f g = f x := by
  kernel_rfl
theorem m1_else {α : Type} {xs : Array Value} {f : Value → α} {g : Array Value → α} (h : xs.size ≠ 1) : PySem.Builtin.Bytes.joinM.match_1 (fun _ => α) xs f g = g xs := by
  unfold PySem.Builtin.Bytes.joinM.match_1
  rw [dif_neg h]
theorem ct_bjoin {sep : Array UInt8} {ys : List PV} {bs : List (Array UInt8)} {u v : Value} (e : bytes? ys = some bs) (hz : bs.foldl (fun n b => n + b.size) (sep.size * (bs.length - 1)) ≤ lim) (hz2 : (joined sep bs).size ≤ lim) (r1 : Rp ok s.heap u (.bytes sep)) (r2 : Rp ok s.heap v (.list ys)) :
    EvTo (model prog w) A (call (.builtin "bytes.join") [u, v]) ok s (.bytes (joined sep bs)) := by
  intro Q E hQ
  cases r1 with
  | bytes _ t =>
  cases r2 with
  | @list a vs _ n hk ho hr =>
  obtain ⟨hl, hv⟩ := bytes_rp e hr
  refine wpAny_call_entry slot_bjoin (typeIs_bytes _ _ _) entry_bjoin ?_ (args_bjoin _ _)
  show wpAny _ _ (joinM .bytes ⟨[.bytes sep t, .ref a], []⟩) _ _ _
  unfold joinM
  dsimp only
  refine wpAny_bind (m := selfAndOne _ ⟨[.bytes sep t, .ref a], []⟩) (wpAny_pure ?_)
  dsimp only
  have kk : (PySem.Builtin.Bytes.Kind.bytes == PySem.Builtin.Bytes.Kind.bytes) = true := rfl
  have kb : (PySem.Builtin.Bytes.Kind.bytes == PySem.Builtin.Bytes.Kind.bytearray) = false := rfl
  rw [if_pos kk]
  have hj : ∀ (Q : Value → Shared → Prop), Q (.ref a) s → wpAny (model prog w) A.in1 (joinItems (.ref a)) Q E s := fun Q hq => by
    unfold joinItems
    refine wpAny_bind (wpAny_typeOf (isList_of ho).typeIs ?_)
    rw [if_pos (by decide)]
    exact wpAny_pure hq
  refine wpAny_bind (hj _ ?_)
  refine wpAny_bind (wpAny_seqItems ho rfl ?_)
  dsimp only
  rw [if_pos kk]
  by_cases h1 : vs.length = 1
  · obtain ⟨x, hvs⟩ := List.length_eq_one_iff.mp h1
    subst hvs
    rw [show [x].toArray = #[x] from rfl, m1_one]
    match bs, hl, hv with
    | [b], _, hv =>
      obtain ⟨t1, h1⟩ := hv 0 (by simp)
      simp at h1
      subst h1
      refine wpAny_bind (m := typeOf (.bytes b t1)) (wpAny_pure ?_)
      rw [if_pos (by decide)]
      refine wpAny_bind (wpAny_rule (wpAny_pure ⟨_, rfl, ?_⟩))
      have hj1 : joined sep [b] = b := by simp [joined]
      rw [hj1] at hQ
      exact hQ _ _ (Keeps.rfl' s) (.bytes _ _)
  · rw [m1_else (by simpa using h1)]
    refine wpAny_bind (range_wp _ (fun i => ((bs.take i).toArray, (vs.take i).map fun v => (v, (none : Option Value)))) vs.toArray.size _ (by simp) (fun i hi Q' hq => ?_) ?_)
    · have hi' : i < bs.length := by simpa [← hl] using hi
      obtain ⟨ti, hvi⟩ := hv i hi'
      have hiv : i < vs.length := by simpa using hi
      have hgi : vs.toArray.getD i Value.none = .bytes bs[i] ti := by
        simp [hvi]
      refine wpAny_bind (wpAny_seqItems ho rfl ?_)
      dsimp only
      have hany : ((vs.take i).map fun v => (v, (none : Option Value))).any (fun x => x.1.onHeap) = false := by
        rw [List.any_eq_false]
        intro p hp
        obtain ⟨v', hv', rfl⟩ := List.mem_map.mp hp
        obtain ⟨j, hj, ej⟩ := List.getElem_of_mem hv'
        have hj' : j < bs.length := by simp at hj; omega
        obtain ⟨tj, hvj⟩ := hv j hj'
        have : v' = .bytes bs[j] tj := by
          have e1 : (vs.take i)[j]? = some v' := by rw [List.getElem?_eq_getElem hj, ej]
          rw [List.getElem?_take_of_lt (by simp at hj; omega), hvj] at e1
          cases e1; rfl
        rw [this]
        exact Bool.false_ne_true
      rw [hany, kb, hgi]
      simp only [Bool.or_false, Bool.false_eq_true, if_false]
      refine wpAny_bind (wpAny_holding ?_)
      rw [take_ok]
      refine wpAny_pure ?_
      dsimp only
      refine wpAny_bind (wpAny_seqItems ho rfl ?_)
      dsimp only
      rw [if_neg (by simp)]
      refine wpAny_pure ?_
      have e1 : (bs.take (i + 1)).toArray = (bs.take i).toArray.push bs[i] := by
        rw [List.take_succ_eq_append_getElem hi']; simp
      have e2 : (vs.take (i + 1)).map (fun v => (v, (none : Option Value))) = (vs.take i).map (fun v => (v, (none : Option Value))) ++ [(Value.bytes bs[i] ti, none)] := by
        rw [List.take_succ_eq_append_getElem hiv, List.map_append]
        have : vs[i] = .bytes bs[i] ti := by
          rw [List.getElem?_eq_getElem hiv] at hvi
          exact Option.some.inj hvi
        rw [this]; rfl
      rw [e1, e2] at hq
      exact hq
    · have e1 : (bs.take vs.toArray.size).toArray = bs.toArray := by
        rw [List.take_of_length_le (by simp [hl])]
      rw [e1]
      dsimp only
      refine wpAny_bind (m := payload (.bytes sep t)) (wpAny_pure ?_)
      rw [if_neg (by
        have hfold : bs.toArray.foldl (fun (x1 : Nat) (x2 : Array UInt8) => x1 + x2.size) (sep.size * (bs.toArray.size - 1)) = bs.foldl (fun n b => n + b.size) (sep.size * (bs.length - 1)) := by simp
        rw [hfold]
        unfold tooLong
        rw [sizeLine_eq, decide_eq_true_eq]
        exact Nat.not_lt.mpr hz)]
      refine wpAny_bind (wpAny_mkBytes ?_ (by rw [sizeLine_eq]; exact hz2))
      refine wpAny_bind (wpAny_holding (wpAny_point ?_))
      refine wpAny_bind (letgo_ok _ _ (fun p hp => by obtain ⟨v', _, rfl⟩ := List.mem_map.mp hp; rfl) ?_)
      exact wpAny_pure ⟨_, rfl, hQ _ _ Keeps.tok (.bytes _ _)⟩
end
end Mine
end
section
open PySem PySem.W PyProof.Rows PySem.Calls
set_option maxRecDepth 100000
namespace Mine
noncomputable def dPF := defOf "ParseFlags"
set_option maxHeartbeats 4000000 in
theorem pf_shape : ∃ p1 p2 p3 p4 p5 p6 p7 p8 p9 p10 p11 p12 p13 p14 p15 p16 p17 p18 p19 p20 k k', dPF.2.1 = [.Assign [.Name "mo" p1] (.Call (.Attribute (.Name "Flags" p2) "match" p3) [.Name "resp" p4] [] p5) p6,
    .If (.UnaryOp .Not (.Name "mo" p7) p8) [.Return (some (.Tuple [] k p9)) p10] [] p11,
    .Return (some (.Call (.Name "tuple" p12) [.Call (.Attribute (.Call (.Attribute (.Name "mo" p13) "group" p14) [.Constant (.str "flags") k' p15] [] p16) "split" p17) [] [] p18] [] p19)) p20] ∧
    (p3.endLine == p5.line) = true ∧ (p14.endLine == p16.line) = true ∧ (p17.endLine == p18.line) = true :=
  ⟨_, _, _, _, _, _, _, _, _, _, _, _, _, _, _, _, _, _, _, _, _, _, rfl, rfl, rfl, rfl⟩

theorem nobool_mo : typeLookup (.type "re.Match") "__bool__" = pure none := by rw [typeLookup_type, builtinLookup_eq_fast]; kernel_rfl
theorem nolen_mo : typeLookup (.type "re.Match") "__len__" = pure none := by rw [typeLookup_type, builtinLookup_eq_fast]; kernel_rfl
theorem truthy_mo {M : Model} {A : Around} {E : Value → Shared → Prop} {s : Shared} {a : Addr} {Q : Bool → Shared → Prop} (hT : s.TypeIs (.ref a) "re.Match") (h : Q true s) : wpAny M A (truthy (.ref a)) Q E s := by
  unfold truthy
  refine wpAny_bind (wpAny_callSpecial?_none (name := Str.ofString "__bool__") hT nobool_mo ?_)
  dsimp only
  refine wpAny_bind (wpAny_specialOf hT nolen_mo ?_)
  exact wpAny_pure h

noncomputable def pfVal (b : Array UInt8) (g : Option (Nat × Nat)) : List PV := match g with
  | some (i, j) => (bsplit (b.extract i j)).map .bytes
  | none => []
/-- what the reply's first row tells -/
noncomputable def Told (b : Array UInt8) (g : Option (Nat × Nat)) : Prop := match g with
  | some (i, j) => i ≤ j ∧ Fin (2 ^ 60) (Sre.forMatch rxC (b.map (·.toNat)) 1 0 b.size false false) (Found i j)
  | none => Fin (2 ^ 60) (Sre.forMatch rxC (b.map (·.toNat)) 1 0 b.size false false) (fun m => m.outcome = some .failed)
section
variable {prog : Program} {w : World} {mg mb : Str → Option Value} {K : Frag} {d : Nat}
theorem ct_pf {fd : FuncData} {a p : Addr} {o : Obj} {v : Value} {b : Array UInt8} {g : Option (Nat × Nat)} {A : Around} {ok : Addr → Prop} {s : Shared}
    (hd : d + 3 ≤ 50) (hA : AOK d A) (B : Base mg mb K s.heap) (O : OkIn ok s.heap) (r : Rp ok s.heap v (.bytes b)) (hz : b.size ≤ 16000000) (hg : Told b g)
    (ho : s.heap.get? a = some o) (hdata : o.data = .func fd) (hcd : s.heap.CodeRec fd.code fd.qualname) (hbody : fd.body = .stmts dPF.2.1) (hclo : fd.closure = []) (hgl : fd.globals = mainGlobals) (hbl : fd.builtins = builtinsNs)
    (hsc : fd.scope = dPF.2.2) (hbind : bindArgs fd ⟨[v], []⟩ = pure [(("resp" : Str), v)])
    (gF : Glb mg mb "Flags" (.ref p)) (gT : Glb mg mb "tuple" (.type "tuple")) (P : ∀ h, Base mg mb K h → PatAt prog w h p) :
    EvTo (model prog w) A (call (.ref a) [v]) ok s (.tuple (pfVal b g)) := by
  intro Q E hQ
  cases r with
  | bytes _ t =>
  have hk : fd.scope.kind = .function := by rw [hsc]; rfl
  refine wpAny_call (call_toks (hA.room (by omega)) ho hdata B.lim hcd hbody hbind hclo (fun z hz => ?_) (fun s₁ t₁ X => ?_) (by rw [hsc]; rfl) (by rw [hsc]; rfl) hk)
  · rw [List.mem_singleton.mp hz]
    left; rw [hsc]; rfl
  · obtain ⟨p1, p2, p3, p4, p5, p6, p7, p8, p9, p10, p11, p12, p13, p14, p15, p16, p17, p18, p19, p20, k, k', hs, e1, e2, e3⟩ := pf_shape
    rw [hs]
    generalize hE : callEnvC fd s.heap.objs.size a = env at X ⊢
    have kof : ∀ x, env.kindOf x = dPF.2.2.names.lookup x := fun x => by rw [← hE]; show fd.scope.names.lookup x = _; rw [hsc]
    have ekind : env.scope.kind = .function := by rw [← hE]; exact hk
    have egl : env.globals = mainGlobals := by rw [← hE]; exact hgl
    have ebl : env.builtins = builtinsNs := by rw [← hE]; exact hbl
    have kresp : env.kindOf "resp" = some .local := by rw [kof]; rfl
    have kmo : env.kindOf "mo" = some .local := by rw [kof]; rfl
    have kF : env.kindOf "Flags" = some .globalImplicit := by rw [kof]; rfl
    have kT : env.kindOf "tuple" = some .globalImplicit := by rw [kof]; rfl
    have mresp : bindL env.kindOf [(("resp" : Str), Value.bytes b t)] (fun _ => none) "resp" = some (.bytes b t) := by
      show (if env.kindOf "resp" = some .local then (fun y => if y = ("resp" : Str) then some (Value.bytes b t) else none) else fun _ => none) "resp" = _
      rw [if_pos kresp]; exact if_pos rfl
    have B₁ : Base mg mb K s₁.heap := B.hk X.toInCall.keep
    obtain ⟨pb, _, _, _, _, _, hp, _⟩ := (P _ B₁).pat
    refine wpAny_execs_cons (wpAny_Assign_Name ?_)
    refine wpAny_Call_method_lateS rfl (few_of rfl (by simp)) e1 (Name_function_global ekind kF (loadGlb gF B₁ egl ebl ?_) rfl)
    refine ⟨"re.Pattern", "re.Pattern.match", pa_pat, slot_match, type_match, ⟨_, hp, rfl⟩, fun q e => by cases e; exact ⟨_, hp, rfl⟩, callWith_meth rfl ?_⟩
    refine wpAny_items_cons (NameLC X ekind kresp mresp (wpAny_items_nil ?_) rfl) rfl
    -- behind the store
    have store : ∀ (u : Value) (h' : Heap), (∀ b o, s₁.heap.get? b = some o → h'.get? b = some o) →
        (∀ s₂, InCallC s env.locals (fun y => if y = "mo" then some u else bindL env.kindOf [(("resp" : Str), Value.bytes b t)] (fun _ => none) y) env.cells (bindC env.kindOf [(("resp" : Str), Value.bytes b t)] fun _ => none) s₂ → (∀ b o, b ≠ env.locals → h'.get? b = some o → s₂.heap.get? b = some o) →
          wpAny (model prog w) (A.deeper env) (execs [.If (.UnaryOp .Not (.Name "mo" p7) p8) [.Return (some (.Tuple [] k p9)) p10] [] p11,
    .Return (some (.Call (.Name "tuple" p12) [.Call (.Attribute (.Call (.Attribute (.Name "mo" p13) "group" p14) [.Constant (.str "flags") k' p15] [] p16) "split" p17) [] [] p18] [] p19)) p20] env) (fun f s' => Q (match f with | .ret v => v | _ => .none) s') (fun _ _ => False) s₂) →
        wpAny (model prog w) (A.deeper env) (storeName env "mo" u) (fun _ s' => wpAny (model prog w) (A.deeper env) (execs [.If (.UnaryOp .Not (.Name "mo" p7) p8) [.Return (some (.Tuple [] k p9)) p10] [] p11,
    .Return (some (.Call (.Name "tuple" p12) [.Call (.Attribute (.Call (.Attribute (.Name "mo" p13) "group" p14) [.Constant (.str "flags") k' p15] [] p16) "split" p17) [] [] p18] [] p19)) p20] env) (fun f s' => Q (match f with | .ret v => v | _ => .none) s') (fun _ _ => False) s') (fun _ _ => False) { s₁ with heap := h' } := by
      intro u h' hk' h
      have X' := X.kept (tk := s₁.toks) hk'
      refine wpAny_storeName_local kmo X'.toInCall.ns (fun h₂ hn hs' => h _ ⟨⟨?_, hn, fun b o e => ?_, X'.toInCall.fresh⟩, fun n c hc => ?_, X'.apart, X'.above⟩ fun b o hb e => hs'.extBut b o hb e) (by rw [ekind]; rfl)
      · obtain ⟨h₁, tk, rfl⟩ := X.toInCall.same
        exact ⟨h₂, _, rfl⟩
      · exact hs'.extBut b o (Nat.ne_of_lt (Nat.lt_of_lt_of_le (Heap.lt_size e) X'.toInCall.fresh)) (X'.toInCall.keep b o e)
      · exact (X'.cell n c hc).sameBut hs' (Nat.ne_of_gt (X'.above n c (mem_of_lookup hc)))
    cases g with
    | none =>
      refine match_no (P _ B₁) hz hg ?_
      refine store .none s₁.heap (fun _ _ e => e) fun s₂ X₂ _ => ?_
      refine wpAny_execs_cons (wpAny_If (wpAny_isTrue_Not (wpAny_isTrue_value (NameLC X₂ ekind kmo (if_pos rfl) (truthy_none ?_) rfl))))
      refine wpAny_execs_cons (wpAny_Return_some (wpAny_Tuple (wpAny_items_nil ⟨by simp, ?_⟩)))
      obtain ⟨h₂, tk₂, rfl, k₂⟩ := X₂.done
      refine hQ _ _ (Keeps.of (tk := tk₂) fun b o e => hk_push _ _ b o (k₂ b o e)) (.tuple (O.hk k₂ _ (fresh_none (Nat.le_refl _))) (Heap.get?_push_size _ rfl) .nil)
    | some g =>
      obtain ⟨i, j⟩ := g
      refine match_ok (P _ B₁) hz hg.2 hg.1 fun h' a' hk' ha' hmo => ?_
      refine store (.ref a') h' hk' fun s₂ X₂ k₂ => ?_
      have ne1 : ∀ {c : Addr} {oc : Obj}, h'.get? c = some oc → (∀ es ep, oc.data ≠ .dict es ep) → c ≠ env.locals := fun {c oc} e hnd => by
        rintro rfl
        obtain ⟨o', es, ep, ho', hd', _⟩ := (X.kept (tk := s₁.toks) hk').toInCall.ns
        have ho' : h'.get? env.locals = some o' := ho'
        rw [e] at ho'; cases ho'; exact hnd _ _ hd'
      obtain ⟨h₂, tk₂, rfl, kb₂⟩ := X₂.done
      have B₂ : Base mg mb K h₂ := B.hk kb₂
      have M₂ : MoAt prog w h₂ p a' b i j := by
        obtain ⟨t0, tk, u, v, x1, x2, x3, x4, x5, st, hd, _, q2, q3⟩ := hmo.mo
        exact ⟨t0, tk, u, v, x1, x2, x3, x4, x5, st, hd, P _ B₂, k₂ _ _ (ne1 q2 fun _ _ e => by cases e) q2, k₂ _ _ (ne1 q3 fun _ _ e => by cases e) q3⟩
      have hTm : ∀ s' : Shared, s'.heap = h₂ → s'.TypeIs (.ref a') "re.Match" ∧ ∀ q, Value.ref a' = .ref q → ∃ ob, s'.heap.get? q = some ob ∧ ob.dict = none := fun s' e => by
        obtain ⟨t0, tk, u, v, x1, x2, x3, x4, x5, st, hd, _, q2, q3⟩ := M₂.mo
        exact ⟨⟨_, e ▸ q2, rfl⟩, fun q eq => by cases eq; exact ⟨_, e ▸ q2, rfl⟩⟩
      refine wpAny_execs_cons (wpAny_If (wpAny_isTrue_Not (wpAny_isTrue_value (NameLC X₂ ekind kmo (if_pos rfl) (truthy_mo (hTm _ rfl).1 ?_) rfl))))
      refine wpAny_execs_nil ?_
      refine wpAny_execs_cons (wpAny_Return_some ?_)
      refine Call_Name rfl (Name_function_global ekind kT (loadGlb gT B₂ egl ebl ?_) rfl)
      refine callWith_any (mg := mg) (mb := mb) (K := K) (.type "tuple") rfl ?_
      refine wpAny_items_cons ?_ rfl
      refine wpAny_Call_method_lateS rfl (few_of rfl (by simp)) e3 ?_
      refine wpAny_Call_method_lateS rfl (few_of rfl (by simp)) e2 (NameLC X₂ ekind kmo (if_pos rfl) ?_ rfl)
      refine ⟨"re.Match", "re.Match.group", pa_mo, slot_group, type_group, (hTm _ rfl).1, (hTm _ rfl).2, callWith_meth rfl ?_⟩
      refine wpAny_items_cons (wpAny_Constant_str (wpAny_items_nil ?_)) rfl
      refine group_ok M₂ hz fun t' tk' => ?_
      refine ⟨"bytes", "bytes.split", FB.plainAttrs_bytes, slot_bsplit, type_bsplit, typeIs_bytes _ _ _, (fun _ e => nomatch e), callWith_meth rfl (wpAny_items_nil ?_)⟩
      refine ct_bsplit (ok := ok) (O.hk kb₂) (b := b.extract i j) (by rw [Array.size_extract]; omega) (.bytes _ _) _ _ fun lv s₃ k₃ r₃ => ?_
      refine wpAny_items_nil ⟨B₂.hk (Keeps.hk k₃), ?_⟩
      refine ct_tuple (ok := ok) ?_ ((O.hk kb₂).hk (Keeps.hk k₃)) r₃ _ _ fun tv s₄ k₄ r₄ => ?_
      · have := words_count ((b.extract i j).size + 1) ((b.extract i j).size + 1) (b.extract i j).toList
        rw [List.length_map]
        unfold bsplit
        rw [List.length_map]
        have e1 : (b.extract i j).size ≤ b.size := by rw [Array.size_extract]; omega
        unfold lim
        omega
      · refine hQ _ _ ?_ r₄
        exact Keeps.tr (Keeps.of (tk := tk') kb₂) (Keeps.tr k₃ k₄)
end
end Mine
end
section
open PySem PySem.W PyProof.Rows PySem.Calls
set_option maxRecDepth 100000
namespace Mine

/-- what the top left: the words that the law's functions read -/
structure Tops (prog : Program) (w : World) (mg mb : Str → Option Value) (K : Frag) : Prop where
  gsum : Glb mg mb "sum" (.builtin "sum")
  glen : Glb mg mb "len" (.builtin "len")
  gmin : Glb mg mb "min" (.builtin "min")
  gmax : Glb mg mb "max" (.builtin "max")
  gisi : Glb mg mb "isinstance" (.builtin "isinstance")
  grange : Glb mg mb "range" (.type "range")
  gtuple : Glb mg mb "tuple" (.type "tuple")
  gbool : Glb mg mb "bool" (.type "bool")
  gend : ∃ t, Glb mg mb "ENDMARKER" (.int 0 t)
  gflags : ∃ p, Glb mg mb "Flags" (.ref p) ∧ ∀ h, K.In h → PatAt prog w h p
  gtok : ∃ a f, Glb mg mb "EXACT_TOKEN_TYPES" (.ref a) ∧ (∀ h, K.In h → h.MapOf (strKind prog w) a f ∧ (∃ o, h.get? a = some o ∧ o.cls = .type "dict")) ∧ ∀ x i, lkS tokTab x = some i → ∃ t, f x = some (.int i t)

structure FnFact (mg mb : Str → Option Value) (K : Frag) (n : Str) (df : List Str × List Stmt × Scope) : Prop where
  fact : ∃ a o fd, Glb mg mb n (.ref a) ∧ K.lookup a = some o ∧ o.data = .func fd ∧ fd.body = .stmts df.2.1 ∧ fd.closure = [] ∧ fd.globals = mainGlobals ∧ fd.builtins = builtinsNs ∧ fd.scope = df.2.2 ∧
    (∀ h, K.In h → h.CodeRec fd.code fd.qualname) ∧ (∀ vs, vs.length = df.1.length → bindArgs fd ⟨vs, []⟩ = pure (df.1.zip vs))
structure Sound (df : List Str × List Stmt × Scope) : Prop where
  co : df.2.2.isCoroutine = false
  gen : df.2.2.isGenerator = false
  kind : df.2.2.kind = .function
  nodup : df.1.Nodup
  names : ∀ z ∈ df.1, nameOk df.2.2 z = true
section
variable {prog : Program} {w : World} {mg mb : Str → Option Value} {K : Frag} {d : Nat}
theorem runOf_call {T' : Tab} {n : Str} {df : List Str × List Stmt × Scope} (hT' : TabOk prog w mg mb K (d + 1) T') (F : FnFact mg mb K n df) (S : Sound df) (hd : d + 1 ≤ 50) {xs : List PV} {r : PV} (h : runOf T' df xs = some r) :
    ∃ fv, Glb mg mb n fv ∧ Callee mg mb K fv ∧ ∀ A ok s vs, AOK d A → Base mg mb K s.heap → OkIn ok s.heap → 0 < s.toks → RpAll ok s.heap vs xs → EvTo (model prog w) A (call fv vs) ok s r := by
  obtain ⟨a, o, fd, h1, h2, h3, h4, h5, h6, h7, h8, h9, h10⟩ := F.fact
  refine ⟨.ref a, h1, .ref a fun h B => ⟨o, fd, B.k a o h2, h3⟩, fun A ok s vs hA B O ht r' => ?_⟩
  unfold runOf at h
  split at h
  · rename_i hlen
    split at h
    · rename_i ρ' x hrun
      cases h
      refine call_fn hT' hd (fd := fd) (owns := [Str.ofString "found", Str.ofString "lists", Str.ofString "due"]) (n := 30) hA B O ht r' (B.k a o h2) h3 (h9 _ B.k) h4 h5 h6 h7 (by rw [h8]; exact S.co) (by rw [h8]; exact S.gen) (by rw [h8]; exact S.kind) S.nodup (by rw [h8]; exact S.names) (h10 vs (by rw [r'.length, hlen])) ?_ (ρ' := ρ')
      rw [h8]; exact hrun
    · first | exact noneF h | cases h
  · first | exact noneF h | cases h
theorem TabOk.fnAdd {T : Tab} {n : Str} {g : List PV → Option PV} (hT : TabOk prog w mg mb K d T)
    (h : ∀ xs r, g xs = some r → ∃ fv, Glb mg mb n fv ∧ Callee mg mb K fv ∧ ∀ A ok s vs, AOK d A → Base mg mb K s.heap → OkIn ok s.heap → 0 < s.toks → RpAll ok s.heap vs xs → EvTo (model prog w) A (call fv vs) ok s r) :
    TabOk prog w mg mb K d (T.withFn n g) := by
  refine ⟨hT.glob, fun f xs r e => ?_, hT.mth, hT.sub⟩
  replace e : (if eqS f n then g xs else T.fn f xs) = some r := e
  split at e
  · rename_i hf
    rw [eqS_eq, beq_iff_eq] at hf
    subst hf
    exact h xs r e
  · exact hT.fn f xs r e
theorem TabOk.withRun {T T' : Tab} {n : Str} {df : List Str × List Stmt × Scope} (hT : TabOk prog w mg mb K d T) (hT' : TabOk prog w mg mb K (d + 1) T') (F : FnFact mg mb K n df) (S : Sound df) (hd : d + 1 ≤ 50) : TabOk prog w mg mb K d (T.withFn n (runOf T' df)) :=
  hT.fnAdd fun _ _ e => runOf_call hT' F S hd e
theorem one_arg {ok : Addr → Prop} {h : Heap} {vs : List Value} {x : PV} (r : RpAll ok h vs [x]) : ∃ v, vs = [v] ∧ Rp ok h v x := by
  cases r with
  | cons hd tl => cases tl; exact ⟨_, rfl, hd⟩
theorem two_args {ok : Addr → Prop} {h : Heap} {vs : List Value} {x y : PV} (r : RpAll ok h vs [x, y]) : ∃ u v, vs = [u, v] ∧ Rp ok h u x ∧ Rp ok h v y := by
  cases r with
  | cons hd tl =>
    obtain ⟨v, rfl, r⟩ := one_arg tl
    exact ⟨_, _, rfl, hd, r⟩
theorem tabOk_T0 (P : Tops prog w mg mb K) (hd : d ≤ 50) : TabOk prog w mg mb K d T0 := by
  refine ⟨fun x v e => ?_, fun f xs r e => ?_, fun m x xs r e => ?_, fun g y r e => ?_⟩
  · -- the words
    replace e : (if eqS x "ENDMARKER" then some (PV.int 0) else if eqS x "bool" then some (.ty "bool") else none) = some v := e
    rw [eqS_eq, eqS_eq] at e
    split at e
    · rename_i hx
      rw [beq_iff_eq] at hx; subst hx
      cases e
      obtain ⟨t, ht⟩ := P.gend
      exact ⟨_, ht, fun _ _ => .int _ _⟩
    · split at e
      · rename_i hx
        rw [beq_iff_eq] at hx; subst hx
        cases e
        exact ⟨_, P.gbool, fun _ _ => .ty _⟩
      · first | exact noneF e | cases e
  · -- the calls
    replace e : fnB f xs = some r := e
    unfold fnB at e
    simp only [eqS_eq] at e
    split at e
    · rename_i ys
      split at e
      · rename_i hf
        rw [beq_iff_eq] at hf; subst hf
        simp only [Option.map_eq_some_iff] at e
        obtain ⟨ns, e, rfl⟩ := e
        refine ⟨_, P.gsum, .builtin _, fun A ok s vs hA B O ht rr => ?_⟩
        obtain ⟨v, rfl, r⟩ := one_arg rr
        exact ct_sum hA.hn e r
      · split at e
        · rename_i hf
          simp only [Bool.and_eq_true, beq_iff_eq, decide_eq_true_eq] at hf
          obtain ⟨rfl, hz⟩ := hf
          cases e
          refine ⟨_, P.glen, .builtin _, fun A ok s vs hA B O ht rr => ?_⟩
          obtain ⟨v, rfl, r⟩ := one_arg rr
          exact ct_len hz r
        · split at e
          · rename_i hf
            rw [beq_iff_eq] at hf; subst hf
            simp only [Option.bind_eq_some_iff] at e
            obtain ⟨ns, e1, e2⟩ := e
            split at e2
            · first | exact noneF e2 | cases e2
            · first | exact noneF e2 | cases e2
              refine ⟨_, P.gmin, .builtin _, fun A ok s vs hA B O ht rr => ?_⟩
              obtain ⟨v, rfl, r⟩ := one_arg rr
              exact ct_min hA.hn e1 r
          · split at e
            · rename_i hf
              rw [beq_iff_eq] at hf; subst hf
              simp only [Option.bind_eq_some_iff] at e
              obtain ⟨ns, e1, e2⟩ := e
              split at e2
              · first | exact noneF e2 | cases e2
              · first | exact noneF e2 | cases e2
                refine ⟨_, P.gmax, .builtin _, fun A ok s vs hA B O ht rr => ?_⟩
                obtain ⟨v, rfl, r⟩ := one_arg rr
                exact ct_max hA.hn e1 r
            · split at e
              · rename_i hf
                simp only [Bool.and_eq_true, beq_iff_eq, decide_eq_true_eq] at hf
                obtain ⟨rfl, hz⟩ := hf
                cases e
                refine ⟨_, P.gtuple, .type _, fun A ok s vs hA B O ht rr => ?_⟩
                obtain ⟨v, rfl, r⟩ := one_arg rr
                exact ct_tuple hz O r
              · first | exact noneF e | cases e
    · split at e
      · rename_i hf
        simp only [Bool.and_eq_true, beq_iff_eq, decide_eq_true_eq] at hf
        obtain ⟨rfl, hz⟩ := hf
        cases e
        refine ⟨_, P.grange, .type _, fun A ok s vs hA B O ht rr => ?_⟩
        obtain ⟨v, rfl, r⟩ := one_arg rr
        exact ct_range O hz r
      · first | exact noneF e | cases e
    · split at e
      · rename_i b t hf
        simp only [Bool.and_eq_true, beq_iff_eq] at hf
        obtain ⟨rfl, rfl⟩ := hf
        cases e
        refine ⟨_, P.gisi, .builtin _, fun A ok s vs hA B O ht rr => ?_⟩
        obtain ⟨u, v, rfl, r1, r2⟩ := two_args rr
        cases r1; cases r2
        exact fun Q E hQ => IsiPair.bool_bool (hQ _ _ (Keeps.rfl' s) (.bool _))
      · first | exact noneF e | cases e
    · first | exact noneF e | cases e
  · -- the methods
    replace e : mthB m x xs = some r := e
    unfold mthB at e
    simp only [eqS_eq] at e
    have strT : ∀ (s : Shared) ok v y, Rp ok s.heap v (.str y) → s.TypeIs v "str" ∧ ∀ a, v = .ref a → ∃ ob, s.heap.get? a = some ob ∧ ob.dict = none := fun s ok v y r => by
      cases r; exact ⟨typeIs_str _ _ _, fun _ e => nomatch e⟩
    have bytT : ∀ (s : Shared) ok v y, Rp ok s.heap v (.bytes y) → s.TypeIs v "bytes" ∧ ∀ a, v = .ref a → ∃ ob, s.heap.get? a = some ob ∧ ob.dict = none := fun s ok v y r => by
      cases r; exact ⟨typeIs_bytes _ _ _, fun _ e => nomatch e⟩
    split at e
    · split at e
      · rename_i hm
        simp only [Bool.and_eq_true, beq_iff_eq, decide_eq_true_eq] at hm
        obtain ⟨rfl, hz⟩ := hm
        simp only [Option.map_eq_some_iff] at e
        obtain ⟨b, e, rfl⟩ := e
        refine ⟨"str", "str.encode", F.plainAttrs_str, F.slot_str_encode, F.type_str_encode, fun s ok v r => strT s ok v _ r, fun A ok s v vs hA B O r rr => ?_⟩
        cases rr
        exact ct_encode hz e r
      · first | exact noneF e | cases e
    · split at e
      · rename_i hm
        simp only [Bool.and_eq_true, beq_iff_eq, decide_eq_true_eq] at hm
        obtain ⟨rfl, hz⟩ := hm
        simp only [Option.map_eq_some_iff] at e
        obtain ⟨b, e, rfl⟩ := e
        refine ⟨"bytes", "bytes.decode", FB.plainAttrs_bytes, FB.slot_bytes_decode, FB.type_bytes_decode, fun s ok v r => bytT s ok v _ r, fun A ok s v vs hA B O r rr => ?_⟩
        cases rr
        exact ct_decode hz e r
      · first | exact noneF e | cases e
    · rename_i y
      split at e
      · rename_i c hc
        have hy : y = ⟨#[c]⟩ := Str.ext' (Array.toList_inj.mp (by rw [hc]))
        subst hy
        split at e
        · first | exact noneF e | cases e
        · rename_i hz
          simp only [Decidable.not_not] at hz
          split at e
          · rename_i hm
            rw [beq_iff_eq] at hm; subst hm
            cases e
            refine ⟨"str", "str.split", F.plainAttrs_str, F.slot_str_split, F.type_str_split, fun s ok v r => strT s ok v _ r, fun A ok s v vs hA B O r rr => ?_⟩
            obtain ⟨u, rfl, r2⟩ := one_arg rr
            exact ct_split O hz r r2
          · split at e
            · rename_i hm
              rw [beq_iff_eq] at hm; subst hm
              cases e
              refine ⟨"str", "str.partition", F.plainAttrs_str, F.slot_str_partition, F.type_str_partition, fun s ok v r => strT s ok v _ r, fun A ok s v vs hA B O r rr => ?_⟩
              obtain ⟨u, rfl, r2⟩ := one_arg rr
              exact ct_partition O hz r r2
            · first | exact noneF e | cases e
      · first | exact noneF e | cases e
    · split at e
      · rename_i hm
        rw [beq_iff_eq] at hm; subst hm
        simp only [Option.bind_eq_some_iff] at e
        obtain ⟨bs, e1, e2⟩ := e
        split at e2
        · rename_i hz
          cases e2
          refine ⟨"bytes", "bytes.join", FB.plainAttrs_bytes, slot_bjoin, type_bjoin, fun s ok v r => bytT s ok v _ r, fun A ok s v vs hA B O r rr => ?_⟩
          obtain ⟨u, rfl, r2⟩ := one_arg rr
          exact ct_bjoin e1 hz.1 hz.2 r r2
        · first | exact noneF e2 | cases e2
      · first | exact noneF e | cases e
    · first | exact noneF e | cases e
  · -- the table
    replace e : subB g y = some r := e
    unfold subB at e
    split at e
    · rename_i x
      split at e
      · rename_i hg
        rw [eqS_eq, beq_iff_eq] at hg; subst hg
        simp only [Option.map_eq_some_iff] at e
        obtain ⟨i, e, rfl⟩ := e
        obtain ⟨a, f, h1, h2, h3⟩ := P.gtok
        refine ⟨.ref a, h1, fun A ok s v value slice hA B O r => ?_⟩
        cases r with
        | str _ t =>
        obtain ⟨hm, o, ho, hcl⟩ := h2 _ B.k
        obtain ⟨ti, hi⟩ := h3 x i e
        refine tail_to (Ty := "dict") ⟨o, ho, hcl⟩ slot_dict_getitem.lookup fun Q E hQ => ?_
        exact wpAny_getItem_of (strKind_is prog w x t) hm hi (hQ _ _ Keeps.tok (.int _ _))
      · first | exact noneF e | cases e
    · first | exact noneF e | cases e
end
end Mine
end
section
open PySem PySem.W PyProof.Rows PySem.Calls
set_option maxRecDepth 100000
namespace Mine

theorem closeAt_some {T : Array Nat} {p q : Nat} (h : closeAt T p = some q) : p ≤ q ∧ q < T.size ∧ T.getD q 0 = 41 ∧ ∀ j, p ≤ j → j < q → T.getD j 0 ≠ 41 := by
  unfold closeAt at h
  rw [List.find?_eq_some_iff_getElem] at h
  obtain ⟨h1, i, hi, h2, h3⟩ := h
  rw [List.getElem_range'] at h2
  rw [List.length_range'] at hi
  refine ⟨by omega, by omega, by simpa using h1, fun j hj1 hj2 hj => ?_⟩
  have := h3 (j - p) (by omega)
  rw [List.getElem_range', show p + 1 * (j - p) = j by omega, hj] at this
  simp at this
theorem closeAt_none {T : Array Nat} {p : Nat} (h : closeAt T p = none) : ∀ j, p ≤ j → j < T.size → T.getD j 0 ≠ 41 := by
  unfold closeAt at h
  rw [List.find?_eq_none] at h
  intro j h1 h2 hj
  refine h j ?_ (by rw [hj]; rfl)
  rw [List.mem_range']
  exact ⟨j - p, by omega, by omega⟩
theorem lastHit_some {T : Array Nat} {h q : Nat} : ∀ {p : Nat}, lastHit T p = some (h, q) → h ≤ p ∧ hitAt T h q ∧ ∀ p', h < p' → p' ≤ p → missAt T p'
  | 0, e => by
    unfold lastHit at e
    split at e
    · rename_i hi
      simp only [Option.map_eq_some_iff] at e
      obtain ⟨q', e1, e2⟩ := e
      cases e2
      have := closeAt_some e1
      exact ⟨Nat.le_refl _, ⟨hi, by omega, this.2.1, this.2.2.1, fun j hj => this.2.2.2 j (by omega)⟩, fun p' h1 h2 => by omega⟩
    · first | exact noneF e | cases e
  | p + 1, e => by
    unfold lastHit at e
    split at e
    · rename_i q' hq
      cases e
      split at hq
      · rename_i hi
        have := closeAt_some hq
        exact ⟨Nat.le_refl _, ⟨hi, this.1, this.2.1, this.2.2.1, this.2.2.2⟩, fun p' h1 h2 => by omega⟩
      · first | exact noneF hq | cases hq
    · rename_i hq
      obtain ⟨h1, h2, h3⟩ := lastHit_some e
      refine ⟨by omega, h2, fun p' g1 g2 => ?_⟩
      by_cases hp : p' = p + 1
      · subst hp
        split at hq
        · exact .inr (closeAt_none hq)
        · rename_i hi; exact .inl (by simpa using hi)
      · exact h3 p' g1 (by omega)
theorem lastHit_none {T : Array Nat} : ∀ {p : Nat}, lastHit T p = none → ∀ p', p' ≤ p → missAt T p'
  | 0, e, p', h => by
    unfold lastHit at e
    have : p' = 0 := by omega
    subst this
    split at e
    · simp only [Option.map_eq_none_iff] at e
      exact .inr (closeAt_none e)
    · rename_i hi; exact .inl (by simpa using hi)
  | p + 1, e, p', h => by
    unfold lastHit at e
    split at e
    · first | exact noneF e | cases e
    · rename_i hq
      by_cases hp : p' = p + 1
      · subst hp
        split at hq
        · exact .inr (closeAt_none hq)
        · rename_i hi; exact .inl (by simpa using hi)
      · exact lastHit_none e p' (by omega)
theorem rowLen_ok (T : Array Nat) : RowLen T (rowLen T) := by
  unfold rowLen
  cases h : (List.range T.size).find? fun j => T.getD j 0 == 10 with
  | none =>
    rw [List.find?_eq_none] at h
    exact ⟨Nat.le_refl _, fun j hj e => h j (List.mem_range.mpr hj) (by rw [e]; rfl), .inl rfl⟩
  | some r =>
    rw [List.find?_eq_some_iff_getElem] at h
    obtain ⟨h1, i, hi, h2, h3⟩ := h
    rw [List.getElem_range] at h2
    rw [List.length_range] at hi
    subst h2
    refine ⟨Nat.le_of_lt hi, fun j hj e => ?_, .inr (by simpa using h1)⟩
    have := h3 j hj
    rw [List.getElem_range] at this
    change j < i at hj
    rw [e] at this
    simp at this
noncomputable def pfGo (b : Array UInt8) : Option (Nat × Nat) := (lastHit (b.map (·.toNat)) (rowLen (b.map (·.toNat)))).map fun p => (p.1 + 7, p.2)
theorem told_of {b : Array UInt8} (h8 : 8 ≤ b.size) (hz : b.size ≤ 16000000) : Told b (pfGo b) := by
  have R := rowLen_ok (b.map (·.toNat))
  have es : (b.map (·.toNat)).size = b.size := Array.size_map
  unfold pfGo
  cases h : lastHit (b.map (·.toNat)) (rowLen (b.map (·.toNat))) with
  | none =>
    show Told b none
    have := match_none (T := b.map (·.toNat)) (by rw [es]; exact h8) (by rw [es]; exact hz) R (lastHit_none h)
    rw [es] at this
    exact this
  | some g =>
    obtain ⟨p, q⟩ := g
    obtain ⟨h1, h2, h3⟩ := lastHit_some h
    refine ⟨h2.le, ?_⟩
    have := match_hit (T := b.map (·.toNat)) (by rw [es]; exact h8) (by rw [es]; exact hz) R h1 h2 h3
    rw [es] at this
    exact this
theorem pfOf_eq (b : Array UInt8) : (pfOf b).map PV.bytes = pfVal b (pfGo b) := by
  unfold pfOf pfGo
  cases lastHit (b.map (·.toNat)) (rowLen (b.map (·.toNat))) with
  | none => rfl
  | some g => rfl
section
variable {prog : Program} {w : World} {mg mb : Str → Option Value} {K : Frag} {d : Nat}
theorem pf_call (P : Tops prog w mg mb K) (F : FnFact mg mb K "ParseFlags" dPF) (hd : d + 3 ≤ 50) {xs : List PV} {r : PV} (h : pfSpec xs = some r) :
    ∃ fv, Glb mg mb "ParseFlags" fv ∧ Callee mg mb K fv ∧ ∀ A ok s vs, AOK d A → Base mg mb K s.heap → OkIn ok s.heap → 0 < s.toks → RpAll ok s.heap vs xs → EvTo (model prog w) A (call fv vs) ok s r := by
  obtain ⟨a, o, fd, h1, h2, h3, h4, h5, h6, h7, h8, h9, h10⟩ := F.fact
  refine ⟨.ref a, h1, .ref a fun h B => ⟨o, fd, B.k a o h2, h3⟩, fun A ok s vs hA B O ht r' => ?_⟩
  unfold pfSpec at h
  split at h
  · rename_i b
    split at h
    · rename_i hz
      cases h
      obtain ⟨v, rfl, rv⟩ := one_arg r'
      obtain ⟨p, g1, g2⟩ := P.gflags
      rw [pfOf_eq]
      exact ct_pf hd hA B O rv hz.2 (told_of hz.1 hz.2) (B.k a o h2) h3 (h9 _ B.k) h4 h5 h6 h7 h8 (h10 [v] rfl) g1 P.gtuple fun h B => g2 h B.k
    · first | exact noneF h | cases h
  · first | exact noneF h | cases h
structure Fns (mg mb : Str → Option Value) (K : Frag) : Prop where
  fI : FnFact mg mb K "ISEOF" dISEOF
  fA : FnFact mg mb K "_append_modifier" dApp
  fB : FnFact mg mb K "_build_localename" dBuild
  fP : FnFact mg mb K "ParseFlags" dPF
  fN : FnFact mg mb K "_law_name" dName
  fF : FnFact mg mb K "_law_flags" dFlags
  fM : FnFact mg mb K "_law_meeting" dMeet
  fW : FnFact mg mb K "_law_numbers" dNums
theorem snd_I : Sound dISEOF := ⟨rfl, rfl, rfl, by decide +kernel, by decide +kernel⟩
theorem snd_A : Sound dApp := ⟨rfl, rfl, rfl, by decide +kernel, by decide +kernel⟩
theorem snd_B : Sound dBuild := ⟨rfl, rfl, rfl, by decide +kernel, by decide +kernel⟩
theorem snd_N : Sound dName := ⟨rfl, rfl, rfl, by decide +kernel, by decide +kernel⟩
theorem snd_F : Sound dFlags := ⟨rfl, rfl, rfl, by decide +kernel, by decide +kernel⟩
theorem snd_M : Sound dMeet := ⟨rfl, rfl, rfl, by decide +kernel, by decide +kernel⟩
theorem snd_W : Sound dNums := ⟨rfl, rfl, rfl, by decide +kernel, by decide +kernel⟩
theorem snd_L : Sound dLaw := ⟨rfl, rfl, rfl, by decide +kernel, by decide +kernel⟩
theorem tabOk_T1 (P : Tops prog w mg mb K) (F : Fns mg mb K) (hd : d + 3 ≤ 50) : TabOk prog w mg mb K d T1 :=
  ((((tabOk_T0 P (by omega)).withRun (tabOk_T0 P (by omega)) F.fI snd_I (by omega)).withRun (tabOk_T0 P (by omega)) F.fA snd_A (by omega)).withRun (tabOk_T0 P (by omega)) F.fB snd_B (by omega)).fnAdd fun _ _ e => pf_call P F.fP hd e
theorem tabOk_T2 (P : Tops prog w mg mb K) (F : Fns mg mb K) (hd : d + 4 ≤ 50) : TabOk prog w mg mb K d T2 :=
  (((((tabOk_T1 P F (by omega)).withRun (tabOk_T1 P F (by omega)) F.fN snd_N (by omega)).withRun (tabOk_T1 P F (by omega)) F.fF snd_F (by omega)).withRun (tabOk_T1 P F (by omega)) F.fM snd_M (by omega)).withRun (tabOk_T1 P F (by omega)) F.fW snd_W (by omega))
end
end Mine
end
section
open PySem PySem.W PyProof.Rows PySem.Calls
set_option maxRecDepth 100000
namespace Mine
section
variable {P : Params} {mg mb : Str → Option Value} {h : Heap}
theorem fnFact_of {n : String} {a c : Addr} {m : Value} {df : List Str × List Stmt × Scope} {vs : List Value} {t : Tok} (KX : (KH P).In h) (G : h.Ns mainGlobals mg) (e1 : nsIn (KH P) mainGlobals (Str.ofString n) = some (some (.ref a)))
    (e2 : (KH P).lookup a = some ⟨.type "function", none, fD n 3 .none m (.ref c), #[]⟩) (e3 : (KH P).lookup c = some ⟨.type "code", none, .fields vs.toArray, #[]⟩) (e4 : vs.toArray[1]? = some (.str (Str.ofString n) t))
    (e5 : (fdOf n).2 = df.2) (e6 : ∀ us, us.length = df.1.length → bindArgs (fnD n 3 .none m (.ref c)) ⟨us, []⟩ = pure (df.1.zip us)) : FnFact mg mb (KH P) (Str.ofString n) df :=
  ⟨⟨a, _, _, .inl (mg_of KX G e1), e2, rfl, by show FuncBody.stmts (fdOf n).2.1 = _; rw [e5], rfl, rfl, rfl, by show (fdOf n).2.2 = _; rw [e5], fun h X => ⟨c, _, _, t, rfl, X _ _ e3, rfl, e4⟩, e6⟩⟩
theorem len1 {P : List Value → Prop} (h : ∀ a, P [a]) (vs : List Value) (e : vs.length = 1) : P vs := by
  obtain ⟨a, rfl⟩ := List.length_eq_one_iff.mp e
  exact h a
theorem len2 {P : List Value → Prop} (h : ∀ a b, P [a, b]) (vs : List Value) (e : vs.length = 2) : P vs := by
  cases vs with
  | nil => cases e
  | cons a r =>
    obtain ⟨b, rfl⟩ := List.length_eq_one_iff.mp (Nat.succ.inj e)
    exact h a b
theorem len3 {P : List Value → Prop} (h : ∀ a b c, P [a, b, c]) (vs : List Value) (e : vs.length = 3) : P vs := by
  cases vs with
  | nil => cases e
  | cons a r =>
    exact len2 (P := fun r => P (a :: r)) (fun b c => h a b c) r (Nat.succ.inj e)
theorem fns_ok (KX : (KH P).In h) (G : h.Ns mainGlobals mg) : Fns mg mb (KH P) :=
  ⟨fnFact_of (a := 271) KX G (by kernel_rfl) rfl rfl rfl (by kernel_rfl) (len1 fun a => by kernel_rfl),
    fnFact_of (a := 64) KX G (by kernel_rfl) rfl rfl rfl (by kernel_rfl) (len2 fun a b => by kernel_rfl),
    fnFact_of (a := 71) KX G (by kernel_rfl) rfl rfl rfl (by kernel_rfl) (len1 fun a => by kernel_rfl),
    fnFact_of (a := 50) KX G (by kernel_rfl) rfl rfl rfl (by kernel_rfl) (len1 fun a => by kernel_rfl),
    fnFact_of (a := 276) KX G (by kernel_rfl) rfl rfl rfl (by kernel_rfl) (len3 fun a b c => by kernel_rfl),
    fnFact_of (a := 283) KX G (by kernel_rfl) rfl rfl rfl (by kernel_rfl) (len2 fun a b => by kernel_rfl),
    fnFact_of (a := 288) KX G (by kernel_rfl) rfl rfl rfl (by kernel_rfl) (len1 fun a => by kernel_rfl),
    fnFact_of (a := 293) KX G (by kernel_rfl) rfl rfl rfl (by kernel_rfl) (len2 fun a b => by kernel_rfl)⟩
theorem blt {loose : List Str} {x : Str} {v : Value} {p : Program} (KX : (KH P).In h) (T : TopRead p loose mg mb h) (e0 : nsIn (KH P) mainGlobals x = some none) (hx : x ≠ "__name__") (e1 : bootBuiltins x = some v) : Glb mg mb x v :=
  .inr ⟨mg_none_of KX T.g e0, (T.builtins x hx).trans e1⟩
end
set_option maxHeartbeats 8000000 in
theorem tops_ok {prog : Program} {w : World} {mg mb : Str → Option Value} {h : Heap} {loose : List Str} {p : Program} (KX : (KH w.params).In h) (T : TopRead p loose mg mb h) : Tops prog w mg mb (KH w.params) := by
  refine ⟨blt KX T (by kernel_rfl) (by decide +kernel) (by kernel_rfl), blt KX T (by kernel_rfl) (by decide +kernel) (by kernel_rfl), blt KX T (by kernel_rfl) (by decide +kernel) (by kernel_rfl), blt KX T (by kernel_rfl) (by decide +kernel) (by kernel_rfl),
    blt KX T (by kernel_rfl) (by decide +kernel) (by kernel_rfl), blt KX T (by kernel_rfl) (by decide +kernel) (by kernel_rfl), blt KX T (by kernel_rfl) (by decide +kernel) (by kernel_rfl), blt KX T (by kernel_rfl) (by decide +kernel) (by kernel_rfl),
    ⟨_, .inl (mg_of KX T.g (v := .int 0 _) rfl)⟩, ?_, ?_⟩
  · refine ⟨43, .inl (mg_of KX T.g (v := .ref 43) (by kernel_rfl)), fun h X => ⟨⟨_, _, _, 40, _, 42, X _ _ rfl, ⟨_, _, mapOf_K (prog := prog) X (a := 40) rfl ?_, find_K (K := KH w.params) (a := 40) (x := "flags") rfl rfl⟩, _, _, _, X _ _ rfl, rfl, by kernel_rfl⟩⟩⟩
    exact ⟨⟨_, _, rfl, rfl⟩, trivial⟩
  · refine ⟨262, _, .inl (mg_of KX T.g (v := .ref 262) (by kernel_rfl)), fun h X => ⟨mapOf_K (prog := prog) X (a := 262) rfl ?_, _, X _ _ rfl, rfl⟩, fun x i e => ?_⟩
    · repeat' (first | exact trivial | refine ⟨⟨_, _, rfl, rfl⟩, ?_⟩)
    · rw [lkS_eq] at e
      have hm := PySem.mem_of_lookup e
      simp only [tokTab, List.mem_cons, List.not_mem_nil, or_false, Prod.mk.injEq] at hm
      rcases hm with ⟨rfl, rfl⟩ | ⟨rfl, rfl⟩ | ⟨rfl, rfl⟩ | ⟨rfl, rfl⟩ | ⟨rfl, rfl⟩ | ⟨rfl, rfl⟩ | ⟨rfl, rfl⟩ | ⟨rfl, rfl⟩ | ⟨rfl, rfl⟩ <;>
        exact ⟨_, find_K (K := KH w.params) (a := 262) rfl rfl⟩
end Mine
end
section
open PySem PySem.W PyProof.Rows PySem.Calls
set_option maxRecDepth 100000
namespace Mine
theorem ofPy_ints : ∀ ns : List Int, ofPys (ns.map PyData.int) = ns.map WData.int
  | [] => rfl
  | n :: r => by
    show ofPy (.int n) :: ofPys (r.map PyData.int) = _
    rw [ofPy_ints r]; rfl
theorem well_ints {P : Params} {ok : Addr → Prop} {h : Heap} : ∀ {ns : List Int} {vs : List Value}, WellAll P h vs (ns.map WData.int) → RpAll ok h vs (ns.map PV.int)
  | [], _, .nil => .nil
  | n :: r, _, .cons hd tl => by
    cases hd
    exact .cons (.int _ _) (well_ints tl)
theorem rp_script {P : Params} {ok : Addr → Prop} {h : Heap} {ns : List Int} {a : Addr} (hk : ok a) (x : Well P h (.ref a) (ofPy (.list (ns.map .int)))) : Rp ok h (.ref a) (.list (ns.map PV.int)) := by
  have e : ofPy (.list (ns.map .int)) = .list (ns.map WData.int) := by
    show WData.list (ofPys _) = _
    rw [ofPy_ints]
  rw [e] at x
  cases x with
  | list ho hr => exact .list hk ho (well_ints hr)
theorem law_fact {P : Params} {mg mb : Str → Option Value} {h : Heap} (KX : (KH P).In h) (G : h.Ns mainGlobals mg) : FnFact mg mb (KH P) "law" dLaw :=
  fnFact_of (a := 298) KX G (by kernel_rfl) rfl rfl rfl (by kernel_rfl) (len1 fun a => by kernel_rfl)
theorem law_some : (PySem.W.defOf vw (Str.ofString "law")).isSome = true := by kernel_rfl
theorem law_name : ((PySem.W.defOf vw (Str.ofString "law")).get law_some).1.name = Str.ofString "law" := by kernel_rfl
noncomputable def lawD := (PySem.W.defOf vw (Str.ofString "law")).get law_some
set_option maxHeartbeats 4000000 in
theorem law_shape : ∃ p1 k p2 e p3 p4 rest, dLaw.2.1 = .Assign [.Name "first" p1] (.BinOp (.Constant (.int 451267) k p2) .Add e p3) p4 :: rest := ⟨_, _, _, _, _, _, _, rfl⟩
theorem law_args : dLaw.1 = [Str.ofString "script"] := by kernel_rfl
theorem seqL_first {f : Rho → Stmt → Option (Rho × Fl)} {st : Stmt} {r : List Stmt} {ρ ρ' : Rho} {fl : Fl} (h : seqL f (st :: r) ρ = some (ρ', fl)) (hn : ∀ {ρ1} x, f ρ st ≠ some (ρ1, .ret x)) : ∃ ρ1, f ρ st = some (ρ1, .next) ∧ seqL f r ρ1 = some (ρ', fl) := by
  cases e : f ρ st with
  | none => unfold seqL at h; rw [e] at h; exact noneF h
  | some q =>
    obtain ⟨ρ1, f1⟩ := q
    cases f1 with
    | ret x => exact absurd e (hn x)
    | next => unfold seqL at h; rw [e] at h; exact ⟨ρ1, rfl, h⟩
theorem law_call {prog : Program} {w : World} {mg mb : Str → Option Value} {K : Frag} {d : Nat} (hT : TabOk prog w mg mb K (d + 1) T2) (hd : d + 1 ≤ 50) {fd : FuncData} {a : Addr} {o : Obj} {v : Value} {y x : PV} {A : Around} {ok : Addr → Prop} {s : Shared}
    (hA : AOK d A) (B : Base mg mb K s.heap) (O : OkIn ok s.heap) (r : Rp ok s.heap v y)
    (ho : s.heap.get? a = some o) (hdata : o.data = .func fd) (hcd : s.heap.CodeRec fd.code fd.qualname) (hbody : fd.body = .stmts dLaw.2.1) (hclo : fd.closure = []) (hg : fd.globals = mainGlobals) (hb : fd.builtins = builtinsNs)
    (hsc : fd.scope = dLaw.2.2) (hbind : bindArgs fd ⟨[v], []⟩ = pure (dLaw.1.zip [v])) (hrun : runOf T2 dLaw [y] = some x) : EvTo (model prog w) A (call (.ref a) [v]) ok s x := by
  intro Q E hQ
  have hk : fd.scope.kind = .function := by rw [hsc]; rfl
  refine wpAny_call (call_toks (hA.room (by omega)) ho hdata B.lim hcd hbody hbind hclo (fun z hz => ?_) (fun s₁ t₁ X => ?_) (by rw [hsc]; rfl) (by rw [hsc]; rfl) hk)
  · have := snd_L.names z.1 (List.of_mem_zip hz).1
    simp only [nameOk, Bool.or_eq_true, beq_iff_eq] at this
    rw [hsc]
    rcases this with h | h
    · exact .inl h
    · exact .inr ⟨h, cellsFrom_some dLaw.2.2.names _ [] (.inl h)⟩
  · obtain ⟨p1, k, p2, e, p3, p4, rest, hs⟩ := law_shape
    unfold runOf at hrun
    rw [if_pos (by rw [law_args]; rfl), hs] at hrun
    have es : (callEnvC fd s.heap.objs.size a).scope = dLaw.2.2 := hsc
    rw [← es] at hrun
    rw [hs]
    generalize hE : callEnvC fd s.heap.objs.size a = env at X ⊢ hrun
    have S : SI mg mb K (d + 1) (A.deeper env) (fun b => ok b ∧ b ≠ s.heap.objs.size ∧ ∀ n, env.cells.lookup n ≠ some b) s.heap { s₁ with toks := s₁.toks + 1 } env (rho0 dLaw.1 [y]) (bindL env.kindOf (dLaw.1.zip [v]) fun _ => none) := by
      subst hE
      exact enter (hA.deeper (callEnvC fd s.heap.objs.size a)) hd B O (s₁ := { s₁ with toks := s₁.toks + 1 }) (Nat.succ_pos _) hk hg hb snd_L.nodup (.one r) (X.tok _)
    cases hq : seqL (exS T2 [Str.ofString "found", Str.ofString "lists", Str.ofString "due"] 30 env.scope) (.Assign [.Name "first" p1] (.BinOp (.Constant (.int 451267) k p2) .Add e p3) p4 :: rest) (rho0 dLaw.1 [y]) with
    | none => rw [hq] at hrun; exact noneF hrun
    | some rr =>
      rw [hq] at hrun
      obtain ⟨ρ', fl⟩ := rr
      cases fl with
      | next => exact noneF hrun
      | ret x' =>
        cases hrun
        obtain ⟨ρ1, h1, hseq⟩ := seqL_first hq (fun x q => by
          rw [exS_name] at q
          obtain ⟨_, q⟩ := ite_then q
          obtain ⟨u, _, q⟩ := some_of q
          rw [forceV_eq] at q
          cases q)
        rw [exS_name] at h1
        obtain ⟨hnm, h1⟩ := ite_then h1
        obtain ⟨u, h7, h6⟩ := some_of h1
        rw [forceV_eq, setRF_eq] at h6
        cases h6
        rw [evE_BinOp] at h7
        obtain ⟨xb, h3, h7⟩ := some_of (o := evE T2 28 env.scope (rho0 dLaw.1 [y]) e) h7
        refine wpAny_execs_cons (wpAny_Assign_Name (wpAny_BinOp (wpAny_Constant_int ?_)) rfl)
        refine ((ev_snd hT _).1 env _ _ _ h3 _ _ _ S.inv).use fun bv s₂ k₂ t₂ r₂ => ?_
        have S₂ := S.kp k₂ t₂
        refine (binop_ok h7 (.int _ _) r₂).use fun cv s₃ k₃ t₃ r₃ => ?_
        have S₃ := S₂.kp k₃ t₃
        rw [nameOkF_eq] at hnm
        refine S₃.put (S₃.fs.hkind hnm) r₃ fun h₄ tk₄ m₄ g1 g2 g3 => ?_
        refine seq_snd (fun ρ st ρ' fl e => exS_snd hT _ 30 env ρ st ρ' fl e) hseq _ _ _ _ _ g3 _ _ fun ok' h tk m' f q1 q2 q3 q4 q5 => ?_
        obtain ⟨rv, rfl, q5⟩ := q5
        obtain ⟨h₁, tk₁, rfl, kk₁⟩ := X.done
        obtain ⟨h₂, tk₂, rfl, kk₂⟩ := k₂
        obtain ⟨h₃, tk₃, rfl, kk₃⟩ := k₃
        refine hQ rv _ (Keeps.of q4.fs.keep) ?_
        have im : ∀ b o, ok' b → h.get? b = some o → ok b ∧ h.get? b = some o := fun b o hb e => ⟨(q1 b hb).1, e⟩
        rcases q5 with q5 | ⟨b, us, ys, n', rfl, rfl, z1, z2, z3⟩
        · exact q5.imp im
        · exact .list (O b z1) z2 (z3.imp im)
set_option maxHeartbeats 8000000 in
theorem law_walk (hplain : ∀ ns : List Int, ns.length ≤ 63 → runOf T2 dLaw [.list (ns.map .int)] = some (.bool true)) : PySem.Challenge.rw_kl0207_01.Holds := by
  refine hd (d := lawD.1) (kwd := lawD.2) (Option.some_get law_some).symm (by kernel_rfl) (by kernel_rfl) ?_
  intro w s₀ s₁ mg mb G Y fa o pm cd doc dV kV ho hdd hcd hD hmg hg args vals as hpre hlay hrd hwl hlo
  have KX := kIn_of Y
  refine Ground.open G ?_
  intro T B D TE TW
  wrow_args hpre hlay hrd hwl hlo
  rename_i ns hs _ hL0 _ _ _ _ ax vs _ hL ra w1 r0 hI _ hc _
  show wpAny _ _ (call (.ref fa) [.ref ax]) _ _ _
  have LF := law_fact (mb := mb) KX T.g
  have TR := topRead_of T
  have TP : Tops _ w mg mb (KH w.params) := tops_ok (prog := PySem.Challenge.rw_kl0207_01.row.prog) KX TR
  have FF := fns_ok (mb := mb) KX T.g
  have T2' := tabOk_T2 (d := 2) TP FF (by omega)
  obtain ⟨a, o', fd, h1, h2, h3, h4, h5, h6, h7, h8, h9, h10⟩ := LF.fact
  have ef : a = fa := by
    have e : mg "law" = some (.ref fa) := (congrArg mg law_name).symm.trans hmg
    rcases h1 with h1 | ⟨h1, _⟩
    · rw [e] at h1; cases h1; rfl
    · rw [e] at h1; cases h1
  subst ef
  refine law_call (d := 1) T2' (by omega) (ok := fun _ => True) ⟨rfl, by decide, by decide⟩ ⟨T.g, T.b, T.nolimit, KX⟩ (fun _ _ => trivial) (rp_script trivial w1) (KX _ _ h2) h3 (h9 _ KX) h4 h5 h6 h7 h8 (h10 [.ref ax] (by rw [law_args]; rfl)) (hplain ns (by omega)) _ _ fun v s' k r => ?_
  cases r
  have k1 := Keeps.hk k
  obtain ⟨h', tk, rfl, kk⟩ := k
  refine GoodW.toG ⟨.inl ⟨.bool true, .bool true, [], rfl, fun _ => rfl, .bool _, by kernel_rfl, fun _ => ⟨List.nodup_nil, fun _ h => by cases h⟩⟩, k1, rfl, hg⟩
end Mine
end
section
open PySem PySem.W PyProof.Rows PySem.Calls
set_option maxRecDepth 100000
namespace Mine
section
variable {T : Tab} {owns : List Str} {n : Nat} {sc : Scope} {ρ ρ' ρ1 ρ2 : Rho}
theorem seqL_next {f : Rho → Stmt → Option (Rho × Fl)} {st : Stmt} {r : List Stmt} (h : f ρ st = some (ρ1, .next)) : seqL f (st :: r) ρ = seqL f r ρ1 := by
  show (match f ρ st with | some (ρ', .next) => seqL f r ρ' | some (ρ', .ret v) => some (ρ', .ret v) | none => none) = _
  rw [h]
theorem seqL_ret {f : Rho → Stmt → Option (Rho × Fl)} {st : Stmt} {r : List Stmt} {x : PV} (h : f ρ st = some (ρ1, .ret x)) : seqL f (st :: r) ρ = some (ρ1, .ret x) := by
  show (match f ρ st with | some (ρ', .next) => seqL f r ρ' | some (ρ', .ret v) => some (ρ', .ret v) | none => none) = _
  rw [h]
theorem seqL_one {f : Rho → Stmt → Option (Rho × Fl)} {st : Stmt} (h : f ρ st = some (ρ1, .next)) : seqL f [st] ρ = some (ρ1, .next) := by
  rw [seqL_next h]; rfl
/-- a statement, then the rest -/
theorem seqL_s {f : Rho → Stmt → Option (Rho × Fl)} {st : Stmt} {r : List Stmt} {z : Option (Rho × Fl)} (h : f ρ st = some (ρ1, .next)) (k : seqL f r ρ1 = z) : seqL f (st :: r) ρ = z := (seqL_next h).trans k
theorem seqL_of {f : Rho → Stmt → Option (Rho × Fl)} {l : List Stmt} {st : Stmt} {r : List Stmt} {z : Option (Rho × Fl)} (e : l = st :: r) (k : seqL f (st :: r) ρ = z) : seqL f l ρ = z := by rw [e]; exact k
theorem runOf_ret {d : List Str × List Stmt × Scope} {xs : List PV} {x : PV} (hl : d.1.length = xs.length) (hr : rho0 d.1 xs = ρ) (h : seqL (exS T [Str.ofString "found", Str.ofString "lists", Str.ofString "due"] 30 d.2.2) d.2.1 ρ = some (ρ', .ret x)) : runOf T d xs = some x := by
  unfold runOf
  rw [if_pos hl, hr, h]
/-- a list of statements that ends in a return -/
noncomputable def Ret (f : Rho → Stmt → Option (Rho × Fl)) (l : List Stmt) (ρ : Rho) (x : PV) : Prop := ∃ ρ', seqL f l ρ = some (ρ', .ret x)
theorem Ret.of {f : Rho → Stmt → Option (Rho × Fl)} {l : List Stmt} {st : Stmt} {r : List Stmt} {x : PV} (e : l = st :: r) (k : Ret f (st :: r) ρ x) : Ret f l ρ x := by rw [e]; exact k
theorem Ret.s {f : Rho → Stmt → Option (Rho × Fl)} {st : Stmt} {r : List Stmt} {x : PV} (h : f ρ st = some (ρ1, .next)) (k : Ret f r ρ1 x) : Ret f (st :: r) ρ x := ⟨k.choose, seqL_s h k.choose_spec⟩
theorem Ret.ret {e : Expr} {p : Pos} {r : List Stmt} {u : PV} (h : evW T n sc ρ e = some u) : Ret (exS T owns (n + 1) sc) (.Return (some e) p :: r) ρ u :=
  ⟨ρ, seqL_ret (show (evW T n sc ρ e).map (fun u => (ρ, Fl.ret u)) = _ by rw [h]; rfl)⟩
theorem Ret.ifT {t : Expr} {b o : List Stmt} {pos : Pos} {r : List Stmt} {x : PV} (h : evT T n sc ρ t = some true) (k : Ret (exS T owns n sc) b ρ x) : Ret (exS T owns (n + 1) sc) (.If t b o pos :: r) ρ x :=
  ⟨k.choose, seqL_ret (by rw [exS_if', h]; exact k.choose_spec)⟩
theorem Ret.ifF {t : Expr} {b o : List Stmt} {pos : Pos} {r : List Stmt} {x : PV} (h : evT T n sc ρ t = some false) (k : Ret (exS T owns n sc) o ρ x) : Ret (exS T owns (n + 1) sc) (.If t b o pos :: r) ρ x :=
  ⟨k.choose, seqL_ret (by rw [exS_if', h]; exact k.choose_spec)⟩
theorem runOf_R {d : List Str × List Stmt × Scope} {xs : List PV} {x : PV} (hl : d.1.length = xs.length) (hr : rho0 d.1 xs = ρ) (h : Ret (exS T [Str.ofString "found", Str.ofString "lists", Str.ofString "due"] 30 d.2.2) d.2.1 ρ x) : runOf T d xs = some x := by
  obtain ⟨ρ', h⟩ := h
  exact runOf_ret hl hr h
theorem evE_bin {l r : Expr} {op : Operator} {p : Pos} {a b c : PV} (h1 : evE T n sc ρ l = some a) (h2 : evE T n sc ρ r = some b) (h3 : binop op a b = some c) : evE T (n + 1) sc ρ (.BinOp l op r p) = some c := by
  rw [evE_BinOp, h1, Option.bind_some, h2, Option.bind_some]; exact h3
theorem exS_as {x : Str} {p pos : Pos} {v : Expr} {u : PV} (hx : nameOkF sc x = true) (hne : isNewOwn owns sc x v = false) (hv : evE T n sc ρ v = some u) (he : setRF ρ x (.val u) = ρ') : exS T owns (n + 1) sc ρ (.Assign [.Name x p] v pos) = some (ρ', .next) := by
  rw [exS_name, hx, if_pos rfl, hne, hv, ← he]
  show forceV u (fun u => some (setRF ρ x (.val u), Fl.next)) = _
  rw [forceV_eq]
theorem exS_asg {x : Str} {p pos : Pos} {v : Expr} {u : PV} (hx : nameOkF sc x = true) (hne : isNewOwn owns sc x v = false) (hv : evE T n sc ρ v = some u) : exS T owns (n + 1) sc ρ (.Assign [.Name x p] v pos) = some (setRF ρ x (.val u), .next) := exS_as hx hne hv rfl
theorem exS_new {x : Str} {p pos : Pos} {v : Expr} (hx : nameOkF sc x = true) (hne : isNewOwn owns sc x v = true) (he : setRF ρ x (.own []) = ρ') : exS T owns (n + 1) sc ρ (.Assign [.Name x p] v pos) = some (ρ', .next) := by
  rw [exS_name, hx, if_pos rfl, hne, ← he]
theorem exS_tup {ts : List Expr} {k : Nat} {p pos : Pos} {v : Expr} {xs : List PV} (hc : callOrName v = true) (hv : evE T n sc ρ v = some (.tuple xs)) (hs : (ts.any isStar || decide (ts.length ≠ xs.length)) = false) (h : setAll sc ρ ts xs = some ρ') :
    exS T owns (n + 1) sc ρ (.Assign [.Tuple ts k p] v pos) = some (ρ', .next) := by
  rw [exS_tuple, hc, if_pos rfl, hv]
  show (if (ts.any isStar || decide (ts.length ≠ xs.length)) = true then none else (setAll sc ρ ts xs).map fun ρ' => (ρ', Fl.next)) = _
  rw [hs, if_neg Bool.false_ne_true, h]; rfl
theorem exS_augm {x : Str} {p pos : Pos} {v : Expr} {a b : Int} (hx : nameOkF sc x = true) (ha : lkS ρ x = some (.val (.int a))) (hv : evE T n sc ρ v = some (.int b)) (he : setRF ρ x (.val (.int (a + b))) = ρ') : exS T owns (n + 1) sc ρ (.AugAssign (.Name x p) .Add v pos) = some (ρ', .next) := by
  rw [exS_aug, hx, if_pos rfl, ha, hv, ← he]
  show forceI (a + b) (fun c => some (setRF ρ x (.val (.int c)), Fl.next)) = _
  rw [forceI_eq]
theorem exS_ifT {t : Expr} {b o : List Stmt} {pos : Pos} {r : Option (Rho × Fl)} (h : evT T n sc ρ t = some true) (hr : seqL (exS T owns n sc) b ρ = r) : exS T owns (n + 1) sc ρ (.If t b o pos) = r := by
  rw [exS_if', h]; exact hr
theorem exS_ifF {t : Expr} {b o : List Stmt} {pos : Pos} {r : Option (Rho × Fl)} (h : evT T n sc ρ t = some false) (hr : seqL (exS T owns n sc) o ρ = r) : exS T owns (n + 1) sc ρ (.If t b o pos) = r := by
  rw [exS_if', h]; exact hr
theorem exS_if {t : Expr} {b : List Stmt} {pos : Pos} (h : evT T n sc ρ t = some false) : exS T owns (n + 1) sc ρ (.If t b [] pos) = some (ρ, .next) := exS_ifF h rfl
theorem exS_ret {e : Expr} {p : Pos} {u : PV} (h : evW T n sc ρ e = some u) : exS T owns (n + 1) sc ρ (.Return (some e) p) = some (ρ, .ret u) := by
  show (evW T n sc ρ e).map (fun u => (ρ, Fl.ret u)) = _
  rw [h]; rfl
noncomputable def okIter : Expr → Bool
  | .Name .. => true
  | .Call .. => true
  | .Subscript .. => true
  | _ => false
theorem okIter_set {e : Expr} (h : okIter e = true) : isSetE e = false := by cases e <;> first | rfl | cases h
theorem exS_For {x : Str} {p pos : Pos} {it : Expr} {b : List Stmt} {y : PV} {xs : List PV} {r : Rho × Fl} (hx : nameOkF sc x = true) (hns : okIter it = true) (hit : evE T n sc ρ it = some y) (hxs : items y = some xs)
    (hl : forL (fun ρ v => seqL (exS T owns n sc) b (setR ρ x (.val v))) xs ρ = some r) : exS T owns (n + 1) sc ρ (.For (.Name x p) it b [] pos) = some r := by
  rw [exS_for, hx, if_pos rfl, okIter_set hns, if_neg Bool.false_ne_true, hit, Option.bind_some, hxs, Option.bind_some]
  simp only [setRF_eq]
  exact hl
theorem exS_ap {e e' : Expr} {y : Str} {pos : Pos} {xs : List PV} {u : PV} (ha : apOf e = some (y, e')) (hy : lkS ρ y = some (.own xs)) (he : evE T n sc ρ e' = some u) (hz : xs.length < lim) (hr : setRF ρ y (.own (xs ++ [u])) = ρ') :
    exS T owns (n + 1) sc ρ (.Expr e pos) = some (ρ', .next) := by
  rw [exS_expr _ ha, hy, he, ← hr]
  show (if xs.length < lim then forceV u (fun u => some (setRF ρ y (.own (xs ++ [u])), Fl.next)) else none) = _
  rw [if_pos hz, forceV_eq]
theorem exS_try {b : List Stmt} {h0 : ExceptHandler} {hs : List ExceptHandler} {pos : Pos} {r : Option (Rho × Fl)} (h : seqL (exS T owns n sc) b ρ = r) : exS T owns (n + 1) sc ρ (.Try b (h0 :: hs) [] [] pos) = r := h
theorem evs1 {f : Expr → Option PV} {e : Expr} {x : PV} (h : f e = some x) : evs f [e] = some [x] := by
  simp only [evs, h]
theorem evsC {f : Expr → Option PV} {e : Expr} {r : List Expr} {x : PV} {xs : List PV} (h : f e = some x) (hr : evs f r = some xs) : evs f (e :: r) = some (x :: xs) := by
  simp only [evs, h, hr]
theorem evE_call {f : Str} {fp pos : Pos} {es : List Expr} {xs : List PV} {y : PV} (hg : (eqS f "__debug__" || es.any isStar || lkS sc.names f != some .globalImplicit) = false) (h : evs (evE T n sc ρ) es = some xs) (hf : T.fn f xs = some y) : evE T (n + 1) sc ρ (.Call (.Name f fp) es [] pos) = some y := by
  rw [evE_fn, hg, if_neg Bool.false_ne_true, h, Option.bind_some, forceVs_eq]; exact hf
theorem evE_fn1 {f : Str} {fp pos : Pos} {e : Expr} {x y : PV} (hg : (eqS f "__debug__" || [e].any isStar || lkS sc.names f != some .globalImplicit) = false) (h : evE T n sc ρ e = some x) (hf : T.fn f [x] = some y) : evE T (n + 1) sc ρ (.Call (.Name f fp) [e] [] pos) = some y := evE_call hg (evs1 h) hf
theorem evE_me {o : Expr} {m : Str} {args : List Expr} {ap pos : Pos} {x y : PV} {xs : List PV} (hg : (args.any isStar || !plainBase o || decide (args.length > 8) || ap.endLine != pos.line) = false) (hr : replOf m args = none) (ho : evE T n sc ρ o = some x) (ha : evs (evE T n sc ρ) args = some xs) (hm : T.mth m x xs = some y) :
    evE T (n + 1) sc ρ (.Call (.Attribute o m ap) args [] pos) = some y := by
  rw [evE_mth, hg, if_neg Bool.false_ne_true, hr]
  show ((evE T n sc ρ o).bind fun x => (evs (evE T n sc ρ) args).bind fun xs => T.mth m x xs) = _
  rw [ho, Option.bind_some, ha, Option.bind_some]; exact hm
theorem evE_rep {o : Expr} {m : Str} {args : List Expr} {ap pos : Pos} {x y : PV} {a b : Str} (hg : (args.any isStar || !plainBase o || decide (args.length > 8) || ap.endLine != pos.line) = false) (hr : replOf m args = some (a, b)) (ho : evE T n sc ρ o = some x) (hm : replP a b (some x) = some y) :
    evE T (n + 1) sc ρ (.Call (.Attribute o m ap) args [] pos) = some y := by
  rw [evE_mth, hg, if_neg Bool.false_ne_true, hr, ho]
  exact hm
theorem evE_it {v i : Expr} {q : Pos} {x y z : PV} (hs : sliceOf i = none) (hg : globOf sc v = none) (hi : evE T n sc ρ i = some y) (hv : evW T n sc ρ v = some x) (h : getitem x y = some z) : evE T (n + 1) sc ρ (.Subscript v i q) = some z := by
  rw [evE_item hs, hi, Option.bind_some, hg]
  show ((evW T n sc ρ v).bind fun x => getitem x y) = _
  rw [hv, Option.bind_some]; exact h
theorem evE_gl {v i : Expr} {q : Pos} {g : Str} {y z : PV} (hs : sliceOf i = none) (hg : globOf sc v = some g) (hi : evE T n sc ρ i = some y) (h : T.sub g y = some z) : evE T (n + 1) sc ρ (.Subscript v i q) = some z := by
  rw [evE_item hs, hi, Option.bind_some, hg]; exact h
theorem evE_pt {v : Expr} {lo hi st : Option Expr} {p q : Pos} {xs : List PV} {a b c : Option Int} (hv : evW T n sc ρ v = some (.list xs)) (h1 : part (evE T n sc ρ) lo = some a) (h2 : part (evE T n sc ρ) hi = some b) (h3 : part (evE T n sc ρ) st = some c) (hc : c ≠ some 0) (hz : xs.length ≤ lim) :
    evE T (n + 1) sc ρ (.Subscript v (.Slice lo hi st p) q) = some (.list (slice xs a b c)) := by
  rw [evE_part, hv, h1, h2, h3]
  show (if c = some 0 ∨ ¬ xs.length ≤ lim then none else some (PV.list (slice xs a b c))) = _
  rw [if_neg]
  rintro (h | h)
  · exact hc h
  · exact h hz
theorem evE_ifT {t b o : Expr} {p : Pos} {z : Option PV} (h : evT T n sc ρ t = some true) (hr : evE T n sc ρ b = z) : evE T (n + 1) sc ρ (.IfExp t b o p) = z := by
  rw [evE_IfExp, h]; exact hr
theorem evE_ifF {t b o : Expr} {p : Pos} {z : Option PV} (h : evT T n sc ρ t = some false) (hr : evE T n sc ρ o = z) : evE T (n + 1) sc ρ (.IfExp t b o p) = z := by
  rw [evE_IfExp, h]; exact hr
theorem evE_lst {es : List Expr} {p : Pos} {xs : List PV} (hs : es.any isStar = false) (h : evs (evE T n sc ρ) es = some xs) (hz : xs.length ≤ lim) : evE T (n + 1) sc ρ (.List es p) = some (.list xs) := by
  rw [evE_List, hs, if_neg Bool.false_ne_true, h, Option.bind_some, if_pos hz]
theorem evE_tpl {es : List Expr} {k : Nat} {p : Pos} {xs : List PV} (hs : es.any isStar = false) (h : evs (evE T n sc ρ) es = some xs) (hz : xs.length ≤ lim) : evE T (n + 1) sc ρ (.Tuple es k p) = some (.tuple xs) := by
  rw [evE_Tuple, hs, if_neg Bool.false_ne_true, h, Option.bind_some, if_pos hz]
theorem cmpE_of {f : Expr → Option PV} {l r : Expr} {op : CmpOp} {a b : PV} {c : Bool} (hm : behindInMarks op r = false) (h1 : f l = some a) (h2 : f r = some b) (h3 : cmpop op a b = some c) : cmpE f l [op] [r] = some c := by
  rw [cmpE_bd, hm, if_neg Bool.false_ne_true, h1, Option.bind_some, h2, Option.bind_some]; exact h3
theorem evT_cmp {l r : Expr} {op : CmpOp} {p : Pos} {a b : PV} {c : Bool} (hm : behindInMarks op r = false) (h1 : evW T n sc ρ l = some a) (h2 : evW T n sc ρ r = some b) (h3 : cmpop op a b = some c) : evT T (n + 1) sc ρ (.Compare l [op] [r] p) = some c := cmpE_of hm h1 h2 h3
theorem evE_cmp {l r : Expr} {op : CmpOp} {p : Pos} {a b : PV} {c : Bool} (hm : behindInMarks op r = false) (h1 : evW T n sc ρ l = some a) (h2 : evW T n sc ρ r = some b) (h3 : cmpop op a b = some c) : evE T (n + 1) sc ρ (.Compare l [op] [r] p) = some (.bool c) := by
  show (cmpE (evW T n sc ρ) l [op] [r]).map PV.bool = _
  rw [cmpE_of hm h1 h2 h3]; rfl
theorem evT_not {e : Expr} {p : Pos} {c : Bool} (h : evT T n sc ρ e = some c) : evT T (n + 1) sc ρ (.UnaryOp .Not e p) = some (!c) := by
  show (evT T n sc ρ e).map (!·) = _
  rw [h]; rfl
theorem evT_or2 {e1 e2 : Expr} {p : Pos} (h1 : evT T n sc ρ e1 = some false) (h2 : evT T n sc ρ e2 = some false) : evT T (n + 1) sc ρ (.BoolOp .Or [e1, e2] p) = some false := by
  show anyT (evT T n sc ρ) [e1, e2] = _
  simp only [anyT, h1, h2]
theorem evT_and2 {e1 e2 : Expr} {p : Pos} {b : Bool} (h1 : evT T n sc ρ e1 = some true) (h2 : evT T n sc ρ e2 = some b) : evT T (n + 1) sc ρ (.BoolOp .And [e1, e2] p) = some b := by
  show allT (evT T n sc ρ) [e1, e2] = _
  cases b <;> simp only [allT, h1, h2]
theorem evT_andF {e1 e2 : Expr} {p : Pos} (h1 : evT T n sc ρ e1 = some false) : evT T (n + 1) sc ρ (.BoolOp .And [e1, e2] p) = some false := by
  show allT (evT T n sc ρ) [e1, e2] = _
  simp only [allT, h1]
theorem evT_ca {f : Expr} {as : List Expr} {ks : List Keyword} {p : Pos} {b : Bool} (h : evE T n sc ρ (.Call f as ks p) = some (.bool b)) : evT T (n + 1) sc ρ (.Call f as ks p) = some b := by
  show boolOf (evE T n sc ρ (.Call f as ks p)) = _
  rw [h]; rfl
theorem evT_su {v i : Expr} {p : Pos} {b : Bool} (h : evE T n sc ρ (.Subscript v i p) = some (.bool b)) : evT T (n + 1) sc ρ (.Subscript v i p) = some b := by
  show boolOf (evE T n sc ρ (.Subscript v i p)) = _
  rw [h]; rfl
theorem evW_of {e : Expr} {x : PV} (h0 : ownOfF sc ρ e = none) (h : evE T n sc ρ e = some x) : evW T (n + 1) sc ρ e = some x := by
  show (match ownOfF sc ρ e with | some xs => some (PV.list xs) | none => evE T n sc ρ e) = _
  rw [h0]; exact h
theorem evW_own {e : Expr} {xs : List PV} (h : ownOfF sc ρ e = some xs) : evW T (n + 1) sc ρ e = some (.list xs) := by
  show (match ownOfF sc ρ e with | some xs => some (PV.list xs) | none => evE T n sc ρ e) = _
  rw [h]
theorem compL_eq {F : PV → Option (Option PV)} {g : PV → Option PV} : ∀ {xs : List PV}, (∀ x ∈ xs, F x = some (g x)) → compL F xs = some (xs.filterMap g)
  | [], _ => rfl
  | x :: r, h => by
    unfold compL
    rw [h x (List.mem_cons_self ..), compL_eq fun y hy => h y (List.mem_cons_of_mem _ hy), List.filterMap_cons]
    cases g x <;> rfl
theorem evE_comp {sc' : Scope} {elt iter : Expr} {x : Str} {px pos : Pos} {ifs : List Expr} {it : PV} {xs : List PV} (g : PV → Option PV)
    (hns : okIter iter = true) (hit : evE T n sc ρ iter = some it) (hxs : items it = some xs) (hf : freeOkF sc' sc x = true) (hz : xs.length ≤ lim)
    (hg : ∀ v ∈ xs, turnE T n (relabF sc' sc) (rhoCF sc' ρ x v) ifs elt = some (g v)) : evE T (n + 1) sc ρ (.ListComp elt [⟨.Name x px, iter, ifs, 0⟩] sc' pos) = some (.list (xs.filterMap g)) := by
  rw [evE_lc (gens := [⟨.Name x px, iter, ifs, 0⟩]) rfl, okIter_set hns, if_neg Bool.false_ne_true, hit, Option.bind_some, hxs, Option.bind_some, hf, decide_eq_true hz]
  exact congrArg (Option.map PV.list) (compL_eq hg)
/-- a turn of a comprehension without a test -/
theorem turn_0 {elt : Expr} {u : PV} (h : evE T n sc ρ elt = some u) : turnE T n sc ρ [] elt = some (some u) := by
  show (evE T n sc ρ elt).map some = _
  rw [h]; rfl
theorem turn_T {elt t : Expr} {u : PV} (ht : evT T n sc ρ t = some true) (h : evE T n sc ρ elt = some u) : turnE T n sc ρ [t] elt = some (some u) := by
  unfold turnE allT
  rw [ht]
  show (evE T n sc ρ elt).map some = _
  rw [h]; rfl
theorem turn_F {elt t : Expr} (ht : evT T n sc ρ t = some false) : turnE T n sc ρ [t] elt = some none := by
  unfold turnE allT
  rw [ht]
theorem turn_c {elt t : Expr} {u : PV} {c : Bool} (ht : evT T n sc ρ t = some c) (h : evE T n sc ρ elt = some u) : turnE T n sc ρ [t] elt = some (if c then some u else none) := by
  cases c with
  | true => exact turn_T ht h
  | false => exact turn_F ht
end
/-- a def of the text, by its place -/
noncomputable def fnAt (i : Nat) : List Str × List Stmt × Scope := match prg.main.body.drop i with
  | [] => ([], [], default)
  | st :: _ => (match st with
    | .FunctionDef _ args body _ _ _ sc _ _ _ => (args.args.map (·.arg), body, sc)
    | _ => ([], [], default))
theorem at_App : dApp = fnAt 7 := by kernel_rfl
theorem at_Build : dBuild = fnAt 8 := by kernel_rfl
theorem at_Name : dName = fnAt 65 := by kernel_rfl
theorem at_Flags : dFlags = fnAt 66 := by kernel_rfl
theorem at_Meet : dMeet = fnAt 67 := by kernel_rfl
theorem at_Nums : dNums = fnAt 68 := by kernel_rfl
theorem at_Law : dLaw = fnAt 69 := by kernel_rfl
end Mine
end
section
open PySem PySem.W PyProof.Rows PySem.Calls
set_option maxRecDepth 100000
namespace Mine
theorem eqS_lit (a b : String) : eqS (Str.ofString a) (Str.ofString b) = (a == b) := by
  unfold eqS
  rw [Str.ofString_eq_toList, Str.ofString_eq_toList]
  by_cases h : a = b
  · subst h; simp
  · rw [beq_eq_false_iff_ne.mpr h, beq_eq_false_iff_ne]
    intro e
    apply h
    have e : a.toList.map Char.toNat = b.toList.map Char.toNat := e
    have inj : ∀ l m : List Char, l.map Char.toNat = m.map Char.toNat → l = m := by
      intro l
      induction l with
      | nil => intro m h; cases m with | nil => rfl | cons c r => cases h
      | cons c r ih =>
        intro m h
        cases m with
        | nil => cases h
        | cons d q =>
          simp only [List.map_cons, List.cons.injEq] at h
          rw [ih q h.2]
          congr 1
          exact Char.ext (UInt32.toNat_inj.mp h.1)
    exact String.toList_inj.mp (inj _ _ e)
theorem beq_lit (a b : String) : (Str.ofString a == Str.ofString b) = (a == b) := by rw [← eqS_eq, eqS_lit]
theorem lkS_nil {β : Type} (x : Str) : lkS ([] : List (Str × β)) x = none := rfl
theorem lkS_lit {β : Type} (y a : String) (b : β) (r : List (Str × β)) : lkS ((Str.ofString y, b) :: r) (Str.ofString a) = cond (a == y) (some b) (lkS r (Str.ofString a)) := by
  rw [← eqS_lit]
  show (match eqS (Str.ofString a) (Str.ofString y) with | true => some b | false => lkS r (Str.ofString a)) = _
  cases eqS (Str.ofString a) (Str.ofString y) <;> rfl
theorem setRF_nil (x : Str) (v : Bd) : setRF [] x v = [(x, v)] := rfl
theorem setRF_lit (y a : String) (b v : Bd) (r : Rho) : setRF ((Str.ofString y, b) :: r) (Str.ofString a) v = cond (y == a) ((Str.ofString a, v) :: r) ((Str.ofString y, b) :: setRF r (Str.ofString a) v) := by
  rw [← eqS_lit]
  show (match eqS (Str.ofString y) (Str.ofString a) with | true => (Str.ofString a, v) :: r | false => (Str.ofString y, b) :: setRF r (Str.ofString a) v) = _
  cases eqS (Str.ofString y) (Str.ofString a) <;> rfl
theorem setR_nil (x : Str) (v : Bd) : setR [] x v = [(x, v)] := rfl
theorem setR_lit (y a : String) (b v : Bd) (r : Rho) : setR ((Str.ofString y, b) :: r) (Str.ofString a) v = cond (y == a) ((Str.ofString a, v) :: r) ((Str.ofString y, b) :: setR r (Str.ofString a) v) := by
  rw [← setRF_eq, setRF_lit, setRF_eq]
theorem appS_L (a b : List Nat) : appS (strOfL a) (strOfL b) = strOfL (a ++ b) := by simp [appS, strOfL]
theorem eqS_L (a b : List Nat) : eqS (strOfL a) (strOfL b) = (a == b) := by simp [eqS, strOfL]
theorem len_L (a : List Nat) : (strOfL a).length = a.length := by simp [strOfL, Str.length]
theorem cps_L (a : List Nat) : (strOfL a).cps.toList = a := by simp [strOfL]
noncomputable def euroL : List Nat := [101, 117, 114, 111]
noncomputable def isoL : List Nat := [73, 83, 79, 56, 56, 53, 57, 45, 49, 53]
noncomputable def utfL : List Nat := [85, 84, 70, 45, 56]
noncomputable def iso1L : List Nat := [73, 83, 79, 56, 56, 53, 57, 45, 49]
noncomputable def opsL : List Nat := [43, 45, 42, 47, 37, 38, 124, 94]
theorem l_euro : Str.ofString "euro" = strOfL euroL := by decide +kernel
theorem l_dot : Str.ofString "." = strOfL [46] := by decide +kernel
theorem l_at : Str.ofString "@" = strOfL [64] := by decide +kernel
theorem l_eq : Str.ofString "=" = strOfL [61] := by decide +kernel
theorem l_diso : Str.ofString ".ISO8859-15" = strOfL (46 :: isoL) := by decide +kernel
theorem l_dutf : Str.ofString ".UTF-8" = strOfL (46 :: utfL) := by decide +kernel
theorem l_iso : Str.ofString "ISO8859-15" = strOfL isoL := by decide +kernel
theorem l_utf : Str.ofString "UTF-8" = strOfL utfL := by decide +kernel
theorem l_iso1 : Str.ofString "ISO8859-1" = strOfL iso1L := by decide +kernel
theorem l_C : Str.ofString "C" = strOfL [67] := by decide +kernel
theorem l_de : Str.ofString "de" = strOfL [100, 101] := by decide +kernel
theorem l_ops : Str.ofString "+-*/%&|^" = strOfL opsL := by decide +kernel
theorem l_aeu : Str.ofString "@euro" = strOfL (64 :: euroL) := by decide +kernel
theorem l_none : Str.ofString "" = strOfL [] := by decide +kernel
theorem l_adot : Str.ofString "@." = strOfL [64, 46] := by decide +kernel
noncomputable def appN (x s : List Nat) : Option (List Nat) :=
  if x.length > 500 ∨ s.length > 100 then none else
  if s == euroL then
    (if !(x.contains 46) then some (x ++ 46 :: isoL) else
      if (partL 46 x).2.2 == isoL || (partL 46 x).2.2 == utfL then some x else if (partL 46 x).2.2 == iso1L then none else some (x ++ 64 :: s))
  else some (x ++ 64 :: s)
theorem add_L {a b : List Nat} (h : a.length + b.length ≤ lim) : binop .Add (.str (strOfL a)) (.str (strOfL b)) = some (.str (strOfL (a ++ b))) := by
  show (if (strOfL a).length + (strOfL b).length ≤ lim then _ else _) = _
  rw [len_L, len_L, if_pos h, appS_L]
theorem in_L (x : List Nat) (c : Nat) : cmpop .NotIn (.str (strOfL [c])) (.str (strOfL x)) = some (!(x.contains c)) := by
  simp [cmpop, inStr, cps_L, eqP, neP, inP, notinP]
theorem eq_L (a b : List Nat) : cmpop .Eq (.str (strOfL a)) (.str (strOfL b)) = some (a == b) := by
  simp [cmpop, eqS_L, eqP, neP, inP, notinP]
theorem part_L {x : List Nat} {c : Nat} (h : x.length ≤ 1000000) : mthB "partition" (.str (strOfL x)) [.str (strOfL [c])] = some (.tuple [.str (strOfL (partL c x).1), .str (strOfL (partL c x).2.1), .str (strOfL (partL c x).2.2)]) := by
  simp [mthB, cps_L, len_L, h, eqS_lit]
theorem in2_L (e a b : List Nat) : cmpop .In (.str (strOfL e)) (.tuple [.str (strOfL a), .str (strOfL b)]) = some (e == a || e == b) := by
  simp [cmpop, strs?, eqS_L, eqP, neP, inP, notinP]
  rw [Bool.beq_comm (a := a), Bool.beq_comm (a := b)]
theorem two_lim : (2 ≤ lim) = True := by unfold lim; simp
theorem T0_mth : T0.mth = mthB := rfl
theorem T0_fn : T0.fn = fnB := rfl
theorem app_native {x s y : List Nat} (h : appN x s = some y) : runOf T0 dApp [.str (strOfL x), .str (strOfL s)] = some (.str (strOfL y)) := by
  rw [at_App]
  unfold appN at h
  split at h
  · exact noneF h
  · rename_i hz
    have hz0 : x.length ≤ 500 ∧ s.length ≤ 100 := by omega
    have hz1 : x.length + [64].length ≤ lim := by show x.length + 1 ≤ 16777216; omega
    have hz2 : (x ++ [64]).length + s.length ≤ lim := by rw [List.length_append]; show x.length + 1 + s.length ≤ 16777216; omega
    have hz3 : x.length + (46 :: isoL).length ≤ lim := by show x.length + 11 ≤ 16777216; omega
    have hz4 : x.length ≤ 1000000 := by omega
    refine runOf_R (ρ := [(Str.ofString "code", .val (.str (strOfL x))), (Str.ofString "modifier", .val (.str (strOfL s)))]) rfl rfl (Ret.of rfl ?_)
    have a2 := add_L hz2
    rw [List.append_assoc] at a2
    split at h
    · rename_i he
      have t1 : cmpop .Eq (.str (strOfL s)) (.str (strOfL euroL)) = some true := by rw [eq_L, he]
      have q1 := fun {l : Expr} {r : Expr} {p : Pos} {n : Nat} (hm : behindInMarks .Eq r = false) (h1 : evW T0 n (fnAt 7).2.2 [(Str.ofString "code", .val (.str (strOfL x))), (Str.ofString "modifier", .val (.str (strOfL s)))] l = _) (h2 : evW T0 n (fnAt 7).2.2 [(Str.ofString "code", .val (.str (strOfL x))), (Str.ofString "modifier", .val (.str (strOfL s)))] r = _) => evT_cmp (p := p) hm h1 h2 t1
      split at h
      · rename_i hd
        cases h
        refine Ret.ifT (q1 (by kernel_rfl) (by kernel_rfl) (by kernel_rfl)) (Ret.ifT (evT_cmp (by kernel_rfl) (a := .str (strOfL [46])) (b := .str (strOfL x)) (by kernel_rfl) (by kernel_rfl) (by rw [in_L, hd])) ?_)
        exact Ret.ret (evW_of (by kernel_rfl) (evE_bin (a := .str (strOfL x)) (b := .str (strOfL (46 :: isoL))) (by kernel_rfl) (by kernel_rfl) (add_L hz3)))
      · rename_i hd
        have hd : (!(x.contains 46)) = false := by simpa using hd
        split at h
        · rename_i h1
          cases h
          refine Ret.ifT (q1 (by kernel_rfl) (by kernel_rfl) (by kernel_rfl)) ?_
          refine Ret.s (exS_if (evT_cmp (by kernel_rfl) (a := .str (strOfL [46])) (b := .str (strOfL x)) (by kernel_rfl) (by kernel_rfl) (by rw [in_L, hd]))) ?_
          refine Ret.s (exS_tup (by kernel_rfl) (evE_me (x := .str (strOfL x)) (xs := [.str (strOfL [46])]) (by kernel_rfl) (by kernel_rfl) (by kernel_rfl) (by kernel_rfl) (part_L hz4)) (by kernel_rfl)
            (ρ' := [(Str.ofString "code", .val (.str (strOfL x))), (Str.ofString "modifier", .val (.str (strOfL s))), (Str.ofString "_", .val (.str (strOfL (partL 46 x).2.1))), (Str.ofString "encoding", .val (.str (strOfL (partL 46 x).2.2)))]) (by kernel_rfl)) ?_
          refine Ret.ifT (evT_cmp (by kernel_rfl) (a := .str (strOfL (partL 46 x).2.2)) (b := .tuple [.str (strOfL isoL), .str (strOfL utfL)]) (by kernel_rfl) (by kernel_rfl) (by rw [in2_L, h1])) ?_
          exact Ret.ret (by kernel_rfl)
        · rename_i h1
          have h1 : ((partL 46 x).2.2 == isoL || (partL 46 x).2.2 == utfL) = false := by simpa using h1
          split at h
          · exact noneF h
          · rename_i h2
            have h2 : ((partL 46 x).2.2 == iso1L) = false := by simpa using h2
            cases h
            refine Ret.s (ρ1 := [(Str.ofString "code", .val (.str (strOfL x))), (Str.ofString "modifier", .val (.str (strOfL s))), (Str.ofString "_", .val (.str (strOfL (partL 46 x).2.1))), (Str.ofString "encoding", .val (.str (strOfL (partL 46 x).2.2)))]) (exS_ifT (q1 (by kernel_rfl) (by kernel_rfl) (by kernel_rfl)) ?_) ?_
            · refine seqL_s (exS_if (evT_cmp (by kernel_rfl) (a := .str (strOfL [46])) (b := .str (strOfL x)) (by kernel_rfl) (by kernel_rfl) (by rw [in_L, hd]))) ?_
              refine seqL_s (exS_tup (by kernel_rfl) (evE_me (x := .str (strOfL x)) (xs := [.str (strOfL [46])]) (by kernel_rfl) (by kernel_rfl) (by kernel_rfl) (by kernel_rfl) (part_L hz4)) (by kernel_rfl)
                (ρ' := [(Str.ofString "code", .val (.str (strOfL x))), (Str.ofString "modifier", .val (.str (strOfL s))), (Str.ofString "_", .val (.str (strOfL (partL 46 x).2.1))), (Str.ofString "encoding", .val (.str (strOfL (partL 46 x).2.2)))]) (by kernel_rfl)) ?_
              refine seqL_s (exS_if (evT_cmp (by kernel_rfl) (a := .str (strOfL (partL 46 x).2.2)) (b := .tuple [.str (strOfL isoL), .str (strOfL utfL)]) (by kernel_rfl) (by kernel_rfl) (by rw [in2_L, h1]))) ?_
              exact seqL_s (exS_if (evT_cmp (by kernel_rfl) (a := .str (strOfL (partL 46 x).2.2)) (b := .str (strOfL iso1L)) (by kernel_rfl) (by kernel_rfl) (by rw [eq_L, h2]))) rfl
            · exact Ret.ret (evW_of (by kernel_rfl) (evE_bin (evE_bin (a := .str (strOfL x)) (b := .str (strOfL [64])) (by kernel_rfl) (by kernel_rfl) (add_L hz1)) (b := .str (strOfL s)) (by kernel_rfl) a2))
    · rename_i he
      have he : (s == euroL) = false := by simpa using he
      have t1 : cmpop .Eq (.str (strOfL s)) (.str (strOfL euroL)) = some false := by rw [eq_L, he]
      cases h
      refine Ret.s (exS_if (evT_cmp (by kernel_rfl) (a := .str (strOfL s)) (b := .str (strOfL euroL)) (by kernel_rfl) (by kernel_rfl) t1)) ?_
      exact Ret.ret (evW_of (by kernel_rfl) (evE_bin (evE_bin (a := .str (strOfL x)) (b := .str (strOfL [64])) (by kernel_rfl) (by kernel_rfl) (add_L hz1)) (b := .str (strOfL s)) (by kernel_rfl) a2))
end Mine
end
section
open PySem PySem.W PyProof.Rows PySem.Calls
set_option maxRecDepth 100000
namespace Mine
theorem bld (b2 : Nat) (code : Option (List Nat)) (h : code = none ∨ code = some utfL ∨ code = some isoL) :
    runOf T0 dBuild [.tuple [if b2 = 0 then .none else .str (strOfL [100, 101]), match code with | none => .none | some e => .str (strOfL e)]] = some (.str (strOfL ((if b2 = 0 then [67] else [100, 101]) ++ match code with | none => [] | some e => 46 :: e))) := by
  by_cases hb : b2 = 0
  · rw [if_pos hb, if_pos hb]
    rcases h with rfl | rfl | rfl <;> kernel_rfl
  · rw [if_neg hb, if_neg hb]
    rcases h with rfl | rfl | rfl <;> kernel_rfl
theorem items_range {n : Nat} (h : n ≤ 1000000) : items (.range n) = some ((List.range n).map fun (i : Nat) => PV.int (i : Int)) := if_pos h
theorem T1_range (n : Int) (h : 0 ≤ n) : T1.fn "range" [.int n] = some (.range n.toNat) := by
  have : T1.fn "range" [.int n] = (if true && decide (0 ≤ n) then some (.range n.toNat) else none) := by kernel_rfl
  rw [this]; simp [h]
theorem b_mod (a b : Int) (h : 0 < b) : binop .Mod (.int a) (.int b) = some (.int (a % b)) := by
  show (if b = 0 then none else some (PV.int (a.fmod b))) = _
  rw [if_neg (by omega), Int.fmod_eq_emod_of_nonneg _ (by omega)]
theorem b_div (a b : Int) (h : 0 < b) (h2 : b ≤ 1000000) : binop .FloorDiv (.int a) (.int b) = some (.int (a / b)) := by
  show (if b ≠ 0 ∧ -1000000 ≤ b ∧ b ≤ 1000000 then some (PV.int (a.fdiv b)) else none) = _
  rw [if_pos ⟨by omega, by omega, h2⟩, Int.fdiv_eq_ediv_of_nonneg _ (by omega)]
theorem b_pow (j : Nat) (h : j ≤ 1000000) : binop .Pow (.int 2) (.int (j : Int)) = some (.int (2 ^ j)) := by
  show (if 0 ≤ (j : Int) ∧ (j : Int) ≤ 1000000 ∧ (2 : Int).natAbs < 2 ^ 64 then some (PV.int (2 ^ (j : Int).toNat)) else none) = _
  rw [if_pos ⟨by omega, by omega, by decide⟩, Int.toNat_natCast]
theorem b_add (a b : Int) : binop .Add (.int a) (.int b) = some (.int (a + b)) := rfl
theorem b_sub (a b : Int) : binop .Sub (.int a) (.int b) = some (.int (a - b)) := rfl
theorem c_eq (a b : Int) : cmpop .Eq (.int a) (.int b) = some (a == b) := rfl
theorem pow5 {j : Nat} (h : j < 5) : 0 < (2 : Int) ^ j ∧ (2 : Int) ^ j ≤ 1000000 := by
  match j, h with
  | 0, _ => decide
  | 1, _ => decide
  | 2, _ => decide
  | 3, _ => decide
  | 4, _ => decide
noncomputable def bit (f j : Nat) : Bool := f / 2 ^ j % 2 == 1
theorem bit_int (f j : Nat) : (((f : Int) / 2 ^ j) % 2 == 1) = bit f j := by
  unfold bit
  have : ((f : Int) / 2 ^ j) % 2 = ((f / 2 ^ j % 2 : Nat) : Int) := by
    rw [Int.natCast_emod, Int.natCast_ediv, Int.natCast_pow]; rfl
  rw [this]
  by_cases h : f / 2 ^ j % 2 = 1
  · rw [h]; rfl
  · have h1 : ¬ ((f / 2 ^ j % 2 : Nat) : Int) = 1 := by omega
    rw [beq_eq_false_iff_ne.mpr h, beq_eq_false_iff_ne.mpr h1]
noncomputable def rhoN (f a : Nat) (turn : Int) (more : Rho) : Rho := ("flags", .val (.int (f : Int))) :: ("at", .val (.int (a : Int))) :: ("turn", .val (.int turn)) :: more
noncomputable def plc (turn : Int) (k : Nat) : Nat := ((turn + k) % 5).toNat
theorem plc_eq (turn : Int) (k : Nat) : (turn + (k : Int)) % 5 = (plc turn k : Int) ∧ plc turn k < 5 := by
  unfold plc; omega
noncomputable def heldZ (f : Nat) (turn : Int) : List Nat := ((List.range 5).map (plc turn)).filter (bit f)
noncomputable def intsV (l : List Nat) : List PV := l.map fun (j : Nat) => PV.int (j : Int)
theorem held_map (f : Nat) (turn : Int) : ((List.range 5).map fun (i : Nat) => PV.int (i : Int)).filterMap (fun v => match v with | .int k => if bit f (plc turn k.toNat) then some (.int (plc turn k.toNat : Int)) else none | _ => none) = intsV (heldZ f turn) := by
  unfold heldZ intsV
  rw [List.filterMap_map]
  generalize List.range 5 = l
  induction l with
  | nil => rfl
  | cons k r ih =>
    rw [List.filterMap_cons, List.map_cons, List.filter_cons, ih]
    simp only [Function.comp, Int.toNat_natCast]
    cases bit f (plc turn k) <;> rfl
theorem name_held (f a : Nat) (turn : Int) : ∃ st rest, (fnAt 65).2.1 = st :: rest ∧ exS T1 [Str.ofString "found", Str.ofString "lists", Str.ofString "due"] 30 (fnAt 65).2.2 (rhoN f a turn []) st = some (rhoN f a turn [("held", .val (.list (intsV (heldZ f turn))))], .next) := by
  refine ⟨_, _, rfl, exS_as (by kernel_rfl) (by kernel_rfl) (u := .list (intsV (heldZ f turn))) ?_ (by kernel_rfl)⟩
  refine (evE_comp (fun v => match v with | .int k => if bit f (plc turn k.toNat) then some (.int (plc turn k.toNat : Int)) else none | _ => none) (it := .range 5) (xs := (List.range 5).map fun (i : Nat) => PV.int (i : Int)) (by kernel_rfl) (by kernel_rfl) (items_range (by decide)) (by kernel_rfl) (by decide) fun v hv => ?_).trans (congrArg (fun l => some (PV.list l)) (held_map f turn))
  obtain ⟨k, hk, rfl⟩ := List.mem_map.mp hv
  have hp := plc_eq turn k
  have h5 := pow5 hp.2
  have hm : binop .Mod (.int (turn + (k : Int))) (.int 5) = some (.int (plc turn k : Int)) := by rw [b_mod _ _ (by decide), hp.1]
  have hc : cmpop .Eq (.int ((f : Int) / 2 ^ plc turn k % 2)) (.int 1) = some (bit f (plc turn k)) := by rw [c_eq, bit_int]
  have key : ∀ {t elt : Expr} {p : Pos} {n : Nat} {ρ : Rho} {sc : Scope} {c : Bool}, evT T1 n sc ρ t = some c → evE T1 n sc ρ elt = some (.int (plc turn k : Int)) → turnE T1 n sc ρ [t] elt = some (if c then some (.int (plc turn k : Int)) else none) := by
    intro t elt p n ρ sc c h1 h2
    cases c with
    | true => exact turn_T h1 h2
    | false => exact turn_F h1
  refine key (p := default) (evT_cmp (by kernel_rfl) (evW_of (by kernel_rfl) (evE_bin (evE_bin (a := .int (f : Int)) (by kernel_rfl) (evE_bin (a := .int 2) (by kernel_rfl) (evE_bin (evE_bin (a := .int turn) (b := .int (k : Int)) (by kernel_rfl) (by kernel_rfl) (b_add _ _)) (b := .int 5) (by kernel_rfl) hm) (b_pow (plc turn k) (by omega)))
    (b_div _ _ h5.1 h5.2)) (b := .int 2) (by kernel_rfl) (b_mod _ _ (by decide)))) (b := .int 1) (by kernel_rfl) hc) ?_
  exact evE_bin (evE_bin (a := .int turn) (b := .int (k : Int)) (by kernel_rfl) (by kernel_rfl) (b_add _ _)) (b := .int 5) (by kernel_rfl) hm
end Mine
end
section
open PySem PySem.W PyProof.Rows PySem.Calls
set_option maxRecDepth 100000
namespace Mine
noncomputable def stepN (a : Nat) (code : Option (List Nat)) (st : List Nat × List Nat) (j : Nat) : Option (List Nat × List Nat) :=
  if st.2.length > 500 then none else
  if j = 4 then (appN st.1 euroL).bind fun n1 => (appN n1 euroL).bind fun n2 => some (n2, st.2 ++ 46 :: (code.getD isoL))
  else (appN st.1 [opsL.getD ((a + j) % 8) 0, 61]).bind fun n1 => some (n1, st.2 ++ 64 :: [opsL.getD ((a + j) % 8) 0, 61])
noncomputable def foldN (a : Nat) (code : Option (List Nat)) : List Nat → List Nat × List Nat → Option (List Nat × List Nat)
  | [], st => some st
  | j :: r, st => (stepN a code st j).bind (foldN a code r)
noncomputable def codeN (h2 : Nat) (held : List Nat) : Option (List Nat) := if held.head? = some 4 then some (if h2 = 0 then utfL else isoL) else none
noncomputable def baseN (b2 : Nat) : List Nat := if b2 = 0 then [67] else [100, 101]
noncomputable def lastN (held : List Nat) (st : List Nat × List Nat) : Option (List Nat × List Nat) :=
  if st.2.length > 500 then none else
  if held.contains 4 then (appN st.1 euroL).bind fun n1 => some (n1, st.2 ++ (if held.getLast? = some 4 then [] else 64 :: euroL)) else some st
noncomputable def encT (c : Option (List Nat)) : List Nat := match c with | none => [] | some e => 46 :: e
noncomputable def nameN (a b2 h2 : Nat) (held : List Nat) : Option (List Nat × List Nat) :=
  (foldN a (codeN h2 held) held (baseN b2 ++ encT (codeN h2 held), baseN b2)).bind (lastN held)

noncomputable def S (l : List Nat) : PV := .str (strOfL l)
noncomputable def codeV (c : Option (List Nat)) : PV := match c with | none => .none | some e => S e
theorem T1_app (xs : List PV) : T1.fn "_append_modifier" xs = runOf T0 dApp xs := by kernel_rfl
theorem T1_bld (xs : List PV) : T1.fn "_build_localename" xs = runOf T0 dBuild xs := by kernel_rfl
theorem get2 (x y : PV) (i : Int) (h : i = 0 ∨ i = 1) : getitem (.list [x, y]) (.int i) = some (if i = 0 then x else y) := by
  rcases h with rfl | rfl <;> rfl
theorem getOps (i : Int) (h0 : 0 ≤ i) (h : i < 8) : getitem (.str (strOfL opsL)) (.int i) = some (S [opsL.getD i.toNat 0]) := by
  have : i = 0 ∨ i = 1 ∨ i = 2 ∨ i = 3 ∨ i = 4 ∨ i = 5 ∨ i = 6 ∨ i = 7 := by omega
  rcases this with rfl | rfl | rfl | rfl | rfl | rfl | rfl | rfl <;> rfl
theorem code_lt (c : Option (List Nat)) (h : c = none ∨ c = some utfL ∨ c = some isoL) : (c.getD isoL).length ≤ 10 := by
  rcases h with rfl | rfl | rfl <;> decide
theorem codeN_ok (h2 : Nat) (held : List Nat) : codeN h2 held = none ∨ codeN h2 held = some utfL ∨ codeN h2 held = some isoL := by
  unfold codeN; split
  · split <;> simp
  · simp
/-- the frame in the loop -/
noncomputable def RL (f a : Nat) (turn : Int) (H : List Nat) (c : Option (List Nat)) (n d : List Nat) (tl : Rho) : Rho :=
  rhoN f a turn (("held", .val (.list (intsV H))) :: ("code", .val (codeV c)) :: ("name", .val (S n)) :: ("due", .val (S d)) :: tl)
noncomputable def TailOk (tl : Rho) : Prop := tl = [] ∨ (∃ v, tl = [(Str.ofString "flag", Bd.val v)]) ∨ ∃ v u, tl = [(Str.ofString "flag", Bd.val v), (Str.ofString "sign", Bd.val u)]
theorem S_add {x y : List Nat} (h : x.length + y.length ≤ 10000) : binop .Add (S x) (S y) = some (S (x ++ y)) := add_L (by unfold lim; omega)
theorem addl {x y : List Nat} (h : x.length + y.length ≤ 10000) : binop .Add (.str (strOfL x)) (.str (strOfL y)) = some (.str (strOfL (x ++ y))) := add_L (by unfold lim; omega)
theorem appN_len {x s y : List Nat} (h : appN x s = some y) : x.length ≤ 500 ∧ s.length ≤ 100 := by
  unfold appN at h
  split at h
  · cases h
  · omega
noncomputable def nmFor : List Stmt := match (fnAt 65).2.1.drop 4 with
  | .For _ _ b _ _ :: _ => b
  | _ => []
noncomputable def oN : List Str := [Str.ofString "found", Str.ofString "lists", Str.ofString "due"]
theorem flag_N {f a : Nat} {turn : Int} {H : List Nat} {c : Option (List Nat)} {n d : List Nat} {tl : Rho} (v : PV) (ht : TailOk tl) :
    ∃ t1, (t1 = [] ∨ ∃ u, t1 = [(Str.ofString "sign", Bd.val u)]) ∧ setR (RL f a turn H c n d tl) "flag" (.val v) = RL f a turn H c n d ((Str.ofString "flag", .val v) :: t1) := by
  rw [← setRF_eq]
  rcases ht with rfl | ⟨v, rfl⟩ | ⟨v, u, rfl⟩
  · exact ⟨[], .inl rfl, by kernel_rfl⟩
  · exact ⟨[], .inl rfl, by kernel_rfl⟩
  · exact ⟨_, .inr ⟨u, rfl⟩, by kernel_rfl⟩
theorem body_N {f a : Nat} {turn : Int} {H : List Nat} {c : Option (List Nat)} {n d n' d' : List Nat} {tl : Rho} {j : Nat} (hj : j < 5) (ht : TailOk tl) (hc : c = none ∨ c = some utfL ∨ c = some isoL) (h : stepN a c (n, d) j = some (n', d')) :
    ∃ tl', TailOk tl' ∧ seqL (exS T1 oN 29 (fnAt 65).2.2) nmFor (setR (RL f a turn H c n d tl) "flag" (.val (.int (j : Int)))) = some (RL f a turn H c n' d' tl', .next) := by
  obtain ⟨t1, ht1, e⟩ := flag_N (f := f) (a := a) (turn := turn) (H := H) (c := c) (n := n) (d := d) (.int (j : Int)) ht
  rw [e]
  unfold stepN at h
  split at h
  · exact noneF h
  · rename_i hd
    have hd : d.length ≤ 500 := Nat.not_lt.mp hd
    split at h
    · rename_i h4
      subst h4
      obtain ⟨n1, h1, h⟩ := some_of h
      obtain ⟨n2, h2, h⟩ := some_of h
      cases h
      have hl := code_lt c hc
      have a2 : binop .Add (.str (strOfL d)) (.str (strOfL [46])) = some (.str (strOfL (d ++ [46]))) := addl (by show d.length + 1 ≤ _; omega)
      have a3 : binop .Add (.str (strOfL (d ++ [46]))) (.str (strOfL (c.getD isoL))) = some (.str (strOfL (d ++ 46 :: (c.getD isoL)))) := by
        have := addl (x := d ++ [46]) (y := c.getD isoL) (by rw [List.length_append]; show d.length + 1 + _ ≤ _; omega)
        rwa [List.append_assoc] at this
      have hT : TailOk ((Str.ofString "flag", .val (.int (4 : Nat))) :: t1) := by
        rcases ht1 with rfl | ⟨u, rfl⟩
        · exact .inr (.inl ⟨_, rfl⟩)
        · exact .inr (.inr ⟨_, _, rfl⟩)
      refine ⟨_, hT, seqL_of rfl (seqL_one (exS_ifT (evT_cmp (by kernel_rfl) (a := .int (4 : Nat)) (b := .int 4) (by kernel_rfl) (by kernel_rfl) rfl) ?_))⟩
      refine seqL_s (exS_as (by kernel_rfl) (by kernel_rfl) (u := S n') (evE_call (by kernel_rfl) (evsC (x := S n1) (evE_call (by kernel_rfl) (evsC (x := S n) (by kernel_rfl) (evsC (x := S euroL) (by kernel_rfl) rfl)) ((T1_app _).trans (app_native h1))) (evsC (x := S euroL) (by kernel_rfl) rfl)) ((T1_app _).trans (app_native h2)))
        (ρ' := RL f a turn H c n' d ((Str.ofString "flag", .val (.int (4 : Nat))) :: t1)) (by kernel_rfl)) ?_
      refine seqL_one (exS_as (by kernel_rfl) (by kernel_rfl) (u := S (d ++ 46 :: (c.getD isoL))) (evE_bin (evE_bin (a := S d) (b := S [46]) (by kernel_rfl) (by kernel_rfl) a2) (b := S (c.getD isoL)) ?_ a3) (by kernel_rfl))
      rcases hc with rfl | rfl | rfl <;> kernel_rfl
    · rename_i h4
      obtain ⟨n1, h1, h⟩ := some_of h
      cases h
      have h4' : cmpop .Eq (.int (j : Int)) (.int 4) = some false := by
        rw [c_eq, beq_eq_false_iff_ne.mpr (by omega)]
      have ho := getOps (((a : Int) + j) % 8) (by omega) (by omega)
      have ej : (((a : Int) + j) % 8).toNat = (a + j) % 8 := by omega
      rw [ej] at ho
      generalize opsL.getD ((a + j) % 8) 0 = c0 at *
      have a1 : binop .Add (.str (strOfL [c0])) (.str (strOfL [61])) = some (.str (strOfL [c0, 61])) := addl (by show 1 + 1 ≤ 10000; decide)
      have a2 : binop .Add (.str (strOfL d)) (.str (strOfL [64])) = some (.str (strOfL (d ++ [64]))) := addl (by show d.length + 1 ≤ _; omega)
      have a3 : binop .Add (.str (strOfL (d ++ [64]))) (.str (strOfL [c0, 61])) = some (.str (strOfL (d ++ 64 :: [c0, 61]))) := by
        have := addl (x := d ++ [64]) (y := [c0, 61]) (by rw [List.length_append]; show d.length + 1 + 2 ≤ _; omega)
        rwa [List.append_assoc] at this
      have es : setRF (RL f a turn H c n d ((Str.ofString "flag", .val (.int (j : Int))) :: t1)) (Str.ofString "sign") (.val (S [c0, 61])) = RL f a turn H c n d [(Str.ofString "flag", .val (.int (j : Int))), (Str.ofString "sign", .val (S [c0, 61]))] := by
        rcases ht1 with rfl | ⟨u, rfl⟩ <;> kernel_rfl
      refine ⟨[(Str.ofString "flag", .val (.int (j : Int))), (Str.ofString "sign", .val (S [c0, 61]))], .inr (.inr ⟨_, _, rfl⟩), seqL_of rfl (seqL_one (exS_ifF (evT_cmp (by kernel_rfl) (a := .int (j : Int)) (b := .int 4) (by kernel_rfl) (by kernel_rfl) h4') ?_))⟩
      refine seqL_s (exS_as (by kernel_rfl) (by kernel_rfl) (u := S [c0, 61]) (evE_bin (a := S [c0]) (b := S [61]) (evE_it (by kernel_rfl) (by kernel_rfl) (evE_bin (evE_bin (a := .int (a : Int)) (b := .int (j : Int)) (by kernel_rfl) (by kernel_rfl) (b_add _ _)) (b := .int 8) (by kernel_rfl) (b_mod _ _ (by decide))) (x := .str (strOfL opsL)) (by kernel_rfl) ho) (by kernel_rfl) a1) es) ?_
      refine seqL_s (exS_as (by kernel_rfl) (by kernel_rfl) (u := S n') (evE_call (by kernel_rfl) (evsC (x := S n) (by kernel_rfl) (evsC (x := S [c0, 61]) (by kernel_rfl) rfl)) ((T1_app _).trans (app_native h1)))
        (ρ' := RL f a turn H c n' d [(Str.ofString "flag", .val (.int (j : Int))), (Str.ofString "sign", .val (S [c0, 61]))]) (by kernel_rfl)) ?_
      exact seqL_one (exS_as (by kernel_rfl) (by kernel_rfl) (u := S (d ++ 64 :: [c0, 61])) (evE_bin (evE_bin (a := S d) (b := S [64]) (by kernel_rfl) (by kernel_rfl) a2) (b := S [c0, 61]) (by kernel_rfl) a3) (by kernel_rfl))
theorem loop_N {f a : Nat} {turn : Int} {H : List Nat} {c : Option (List Nat)} (hc : c = none ∨ c = some utfL ∨ c = some isoL) : ∀ (L : List Nat) {n d n' d' : List Nat} {tl : Rho}, (∀ j ∈ L, j < 5) → TailOk tl → foldN a c L (n, d) = some (n', d') →
    ∃ tl', TailOk tl' ∧ forL (fun ρ v => seqL (exS T1 oN 29 (fnAt 65).2.2) nmFor (setR ρ "flag" (.val v))) (intsV L) (RL f a turn H c n d tl) = some (RL f a turn H c n' d' tl', .next)
  | [], n, d, n', d', tl, _, ht, h => by
    cases h
    exact ⟨tl, ht, rfl⟩
  | j :: r, n, d, n', d', tl, hj, ht, h => by
    unfold foldN at h
    obtain ⟨⟨n1, d1⟩, h1, h2⟩ := some_of h
    obtain ⟨tl1, ht1, e1⟩ := body_N (f := f) (turn := turn) (H := H) (hj j (List.mem_cons_self ..)) ht hc h1
    obtain ⟨tl2, ht2, e2⟩ := loop_N (f := f) (turn := turn) (H := H) hc r (fun k hk => hj k (List.mem_cons_of_mem _ hk)) ht1 h2
    refine ⟨tl2, ht2, ?_⟩
    show forL _ (PV.int (j : Int) :: intsV r) _ = _
    unfold forL
    rw [e1]
    exact e2
end Mine
end
section
open PySem PySem.W PyProof.Rows PySem.Calls
set_option maxRecDepth 100000
namespace Mine
theorem slice_take1 (xs : List PV) : slice xs none (some 1) none = xs.take 1 := by
  cases xs with
  | nil => rfl
  | cons x r =>
    unfold slice sliceBounds
    simp only [Option.getD_none]
    have e : max (0 : Int) (min (if (1 : Int) < 0 then 1 + ((x :: r).length : Int) else 1) ((x :: r).length : Int)) = 1 := by
      rw [if_neg (by decide)]; simp; omega
    simp only [show ((1 : Int) > 0) = True from by simp, if_true]
    rw [e]
    rfl
theorem ints_V (l : List Nat) : ints? (intsV l) = some (l.map fun (j : Nat) => (j : Int)) := by
  induction l with
  | nil => rfl
  | cons j r ih =>
    show (ints? (intsV r)).map ((j : Int) :: ·) = _
    rw [ih]; rfl
theorem in4 (l : List Nat) : cmpop .In (.int 4) (.list (intsV l)) = some (l.contains 4) := by
  show (ints? (intsV l)).map (fun ns => ns.any (· == 4)) = _
  rw [ints_V]
  simp only [Option.map_some, List.any_map]
  congr 1
  induction l with
  | nil => rfl
  | cons j r ih =>
    rw [List.any_cons, List.contains_cons, ih]
    congr 1
    simp only [Function.comp]
    by_cases h : j = 4
    · subst h; rfl
    · rw [beq_eq_false_iff_ne.mpr (by omega : (j : Int) ≠ 4), beq_eq_false_iff_ne.mpr (Ne.symm h)]
theorem head4 (l : List Nat) : cmpop .Eq (.list ((intsV l).take 1)) (.list [.int 4]) = some (decide (l.head? = some 4)) := by
  cases l with
  | nil => rfl
  | cons j r =>
    show leq [.int (j : Int)] [.int 4] = _
    by_cases h : j = 4
    · subst h; rfl
    · have h' : ¬ (j : Int) = 4 := by omega
      simp [leq, feqs, feq, h, h']
theorem lastV (l : List Nat) (h : l.contains 4 = true) (hz : l.length ≤ 5) : ∃ j, l.getLast? = some j ∧ getitem (.list (intsV l)) (.int (-1)) = some (.int (j : Int)) := by
  have hne : l ≠ [] := by rintro rfl; cases h
  refine ⟨l.getLast hne, List.getLast?_eq_some_getLast hne, ?_⟩
  have hl : 0 < l.length := List.length_pos_iff.mpr hne
  have e : seqIndex? (-1) (intsV l).length = some (l.length - 1) := by
    have : (intsV l).length = l.length := by simp [intsV]
    rw [this]
    unfold seqIndex?
    dsimp only
    rw [if_pos (show (-1 : Int) < 0 by decide), if_pos (by simp; omega)]
    congr 1; omega
  show (if (intsV l).length ≤ lim then (seqIndex? (-1) (intsV l).length).bind ((intsV l)[·]?) else none) = _
  rw [if_pos (by simp [intsV, lim]; omega), e]
  show (intsV l)[l.length - 1]? = _
  unfold intsV
  rw [List.getElem?_map, List.getElem?_eq_getElem (by omega), List.getLast_eq_getElem]
  rfl
theorem held_len (f : Nat) (turn : Int) : (heldZ f turn).length ≤ 5 ∧ ∀ j ∈ heldZ f turn, j < 5 := by
  unfold heldZ
  refine ⟨Nat.le_trans (List.length_filter_le _ _) (by simp), fun j hj => ?_⟩
  obtain ⟨k, _, rfl⟩ := List.mem_map.mp (List.mem_filter.mp hj).1
  exact (plc_eq turn k).2
theorem bld' (b2 : Int) (code : Option (List Nat)) (h : code = none ∨ code = some utfL ∨ code = some isoL) :
    runOf T0 dBuild [.tuple [if b2 = 0 then .none else .str (strOfL [100, 101]), codeV code]] = some (.str (strOfL (baseN (if b2 = 0 then 0 else 1) ++ encT code))) := by
  by_cases hb : b2 = 0
  · rw [if_pos hb, if_pos hb]
    rcases h with rfl | rfl | rfl <;> kernel_rfl
  · rw [if_neg hb, if_neg hb]
    rcases h with rfl | rfl | rfl <;> kernel_rfl
theorem one_lim : (1 ≤ lim) = True := by unfold lim; simp
theorem two_lm : (2 : Nat) ≤ lim := by decide
theorem name_native {f a : Nat} {turn : Int} {n d : List Nat} (h : nameN a (turn % 2).toNat (turn / 2 % 2).toNat (heldZ f turn) = some (n, d)) :
    runOf T1 dName [.int (f : Int), .int (a : Int), .int turn] = some (.list [S n, S d]) := by
  have hlen := held_len f turn
  obtain ⟨st, rest, q1, q2⟩ := name_held f a turn
  generalize hH : heldZ f turn = H at h hlen q2
  obtain ⟨⟨n1, d1⟩, h1, h2⟩ := some_of h
  have hc := codeN_ok (turn / 2 % 2).toNat H
  obtain ⟨tl, ht, hloop⟩ := loop_N (f := f) (turn := turn) (H := H) hc H hlen.2 (tl := []) (.inl rfl) h1
  have t2 : turn % 2 = 0 ∨ turn % 2 = 1 := by omega
  have t22 : turn / 2 % 2 = 0 ∨ turn / 2 % 2 = 1 := by omega
  have hlp : (intsV H).length ≤ lim := by
    have : (intsV H).length = H.length := List.length_map ..
    rw [this]; exact Nat.le_trans hlen.1 (by decide)
  have e1 := b_div turn 2 (by decide) (by decide)
  have e2 := b_mod (turn / 2) 2 (by decide)
  have e3 := b_mod turn 2 (by decide)
  have hcode : ∀ {x : PV}, (if H.head? = some 4 then (if turn / 2 % 2 = 0 then S utfL else S isoL) else .none) = x → x = codeV (codeN (turn / 2 % 2).toNat H) := by
    rintro x rfl
    unfold codeN
    split
    · rcases t22 with t | t <;> rw [t] <;> rfl
    · rfl
  rw [at_Name]
  refine runOf_R (ρ := rhoN f a turn []) rfl (by kernel_rfl) ?_
  have hd0 : (fnAt 65).2.1.head? = some st := by rw [q1]; rfl
  refine Ret.of rfl ?_
  cases (hd0 : some _ = some st)
  refine Ret.s q2 ?_
  refine Ret.s (exS_as (by kernel_rfl) (by kernel_rfl) (u := codeV (codeN (turn / 2 % 2).toNat H)) ?_ (ρ' := rhoN f a turn [("held", .val (.list (intsV H))), ("code", .val (codeV (codeN (turn / 2 % 2).toNat H)))]) (by kernel_rfl)) ?_
  · have test : ∀ {c : Bool}, decide (H.head? = some 4) = c → cmpop .Eq (.list (slice (intsV H) none (some 1) none)) (.list [.int 4]) = some c := by
      rintro c rfl
      rw [slice_take1, head4]
    by_cases hh : H.head? = some 4
    · refine evE_ifT (evT_cmp (by kernel_rfl) (evW_of (by kernel_rfl) (evE_pt (xs := intsV H) (a := none) (b := some 1) (c := none) (by kernel_rfl) (by kernel_rfl) (by kernel_rfl) (by kernel_rfl) (by decide) hlp)) (b := .list [.int 4]) (by kernel_rfl) (test (decide_eq_true hh))) ?_
      refine (evE_it (by kernel_rfl) (by kernel_rfl) (evE_bin (evE_bin (a := .int turn) (b := .int 2) (by kernel_rfl) (by kernel_rfl) e1) (b := .int 2) (by kernel_rfl) e2) (x := .list [S utfL, S isoL]) (by kernel_rfl) (get2 _ _ _ t22)).trans (congrArg some (hcode (if_pos hh)))
    · refine evE_ifF (evT_cmp (by kernel_rfl) (evW_of (by kernel_rfl) (evE_pt (xs := intsV H) (a := none) (b := some 1) (c := none) (by kernel_rfl) (by kernel_rfl) (by kernel_rfl) (by kernel_rfl) (by decide) hlp)) (b := .list [.int 4]) (by kernel_rfl) (test (decide_eq_false hh))) ?_
      exact Eq.trans (b := some PV.none) (by kernel_rfl) (congrArg some (hcode (if_neg hh)))
  have hb := bld' (turn % 2) (codeN (turn / 2 % 2).toNat H) hc
  have hb2 : (if turn % 2 = 0 then 0 else 1) = (turn % 2).toNat := by rcases t2 with t | t <;> rw [t] <;> rfl
  rw [hb2] at hb
  generalize codeN (turn / 2 % 2).toNat H = cc at *
  refine Ret.s (exS_as (by kernel_rfl) (by kernel_rfl) (u := S (baseN (turn % 2).toNat ++ encT cc)) (evE_call (by kernel_rfl) (evsC (evE_tpl (by kernel_rfl) (evsC (evE_it (by kernel_rfl) (by kernel_rfl) (evE_bin (a := .int turn) (b := .int 2) (by kernel_rfl) (by kernel_rfl) e3) (x := .list [.none, .str (strOfL [100, 101])]) (by kernel_rfl) (get2 _ _ _ t2)) (evsC (x := codeV cc) (by kernel_rfl) rfl)) two_lm) rfl) ((T1_bld _).trans hb))
    (ρ' := rhoN f a turn [("held", .val (.list (intsV H))), ("code", .val (codeV cc)), ("name", .val (S (baseN (turn % 2).toNat ++ encT cc)))]) (by kernel_rfl)) ?_
  have hdue : (if turn % 2 = 0 then S [67] else S [100, 101]) = S (baseN (turn % 2).toNat) := by rcases t2 with t | t <;> rw [t] <;> rfl
  refine Ret.s (exS_as (by kernel_rfl) (by kernel_rfl) (u := S (baseN (turn % 2).toNat)) ((evE_it (by kernel_rfl) (by kernel_rfl) (evE_bin (a := .int turn) (b := .int 2) (by kernel_rfl) (by kernel_rfl) e3) (x := .list [S [67], S [100, 101]]) (by kernel_rfl) (get2 _ _ _ t2)).trans (congrArg some hdue))
    (ρ' := RL f a turn H cc (baseN (turn % 2).toNat ++ encT cc) (baseN (turn % 2).toNat) []) (by kernel_rfl)) ?_
  refine Ret.s (exS_For (y := .list (intsV H)) (xs := intsV H) (by kernel_rfl) (by kernel_rfl) (by kernel_rfl) rfl hloop) ?_
  have h2 : lastN H (n1, d1) = some (n, d) := h2
  unfold lastN at h2
  have hin := in4 H
  split at h2
  · exact noneF h2
  · rename_i hd
    have hd : d1.length ≤ 500 := Nat.not_lt.mp hd
    split at h2
    · rename_i h4
      obtain ⟨n2, g1, h2⟩ := some_of h2
      cases h2
      have g1 := app_native g1
      obtain ⟨j, hj, hlast⟩ := lastV H h4 hlen.1
      rw [h4] at hin
      have hl1 : d1.length + (64 :: euroL).length ≤ 10000 := by show d1.length + 5 ≤ 10000; omega
      have a1 := addl hl1
      have a2 : binop .Add (.str (strOfL d1)) (.str (strOfL [])) = some (.str (strOfL d1)) := by
        have := addl (x := d1) (y := []) (by show d1.length + 0 ≤ 10000; omega)
        rwa [List.append_nil] at this
      refine Ret.s (ρ1 := RL f a turn H cc n (d1 ++ (if H.getLast? = some 4 then [] else 64 :: euroL)) tl) (exS_ifT (evT_cmp (by kernel_rfl) (a := .int 4) (b := .list (intsV H)) (by kernel_rfl) (by kernel_rfl) hin) ?_) (Ret.ret (by kernel_rfl))
      refine seqL_s (exS_as (by kernel_rfl) (by kernel_rfl) (u := S n) (evE_call (by kernel_rfl) (evsC (x := S n1) (by kernel_rfl) (evsC (x := S euroL) (by kernel_rfl) rfl)) ((T1_app _).trans g1)) (ρ' := RL f a turn H cc n d1 tl) (by kernel_rfl)) ?_
      refine seqL_one (exS_as (by kernel_rfl) (by kernel_rfl) (u := S (d1 ++ (if H.getLast? = some 4 then [] else 64 :: euroL))) ?_ (by kernel_rfl))
      by_cases h44 : j = 4
      · subst h44
        rw [if_pos hj, List.append_nil]
        exact evE_bin (a := S d1) (b := S []) (by kernel_rfl) (evE_ifT (evT_cmp (by kernel_rfl) (evW_of (by kernel_rfl) (evE_it (by kernel_rfl) (by kernel_rfl) (y := .int (-1)) (by kernel_rfl) (x := .list (intsV H)) (by kernel_rfl) hlast)) (b := .int 4) (by kernel_rfl) rfl) (by kernel_rfl)) a2
      · have hne : cmpop .Eq (.int (j : Int)) (.int 4) = some false := by rw [c_eq, beq_eq_false_iff_ne.mpr (by omega)]
        rw [hj, if_neg (fun e => h44 (Option.some.inj e))]
        exact evE_bin (a := S d1) (b := S (64 :: euroL)) (by kernel_rfl) (evE_ifF (evT_cmp (by kernel_rfl) (evW_of (by kernel_rfl) (evE_it (by kernel_rfl) (by kernel_rfl) (y := .int (-1)) (by kernel_rfl) (x := .list (intsV H)) (by kernel_rfl) hlast)) (b := .int 4) (by kernel_rfl) hne) (by kernel_rfl)) a1
    · rename_i h4
      cases h2
      rw [Bool.not_eq_true] at h4
      rw [h4] at hin
      exact Ret.s (exS_if (evT_cmp (by kernel_rfl) (a := .int 4) (b := .list (intsV H)) (by kernel_rfl) (by kernel_rfl) hin)) (Ret.ret (by kernel_rfl))
end Mine
end
section
open PySem PySem.W PyProof.Rows PySem.Calls
set_option maxRecDepth 100000
namespace Mine
noncomputable def tokL : List (List Nat × Int) := [([37, 61], 40), ([38, 61], 41), ([42, 61], 38), ([43, 61], 36), ([45, 61], 37), ([47, 61], 39), ([94, 61], 43), ([124, 61], 42), ([46], 23)]
noncomputable def lkL : List (List Nat × Int) → List Nat → Option Int
  | [], _ => none
  | (y, b) :: r, x => if x == y then some b else lkL r x
theorem tokTab_eq : tokTab = tokL.map fun p => (strOfL p.1, p.2) := by
  have h1 : Str.ofString "%=" = strOfL [37, 61] := by decide +kernel
  have h2 : Str.ofString "&=" = strOfL [38, 61] := by decide +kernel
  have h3 : Str.ofString "*=" = strOfL [42, 61] := by decide +kernel
  have h4 : Str.ofString "+=" = strOfL [43, 61] := by decide +kernel
  have h5 : Str.ofString "-=" = strOfL [45, 61] := by decide +kernel
  have h6 : Str.ofString "/=" = strOfL [47, 61] := by decide +kernel
  have h7 : Str.ofString "^=" = strOfL [94, 61] := by decide +kernel
  have h8 : Str.ofString "|=" = strOfL [124, 61] := by decide +kernel
  have h9 : Str.ofString "." = strOfL [46] := l_dot
  simp only [tokTab, tokL, List.map_cons, List.map_nil, h1, h2, h3, h4, h5, h6, h7, h8, h9]
theorem lkS_L (l : List (List Nat × Int)) (x : List Nat) : lkS (l.map fun p => (strOfL p.1, p.2)) (strOfL x) = lkL l x := by
  induction l with
  | nil => rfl
  | cons p r ih =>
    obtain ⟨y, b⟩ := p
    rw [List.map_cons]
    unfold lkS lkL
    dsimp only
    rw [eqS_L, ih]
    cases x == y <;> rfl
theorem sub_tok (x : List Nat) : T1.sub "EXACT_TOKEN_TYPES" (S x) = (lkL tokL x).map .int := by
  show subB "EXACT_TOKEN_TYPES" (S x) = _
  show (if eqS (Str.ofString "EXACT_TOKEN_TYPES") (Str.ofString "EXACT_TOKEN_TYPES") then (lkS tokTab (strOfL x)).map PV.int else none) = _
  rw [show eqS (Str.ofString "EXACT_TOKEN_TYPES") (Str.ofString "EXACT_TOKEN_TYPES") = true by kernel_rfl, if_pos rfl, tokTab_eq, lkS_L]
noncomputable def flagStep (at' : Nat) (fl : Nat) (p : List Nat) : Option Nat :=
  if p == euroL then some fl else (lkL tokL p).bind fun num => some (fl + if num = 23 then 16 else 2 ^ ((num - 36 - at') % 8).toNat)
noncomputable def flagFold (at' : Nat) : Nat → List (List Nat) → Option Nat
  | fl, [] => some fl
  | fl, p :: r => (flagStep at' fl p).bind fun fl => flagFold at' fl r
noncomputable def flagsN (l : List Nat) (at' : Nat) : Option Nat :=
  if l.length > 1000 ∨ (repl (46 :: utfL) [64, 46] 0 l).length > 1000 ∨ (repl (46 :: isoL) [64, 46] 0 (repl (46 :: utfL) [64, 46] 0 l)).length > 1000 ∨ (splitL 64 (repl (46 :: isoL) [64, 46] 0 (repl (46 :: utfL) [64, 46] 0 l))).length > 1000 ∨ l = [] ∨ ¬ (l.all fun c => decide (c < 128)) = true then none else
  flagFold at' 0 ((splitL 64 (repl (46 :: isoL) [64, 46] 0 (repl (46 :: utfL) [64, 46] 0 l))).drop 1)
noncomputable def enc (l : List Nat) : Array UInt8 := (l.map (·.toUInt8)).toArray
theorem enc_str {l : List Nat} (h : (l.all fun c => decide (c < 128)) = true) : encS (strOfL l) = some (enc l) := by
  unfold encS
  rw [cps_L, if_pos h]; rfl
theorem dec_enc {l : List Nat} (h : (l.all fun c => decide (c < 128)) = true) (hne : l ≠ []) : decB (enc l) = some (strOfL l) := by
  have h1 : ∀ c ∈ l, c < 128 := by simpa using h
  have e : l.map (fun c => (c.toUInt8).toNat) = l := by
    conv => rhs; rw [← List.map_id l]
    refine List.map_congr_left fun c hc => ?_
    have := h1 c hc
    simp [Nat.toUInt8, UInt8.toNat_ofNat']; omega
  have e2 : (enc l).toList.map (·.toNat) = l := by
    unfold enc
    simp only [List.map_map]
    exact e
  unfold decB
  rw [e2, if_pos]
  · rfl
  · rw [Bool.and_eq_true]
    constructor
    · unfold enc
      cases l with
      | nil => exact absurd rfl hne
      | cons c r => rfl
    · rw [List.all_eq_true]
      intro c hc
      have : c.toNat ∈ (enc l).toList.map (·.toNat) := List.mem_map_of_mem hc
      rw [e2] at this
      simpa using h1 _ this
theorem range_pick (xs : List PV) : (List.range xs.length).filterMap (xs[·]?) = xs := by
  induction xs with
  | nil => rfl
  | cons x r ih =>
    rw [List.length_cons, List.range_succ_eq_map, List.filterMap_cons, List.filterMap_map]
    show x :: (List.range r.length).filterMap (fun i => (x :: r)[i + 1]?) = _
    congr 1
theorem slice_drop1 (xs : List PV) : slice xs (some 1) none none = xs.drop 1 := by
  cases xs with
  | nil => rfl
  | cons x r =>
    have hs : sliceBounds (some 1) none none (x :: r).length = (((1 : Nat) : Int), (((x :: r).length : Nat) : Int), 1) := by
      unfold sliceBounds
      simp only [Option.getD_none, show ((1 : Int) > 0) = True from by simp, if_true]
      simp
      omega
    unfold slice
    rw [hs]
    show (sliceRange ((1 : Nat) : Int) (((x :: r).length : Nat) : Int) 1).filterMap ((x :: r)[·]?) = _
    rw [sliceRange_one, List.filterMap_map]
    show (List.range ((r.length + 1) - 1)).filterMap (fun i => (x :: r)[1 + i]?) = r
    rw [Nat.add_sub_cancel]
    conv => rhs; rw [← range_pick r]
    congr 1
    funext i
    rw [Nat.add_comm]; rfl
noncomputable def flFor : List Stmt := match (fnAt 66).2.1.drop 1 with
  | .For _ _ b _ _ :: _ => b
  | _ => []
noncomputable def rhoF (w : Array UInt8) (a : Nat) (fl : Nat) (tl : Rho) : Rho := ("word", .val (.bytes w)) :: ("at", .val (.int (a : Int))) :: ("flags", .val (.int (fl : Int))) :: tl
noncomputable def TailF (tl : Rho) : Prop := tl = [] ∨ (∃ v, tl = [(Str.ofString "piece", Bd.val v)]) ∨ ∃ v u, tl = [(Str.ofString "piece", Bd.val v), (Str.ofString "number", Bd.val u)]
theorem ne_L (a b : List Nat) : cmpop .NotEq (.str (strOfL a)) (.str (strOfL b)) = some (!(a == b)) := by
  simp [cmpop, eqS_L, eqP, neP, inP, notinP]
theorem piece_F {w : Array UInt8} {a fl : Nat} {tl : Rho} (v : PV) (ht : TailF tl) :
    ∃ t1, (t1 = [] ∨ ∃ u, t1 = [(Str.ofString "number", Bd.val u)]) ∧ setR (rhoF w a fl tl) "piece" (.val v) = rhoF w a fl ((Str.ofString "piece", .val v) :: t1) := by
  rw [← setRF_eq]
  rcases ht with rfl | ⟨v, rfl⟩ | ⟨v, u, rfl⟩
  · exact ⟨[], .inl rfl, by kernel_rfl⟩
  · exact ⟨[], .inl rfl, by kernel_rfl⟩
  · exact ⟨_, .inr ⟨u, rfl⟩, by kernel_rfl⟩
theorem body_F {w : Array UInt8} {a fl fl' : Nat} {tl : Rho} {p : List Nat} (ht : TailF tl) (h : flagStep a fl p = some fl') :
    ∃ tl', TailF tl' ∧ seqL (exS T1 oN 29 (fnAt 66).2.2) flFor (setR (rhoF w a fl tl) "piece" (.val (S p))) = some (rhoF w a fl' tl', .next) := by
  obtain ⟨t1, ht1, e⟩ := piece_F (w := w) (a := a) (fl := fl) (S p) ht
  rw [e]
  unfold flagStep at h
  split at h
  · rename_i he
    cases h
    have hT : TailF ((Str.ofString "piece", .val (S p)) :: t1) := by
      rcases ht1 with rfl | ⟨u, rfl⟩
      · exact .inr (.inl ⟨_, rfl⟩)
      · exact .inr (.inr ⟨_, _, rfl⟩)
    exact ⟨_, hT, seqL_of rfl (seqL_one (exS_if (evT_cmp (by kernel_rfl) (a := S p) (b := S euroL) (by kernel_rfl) (by kernel_rfl) ((ne_L _ _).trans (by rw [he]; rfl)))))⟩
  · rename_i he
    have he : (p == euroL) = false := by simpa using he
    obtain ⟨num, hn, h⟩ := some_of h
    cases h
    have hs := sub_tok p
    rw [hn] at hs
    have e1 := b_mod (num - 36 - (a : Int)) 8 (by decide)
    have e2 : (num - 36 - (a : Int)) % 8 = (((num - 36 - (a : Int)) % 8).toNat : Int) := by omega
    have e3 := b_pow (((num - 36 - (a : Int)) % 8).toNat) (by omega)
    rw [← e2] at e3
    have es : setRF (rhoF w a fl ((Str.ofString "piece", .val (S p)) :: t1)) (Str.ofString "number") (.val (.int num)) = rhoF w a fl [(Str.ofString "piece", .val (S p)), (Str.ofString "number", .val (.int num))] := by
      rcases ht1 with rfl | ⟨u, rfl⟩ <;> kernel_rfl
    refine ⟨[(Str.ofString "piece", .val (S p)), (Str.ofString "number", .val (.int num))], .inr (.inr ⟨_, _, rfl⟩), seqL_of rfl (seqL_one (exS_ifT (evT_cmp (by kernel_rfl) (a := S p) (b := S euroL) (by kernel_rfl) (by kernel_rfl) ((ne_L _ _).trans (by rw [he]; rfl))) ?_))⟩
    refine seqL_s (exS_as (by kernel_rfl) (by kernel_rfl) (evE_gl (by kernel_rfl) (g := Str.ofString "EXACT_TOKEN_TYPES") (by kernel_rfl) (y := S p) (by kernel_rfl) hs) es) ?_
    by_cases h23 : num = 23
    · subst h23
      rw [if_pos rfl]
      exact seqL_one (exS_augm (by kernel_rfl) (a := (fl : Int)) (b := 16) (by kernel_rfl) (evE_ifT (evT_cmp (by kernel_rfl) (a := .int 23) (b := .int 23) (by kernel_rfl) (by kernel_rfl) rfl) (by kernel_rfl)) (by kernel_rfl))
    · rw [if_neg h23]
      have hc : cmpop .Eq (.int num) (.int 23) = some false := by rw [c_eq, beq_eq_false_iff_ne.mpr h23]
      have ep : (2 : Int) ^ ((num - 36 - (a : Int)) % 8).toNat = ((2 ^ ((num - 36 - (a : Int)) % 8).toNat : Nat) : Int) := by rw [Int.natCast_pow]; rfl
      rw [ep] at e3
      exact seqL_one (exS_augm (by kernel_rfl) (a := (fl : Int)) (b := ((2 ^ ((num - 36 - (a : Int)) % 8).toNat : Nat) : Int)) (by kernel_rfl) (evE_ifF (evT_cmp (by kernel_rfl) (a := .int num) (b := .int 23) (by kernel_rfl) (by kernel_rfl) hc)
        (evE_bin (a := .int 2) (by kernel_rfl) (evE_bin (evE_bin (evE_bin (a := .int num) (b := .int 36) (by kernel_rfl) (by kernel_rfl) (b_sub _ _)) (b := .int (a : Int)) (by kernel_rfl) (b_sub _ _)) (b := .int 8) (by kernel_rfl) e1) e3)) (by kernel_rfl))
theorem loop_F {w : Array UInt8} {a : Nat} : ∀ (L : List (List Nat)) {fl fl' : Nat} {tl : Rho}, TailF tl → flagFold a fl L = some fl' →
    ∃ tl', TailF tl' ∧ forL (fun ρ v => seqL (exS T1 oN 29 (fnAt 66).2.2) flFor (setR ρ "piece" (.val v))) (L.map S) (rhoF w a fl tl) = some (rhoF w a fl' tl', .next)
  | [], fl, fl', tl, ht, h => by
    cases h
    exact ⟨tl, ht, rfl⟩
  | p :: r, fl, fl', tl, ht, h => by
    unfold flagFold at h
    obtain ⟨f1, h1, h2⟩ := some_of h
    obtain ⟨tl1, ht1, e1⟩ := body_F (w := w) ht h1
    obtain ⟨tl2, ht2, e2⟩ := loop_F (w := w) r ht1 h2
    refine ⟨tl2, ht2, ?_⟩
    show forL _ (S p :: r.map S) _ = _
    unfold forL
    rw [e1]
    exact e2
theorem T1_mth : T1.mth = mthB := by kernel_rfl
theorem flags_native {l : List Nat} {a fl : Nat} (h : flagsN l a = some fl) : runOf T1 dFlags [.bytes (enc l), .int (a : Int)] = some (.int (fl : Int)) := by
  unfold flagsN at h
  split at h
  · exact noneF h
  · rename_i hc
    simp only [not_or, gt_iff_lt, Nat.not_lt] at hc
    obtain ⟨z1, z2, z3, z4, hne, hs⟩ := hc
    have hs := Classical.not_not.mp hs
    obtain ⟨tl, ht, hl⟩ := loop_F (w := enc l) (a := a) _ (.inl rfl) h
    have hd : T1.mth "decode" (.bytes (enc l)) [] = some (.str (strOfL l)) := by
      have hz : (enc l).size ≤ 1000000 := by
        have : (enc l).size = l.length := by simp [enc]
        omega
      have : mthB (Str.ofString "decode") (.bytes (enc l)) [] = if true && decide ((enc l).size ≤ 1000000) then (decB (enc l)).map PV.str else none := by kernel_rfl
      rw [T1_mth, this, decide_eq_true hz, dec_enc hs hne]; rfl
    have hsp : ∀ m : List Nat, m.length ≤ 1000 → T1.mth "split" (.str (strOfL m)) [.str (strOfL [64])] = some (.list ((splitL 64 m).map S)) := by
      intro m hm
      have hz : (strOfL m).length ≤ 1000000 := by rw [len_L]; omega
      have : mthB (Str.ofString "split") (.str (strOfL m)) [.str (strOfL [64])] = if ¬ (strOfL m).length ≤ 1000000 then none else some (.list ((splitL 64 (strOfL m).cps.toList).map fun l => PV.str (strOfL l))) := by kernel_rfl
      rw [T1_mth, this, if_neg (not_not_intro hz), cps_L]; rfl
    have rp : ∀ (x b : List Nat), (strOfL x == strOfL b) = false → 1 ≤ x.length → b.length = 2 → ∀ m : List Nat, m.length ≤ 1000 → replP (strOfL x) (strOfL b) (some (S m)) = some (S (repl x b 0 m)) := by
      intro x b hxb hx hb m hm
      show (if (strOfL x == strOfL b) = false ∧ (strOfL m).length + ((strOfL m).length + 1) * (strOfL b).length ≤ lim ∧ 1 ≤ (strOfL x).length then some (PV.str (strOfL (repl (strOfL x).cps.toList (strOfL b).cps.toList 0 (strOfL m).cps.toList))) else none) = _
      rw [if_pos ⟨hxb, by rw [len_L, len_L, hb]; show _ ≤ 16777216; omega, by rw [len_L]; exact hx⟩, cps_L, cps_L, cps_L]; rfl
    have n1 : (strOfL (46 :: utfL) == strOfL [64, 46]) = false := by decide +kernel
    have n2 : (strOfL (46 :: isoL) == strOfL [64, 46]) = false := by decide +kernel
    have y3 : ((splitL 64 (repl (46 :: isoL) [64, 46] 0 (repl (46 :: utfL) [64, 46] 0 l))).map S).length ≤ lim := by rw [List.length_map]; exact Nat.le_trans z4 (by decide)
    rw [at_Flags]
    refine runOf_R (ρ := [(Str.ofString "word", .val (.bytes (enc l))), (Str.ofString "at", .val (.int (a : Int)))]) rfl (by kernel_rfl) (Ret.of rfl ?_)
    refine Ret.s (exS_as (by kernel_rfl) (by kernel_rfl) (u := .int (0 : Nat)) (by kernel_rfl) (ρ' := rhoF (enc l) a 0 []) (by kernel_rfl)) ?_
    refine Ret.s (exS_For (y := .list (((splitL 64 (repl (46 :: isoL) [64, 46] 0 (repl (46 :: utfL) [64, 46] 0 l))).drop 1).map S)) (xs := ((splitL 64 (repl (46 :: isoL) [64, 46] 0 (repl (46 :: utfL) [64, 46] 0 l))).drop 1).map S) (by kernel_rfl) (by kernel_rfl) ?_ rfl hl) (Ret.ret (by kernel_rfl))
    rw [List.map_drop, ← slice_drop1]
    refine evE_pt (a := some 1) (b := none) (c := none) (evW_of (by kernel_rfl) (evE_me (xs := [.str (strOfL [64])]) (by kernel_rfl) (by kernel_rfl) (evE_rep (a := strOfL (46 :: isoL)) (b := strOfL [64, 46]) (by kernel_rfl) (by kernel_rfl) (evE_rep (a := strOfL (46 :: utfL)) (b := strOfL [64, 46]) (by kernel_rfl) (by kernel_rfl)
      (evE_me (x := .bytes (enc l)) (xs := []) (by kernel_rfl) (by kernel_rfl) (by kernel_rfl) rfl hd) (rp _ _ n1 (by decide) rfl l z1)) (rp _ _ n2 (by decide) rfl _ z2)) (by kernel_rfl) (hsp _ z3))) (by kernel_rfl) (by kernel_rfl) (by kernel_rfl) (by decide) y3
end Mine
end
section
open PySem PySem.W PyProof.Rows PySem.Calls
set_option maxRecDepth 100000
namespace Mine
noncomputable def heldN (f r5 : Nat) : List Nat := ((List.range 5).map fun k => (r5 + k) % 5).filter (bit f)
theorem heldZ_eq (f : Nat) (turn : Int) : heldZ f turn = heldN f (turn % 5).toNat := by
  unfold heldZ heldN
  congr 1
  refine List.map_congr_left fun k hk => ?_
  unfold plc
  omega
noncomputable def safe (c : Nat) : Bool := decide (33 ≤ c) && decide (c < 127) && c != 40 && c != 41
noncomputable def goodN (f a : Nat) (n : List Nat) : Bool := n.all safe && !n.isEmpty && decide (n.length ≤ 100) && (flagsN n a == some f)
noncomputable def chk1 (a f r5 b2 h2 : Nat) : Bool := match nameN a b2 h2 (heldN f r5) with
  | some (n, d) => n == d && goodN f a n
  | none => false
noncomputable def chk (a : Nat) : Bool := (List.range 32).all fun f => (List.range 5).all fun r5 => (List.range 2).all fun b2 => (List.range 2).all fun h2 => chk1 a f r5 b2 h2
theorem chk_0 : chk 0 = true := by decide +kernel
theorem chk_1 : chk 1 = true := by decide +kernel
theorem chk_2 : chk 2 = true := by decide +kernel
theorem chk_3 : chk 3 = true := by decide +kernel
theorem chk_4 : chk 4 = true := by decide +kernel
theorem chk_5 : chk 5 = true := by decide +kernel
theorem chk_6 : chk 6 = true := by decide +kernel
theorem chk_7 : chk 7 = true := by decide +kernel
theorem chk_all {a : Nat} (h : a < 8) : chk a = true := by
  match a, h with
  | 0, _ => exact chk_0
  | 1, _ => exact chk_1
  | 2, _ => exact chk_2
  | 3, _ => exact chk_3
  | 4, _ => exact chk_4
  | 5, _ => exact chk_5
  | 6, _ => exact chk_6
  | 7, _ => exact chk_7
noncomputable def nmOf (a : Nat) (turn : Int) (f : Nat) : List Nat := match nameN a (turn % 2).toNat (turn / 2 % 2).toNat (heldZ f turn) with
  | some (n, _) => n
  | none => []
theorem nm_all {f a : Nat} (hf : f < 32) (ha : a < 8) (turn : Int) :
    runOf T1 dName [.int (f : Int), .int (a : Int), .int turn] = some (.list [S (nmOf a turn f), S (nmOf a turn f)]) ∧ goodN f a (nmOf a turn f) = true := by
  have h := chk_all ha
  unfold chk at h
  simp only [List.all_eq_true, List.mem_range] at h
  have h := h f hf (turn % 5).toNat (by omega) (turn % 2).toNat (by omega) (turn / 2 % 2).toNat (by omega)
  unfold chk1 at h
  rw [← heldZ_eq] at h
  split at h
  · rename_i n d e
    rw [Bool.and_eq_true, beq_iff_eq] at h
    obtain ⟨rfl, hg⟩ := h
    have hn : nmOf a turn f = n := by unfold nmOf; rw [e]
    rw [hn]
    exact ⟨name_native e, hg⟩
  · cases h
structure Good (f a : Nat) (n : List Nat) : Prop where
  safe : ∀ c ∈ n, 33 ≤ c ∧ c < 127 ∧ c ≠ 40 ∧ c ≠ 41
  ne : n ≠ []
  len : n.length ≤ 100
  asc : (n.all fun c => decide (c < 128)) = true
  fl : runOf T1 dFlags [.bytes (enc n), .int (a : Int)] = some (.int (f : Int))
theorem good_of {f a : Nat} {n : List Nat} (h : goodN f a n = true) : Good f a n := by
  unfold goodN at h
  simp only [Bool.and_eq_true, List.all_eq_true, decide_eq_true_eq, beq_iff_eq] at h
  obtain ⟨⟨⟨h1, h2⟩, h3⟩, h4⟩ := h
  have hs : ∀ c ∈ n, 33 ≤ c ∧ c < 127 ∧ c ≠ 40 ∧ c ≠ 41 := by
    intro c hc
    have := h1 c hc
    simp [safe] at this
    omega
  refine ⟨hs, ?_, h3, ?_, flags_native h4⟩
  · rintro rfl; cases h2
  · rw [List.all_eq_true]
    intro c hc
    have := hs c hc
    simp; omega
end Mine
end
section
open PySem PySem.W PyProof.Rows PySem.Calls
set_option maxRecDepth 100000
namespace Mine
theorem T0_iseof (x : Int) : T1.fn "ISEOF" [.int x] = some (.bool (x == 0)) := by kernel_rfl
theorem getNat (xs : List PV) (i : Nat) (h : i < xs.length) (hl : xs.length ≤ lim) : getitem (.list xs) (.int (i : Int)) = some xs[i] := by
  show (if xs.length ≤ lim then (seqIndex? (i : Int) xs.length).bind (xs[·]?) else none) = _
  have e : seqIndex? (i : Int) xs.length = some i := by
    unfold seqIndex?
    dsimp only
    rw [if_neg (show ¬ ((i : Int) < 0) by omega), if_pos (by simp; omega)]
    rfl
  rw [if_pos hl, e]
  show xs[i]? = _
  rw [List.getElem?_eq_getElem h]
/-- the numbers of a set -/
noncomputable def numsN (W : Nat → Int) (f : Nat) : List Int := ((List.range 5).filter (bit f)).map W
noncomputable def worthsV (W : Nat → Int) : PV := .list ((List.range 5).map fun k => .int (W k))
theorem filterMap_nats {α : Type} (p : Nat → Bool) (g : Nat → α) (l : List Nat) (F : PV → Option α) (hF : ∀ k ∈ l, F (.int (k : Int)) = if p k then some (g k) else none) : (intsV l).filterMap F = (l.filter p).map g := by
  induction l with
  | nil => rfl
  | cons k r ih =>
    show (PV.int (k : Int) :: intsV r).filterMap F = _
    rw [List.filterMap_cons, hF k (List.mem_cons_self ..), List.filter_cons, ih fun j hj => hF j (List.mem_cons_of_mem _ hj)]
    cases p k <;> rfl
theorem getW (W : Nat → Int) {k : Nat} (hk : k < 5) : getitem (worthsV W) (.int (k : Int)) = some (.int (W k)) := by
  unfold worthsV
  rw [getNat _ _ (by rw [List.length_map]; exact hk) (by rw [List.length_map]; decide)]
  rw [List.getElem_map, List.getElem_range]
theorem nums_native (W : Nat → Int) (f : Nat) : runOf T1 dNums [.int (f : Int), worthsV W] = some (.list ((numsN W f).map .int)) := by
  rw [at_Nums]
  refine runOf_R (ρ := [(Str.ofString "flags", .val (.int (f : Int))), (Str.ofString "worths", .val (worthsV W))]) rfl (by kernel_rfl) (Ret.of rfl (Ret.ret (evW_of (by kernel_rfl) ?_)))
  refine (evE_comp (fun v => match v with | .int k => if bit f k.toNat then some (.int (W k.toNat)) else none | _ => none) (it := .range 5) (xs := intsV (List.range 5)) (by kernel_rfl) (by kernel_rfl) (items_range (by decide)) (by kernel_rfl) (by decide) fun v hv => ?_).trans ?_
  · obtain ⟨k, hk, rfl⟩ := List.mem_map.mp hv
    have hk := List.mem_range.mp hk
    have h5 := pow5 hk
    have hc : cmpop .Eq (.int ((f : Int) / 2 ^ k % 2)) (.int 1) = some (bit f k) := by rw [c_eq, bit_int]
    exact turn_c (evT_cmp (by kernel_rfl) (evW_of (by kernel_rfl) (evE_bin (evE_bin (a := .int (f : Int)) (by kernel_rfl) (evE_bin (a := .int 2) (b := .int (k : Int)) (by kernel_rfl) (by kernel_rfl) (b_pow k (by omega))) (b_div _ _ h5.1 h5.2)) (b := .int 2) (by kernel_rfl) (b_mod _ _ (by decide)))) (b := .int 1) (by kernel_rfl) hc)
      (evE_it (by kernel_rfl) (by kernel_rfl) (y := .int (k : Int)) (by kernel_rfl) (x := worthsV W) (by kernel_rfl) (getW W hk))
  · rw [filterMap_nats (bit f) (fun k => .int (W k)) _ _ fun k hk => rfl]
    unfold numsN
    rw [List.map_map]; rfl

theorem b_and (a b : Nat) : binop .BitAnd (.int (a : Int)) (.int (b : Int)) = some (.int ((a &&& b : Nat) : Int)) := by
  show some (PV.int (Builtin.bitAnd a b)) = _
  unfold Builtin.bitAnd
  have h1 : decide ((0 : Int) ≤ (a : Int)) = true := by simp
  have h2 : decide ((0 : Int) ≤ (b : Int)) = true := by simp
  rw [h1, h2]
  simp
theorem nat_beq0 (n : Nat) : ((n : Int) == 0) = (n == 0) := by
  cases n <;> rfl
/-- a set that misses no list -/
noncomputable def meetB (F : List Nat) (k : Nat) : Bool := (F.filter fun o => (k &&& o) == 0).isEmpty
noncomputable def spareN (F : List Nat) (f : Nat) : List Nat := (List.range 5).filter fun k => bit f k && meetB F (f - 2 ^ k)
noncomputable def blkB (F : List Nat) (f : Nat) : Bool := meetB F f && (spareN F f).isEmpty
noncomputable def blk (F : List Nat) : List Nat := (List.range 32).filter (blkB F)
noncomputable def meetsV (F : List Nat) : List PV := (List.range 32).map fun k => .bool (meetB F k)
theorem leq_nil (l : List PV) : cmpop .Eq (.list l) (.list []) = some l.isEmpty := by
  cases l <;> rfl
theorem bit_le {f k : Nat} (h : bit f k = true) : 2 ^ k ≤ f := by
  unfold bit at h
  rw [beq_iff_eq] at h
  have h0 : 0 < f / 2 ^ k := by
    rcases Nat.eq_zero_or_pos (f / 2 ^ k) with h' | h'
    · rw [h'] at h; cases h
    · exact h'
  exact (Nat.div_pos_iff.mp h0).2
noncomputable def mtFor : List Stmt := match (fnAt 67).2.1.drop 2 with
  | .For _ _ b _ _ :: _ => b
  | _ => []
noncomputable def rhoM (F fs : List Nat) (tl : Rho) : Rho := ("family", .val (.list (intsV F))) :: ("meets", .val (.list (meetsV F))) :: ("found", .own (intsV fs)) :: tl
noncomputable def TailM (tl : Rho) : Prop := tl = [] ∨ ∃ v u, tl = [(Str.ofString "flags", Bd.val v), (Str.ofString "spare", Bd.val u)]
noncomputable def rhoM0 (F : List Nat) : Rho := [("family", .val (.list (intsV F)))]
noncomputable def rhoM1 (F : List Nat) : Rho := [("family", .val (.list (intsV F))), ("meets", .val (.list (meetsV F)))]
theorem lenV (F : List Nat) : (intsV F).length = F.length := List.length_map ..
theorem meets_st {F : List Nat} (hF : F.length ≤ 1000) : ∃ st rest, (fnAt 67).2.1 = st :: rest ∧ exS T1 oN 30 (fnAt 67).2.2 (rhoM0 F) st = some (rhoM1 F, .next) := by
  refine ⟨_, _, rfl, exS_as (by kernel_rfl) (by kernel_rfl) (u := .list (meetsV F)) ?_ (by kernel_rfl)⟩
  refine (evE_comp (fun v => match v with | .int k => some (.bool (meetB F k.toNat)) | _ => none) (it := .range 32) (xs := intsV (List.range 32)) (by kernel_rfl) (by kernel_rfl) (items_range (by decide)) (by kernel_rfl) (by decide) fun v hv => ?_).trans ?_
  · obtain ⟨k, hk, rfl⟩ := List.mem_map.mp hv
    refine turn_0 (evE_cmp (by kernel_rfl) (evW_of (by kernel_rfl) (evE_comp (fun v => match v with | .int o => if (k &&& o.toNat) == 0 then some v else none | _ => none) (it := .list (intsV F)) (xs := intsV F) (by kernel_rfl) (by kernel_rfl) rfl (by kernel_rfl) (by rw [lenV]; exact Nat.le_trans hF (by decide)) fun v hv => ?_)) (b := .list []) (by kernel_rfl) ((leq_nil _).trans ?_))
    · obtain ⟨o, ho, rfl⟩ := List.mem_map.mp hv
      exact turn_c (evT_ca (evE_call (by kernel_rfl) (evs1 (evE_bin (a := .int (k : Int)) (b := .int (o : Int)) (by kernel_rfl) (by kernel_rfl) (b_and k o))) ((T0_iseof _).trans (by rw [nat_beq0]; rfl)))) (by kernel_rfl)
    · rw [filterMap_nats (fun o => (k &&& o) == 0) (fun o => .int (o : Int)) _ _ fun k hk => rfl, List.isEmpty_map]
      rfl
  · rw [filterMap_nats (fun _ => true) (fun k => .bool (meetB F k)) _ _ fun k hk => rfl, List.filter_eq_self.mpr fun _ _ => rfl]
    rfl
end Mine
end
section
open PySem PySem.W PyProof.Rows PySem.Calls
set_option maxRecDepth 100000
namespace Mine
theorem intsV_app (a b : List Nat) : intsV (a ++ b) = intsV a ++ intsV b := by simp [intsV]
theorem getMeets {F : List Nat} {i : Nat} (h : i < 32) : getitem (.list (meetsV F)) (.int (i : Int)) = some (.bool (meetB F i)) := by
  have hl : (meetsV F).length = 32 := by unfold meetsV; rw [List.length_map, List.length_range]
  rw [getNat _ _ (by rw [hl]; exact h) (by rw [hl]; decide)]
  unfold meetsV
  rw [List.getElem_map, List.getElem_range]
theorem flags_M {F fs : List Nat} {tl : Rho} (v : PV) (ht : TailM tl) : ∃ t1, (t1 = [] ∨ ∃ u, t1 = [(Str.ofString "spare", Bd.val u)]) ∧ setR (rhoM F fs tl) "flags" (.val v) = rhoM F fs ((Str.ofString "flags", .val v) :: t1) := by
  rw [← setRF_eq]
  rcases ht with rfl | ⟨v, u, rfl⟩
  · exact ⟨[], .inl rfl, by kernel_rfl⟩
  · exact ⟨_, .inr ⟨u, rfl⟩, by kernel_rfl⟩
theorem body_M {F fs : List Nat} {tl : Rho} {f : Nat} (hf : f < 32) (hs : fs.length ≤ 40) (ht : TailM tl) :
    ∃ tl', TailM tl' ∧ seqL (exS T1 oN 29 (fnAt 67).2.2) mtFor (setR (rhoM F fs tl) "flags" (.val (.int (f : Int)))) = some (rhoM F (if blkB F f then fs ++ [f] else fs) tl', .next) := by
  obtain ⟨t1, ht1, e⟩ := flags_M (F := F) (fs := fs) (.int (f : Int)) ht
  rw [e]
  have es : setRF (rhoM F fs ((Str.ofString "flags", .val (.int (f : Int))) :: t1)) (Str.ofString "spare") (.val (.list (intsV (spareN F f)))) = rhoM F fs [(Str.ofString "flags", .val (.int (f : Int))), (Str.ofString "spare", .val (.list (intsV (spareN F f))))] := by
    rcases ht1 with rfl | ⟨u, rfl⟩ <;> kernel_rfl
  have hl : (intsV fs).length < lim := by rw [lenV]; exact Nat.lt_of_le_of_lt hs (by decide)
  have hg := getMeets (F := F) hf
  have hsp : cmpop .Eq (.list (intsV (spareN F f))) (.list []) = some (spareN F f).isEmpty := by
    rw [leq_nil]; exact congrArg some List.isEmpty_map
  refine ⟨[(Str.ofString "flags", .val (.int (f : Int))), (Str.ofString "spare", .val (.list (intsV (spareN F f))))], .inr ⟨_, _, rfl⟩, seqL_of rfl (seqL_s (exS_as (by kernel_rfl) (by kernel_rfl) ?_ es) (seqL_one ?_))⟩
  · refine (evE_comp (fun v => match v with | .int k => if bit f k.toNat && meetB F (f - 2 ^ k.toNat) then some v else none | _ => none) (it := .range 5) (xs := intsV (List.range 5)) (by kernel_rfl) (by kernel_rfl) (items_range (by decide)) (by kernel_rfl) (by decide) fun v hv => ?_).trans ?_
    · obtain ⟨k, hk, rfl⟩ := List.mem_map.mp hv
      have hk := List.mem_range.mp hk
      have h5 := pow5 hk
      have hc : cmpop .Eq (.int ((f : Int) / 2 ^ k % 2)) (.int 1) = some (bit f k) := by rw [c_eq, bit_int]
      refine turn_c (c := bit f k && meetB F (f - 2 ^ k)) ?_ (by kernel_rfl)
      have t1 := fun {l r : Expr} {p : Pos} {n : Nat} {sc : Scope} {ρ : Rho} (hm : behindInMarks .Eq r = false) (h1 : evW T1 n sc ρ l = some (.int ((f : Int) / 2 ^ k % 2))) (h2 : evW T1 n sc ρ r = some (.int 1)) => evT_cmp (p := p) hm h1 h2 hc
      cases hb : bit f k with
      | false =>
        rw [hb] at t1
        exact evT_andF (t1 (by kernel_rfl) (evW_of (by kernel_rfl) (evE_bin (evE_bin (a := .int (f : Int)) (by kernel_rfl) (evE_bin (a := .int 2) (b := .int (k : Int)) (by kernel_rfl) (by kernel_rfl) (b_pow k (by omega))) (b_div _ _ h5.1 h5.2)) (b := .int 2) (by kernel_rfl) (b_mod _ _ (by decide)))) (by kernel_rfl))
      | true =>
        rw [hb] at t1
        have hle := bit_le hb
        have e1 : binop .Sub (.int (f : Int)) (.int (2 ^ k)) = some (.int ((f - 2 ^ k : Nat) : Int)) := by
          rw [b_sub, Int.ofNat_sub hle, Int.natCast_pow]; rfl
        have hg2 := getMeets (F := F) (i := f - 2 ^ k) (Nat.lt_of_le_of_lt (Nat.sub_le _ _) hf)
        exact evT_and2 (t1 (by kernel_rfl) (evW_of (by kernel_rfl) (evE_bin (evE_bin (a := .int (f : Int)) (by kernel_rfl) (evE_bin (a := .int 2) (b := .int (k : Int)) (by kernel_rfl) (by kernel_rfl) (b_pow k (by omega))) (b_div _ _ h5.1 h5.2)) (b := .int 2) (by kernel_rfl) (b_mod _ _ (by decide)))) (by kernel_rfl))
          (evT_su (evE_it (by kernel_rfl) (by kernel_rfl) (evE_bin (a := .int (f : Int)) (by kernel_rfl) (evE_bin (a := .int 2) (b := .int (k : Int)) (by kernel_rfl) (by kernel_rfl) (b_pow k (by omega))) e1) (x := .list (meetsV F)) (by kernel_rfl) hg2))
    · rw [filterMap_nats (fun k => bit f k && meetB F (f - 2 ^ k)) (fun k => .int (k : Int)) _ _ fun k hk => rfl]
      rfl
  · have er : setRF (rhoM F fs [(Str.ofString "flags", .val (.int (f : Int))), (Str.ofString "spare", .val (.list (intsV (spareN F f))))]) (Str.ofString "found") (.own (intsV fs ++ [.int (f : Int)])) = rhoM F (fs ++ [f]) [(Str.ofString "flags", .val (.int (f : Int))), (Str.ofString "spare", .val (.list (intsV (spareN F f))))] := by
      rw [show intsV fs ++ [PV.int (f : Int)] = intsV (fs ++ [f]) from (intsV_app fs [f]).symm]
      kernel_rfl
    unfold blkB
    cases hm : meetB F f with
    | false =>
      rw [hm] at hg
      exact exS_if (evT_andF (evT_su (evE_it (by kernel_rfl) (by kernel_rfl) (y := .int (f : Int)) (by kernel_rfl) (x := .list (meetsV F)) (by kernel_rfl) hg)))
    | true =>
      rw [hm] at hg
      cases hsn : (spareN F f).isEmpty with
      | false =>
        rw [hsn] at hsp
        exact exS_if (evT_and2 (evT_su (evE_it (by kernel_rfl) (by kernel_rfl) (y := .int (f : Int)) (by kernel_rfl) (x := .list (meetsV F)) (by kernel_rfl) hg)) (evT_cmp (by kernel_rfl) (by kernel_rfl) (by kernel_rfl) hsp))
      | true =>
        rw [hsn] at hsp
        exact exS_ifT (evT_and2 (evT_su (evE_it (by kernel_rfl) (by kernel_rfl) (y := .int (f : Int)) (by kernel_rfl) (x := .list (meetsV F)) (by kernel_rfl) hg)) (evT_cmp (by kernel_rfl) (by kernel_rfl) (by kernel_rfl) hsp)) (seqL_one (exS_ap rfl (by kernel_rfl) (by kernel_rfl) hl er))
theorem loop_M {F : List Nat} : ∀ (L : List Nat) {fs : List Nat} {tl : Rho}, (∀ f ∈ L, f < 32) → fs.length + L.length ≤ 40 → TailM tl →
    ∃ tl', TailM tl' ∧ forL (fun ρ v => seqL (exS T1 oN 29 (fnAt 67).2.2) mtFor (setR ρ "flags" (.val v))) (intsV L) (rhoM F fs tl) = some (rhoM F (fs ++ L.filter (blkB F)) tl', .next)
  | [], fs, tl, _, _, ht => ⟨tl, ht, by simp [intsV, forL]⟩
  | f :: r, fs, tl, hL, hs, ht => by
    simp only [List.length_cons] at hs
    obtain ⟨tl1, ht1, e1⟩ := body_M (F := F) (fs := fs) (hL f (List.mem_cons_self ..)) (by omega) ht
    have hlen : (if blkB F f then fs ++ [f] else fs).length + r.length ≤ 40 := by
      split
      · simp; omega
      · omega
    obtain ⟨tl2, ht2, e2⟩ := loop_M (F := F) r (fun k hk => hL k (List.mem_cons_of_mem _ hk)) hlen ht1
    refine ⟨tl2, ht2, ?_⟩
    show forL _ (PV.int (f : Int) :: intsV r) _ = _
    unfold forL
    rw [e1]
    dsimp only
    rw [e2]
    congr 3
    rw [List.filter_cons]
    split <;> simp
theorem meet_native {F : List Nat} (hF : F.length ≤ 1000) : runOf T1 dMeet [.list (intsV F)] = some (.list (intsV (blk F))) := by
  obtain ⟨tl, ht, hl⟩ := loop_M (F := F) (List.range 32) (fs := []) (tl := []) (fun f hf => List.mem_range.mp hf) (by decide) (.inl rfl)
  obtain ⟨st, rest, q1, q2⟩ := meets_st hF
  rw [at_Meet]
  refine runOf_R (ρ := rhoM0 F) rfl (by kernel_rfl) ?_
  have hd0 : (fnAt 67).2.1.head? = some st := by rw [q1]; rfl
  refine Ret.of rfl ?_
  cases (hd0 : some _ = some st)
  refine Ret.s q2 (Ret.s (exS_new (by kernel_rfl) (by kernel_rfl) (ρ' := rhoM F [] []) (by kernel_rfl)) ?_)
  exact Ret.s (exS_For (y := .range 32) (xs := intsV (List.range 32)) (by kernel_rfl) (by kernel_rfl) (by kernel_rfl) (items_range (by decide)) hl) (Ret.ret (by kernel_rfl))
end Mine
end
section
open PySem PySem.W PyProof.Rows PySem.Calls
set_option maxRecDepth 100000
namespace Mine
theorem getD_add (P M : List Nat) (i : Nat) : (P ++ M).getD (P.length + i) 0 = M.getD i 0 := by
  simp [List.getD_eq_getElem?_getD, List.getElem?_append_right]
theorem getD_lt {P M : List Nat} {i : Nat} (h : i < P.length) : (P ++ M).getD i 0 = P.getD i 0 := by
  simp [List.getD_eq_getElem?_getD, List.getElem?_append_left h]
theorem getD_mem {P : List Nat} {i : Nat} (h : i < P.length) : P.getD i 0 ∈ P := by
  simp [List.getD_eq_getElem?_getD, List.getElem?_eq_getElem h]
theorem toNat_enc {L : List Nat} (h : ∀ c ∈ L, c < 256) : (enc L).map (·.toNat) = L.toArray := by
  apply Array.ext'
  unfold enc
  simp only [Array.toList_map, List.map_map]
  conv => rhs; rw [← List.map_id L]
  refine List.map_congr_left fun c hc => ?_
  have := h c hc
  simp [Nat.toUInt8, UInt8.toNat_ofNat']; omega
theorem arr_getD (L : List Nat) (i : Nat) : L.toArray.getD i 0 = L.getD i 0 := by
  simp [Array.getD_eq_getD_getElem?, List.getD_eq_getElem?_getD]
theorem isAt_ends {T : Array Nat} {p : Nat} (h : isAt T p rxL = true) : T.getD p 0 = 70 ∧ T.getD (p + 6) 0 = 40 := by
  simp only [isAt, rxL, Bool.and_eq_true, beq_iff_eq, decide_eq_true_eq] at h
  exact ⟨h.1.2, h.2.2.2.2.2.2.1.2⟩
theorem lastHit_eq {T : Array Nat} {h q p : Nat} (hh : hitAt T h q) (hp : h ≤ p) (hm : ∀ p', h < p' → p' ≤ p → missAt T p') : lastHit T p = some (h, q) := by
  have nm : ∀ {a b : Nat}, hitAt T a b → ¬ missAt T a := by
    intro a b x y
    rcases y with y | y
    · rw [x.lit] at y; cases y
    · exact y _ x.le x.lt x.cl
  cases e : lastHit T p with
  | none => exact absurd (lastHit_none e h hp) (nm hh)
  | some g =>
    obtain ⟨h2, q2⟩ := g
    obtain ⟨g1, g2, g3⟩ := lastHit_some e
    have e1 : h2 = h := by
      rcases Nat.lt_trichotomy h2 h with x | x | x
      · exact absurd (g3 h x hp) (nm hh)
      · exact x
      · exact absurd (hm h2 x g1) (nm g2)
    subst e1
    have e2 : q2 = q := by
      rcases Nat.lt_trichotomy q2 q with x | x | x
      · exact absurd g2.cl (hh.no _ g2.le x)
      · exact x
      · exact absurd hh.cl (g2.no _ hh.le x)
    rw [e2]
theorem isAt_app (P M : List Nat) (i : Nat) (h : i ≤ M.length) : ∀ r : List Nat, (∃ Z, M.drop i = r ++ Z) → isAt (P ++ M).toArray (P.length + i) r = true := by
  intro r
  induction r generalizing i with
  | nil => intro _; rfl
  | cons c r ih =>
    rintro ⟨Z, hZ⟩
    have hlt : i < M.length := by
      rcases Nat.lt_or_ge i M.length with h' | h'
      · exact h'
      · rw [List.drop_eq_nil_of_le h'] at hZ; cases hZ
    rw [List.drop_eq_getElem_cons hlt] at hZ
    injection hZ with h1 h2
    unfold isAt
    rw [Bool.and_eq_true, Bool.and_eq_true]
    refine ⟨⟨by simp; omega, ?_⟩, ?_⟩
    · rw [arr_getD, getD_add, List.getD_eq_getElem?_getD, List.getElem?_eq_getElem hlt, h1]; simp
    · rw [Nat.add_assoc]
      exact ih (i + 1) hlt ⟨Z, h2⟩
theorem enc_app (a b : List Nat) : enc (a ++ b) = enc a ++ enc b := by simp [enc]
theorem pf_reply {P G R L : List Nat} (hL : L = P ++ (rxL ++ (G ++ 41 :: R))) (h256 : ∀ c ∈ L, c < 256) (hP : 10 ∉ P) (hG : 41 ∉ G) (hR : ∀ p, P.length < p → p ≤ rowLen L.toArray → missAt L.toArray p) : pfOf (enc L) = bsplit (enc G) := by
  have hrl : P.length ≤ rowLen L.toArray := by
    have R0 := rowLen_ok L.toArray
    generalize rowLen L.toArray = r at R0
    rcases Nat.lt_or_ge r P.length with h | h
    · exfalso
      rcases R0.stop with e | e
      · rw [e, hL] at h; simp at h; omega
      · rw [arr_getD, hL, getD_lt h] at e
        exact hP (e ▸ getD_mem h)
    · exact h
  have hh : hitAt L.toArray P.length (P.length + 7 + G.length) := by
    refine ⟨?_, by omega, ?_, ?_, ?_⟩
    · rw [hL]
      exact isAt_app P _ 0 (Nat.zero_le _) rxL ⟨_, rfl⟩
    · rw [hL]; simp [rxL]; omega
    · rw [arr_getD, hL, show P.length + 7 + G.length = P.length + (rxL.length + (G.length + 0)) by simp [rxL]; omega, getD_add, getD_add, getD_add]
      rfl
    · intro j h1 h2
      rw [arr_getD, hL, show j = P.length + (rxL.length + (j - (P.length + 7))) by simp [rxL]; omega, getD_add, getD_add, getD_lt (by omega)]
      exact fun e => hG (e ▸ getD_mem (by omega))
  unfold pfOf
  rw [toNat_enc h256, lastHit_eq hh hrl hR]
  dsimp only
  congr 1
  have e1 : enc L = enc (P ++ rxL) ++ (enc G ++ enc (41 :: R)) := by
    rw [hL, ← enc_app, ← enc_app]; simp only [List.append_assoc]
  have e2 : P.length + 7 = (enc (P ++ rxL)).size := by simp [enc, rxL]
  have e3 : G.length = (enc G).size := by simp [enc]
  rw [e1, e2, e3]
  generalize enc (P ++ rxL) = A
  generalize enc G = B
  generalize enc (41 :: R) = C
  apply Array.ext'
  rw [Array.toList_extract, Array.toList_append, Array.toList_append]
  simp only [List.extract, Nat.add_sub_cancel_left]
  rw [← Array.length_toList, ← Array.length_toList, List.drop_left, List.take_left]
/-- names with a gap between two -/
noncomputable def joinL (g : List Nat) : List (List Nat) → List Nat
  | [] => []
  | [n] => n
  | n :: m :: r => n ++ g ++ joinL g (m :: r)
theorem joined_go (g : Array UInt8) : ∀ (l : List (Array UInt8)) (k : Nat) (acc : Array UInt8), 0 < k →
    ((l.zipIdx k).foldl (fun out (x : Array UInt8 × Nat) => (if x.2 > 0 then out ++ g else out) ++ x.1) acc) = l.foldl (fun out x => out ++ g ++ x) acc
  | [], _, _, _ => rfl
  | x :: r, k, acc, hk => by
    rw [List.zipIdx_cons, List.foldl_cons, List.foldl_cons, joined_go g r (k + 1) _ (by omega)]
    simp only [gt_iff_lt, hk, if_true]
theorem fold_join (g : List Nat) : ∀ (r : List (List Nat)) (n : List Nat), (r.map enc).foldl (fun out x => out ++ enc g ++ x) (enc n) = enc (joinL g (n :: r))
  | [], n => rfl
  | m :: r, n => by
    rw [List.map_cons, List.foldl_cons, ← enc_app, ← enc_app, fold_join g r]
    cases r with
    | nil => rfl
    | cons k r =>
      show enc (n ++ g ++ m ++ g ++ joinL g (k :: r)) = enc (n ++ g ++ (m ++ g ++ joinL g (k :: r)))
      simp only [List.append_assoc]
theorem joined_enc (g : List Nat) (ns : List (List Nat)) : Builtin.Bytes.joined (enc g) (ns.map enc) = enc (joinL g ns) := by
  cases ns with
  | nil => rfl
  | cons n r =>
    unfold Builtin.Bytes.joined
    rw [List.map_cons, List.zipIdx_cons, List.foldl_cons]
    have : ((fun (out : Array UInt8) (x : Array UInt8 × Nat) => match x with | (p, i) => (if i > 0 then out ++ enc g else out) ++ p)) = fun out x => (if x.2 > 0 then out ++ enc g else out) ++ x.1 := rfl
    rw [this, joined_go _ _ _ _ (by omega), ← fold_join]
    congr 1
    simp
noncomputable def blank (c : Nat) : Prop := c = 32 ∨ c = 9 ∨ c = 13 ∨ c = 10
theorem sp_yes {c : Nat} (h : blank c) : Builtin.Bytes.isSpace c.toUInt8 = true := by
  rcases h with rfl | rfl | rfl | rfl <;> rfl
theorem sp_no {c : Nat} (h : 33 ≤ c ∧ c < 127) : Builtin.Bytes.isSpace c.toUInt8 = false := by
  have : ∀ c, c < 127 → 33 ≤ c → Builtin.Bytes.isSpace c.toUInt8 = false := by decide +kernel
  exact this c h.2 h.1
theorem drop_sp {g t : List Nat} (h : ∀ c ∈ g, blank c) : ((g ++ t).map (·.toUInt8)).dropWhile Builtin.Bytes.isSpace = (t.map (·.toUInt8)).dropWhile Builtin.Bytes.isSpace := by
  induction g with
  | nil => rfl
  | cons c r ih =>
    rw [List.cons_append, List.map_cons, List.dropWhile_cons, sp_yes (h c (List.mem_cons_self ..)), if_pos rfl]
    exact ih fun d hd => h d (List.mem_cons_of_mem _ hd)
theorem words_gap {g t : List Nat} (h : ∀ c ∈ g, blank c) (f k : Nat) : Builtin.Bytes.words f k ((g ++ t).map (·.toUInt8)) = Builtin.Bytes.words f k (t.map (·.toUInt8)) := by
  cases f with
  | zero => rfl
  | succ f =>
    unfold Builtin.Bytes.words
    rw [drop_sp h]
noncomputable def gapOk (g : List Nat) : Prop := g ≠ [] ∧ ∀ c ∈ g, blank c
noncomputable def nmOk (n : List Nat) : Prop := n ≠ [] ∧ ∀ c ∈ n, 33 ≤ c ∧ c < 127
theorem take_nm {n t : List Nat} (hn : ∀ c ∈ n, 33 ≤ c ∧ c < 127) (ht : t = [] ∨ ∃ c r, t = c :: r ∧ blank c) :
    ((n ++ t).map (·.toUInt8)).takeWhile (fun c => !Builtin.Bytes.isSpace c) = n.map (·.toUInt8) ∧ ((n ++ t).map (·.toUInt8)).dropWhile (fun c => !Builtin.Bytes.isSpace c) = t.map (·.toUInt8) := by
  induction n with
  | nil =>
    rcases ht with rfl | ⟨c, r, rfl, hc⟩
    · exact ⟨rfl, rfl⟩
    · simp only [List.nil_append, List.map_cons, List.takeWhile_cons, List.dropWhile_cons, sp_yes hc, Bool.not_true, Bool.false_eq_true, if_false, List.map_nil, and_self]
  | cons c r ih =>
    obtain ⟨i1, i2⟩ := ih fun d hd => hn d (List.mem_cons_of_mem _ hd)
    have hc := sp_no (hn c (List.mem_cons_self ..))
    simp only [List.cons_append, List.map_cons, List.takeWhile_cons, List.dropWhile_cons, hc, Bool.not_false, if_true, i1, i2, and_self]
theorem words_join {g : List Nat} (hg : gapOk g) : ∀ (ns : List (List Nat)) (f k : Nat), (∀ n ∈ ns, nmOk n) → ns.length < f → ns.length ≤ k → Builtin.Bytes.words f k ((joinL g ns).map (·.toUInt8)) = ns.map fun n => n.map (·.toUInt8)
  | [], f + 1, k, _, _, _ => by simp [joinL, Builtin.Bytes.words]
  | n :: r, f + 1, k, hn, hf, hk => by
    obtain ⟨hne, hc⟩ := hn n (List.mem_cons_self ..)
    simp only [List.length_cons] at hf hk
    have ht : ∃ t, joinL g (n :: r) = n ++ t ∧ (t = [] ∨ ∃ c r, t = c :: r ∧ blank c) ∧ ∀ f k, Builtin.Bytes.words f k (t.map (·.toUInt8)) = Builtin.Bytes.words f k ((joinL g r).map (·.toUInt8)) := by
      cases r with
      | nil => exact ⟨[], by simp [joinL], .inl rfl, fun _ _ => rfl⟩
      | cons m r =>
        refine ⟨g ++ joinL g (m :: r), by simp [joinL], ?_, fun f k => words_gap hg.2 f k⟩
        cases g with
        | nil => exact absurd rfl hg.1
        | cons c q => exact .inr ⟨_, _, rfl, hg.2 c (List.mem_cons_self ..)⟩
    obtain ⟨t, e1, e2, e3⟩ := ht
    obtain ⟨t1, t2⟩ := take_nm hc e2
    have hd : ((n ++ t).map (·.toUInt8)).dropWhile Builtin.Bytes.isSpace = (n ++ t).map (·.toUInt8) := by
      cases n with
      | nil => exact absurd rfl hne
      | cons c q =>
        rw [List.cons_append, List.map_cons, List.dropWhile_cons, sp_no (hc c (List.mem_cons_self ..))]
        rfl
    have hne2 : (n ++ t).map (·.toUInt8) ≠ [] := by
      cases n with
      | nil => exact absurd rfl hne
      | cons c q => exact fun e => by cases e
    rw [e1]
    unfold Builtin.Bytes.words
    rw [hd]
    generalize hX : (n ++ t).map (·.toUInt8) = X at *
    cases X with
    | nil => exact absurd rfl hne2
    | cons x X =>
      dsimp only
      rw [if_neg (by simp; omega), t1, t2, e3, words_join hg r f (k - 1) (fun m hm => hn m (List.mem_cons_of_mem _ hm)) (by omega) (by omega)]
      rfl
theorem join_len {g : List Nat} : ∀ {ns : List (List Nat)}, (∀ n ∈ ns, nmOk n) → ns.length ≤ (joinL g ns).length
  | [], _ => Nat.zero_le _
  | [n], h => by
    have := List.length_pos_iff.mpr (h n (List.mem_cons_self ..)).1
    simp only [joinL, List.length_cons, List.length_nil]; omega
  | n :: m :: r, h => by
    have := List.length_pos_iff.mpr (h n (List.mem_cons_self ..)).1
    have := join_len (g := g) fun k hk => h k (List.mem_cons_of_mem n hk)
    simp only [joinL, List.length_append, List.length_cons] at *
    omega
theorem bsplit_join {g : List Nat} (hg : gapOk g) {ns : List (List Nat)} (hn : ∀ n ∈ ns, nmOk n) : bsplit (enc (joinL g ns)) = ns.map enc := by
  unfold bsplit
  have hs : (enc (joinL g ns)).size = (joinL g ns).length := by simp [enc]
  have := join_len (g := g) hn
  rw [hs]
  show (Builtin.Bytes.words _ _ ((joinL g ns).map (·.toUInt8))).map _ = _
  rw [words_join hg ns _ _ hn (by omega) (by omega)]
  simp [enc]
end Mine
end
section
open PySem PySem.W PyProof.Rows PySem.Calls
set_option maxRecDepth 100000
namespace Mine
theorem and0 : ∀ f, f < 32 → ∀ o, o < 32 → ((f &&& o) == 0) = ((List.range 5).all fun k => !(bit f k && bit o k)) := by decide +kernel
theorem sub0 : ∀ f, f < 32 → ∀ o, o < 32 → ((o &&& f) == o) = ((List.range 5).all fun k => !bit o k || bit f k) := by decide +kernel
theorem ext0 : ∀ f, f < 32 → ∀ o, o < 32 → (f == o) = ((List.range 5).all fun k => bit f k == bit o k) := by decide +kernel
theorem del0 : ∀ f, f < 32 → ∀ k, k < 5 → ∀ j, j < 5 → bit f k = true → bit (f - 2 ^ k) j = (bit f j && j != k) := by decide +kernel
theorem com0 : ∀ f, f < 32 → ∀ k, k < 5 → bit (31 - f) k = !bit f k := by decide +kernel
theorem pos0 : ∀ f, f < 32 → f ≠ 0 → ∃ k, k < 5 ∧ bit f k = true := by
  have : ∀ f, f < 32 → f ≠ 0 → ((List.range 5).any (bit f)) = true := by decide +kernel
  intro f hf h0
  have := this f hf h0
  rw [List.any_eq_true] at this
  obtain ⟨k, hk, hb⟩ := this
  exact ⟨k, List.mem_range.mp hk, hb⟩
theorem make0 (p : Nat → Bool) : ∃ f, f < 32 ∧ ∀ k, k < 5 → bit f k = p k := by
  have : ∀ a b c d e : Bool, ∃ f, f < 32 ∧ bit f 0 = a ∧ bit f 1 = b ∧ bit f 2 = c ∧ bit f 3 = d ∧ bit f 4 = e := by
    intro a b c d e
    refine ⟨a.toNat + 2 * b.toNat + 4 * c.toNat + 8 * d.toNat + 16 * e.toNat, ?_⟩
    cases a <;> cases b <;> cases c <;> cases d <;> cases e <;> decide
  obtain ⟨f, h, h0, h1, h2, h3, h4⟩ := this (p 0) (p 1) (p 2) (p 3) (p 4)
  refine ⟨f, h, fun k hk => ?_⟩
  match k, hk with
  | 0, _ => exact h0
  | 1, _ => exact h1
  | 2, _ => exact h2
  | 3, _ => exact h3
  | 4, _ => exact h4
/-- o lies in f -/
noncomputable def Sub (o f : Nat) : Prop := ∀ k, k < 5 → bit o k = true → bit f k = true
theorem sub_iff {o f : Nat} (hf : f < 32) (ho : o < 32) : ((o &&& f) == o) = true ↔ Sub o f := by
  rw [sub0 f hf o ho, List.all_eq_true]
  constructor
  · intro h k hk hb
    have := h k (List.mem_range.mpr hk)
    rw [hb] at this; simpa using this
  · intro h k hk
    have := h k (List.mem_range.mp hk)
    cases hb : bit o k
    · rfl
    · simp [this hb]
theorem sub_ext {o f : Nat} (hf : f < 32) (ho : o < 32) (h1 : Sub o f) (h2 : Sub f o) : o = f := by
  have := ext0 o ho f hf
  rw [← beq_iff_eq, this, List.all_eq_true]
  intro k hk
  have hk := List.mem_range.mp hk
  have a := h1 k hk
  have b := h2 k hk
  cases h : bit o k <;> cases h' : bit f k <;> simp_all
theorem hit_iff {f o : Nat} (hf : f < 32) (ho : o < 32) : ((f &&& o) == 0) = false ↔ ∃ k, k < 5 ∧ bit f k = true ∧ bit o k = true := by
  rw [and0 f hf o ho]
  constructor
  · intro h
    rw [List.all_eq_false] at h
    obtain ⟨k, hk, h⟩ := h
    refine ⟨k, List.mem_range.mp hk, ?_⟩
    simpa using h
  · rintro ⟨k, hk, h1, h2⟩
    rw [List.all_eq_false]
    exact ⟨k, List.mem_range.mpr hk, by simp [h1, h2]⟩
noncomputable def Small (F : List Nat) : Prop := ∀ o ∈ F, o < 32
theorem meet_iff {F : List Nat} (hF : Small F) {f : Nat} (hf : f < 32) : meetB F f = true ↔ ∀ o ∈ F, ∃ k, k < 5 ∧ bit f k = true ∧ bit o k = true := by
  unfold meetB
  rw [List.isEmpty_iff, List.filter_eq_nil_iff]
  constructor
  · intro h o ho
    have := h o ho
    exact (hit_iff hf (hF o ho)).mp (by simpa using this)
  · intro h o ho
    have := (hit_iff hf (hF o ho)).mpr (h o ho)
    rw [this]; simp
theorem blkB_iff {F : List Nat} {f : Nat} : blkB F f = true ↔ meetB F f = true ∧ ∀ k, k < 5 → bit f k = true → meetB F (f - 2 ^ k) = false := by
  unfold blkB spareN
  rw [Bool.and_eq_true, List.isEmpty_iff, List.filter_eq_nil_iff]
  refine and_congr_right fun _ => ?_
  constructor
  · intro h k hk hb
    have := h k (List.mem_range.mpr hk)
    rw [hb] at this; simpa using this
  · intro h k hk hc
    rw [Bool.and_eq_true] at hc
    rw [h k (List.mem_range.mp hk) hc.1] at hc
    cases hc.2
theorem mem_blk {F : List Nat} {f : Nat} : f ∈ blk F ↔ f < 32 ∧ blkB F f = true := by
  unfold blk
  rw [List.mem_filter, List.mem_range]
theorem blk_small (F : List Nat) : Small (blk F) := fun o ho => (mem_blk.mp ho).1
theorem del_sub {f k : Nat} (hf : f < 32) (hk : k < 5) (hb : bit f k = true) : Sub (f - 2 ^ k) f := by
  intro j hj h
  rw [del0 f hf k hk j hj hb] at h
  simp at h; exact h.1
theorem blk_below {F : List Nat} : ∀ (g : Nat), g < 32 → meetB F g = true → ∃ b ∈ blk F, Sub b g := by
  intro g
  induction g using Nat.strongRecOn with
  | ind g ih =>
    intro hg hm
    by_cases hb : blkB F g = true
    · exact ⟨g, mem_blk.mpr ⟨hg, hb⟩, fun _ _ h => h⟩
    · rw [blkB_iff] at hb
      have : ∃ k, k < 5 ∧ bit g k = true ∧ meetB F (g - 2 ^ k) = true := by
        apply Classical.byContradiction
        intro hn
        refine hb ⟨hm, fun k hk h => ?_⟩
        cases hq : meetB F (g - 2 ^ k)
        · rfl
        · exact absurd ⟨k, hk, h, hq⟩ hn
      obtain ⟨k, hk, h1, h2⟩ := this
      have hle := bit_le h1
      have hp : 0 < 2 ^ k := Nat.two_pow_pos k
      obtain ⟨b, hb1, hb2⟩ := ih (g - 2 ^ k) (by omega) (by omega) h2
      exact ⟨b, hb1, fun j hj h => del_sub hg hk h1 j hj (hb2 j hj h)⟩
theorem meet_blk {F : List Nat} (hF : Small F) {f : Nat} (hf : f < 32) : meetB (blk F) f = true ↔ ∃ o ∈ F, Sub o f := by
  rw [meet_iff (blk_small F) hf]
  constructor
  · intro h
    apply Classical.byContradiction
    intro hn
    have hm : meetB F (31 - f) = true := by
      rw [meet_iff hF (by omega)]
      intro o ho
      apply Classical.byContradiction
      intro hc
      refine hn ⟨o, ho, fun k hk hb => ?_⟩
      cases hq : bit f k
      · exact absurd ⟨k, hk, by rw [com0 f hf k hk, hq]; rfl, hb⟩ hc
      · rfl
    obtain ⟨b, hb, hs⟩ := blk_below (31 - f) (by omega) hm
    obtain ⟨k, hk, h1, h2⟩ := h b hb
    have := hs k hk h2
    rw [com0 f hf k hk, h1] at this
    cases this
  · rintro ⟨o, ho, hs⟩ b hb
    obtain ⟨hb1, hb2⟩ := mem_blk.mp hb
    obtain ⟨k, hk, h1, h2⟩ := (meet_iff hF hb1).mp (blkB_iff.mp hb2).1 o ho
    exact ⟨k, hk, hs k hk h2, h1⟩
theorem blk_blk {F : List Nat} (hF : Small F) {f : Nat} (hf : f < 32) : blkB (blk F) f = true ↔ f ∈ F ∧ ∀ o ∈ F, Sub o f → o = f := by
  rw [blkB_iff, meet_blk hF hf]
  have key : ∀ k, k < 5 → bit f k = true → (meetB (blk F) (f - 2 ^ k) = false ↔ ¬ ∃ o ∈ F, Sub o (f - 2 ^ k)) := by
    intro k hk hb
    rw [← meet_blk hF (Nat.lt_of_le_of_lt (Nat.sub_le f (2 ^ k)) hf)]
    simp
  constructor
  · rintro ⟨⟨o, ho, hs⟩, h2⟩
    have all : ∀ o ∈ F, Sub o f → o = f := by
      intro o ho hs
      apply Classical.byContradiction
      intro hne
      have : ¬ Sub f o := fun h => hne (sub_ext hf (hF o ho) hs h)
      apply this
      intro k hk hb
      cases hq : bit o k
      · exfalso
        refine (key k hk hb).mp (h2 k hk hb) ⟨o, ho, fun j hj hj' => ?_⟩
        rw [del0 f hf k hk j hj hb, hs j hj hj']
        by_cases hjk : j = k
        · subst hjk; rw [hq] at hj'; cases hj'
        · simp [hjk]
      · rfl
    exact ⟨all o ho hs ▸ ho, all⟩
  · rintro ⟨h1, h2⟩
    refine ⟨⟨f, h1, fun _ _ h => h⟩, fun k hk hb => (key k hk hb).mpr ?_⟩
    rintro ⟨o, ho, hs⟩
    have e := h2 o ho fun j hj h => del_sub hf hk hb j hj (hs j hj h)
    subst e
    have := hs k hk hb
    rw [del0 o hf k hk k hk hb] at this
    simp at this
end Mine
end
section
open PySem PySem.W PyProof.Rows PySem.Calls
set_option maxRecDepth 100000
namespace Mine
noncomputable def minL : List Int → Int
  | [] => 0
  | n :: r => r.foldl min n
noncomputable def maxL : List Int → Int
  | [] => 0
  | n :: r => r.foldl max n
theorem fmin_spec : ∀ (r : List Int) (n : Int), (r.foldl min n = n ∨ r.foldl min n ∈ r) ∧ r.foldl min n ≤ n ∧ ∀ x ∈ r, r.foldl min n ≤ x
  | [], n => ⟨.inl rfl, Int.le_refl _, fun _ h => by cases h⟩
  | m :: r, n => by
    obtain ⟨h1, h2, h3⟩ := fmin_spec r (min n m)
    rw [List.foldl_cons]
    refine ⟨?_, by omega, fun x hx => ?_⟩
    · rcases h1 with h1 | h1
      · rw [h1]
        rcases Int.le_total n m with h | h
        · left; omega
        · right; rw [show min n m = m by omega]; exact List.mem_cons_self ..
      · exact .inr (List.mem_cons_of_mem _ h1)
    · rcases List.mem_cons.mp hx with rfl | hx
      · omega
      · exact h3 x hx
theorem fmax_spec : ∀ (r : List Int) (n : Int), (r.foldl max n = n ∨ r.foldl max n ∈ r) ∧ n ≤ r.foldl max n ∧ ∀ x ∈ r, x ≤ r.foldl max n
  | [], n => ⟨.inl rfl, Int.le_refl _, fun _ h => by cases h⟩
  | m :: r, n => by
    obtain ⟨h1, h2, h3⟩ := fmax_spec r (max n m)
    rw [List.foldl_cons]
    refine ⟨?_, by omega, fun x hx => ?_⟩
    · rcases h1 with h1 | h1
      · rw [h1]
        rcases Int.le_total n m with h | h
        · right; rw [show max n m = m by omega]; exact List.mem_cons_self ..
        · left; omega
      · exact .inr (List.mem_cons_of_mem _ h1)
    · rcases List.mem_cons.mp hx with rfl | hx
      · omega
      · exact h3 x hx
theorem minL_spec {l : List Int} (h : l ≠ []) : minL l ∈ l ∧ ∀ x ∈ l, minL l ≤ x := by
  cases l with
  | nil => exact absurd rfl h
  | cons n r =>
    obtain ⟨h1, h2, h3⟩ := fmin_spec r n
    refine ⟨?_, fun x hx => ?_⟩
    · rcases h1 with h1 | h1
      · show r.foldl min n ∈ _
        rw [h1]; exact List.mem_cons_self ..
      · exact List.mem_cons_of_mem _ h1
    · rcases List.mem_cons.mp hx with rfl | hx
      · exact h2
      · exact h3 x hx
theorem maxL_spec {l : List Int} (h : l ≠ []) : maxL l ∈ l ∧ ∀ x ∈ l, x ≤ maxL l := by
  cases l with
  | nil => exact absurd rfl h
  | cons n r =>
    obtain ⟨h1, h2, h3⟩ := fmax_spec r n
    refine ⟨?_, fun x hx => ?_⟩
    · rcases h1 with h1 | h1
      · show r.foldl max n ∈ _
        rw [h1]; exact List.mem_cons_self ..
      · exact List.mem_cons_of_mem _ h1
    · rcases List.mem_cons.mp hx with rfl | hx
      · exact h2
      · exact h3 x hx
theorem mem_nums {W : Nat → Int} {f : Nat} {x : Int} : x ∈ numsN W f ↔ ∃ k, k < 5 ∧ bit f k = true ∧ W k = x := by
  unfold numsN
  rw [List.mem_map]
  constructor
  · rintro ⟨k, hk, rfl⟩
    rw [List.mem_filter, List.mem_range] at hk
    exact ⟨k, hk.1, hk.2, rfl⟩
  · rintro ⟨k, h1, h2, rfl⟩
    exact ⟨k, by rw [List.mem_filter, List.mem_range]; exact ⟨h1, h2⟩, rfl⟩
theorem nums_ne {W : Nat → Int} {f : Nat} (hf : f < 32) (h0 : f ≠ 0) : numsN W f ≠ [] := by
  obtain ⟨k, hk, hb⟩ := pos0 f hf h0
  have : W k ∈ numsN W f := mem_nums.mpr ⟨k, hk, hb, rfl⟩
  intro e; rw [e] at this; cases this
noncomputable def lowN (W : Nat → Int) (f : Nat) : Int := minL (numsN W f)
noncomputable def topN (W : Nat → Int) (f : Nat) : Int := maxL (numsN W f)
theorem bottle {W : Nat → Int} {F : List Nat} (hF : Small F) (hne : F ≠ []) (h0 : 0 ∉ F) :
    blk F ≠ [] ∧ 0 ∉ blk F ∧ minL ((blk F).map (topN W)) = maxL (F.map (lowN W)) := by
  have z : ∀ b ∈ blk F, b ≠ 0 := by
    rintro b hb rfl
    obtain ⟨o, ho⟩ := List.exists_mem_of_ne_nil F hne
    obtain ⟨k, hk, h1, h2⟩ := (meet_iff hF (by decide)).mp (blkB_iff.mp (mem_blk.mp hb).2).1 o ho
    unfold bit at h1
    simp at h1
  have hFm : F.map (lowN W) ≠ [] := by simpa using hne
  obtain ⟨m1, m2⟩ := maxL_spec hFm
  generalize hM : maxL (F.map (lowN W)) = M at *
  obtain ⟨g, hg, hgp⟩ := make0 fun k => decide (W k ≤ M)
  have hm : meetB F g = true := by
    rw [meet_iff hF hg]
    intro o ho
    have hno := nums_ne (W := W) (hF o ho) (fun e => h0 (e ▸ ho))
    obtain ⟨k, hk, hb, e⟩ := mem_nums.mp (minL_spec hno).1
    refine ⟨k, hk, ?_, hb⟩
    rw [hgp k hk, e]
    have := m2 (lowN W o) (List.mem_map_of_mem ho)
    unfold lowN at this
    simpa using this
  obtain ⟨b, hb, hs⟩ := blk_below g hg hm
  have hB : blk F ≠ [] := fun e => by rw [e] at hb; cases hb
  refine ⟨hB, fun h => z 0 h rfl, ?_⟩
  have hBm : (blk F).map (topN W) ≠ [] := by simpa using hB
  obtain ⟨n1, n2⟩ := minL_spec hBm
  apply Int.le_antisymm
  · refine Int.le_trans (n2 _ (List.mem_map_of_mem hb)) ?_
    have hnb := nums_ne (W := W) (blk_small F b hb) (z b hb)
    obtain ⟨k, hk, hbk, e⟩ := mem_nums.mp (maxL_spec hnb).1
    have := hgp k hk
    rw [hs k hk hbk] at this
    unfold topN
    rw [← e]
    simpa using this.symm
  · obtain ⟨c, hc, e⟩ := List.mem_map.mp n1
    obtain ⟨o, ho, eo⟩ := List.mem_map.mp m1
    rw [← e, ← eo]
    obtain ⟨k, hk, h1, h2⟩ := (meet_iff hF (blk_small F c hc)).mp (blkB_iff.mp (mem_blk.mp hc).2).1 o ho
    have hno := nums_ne (W := W) (hF o ho) (fun e => h0 (e ▸ ho))
    have hnc := nums_ne (W := W) (blk_small F c hc) (z c hc)
    have a1 := (minL_spec hno).2 (W k) (mem_nums.mpr ⟨k, hk, h2, rfl⟩)
    have a2 := (maxL_spec hnc).2 (W k) (mem_nums.mpr ⟨k, hk, h1, rfl⟩)
    unfold lowN topN
    omega
end Mine
end
section
open PySem PySem.W PyProof.Rows PySem.Calls
set_option maxRecDepth 100000
namespace Mine
noncomputable def bl (x : String) : List Nat := x.toList.map Char.toNat
noncomputable def tail0 : List Nat := [41, 32, 102, 108, 97, 103, 115, 32, 40, 115, 109, 97, 108, 108, 41, 32, 70, 76, 65, 71, 83, 32, 40, 110, 101, 118, 101, 114]
noncomputable def tail1 : List Nat := [41, 13, 10, 42, 32, 70, 76, 65, 71, 83, 32, 40, 108, 97, 116, 101, 114, 41]
noncomputable def rep0 : List Nat := [42, 32, 91, 80, 69, 82, 77, 65, 78, 69, 78, 84, 70, 76, 65, 71, 83, 32, 40, 92, 42, 41, 93, 32, 70, 69, 84, 67, 72, 32, 40]
theorem late {P G R : List Nat} (hG : 40 ∉ G) {p : Nat} (hp : P.length < p) (h : isAt (P ++ (rxL ++ (G ++ 41 :: R))).toArray p rxL = true) :
    ∃ j, p + 6 = P.length + (7 + (G.length + (1 + j))) ∧ R.getD j 0 = 40 := by
  obtain ⟨_, h2⟩ := isAt_ends h
  rw [arr_getD] at h2
  rcases Nat.lt_or_ge (p + 6) (P.length + (7 + (G.length + 1))) with h' | h'
  · exfalso
    rw [show p + 6 = P.length + (rxL.length + (p - 1 - P.length)) by simp [rxL]; omega, getD_add, getD_add] at h2
    rcases Nat.lt_or_ge (p - 1 - P.length) G.length with h3 | h3
    · rw [getD_lt h3] at h2
      exact hG (h2 ▸ getD_mem h3)
    · rw [show p - 1 - P.length = G.length + 0 by omega, getD_add] at h2
      cases h2
  · refine ⟨p + 6 - (P.length + (7 + (G.length + 1))), by omega, ?_⟩
    rw [show p + 6 = P.length + (rxL.length + (G.length + ((p + 6 - (P.length + (7 + (G.length + 1)))) + 1))) by simp [rxL]; omega, getD_add, getD_add, getD_add, List.getD_cons_succ] at h2
    exact h2
theorem getD_big {R : List Nat} {j : Nat} (h : R.length ≤ j) : R.getD j 0 = 0 := by
  simp [List.getD_eq_getElem?_getD, List.getElem?_eq_none h]
theorem at_R (P G R : List Nat) (i j : Nat) (h : i = P.length + (7 + (G.length + (1 + j)))) : (P ++ (rxL ++ (G ++ 41 :: R))).toArray.getD i 0 = R.getD j 0 := by
  rw [arr_getD, h, show P.length + (7 + (G.length + (1 + j))) = P.length + (rxL.length + (G.length + (j + 1))) by simp [rxL]; omega, getD_add, getD_add, getD_add, List.getD_cons_succ]
theorem t0_40 {j : Nat} (h : tail0.getD j 0 = 40) : j = 8 ∨ j = 22 := by
  rcases Nat.lt_or_ge j 28 with h' | h'
  · have : ∀ j, j < 28 → tail0.getD j 0 = 40 → j = 8 ∨ j = 22 := by decide
    exact this j h' h
  · rw [getD_big (by simpa [tail0] using h')] at h; cases h
theorem t0_41 {j : Nat} (h : 23 ≤ j) : tail0.getD j 0 ≠ 41 := by
  rcases Nat.lt_or_ge j 28 with h' | h'
  · have : ∀ j, j < 28 → 23 ≤ j → tail0.getD j 0 ≠ 41 := by decide
    exact this j h' h
  · rw [getD_big (by simpa [tail0] using h')]; decide
theorem t1_40 {j : Nat} (h : j ≤ 8) : tail1.getD j 0 ≠ 40 := by
  have : ∀ j, j < 9 → tail1.getD j 0 ≠ 40 := by decide
  exact this j (by omega)
theorem pf0 {P G : List Nat} (h256 : ∀ c ∈ P ++ (rxL ++ (G ++ 41 :: tail0)), c < 256) (hP : 10 ∉ P) (hG : 41 ∉ G) (hG4 : 40 ∉ G) : pfOf (enc (P ++ (rxL ++ (G ++ 41 :: tail0)))) = bsplit (enc G) := by
  refine pf_reply rfl h256 hP hG fun p h1 _ => ?_
  cases h : isAt (P ++ (rxL ++ (G ++ 41 :: tail0))).toArray p rxL
  · exact .inl h
  · obtain ⟨j, e, hj⟩ := late hG4 h1 h
    rcases t0_40 hj with rfl | rfl
    · have := (isAt_ends h).1
      rw [at_R P G tail0 p 2 (by omega)] at this
      cases this
    · refine .inr fun q hq _ => ?_
      rw [at_R P G tail0 q (q - (P.length + (7 + (G.length + 1)))) (by omega)]
      exact t0_41 (by omega)
theorem pf1 {P G : List Nat} (h256 : ∀ c ∈ P ++ (rxL ++ (G ++ 41 :: tail1)), c < 256) (hP : 10 ∉ P) (hG : 41 ∉ G) (hG4 : 40 ∉ G) : pfOf (enc (P ++ (rxL ++ (G ++ 41 :: tail1)))) = bsplit (enc G) := by
  refine pf_reply rfl h256 hP hG fun p h1 h2 => ?_
  cases h : isAt (P ++ (rxL ++ (G ++ 41 :: tail1))).toArray p rxL
  · exact .inl h
  · exfalso
    obtain ⟨j, e, hj⟩ := late hG4 h1 h
    have hr : rowLen (P ++ (rxL ++ (G ++ 41 :: tail1))).toArray ≤ P.length + (7 + (G.length + (1 + 2))) := by
      apply Classical.byContradiction
      intro hn
      have := (rowLen_ok (P ++ (rxL ++ (G ++ 41 :: tail1))).toArray).ok (P.length + (7 + (G.length + (1 + 2)))) (by omega)
      rw [at_R P G tail1 _ 2 rfl] at this
      exact this rfl
    exact t1_40 (by omega) hj
theorem mem_joinL {g : List Nat} {c : Nat} : ∀ {ns : List (List Nat)}, c ∈ joinL g ns → c ∈ g ∨ ∃ n ∈ ns, c ∈ n
  | [], h => by cases h
  | [n], h => .inr ⟨n, List.mem_cons_self .., h⟩
  | n :: m :: r, h => by
    simp only [joinL, List.mem_append] at h
    rcases h with (h | h) | h
    · exact .inr ⟨n, List.mem_cons_self .., h⟩
    · exact .inl h
    · rcases mem_joinL h with h | ⟨k, hk, h⟩
      · exact .inl h
      · exact .inr ⟨k, List.mem_cons_of_mem _ hk, h⟩
theorem joinL_len {g : List Nat} (hg : g.length ≤ 2) : ∀ {ns : List (List Nat)}, (∀ n ∈ ns, n.length ≤ 100) → (joinL g ns).length ≤ 102 * ns.length
  | [], _ => Nat.zero_le _
  | [n], h => by
    have := h n (List.mem_cons_self ..)
    simp only [joinL, List.length_cons, List.length_nil]; omega
  | n :: m :: r, h => by
    have h1 := h n (List.mem_cons_self ..)
    have h2 := joinL_len hg (ns := m :: r) fun k hk => h k (List.mem_cons_of_mem n hk)
    simp only [joinL, List.length_append, List.length_cons] at *
    omega
theorem T2_pf (b : Array UInt8) : T2.fn "ParseFlags" [.bytes b] = if 8 ≤ b.size ∧ b.size ≤ 16000000 then some (.tuple ((pfOf b).map .bytes)) else none := by kernel_rfl
/-- a name that may stand in a list -/
noncomputable def Nm (n : List Nat) : Prop := (∀ c ∈ n, 33 ≤ c ∧ c < 127 ∧ c ≠ 40 ∧ c ≠ 41) ∧ n ≠ [] ∧ n.length ≤ 100
theorem Nm.ok {n : List Nat} (h : Nm n) : nmOk n := ⟨h.2.1, fun c hc => ⟨(h.1 c hc).1, (h.1 c hc).2.1⟩⟩
theorem told_part {P g : List Nat} {ns : List (List Nat)} {R : List Nat} (hR : R = tail0 ∨ R = tail1) (hP : ∀ c ∈ P, c < 128 ∧ c ≠ 10) (hPl : P.length ≤ 100000) (hg : gapOk g) (hgl : g.length ≤ 2) (hn : ∀ n ∈ ns, Nm n) (hl : ns.length ≤ 32) :
    T2.fn "ParseFlags" [.bytes (enc (P ++ (rxL ++ (joinL g ns ++ 41 :: R))))] = some (.tuple (ns.map fun n => .bytes (enc n))) := by
  have hz := joinL_len (g := g) hgl fun n h => (hn n h).2.2
  have hbl : ∀ c, blank c → c < 128 ∧ c ≠ 40 ∧ c ≠ 41 := by
    intro c h
    rcases h with rfl | rfl | rfl | rfl <;> decide
  have hG : ∀ c ∈ joinL g ns, c < 128 ∧ c ≠ 40 ∧ c ≠ 41 := by
    intro c hc
    rcases mem_joinL hc with h | ⟨n, h1, h2⟩
    · exact hbl c (hg.2 c h)
    · have := (hn n h1).1 c h2
      omega
  have hRl : R.length ≤ 28 ∧ ∀ c ∈ R, c < 128 := by
    rcases hR with rfl | rfl <;> decide
  have h256 : ∀ c ∈ P ++ (rxL ++ (joinL g ns ++ 41 :: R)), c < 256 := by
    intro c hc
    simp only [List.mem_append, List.mem_cons] at hc
    rcases hc with h | h | h | h | h
    · have := (hP c h).1; omega
    · have : ∀ c ∈ rxL, c < 256 := by decide
      exact this c h
    · have := (hG c h).1; omega
    · omega
    · have := hRl.2 c h; omega
  have hsz : (enc (P ++ (rxL ++ (joinL g ns ++ 41 :: R)))).size = P.length + (7 + ((joinL g ns).length + (R.length + 1))) := by simp [enc, rxL]; omega
  rw [T2_pf, if_pos (by rw [hsz]; omega)]
  have key : pfOf (enc (P ++ (rxL ++ (joinL g ns ++ 41 :: R)))) = bsplit (enc (joinL g ns)) := by
    have a1 : 10 ∉ P := fun h => (hP 10 h).2 rfl
    have a2 : 41 ∉ joinL g ns := fun h => (hG 41 h).2.2 rfl
    have a3 : 40 ∉ joinL g ns := fun h => (hG 40 h).2.1 rfl
    rcases hR with rfl | rfl
    · exact pf0 h256 a1 a2 a3
    · exact pf1 h256 a1 a2 a3
  rw [key, bsplit_join hg fun n h => (hn n h).ok, List.map_map]
  rfl
theorem told_first : T2.fn "ParseFlags" [.bytes (enc rep0)] = some (.tuple [.bytes #[92, 42]]) := by
  rw [T2_pf]; kernel_rfl
theorem told_row : T2.fn "ParseFlags" [.bytes (enc (10 :: rep0))] = some (.tuple []) := by
  rw [T2_pf]; kernel_rfl
end Mine
end
section
open PySem PySem.W PyProof.Rows PySem.Calls
set_option maxRecDepth 100000
namespace Mine
noncomputable def sliceI (ns : List Int) (a b c : Option Int) : List Int := (sliceRange (sliceBounds a b c ns.length).1 (sliceBounds a b c ns.length).2.1 (sliceBounds a b c ns.length).2.2).filterMap (ns[·]?)
theorem slice_int (ns : List Int) (a b c : Option Int) : slice (ns.map .int) a b c = (sliceI ns a b c).map .int := by
  unfold slice sliceI
  rw [List.length_map, List.map_filterMap]
  congr 1
  funext i
  simp
theorem ints_I (l : List Int) : ints? (l.map .int) = some l := by
  induction l with
  | nil => rfl
  | cons j r ih =>
    show (ints? (r.map .int)).map (j :: ·) = _
    rw [ih]; rfl
theorem T2_sum (l : List Int) : T2.fn "sum" [.list (l.map .int)] = some (.int l.sum) := by
  have : T2.fn "sum" [.list (l.map .int)] = (ints? (l.map .int)).map fun ns => .int ns.sum := by kernel_rfl
  rw [this, ints_I]; rfl
theorem T2_range (n : Int) (h : 0 ≤ n) : T2.fn "range" [.int n] = some (.range n.toNat) := by
  have : T2.fn "range" [.int n] = (if true && decide (0 ≤ n) then some (.range n.toNat) else none) := by kernel_rfl
  rw [this]; simp [h]
noncomputable def RQ (ns : List Int) (fi se : Int) (W : Nat → Int) (a : Nat) (g0 : List Nat) (dr : List Nat) (reply : List Nat) (fam : List Nat) (ls : List PV) (tl : Rho) : Rho :=
  ("script", .val (.list (ns.map .int))) :: ("first", .val (.int fi)) :: ("second", .val (.int se)) :: ("worths", .val (worthsV W)) :: ("at", .val (.int (a : Int))) ::
    ("gaps", .val (.list [.bytes (enc g0), .bytes (enc [13, 10])])) :: ("tails", .val (.list [.bytes (enc tail0), .bytes (enc tail1)])) :: ("drawn", .val (.list (intsV dr))) ::
    ("reply", .val (.bytes (enc reply))) :: ("family", .val (.list (intsV fam))) :: ("lists", .own ls) :: tl
noncomputable def fiOf (ns : List Int) : Int := 451267 + (sliceI ns none none (some 2)).sum
noncomputable def seOf (ns : List Int) : Int := 93 + (sliceI ns (some 1) none (some 2)).sum
noncomputable def WOf (ns : List Int) (k : Nat) : Int := [17, 4, 11, 8, 2].getD k 0 + (sliceI ns (some k) none (some 5)).sum
noncomputable def drOf (fi : Int) : List Nat := (List.range 4).map fun k => (fi / 32 ^ k % 32).toNat
noncomputable def gOf (se : Int) : List Nat := if se / 8 % 3 = 0 then [32] else if se / 8 % 3 = 1 then [32, 32] else [9]
theorem b_pow32 (j : Nat) (h : j ≤ 1000000) : binop .Pow (.int 32) (.int (j : Int)) = some (.int (32 ^ j)) := by
  show (if 0 ≤ (j : Int) ∧ (j : Int) ≤ 1000000 ∧ (32 : Int).natAbs < 2 ^ 64 then some (PV.int (32 ^ (j : Int).toNat)) else none) = _
  rw [if_pos ⟨by omega, by omega, by decide⟩, Int.toNat_natCast]
theorem pow32 {j : Nat} (h : j < 4) : 0 < (32 : Int) ^ j ∧ (32 : Int) ^ j ≤ 1000000 := by
  match j, h with
  | 0, _ => decide
  | 1, _ => decide
  | 2, _ => decide
  | 3, _ => decide
theorem get3 (x y z : PV) (i : Int) (h : i = 0 ∨ i = 1 ∨ i = 2) : getitem (.list [x, y, z]) (.int i) = some (if i = 0 then x else if i = 1 then y else z) := by
  rcases h with rfl | rfl | rfl <;> rfl
theorem map_int_range (f : Nat → Int) (n : Nat) (F : PV → Option PV) (hF : ∀ k, k < n → F (.int (k : Int)) = some (.int (f k))) : (intsV (List.range n)).filterMap F = (List.range n).map fun k => .int (f k) := by
  rw [filterMap_nats (fun _ => true) (fun k => .int (f k)) _ _ fun k hk => by rw [hF k (List.mem_range.mp hk)]; rfl, List.filter_eq_self.mpr fun _ _ => rfl]
section
variable {ns : List Int}
noncomputable def RH (ns : List Int) : Rho := RQ ns (fiOf ns) (seOf ns) (WOf ns) (seOf ns % 8).toNat (gOf (seOf ns)) (drOf (fiOf ns)) rep0 (drOf (fiOf ns)) [] []
theorem sumS (ns : List Int) (a b c : Option Int) : T2.fn "sum" [.list (slice (ns.map .int) a b c)] = some (.int (sliceI ns a b c).sum) := by rw [slice_int, T2_sum]
theorem dr_ints (fi : Int) : ((List.range 4).map fun k => PV.int (fi / 32 ^ k % 32)) = intsV (drOf fi) := by
  unfold intsV drOf
  rw [List.map_map]
  refine List.map_congr_left fun k hk => ?_
  have : 0 ≤ fi / 32 ^ k % 32 := by omega
  show _ = PV.int ((fi / 32 ^ k % 32).toNat : Int)
  rw [Int.toNat_of_nonneg this]
theorem law_head (hz : ns.length ≤ 63) {r : Option (Rho × Fl)} (hr : seqL (exS T2 oN 30 (fnAt 69).2.2) ((fnAt 69).2.1.drop 11) (RH ns) = r) :
    seqL (exS T2 oN 30 (fnAt 69).2.2) (fnAt 69).2.1 (rho0 (fnAt 69).1 [.list (ns.map .int)]) = r := by
  have hz2 : (ns.map PV.int).length ≤ lim := by rw [List.length_map]; exact Nat.le_trans hz (by decide)
  have m0 := b_mod (seOf ns) 8 (by decide)
  have m1 := b_div (seOf ns) 8 (by decide) (by decide)
  have m2 := b_mod (seOf ns / 8) 3 (by decide)
  rw [show rho0 (fnAt 69).1 [.list (ns.map .int)] = (RH ns).take 1 by kernel_rfl]
  refine seqL_of rfl ?_
  refine seqL_s (exS_as (by kernel_rfl) (by kernel_rfl) (u := .int (fiOf ns)) (evE_bin (a := .int 451267) (by kernel_rfl) (evE_call (by kernel_rfl) (evs1 (evE_pt (xs := ns.map .int) (a := none) (b := none) (c := some 2) (by kernel_rfl) (by kernel_rfl) (by kernel_rfl) (by kernel_rfl) (by decide) hz2)) (sumS ns _ _ _)) rfl) (ρ' := (RH ns).take 2) (by kernel_rfl)) ?_
  refine seqL_s (exS_as (by kernel_rfl) (by kernel_rfl) (u := .int (seOf ns)) (evE_bin (a := .int 93) (by kernel_rfl) (evE_call (by kernel_rfl) (evs1 (evE_pt (xs := ns.map .int) (a := some 1) (b := none) (c := some 2) (by kernel_rfl) (by kernel_rfl) (by kernel_rfl) (by kernel_rfl) (by decide) hz2)) (sumS ns _ _ _)) rfl) (ρ' := (RH ns).take 3) (by kernel_rfl)) ?_
  refine seqL_s (exS_as (by kernel_rfl) (by kernel_rfl) (u := worthsV (WOf ns)) ((evE_comp (fun v => match v with | .int k => some (.int (WOf ns k.toNat)) | _ => none) (it := .range 5) (xs := intsV (List.range 5)) (by kernel_rfl) (by kernel_rfl) (items_range (by decide)) (by kernel_rfl) (by decide) fun v hv => ?_).trans
    (congrArg (fun l => some (PV.list l)) (map_int_range (WOf ns) 5 _ fun k hk => rfl))) (ρ' := (RH ns).take 4) (by kernel_rfl)) ?_
  · obtain ⟨k, hk, rfl⟩ := List.mem_map.mp hv
    have hk := List.mem_range.mp hk
    have hg : getitem (.list [.int 17, .int 4, .int 11, .int 8, .int 2]) (.int (k : Int)) = some (.int ([17, 4, 11, 8, 2].getD k 0)) := by
      have : k = 0 ∨ k = 1 ∨ k = 2 ∨ k = 3 ∨ k = 4 := by omega
      rcases this with rfl | rfl | rfl | rfl | rfl <;> rfl
    exact turn_0 (evE_bin (evE_it (by kernel_rfl) (by kernel_rfl) (y := .int (k : Int)) (by kernel_rfl) (x := .list [.int 17, .int 4, .int 11, .int 8, .int 2]) (by kernel_rfl) hg)
      (evE_call (by kernel_rfl) (evs1 (evE_pt (xs := ns.map .int) (a := some (k : Int)) (b := none) (c := some 5) (by kernel_rfl) (by kernel_rfl) (by kernel_rfl) (by kernel_rfl) (by decide) hz2)) (sumS ns _ _ _)) rfl)
  have e : seOf ns % 8 = ((seOf ns % 8).toNat : Int) := by omega
  refine seqL_s (exS_as (by kernel_rfl) (by kernel_rfl) (u := .int ((seOf ns % 8).toNat : Int)) ((evE_bin (a := .int (seOf ns)) (b := .int 8) (by kernel_rfl) (by kernel_rfl) m0).trans (congrArg (fun i => some (PV.int i)) e)) (ρ' := (RH ns).take 5) (by kernel_rfl)) ?_
  have h3 : seOf ns / 8 % 3 = 0 ∨ seOf ns / 8 % 3 = 1 ∨ seOf ns / 8 % 3 = 2 := by omega
  have hgap : (if seOf ns / 8 % 3 = 0 then PV.bytes (enc [32]) else if seOf ns / 8 % 3 = 1 then .bytes (enc [32, 32]) else .bytes (enc [9])) = .bytes (enc (gOf (seOf ns))) := by
    unfold gOf
    rcases h3 with h | h | h <;> rw [h] <;> rfl
  refine seqL_s (exS_as (by kernel_rfl) (by kernel_rfl) (u := .list [.bytes (enc (gOf (seOf ns))), .bytes (enc [13, 10])]) (evE_lst (by kernel_rfl) (evsC (evE_it (by kernel_rfl) (by kernel_rfl) (evE_bin (evE_bin (a := .int (seOf ns)) (b := .int 8) (by kernel_rfl) (by kernel_rfl) m1) (b := .int 3) (by kernel_rfl) m2)
    (x := .list [.bytes (enc [32]), .bytes (enc [32, 32]), .bytes (enc [9])]) (by kernel_rfl) ((get3 _ _ _ _ h3).trans (congrArg some hgap))) (evsC (x := .bytes (enc [13, 10])) (by kernel_rfl) rfl)) two_lm) (ρ' := (RH ns).take 6) (by kernel_rfl)) ?_
  refine seqL_s (exS_as (by kernel_rfl) (by kernel_rfl) (u := .list [.bytes (enc tail0), .bytes (enc tail1)]) (by kernel_rfl) (ρ' := (RH ns).take 7) (by kernel_rfl)) ?_
  refine seqL_s (exS_as (by kernel_rfl) (by kernel_rfl) (u := .list (intsV (drOf (fiOf ns)))) ((evE_comp (fun v => match v with | .int k => some (.int (fiOf ns / 32 ^ k.toNat % 32)) | _ => none) (it := .range 4) (xs := intsV (List.range 4)) (by kernel_rfl) (by kernel_rfl) (items_range (by decide)) (by kernel_rfl) (by decide) fun v hv => ?_).trans
    (congrArg (fun l => some (PV.list l)) ((map_int_range (fun k => fiOf ns / 32 ^ k % 32) 4 _ fun k hk => rfl).trans (dr_ints _)))) (ρ' := (RH ns).take 8) (by kernel_rfl)) ?_
  · obtain ⟨k, hk, rfl⟩ := List.mem_map.mp hv
    have hk := List.mem_range.mp hk
    have h5 := pow32 hk
    exact turn_0 (evE_bin (evE_bin (a := .int (fiOf ns)) (by kernel_rfl) (evE_bin (a := .int 32) (b := .int (k : Int)) (by kernel_rfl) (by kernel_rfl) (b_pow32 k (by omega))) (b_div _ _ h5.1 h5.2)) (b := .int 32) (by kernel_rfl) (b_mod _ _ (by decide)))
  refine seqL_s (exS_as (by kernel_rfl) (by kernel_rfl) (u := .bytes (enc rep0)) (by kernel_rfl) (ρ' := (RH ns).take 9) (by kernel_rfl)) ?_
  refine seqL_s (exS_if (evT_or2 (evT_cmp (by kernel_rfl) (evW_of (by kernel_rfl) (evE_call (by kernel_rfl) (evs1 (x := .bytes (enc rep0)) (by kernel_rfl)) told_first)) (b := .tuple [.bytes (enc [92, 42])]) (by kernel_rfl) (by kernel_rfl))
    (evT_cmp (by kernel_rfl) (evW_of (by kernel_rfl) (evE_call (by kernel_rfl) (evs1 (x := .bytes (enc (10 :: rep0))) (by kernel_rfl)) told_row)) (b := .tuple []) (by kernel_rfl) (by kernel_rfl)))) ?_
  refine seqL_s (exS_as (by kernel_rfl) (by kernel_rfl) (u := .list (intsV (drOf (fiOf ns)))) (by kernel_rfl) (ρ' := (RH ns).take 10) (by kernel_rfl)) ?_
  refine seqL_s (exS_new (by kernel_rfl) (by kernel_rfl) (ρ' := RH ns) (by kernel_rfl)) ?_
  exact hr
end
end Mine
end
section
open PySem PySem.W PyProof.Rows PySem.Calls
set_option maxRecDepth 100000
namespace Mine
theorem T2_name (xs : List PV) : T2.fn "_law_name" xs = runOf T1 dName xs := by kernel_rfl
theorem T2_flags (xs : List PV) : T2.fn "_law_flags" xs = runOf T1 dFlags xs := by kernel_rfl
theorem T2_meet (xs : List PV) : T2.fn "_law_meeting" xs = runOf T1 dMeet xs := by kernel_rfl
theorem T2_nums (xs : List PV) : T2.fn "_law_numbers" xs = runOf T1 dNums xs := by kernel_rfl
theorem T2_mth : T2.mth = mthB := by kernel_rfl
theorem T2_len (l : List PV) (h : l.length ≤ lim) : T2.fn "len" [.list l] = some (.int l.length) := by
  have : T2.fn "len" [.list l] = (if true && decide (l.length ≤ lim) then some (.int l.length) else none) := by kernel_rfl
  rw [this]; simp [h]
theorem T2_tuple (l : List PV) (h : l.length ≤ lim) : T2.fn "tuple" [.list l] = some (.tuple l) := by
  have : T2.fn "tuple" [.list l] = (if true && decide (l.length ≤ lim) then some (.tuple l) else none) := by kernel_rfl
  rw [this]; simp [h]
theorem feqs_self : ∀ (l : List PV), (∀ x ∈ l, feq x x = some true) → feqs l l = some (l.map fun _ => true)
  | [], _ => rfl
  | x :: r, h => by
    unfold feqs
    rw [h x (List.mem_cons_self ..), feqs_self r fun y hy => h y (List.mem_cons_of_mem _ hy)]
    rfl
theorem ne_self (l : List PV) (h : ∀ x ∈ l, feq x x = some true) : cmpop .NotEq (.list l) (.list l) = some false := by
  show (leq l l).map (!·) = _
  unfold leq
  rw [if_pos rfl, feqs_self l h]
  simp
theorem ne_selfT (l : List PV) (h : ∀ x ∈ l, feq x x = some true) : cmpop .NotEq (.tuple l) (.tuple l) = some false := by
  show (teq l l).map (!·) = _
  unfold teq
  rw [feqs_self l h]
  simp
theorem fm_map {α : Type} (l : List α) (f : α → PV) (g : PV → Option PV) (h : α → PV) (hh : ∀ x ∈ l, g (f x) = some (h x)) : (l.map f).filterMap g = l.map h := by
  induction l with
  | nil => rfl
  | cons x r ih =>
    rw [List.map_cons, List.filterMap_cons, hh x (List.mem_cons_self ..), ih fun y hy => hh y (List.mem_cons_of_mem _ hy)]
    rfl
theorem add_B {a b : List Nat} (h : a.length + b.length ≤ 100000) : binop .Add (.bytes (enc a)) (.bytes (enc b)) = some (.bytes (enc (a ++ b))) := by
  show (if (enc a).size + (enc b).size ≤ lim then _ else _) = _
  rw [if_pos (by simp [enc, lim]; omega), enc_app]
theorem bytes_enc (ns : List (List Nat)) : bytes? (ns.map fun n => .bytes (enc n)) = some (ns.map enc) := by
  induction ns with
  | nil => rfl
  | cons n r ih =>
    show (bytes? (r.map fun n => .bytes (enc n))).map (enc n :: ·) = _
    rw [ih]; rfl
theorem fold_size : ∀ (ns : List (List Nat)) (k : Nat), (∀ n ∈ ns, n.length ≤ 100) → (ns.map enc).foldl (fun n b => n + b.size) k ≤ k + 100 * ns.length
  | [], k, _ => by simp
  | n :: r, k, h => by
    have h1 := h n (List.mem_cons_self ..)
    have h2 := fold_size r (k + (enc n).size) fun m hm => h m (List.mem_cons_of_mem _ hm)
    have h3 : (enc n).size = n.length := by simp [enc]
    rw [List.map_cons, List.foldl_cons, List.length_cons]
    omega
theorem join_B {g : List Nat} {ns : List (List Nat)} (hg : g.length ≤ 2) (hn : ∀ n ∈ ns, n.length ≤ 100) (hl : ns.length ≤ 32) :
    T2.mth "join" (.bytes (enc g)) [.list (ns.map fun n => .bytes (enc n))] = some (.bytes (enc (joinL g ns))) := by
  rw [T2_mth]
  have h1 := fold_size ns ((enc g).size * (ns.length - 1)) hn
  have h2 := joinL_len hg hn
  have h3 : (enc g).size = g.length := by simp [enc]
  have h4 : (enc g).size * (ns.length - 1) ≤ 2 * 32 := Nat.mul_le_mul (by omega) (by omega)
  have h5 : (enc (joinL g ns)).size = (joinL g ns).length := by simp [enc]
  have e : mthB (Str.ofString "join") (.bytes (enc g)) [.list (ns.map fun n => .bytes (enc n))] = if true then (bytes? (ns.map fun n => .bytes (enc n))).bind fun bs => if bs.foldl (fun n b => n + b.size) ((enc g).size * (bs.length - 1)) ≤ lim ∧ (Builtin.Bytes.joined (enc g) bs).size ≤ lim then some (.bytes (Builtin.Bytes.joined (enc g) bs)) else none else none := by kernel_rfl
  rw [e, if_pos rfl, bytes_enc, Option.bind_some, joined_enc, List.length_map]
  rw [if_pos ⟨by unfold lim; omega, by unfold lim; omega⟩]
theorem enc_T2 {n : List Nat} (h : ∀ c ∈ n, c < 128) (hl : n.length ≤ 100) : T2.mth "encode" (.str (strOfL n)) [] = some (.bytes (enc n)) := by
  rw [T2_mth]
  have : (strOfL n).length ≤ 1000000 := by rw [len_L]; omega
  have e : mthB (Str.ofString "encode") (.str (strOfL n)) [] = if true && decide ((strOfL n).length ≤ 1000000) then (encS (strOfL n)).map PV.bytes else none := by kernel_rfl
  rw [e, decide_eq_true this, enc_str (l := n) (by simpa using h)]; rfl
/-- the names of a list of sets -/
noncomputable def nmsOf (a : Nat) (se : Int) (F : List Nat) : List (List Nat) := (List.range F.length).map fun (k : Nat) => nmOf a (se / 24 + (k : Int)) (F.getD k 0)
noncomputable def lwFor : List Stmt := match (fnAt 69).2.1.drop 11 with
  | .For _ _ b _ _ :: _ => b
  | _ => []
noncomputable def TailP (tl : Rho) : Prop := tl = [] ∨ ∃ v u w, tl = [(Str.ofString "part", Bd.val v), (Str.ofString "pairs", Bd.val u), (Str.ofString "told", Bd.val w)]
noncomputable def gI (g0 : List Nat) (i : Nat) : List Nat := if i = 0 then g0 else [13, 10]
noncomputable def tI (i : Nat) : List Nat := if i = 0 then tail0 else tail1
theorem nms_nm {a : Nat} {se : Int} {F : List Nat} (ha : a < 8) (hF : Small F) : ∀ n ∈ nmsOf a se F, Nm n := by
  intro n hn
  obtain ⟨k, hk, rfl⟩ := List.mem_map.mp hn
  have hk := List.mem_range.mp hk
  have := good_of (nm_all (f := F.getD k 0) (hF _ (getD_mem hk)) ha (se / 24 + k)).2
  exact ⟨this.safe, this.ne, this.len⟩
end Mine
end
section
open PySem PySem.W PyProof.Rows PySem.Calls
set_option maxRecDepth 100000
namespace Mine
noncomputable def TailQ (tl : Rho) : Prop := ∃ v u w, tl = [(Str.ofString "part", Bd.val v), (Str.ofString "pairs", Bd.val u), (Str.ofString "told", Bd.val w)]
noncomputable def prs (names : List (List Nat)) : PV := .list (names.map fun n => .list [S n, S n])
noncomputable def fstP : PV → Option PV
  | .list (x :: _) => some x
  | _ => none
noncomputable def encP : PV → Option PV
  | .list (.str x :: _) => (encS x).map .bytes
  | _ => none
theorem getF {F : List Nat} {k : Nat} (h : k < F.length) (hl : F.length ≤ 32) : getitem (.list (intsV F)) (.int (k : Int)) = some (.int ((F.getD k 0 : Nat) : Int)) := by
  rw [getNat _ _ (by simpa [intsV] using h) (by simp [intsV, lim]; omega)]
  simp [intsV, List.getD_eq_getElem?_getD, List.getElem?_eq_getElem h]
theorem ne_ints (F : List Nat) : cmpop .NotEq (.list (intsV F)) (.list (intsV F)) = some false := by
  refine ne_self _ fun x hx => ?_
  obtain ⟨j, _, rfl⟩ := List.mem_map.mp hx
  show some ((j : Int) == (j : Int)) = _
  simp
theorem get2l (x y : PV) (i : Nat) (h : i < 2) : getitem (.list [x, y]) (.int (i : Int)) = some (if i = 0 then x else y) := by
  match i, h with
  | 0, _ => rfl
  | 1, _ => rfl
theorem part_P {ns : List Int} {fi se : Int} {W : Nat → Int} {a : Nat} {g0 dr rp F : List Nat} {ls : List PV} {tl : Rho} (v : PV) (ht : TailP tl) :
    ∃ t1, (t1 = [] ∨ ∃ u w, t1 = [(Str.ofString "pairs", Bd.val u), (Str.ofString "told", Bd.val w)]) ∧ setR (RQ ns fi se W a g0 dr rp F ls tl) "part" (.val v) = RQ ns fi se W a g0 dr rp F ls ((Str.ofString "part", .val v) :: t1) := by
  rw [← setRF_eq]
  rcases ht with rfl | ⟨v, u, w, rfl⟩
  · exact ⟨[], .inl rfl, by kernel_rfl⟩
  · exact ⟨_, .inr ⟨u, w, rfl⟩, by kernel_rfl⟩
theorem fst_L (names : List (List Nat)) : (names.map fun n => PV.list [S n, S n]).filterMap fstP = names.map S := fm_map _ _ _ S fun k _ => rfl
theorem enc_L {names : List (List Nat)} (h : ∀ n ∈ names, ∀ c ∈ n, c < 128) : (names.map fun n => PV.list [S n, S n]).filterMap encP = names.map fun n => .bytes (enc n) :=
  fm_map _ _ _ _ fun n hn => by
    show (encS (strOfL n)).map PV.bytes = _
    rw [enc_str (l := n) (by simpa using h n hn)]; rfl
theorem body_P {ns : List Int} {fi se : Int} {W : Nat → Int} {a : Nat} {g0 dr rp F : List Nat} {ls : List PV} {tl : Rho} {i : Nat} (ha : a < 8) (hi : i < 2) (hF : Small F) (hFl : F.length ≤ 32) (hls : ls.length = i) (hg0 : g0.length ≤ 2) (hrp : rp.length ≤ 5000) (ht : TailP tl)
    (told : T2.fn "ParseFlags" [.bytes (enc (rp ++ 32 :: rxL ++ joinL (gI g0 i) (nmsOf a se F) ++ [41] ++ tI i))] = some (.tuple ((nmsOf a se F).map fun n => .bytes (enc n)))) :
    ∃ tl', TailQ tl' ∧ seqL (exS T2 oN 29 (fnAt 69).2.2) lwFor (setR (RQ ns fi se W a g0 dr rp F ls tl) "part" (.val (.int (i : Int)))) =
      some (RQ ns fi se W a g0 dr (rp ++ 32 :: rxL ++ joinL (gI g0 i) (nmsOf a se F) ++ [41]) (blk F) (ls ++ [.list (intsV F)]) tl', .next) := by
  have hN := nms_nm (a := a) (se := se) (F := F) ha hF
  have hNl : (nmsOf a se F).length = F.length := by unfold nmsOf; rw [List.length_map, List.length_range]
  have hgi : (gI g0 i).length ≤ 2 := by
    unfold gI; split
    · exact hg0
    · decide
  have hjl := joinL_len (g := gI g0 i) hgi fun n h => (hN n h).2.2
  have hti : (tI i).length ≤ 28 := by unfold tI; split <;> decide
  have hfl : ∀ k, k < F.length → runOf T1 dFlags [.bytes (enc (nmOf a (se / 24 + (k : Int)) (F.getD k 0))), .int (a : Int)] = some (.int ((F.getD k 0 : Nat) : Int)) := fun k hk => (good_of (nm_all (f := F.getD k 0) (hF _ (getD_mem hk)) ha (se / 24 + k)).2).fl
  have hnm : ∀ k, k < F.length → runOf T1 dName [.int ((F.getD k 0 : Nat) : Int), .int (a : Int), .int (se / 24 + (k : Int))] = some (.list [S (nmOf a (se / 24 + (k : Int)) (F.getD k 0)), S (nmOf a (se / 24 + (k : Int)) (F.getD k 0))]) := fun k hk => (nm_all (f := F.getD k 0) (hF _ (getD_mem hk)) ha (se / 24 + k)).1
  generalize hNs : nmsOf a se F = names at *
  have h128 : ∀ n ∈ names, ∀ c ∈ n, c < 128 := fun n hn c hc => by have := (hN n hn).1 c hc; omega
  have hnl : ∀ {α : Type} (f : List Nat → α), (names.map f).length ≤ lim := fun f => by rw [List.length_map, hNl]; exact Nat.le_trans hFl (by decide)
  have hll : (intsV F).length ≤ lim := by rw [lenV]; exact Nat.le_trans hFl (by decide)
  obtain ⟨t1, ht1, e1⟩ := part_P (ns := ns) (fi := fi) (se := se) (W := W) (a := a) (g0 := g0) (dr := dr) (rp := rp) (F := F) (ls := ls) (.int (i : Int)) ht
  rw [e1]
  obtain ⟨t2, ht2, e2⟩ : ∃ t2, (t2 = [] ∨ ∃ w, t2 = [(Str.ofString "told", Bd.val w)]) ∧ setRF (RQ ns fi se W a g0 dr rp F ls ((Str.ofString "part", .val (.int (i : Int))) :: t1)) (Str.ofString "pairs") (.val (prs names)) = RQ ns fi se W a g0 dr rp F ls ((Str.ofString "part", .val (.int (i : Int))) :: (Str.ofString "pairs", .val (prs names)) :: t2) := by
    rcases ht1 with rfl | ⟨u, w, rfl⟩
    · exact ⟨[], .inl rfl, by kernel_rfl⟩
    · exact ⟨_, .inr ⟨w, rfl⟩, by kernel_rfl⟩
  have e3 : ∀ rp', setRF (RQ ns fi se W a g0 dr rp' F ls ((Str.ofString "part", .val (.int (i : Int))) :: (Str.ofString "pairs", .val (prs names)) :: t2)) (Str.ofString "told") (.val (.tuple (names.map fun n => .bytes (enc n)))) =
      RQ ns fi se W a g0 dr rp' F ls [(Str.ofString "part", .val (.int (i : Int))), (Str.ofString "pairs", .val (prs names)), (Str.ofString "told", .val (.tuple (names.map fun n => .bytes (enc n))))] := fun rp' => by
    rcases ht2 with rfl | ⟨w, rfl⟩ <;> kernel_rfl
  refine ⟨[(Str.ofString "part", .val (.int (i : Int))), (Str.ofString "pairs", .val (prs names)), (Str.ofString "told", .val (.tuple (names.map fun n => .bytes (enc n))))], ⟨_, _, _, rfl⟩, seqL_of rfl ?_⟩
  -- pairs
  refine seqL_s (exS_as (by kernel_rfl) (by kernel_rfl) (u := prs names) ((evE_comp (fun v => match v with | .int k => some (.list [S (nmOf a (se / 24 + k) (F.getD k.toNat 0)), S (nmOf a (se / 24 + k) (F.getD k.toNat 0))]) | _ => none) (it := .range F.length) (xs := intsV (List.range F.length)) (by kernel_rfl)
    (evE_call (by kernel_rfl) (evs1 (evE_call (by kernel_rfl) (evs1 (x := .list (intsV F)) (by kernel_rfl)) (T2_len _ hll))) ((T2_range _ (Int.natCast_nonneg _)).trans (by rw [lenV]; rfl))) (items_range (by omega)) (by kernel_rfl) (by rw [lenV, List.length_range]; exact Nat.le_trans hFl (by decide)) fun v hv => ?_).trans ?_) e2) ?_
  · obtain ⟨k, hk, rfl⟩ := List.mem_map.mp hv
    have hk := List.mem_range.mp hk
    exact turn_0 (evE_call (by kernel_rfl) (evsC (evE_it (by kernel_rfl) (by kernel_rfl) (y := .int (k : Int)) (by kernel_rfl) (x := .list (intsV F)) (by kernel_rfl) (getF hk hFl)) (evsC (x := .int (a : Int)) (by kernel_rfl) (evsC (evE_bin (evE_bin (a := .int se) (b := .int 24) (by kernel_rfl) (by kernel_rfl) (b_div _ _ (by decide) (by decide))) (b := .int (k : Int)) (by kernel_rfl) (b_add _ _)) rfl))) ((T2_name _).trans (hnm k hk)))
  · unfold prs
    rw [← hNs]
    unfold nmsOf intsV
    rw [List.map_map]
    exact congrArg (fun l => some (PV.list l)) (fm_map _ _ _ _ fun k _ => rfl)
  -- the first test
  refine seqL_s (exS_if (evT_cmp (by kernel_rfl) (evW_of (by kernel_rfl) ((evE_comp fstP (it := prs names) (xs := names.map fun n => .list [S n, S n]) (by kernel_rfl) (by kernel_rfl) rfl (by kernel_rfl) (hnl _) fun v hv => ?_).trans (congrArg (fun l => some (PV.list l)) (fst_L names))))
    (evW_of (by kernel_rfl) ((evE_comp fstP (it := prs names) (xs := names.map fun n => .list [S n, S n]) (by kernel_rfl) (by kernel_rfl) rfl (by kernel_rfl) (hnl _) fun v hv => ?_).trans (congrArg (fun l => some (PV.list l)) (fst_L names)))) (ne_self _ fun x hx => ?_))) ?_
  · obtain ⟨n, hn, rfl⟩ := List.mem_map.mp hv
    exact turn_0 (by kernel_rfl)
  · obtain ⟨n, hn, rfl⟩ := List.mem_map.mp hv
    exact turn_0 (by kernel_rfl)
  · obtain ⟨n, _, rfl⟩ := List.mem_map.mp hx
    show some (eqS (strOfL n) (strOfL n)) = _
    rw [eqS_L, beq_self_eq_true]
  -- the reply
  have hx : (32 :: rxL).length = 8 := rfl
  have gtP : ∀ {x y : PV} {z : PV}, (if i = 0 then x else y) = z → getitem (.list [x, y]) (.int (i : Int)) = some z := fun {x y z} e => (get2l x y i hi).trans (congrArg some e)
  refine seqL_s (exS_as (by kernel_rfl) (by kernel_rfl) (u := .bytes (enc (rp ++ 32 :: rxL ++ joinL (gI g0 i) names ++ [41])))
    (evE_bin (a := .bytes (enc (rp ++ 32 :: rxL ++ joinL (gI g0 i) names))) (b := .bytes (enc [41])) (evE_bin (a := .bytes (enc (rp ++ 32 :: rxL))) (b := .bytes (enc (joinL (gI g0 i) names))) (evE_bin (a := .bytes (enc rp)) (b := .bytes (enc (32 :: rxL))) (by kernel_rfl) (by kernel_rfl) (add_B ?_))
      (evE_me (x := .bytes (enc (gI g0 i))) (xs := [.list (names.map fun n => .bytes (enc n))]) (by kernel_rfl) (by kernel_rfl) (evE_it (by kernel_rfl) (by kernel_rfl) (y := .int (i : Int)) (by kernel_rfl) (x := .list [.bytes (enc g0), .bytes (enc [13, 10])]) (by kernel_rfl) (gtP (by unfold gI; split <;> rfl)))
        (evs1 ((evE_comp encP (it := prs names) (xs := names.map fun n => .list [S n, S n]) (by kernel_rfl) (by kernel_rfl) rfl (by kernel_rfl) (hnl _) fun v hv => ?_).trans (congrArg (fun l => some (PV.list l)) (enc_L h128)))) (join_B hgi (fun n h => (hN n h).2.2) (by omega))) (add_B ?_)) (by kernel_rfl) (add_B ?_))
    (ρ' := RQ ns fi se W a g0 dr (rp ++ 32 :: rxL ++ joinL (gI g0 i) names ++ [41]) F ls ((Str.ofString "part", .val (.int (i : Int))) :: (Str.ofString "pairs", .val (prs names)) :: t2)) (by kernel_rfl)) ?_
  · omega
  · obtain ⟨n, hn, rfl⟩ := List.mem_map.mp hv
    have he : encP (.list [S n, S n]) = some (.bytes (enc n)) := by
      show (encS (strOfL n)).map PV.bytes = _
      rw [enc_str (l := n) (by simpa using h128 n hn)]; rfl
    rw [he]
    exact turn_0 (evE_me (x := .str (strOfL n)) (xs := []) (by kernel_rfl) (by kernel_rfl) (by kernel_rfl) rfl (enc_T2 (h128 n hn) (hN n hn).2.2))
  · simp only [List.length_append]; omega
  · simp only [List.length_append]
    have : [41].length = 1 := rfl
    omega
  have hrl : (rp ++ 32 :: rxL ++ joinL (gI g0 i) names ++ [41]).length ≤ 10000 := by
    simp only [List.length_append]
    have : [41].length = 1 := rfl
    omega
  generalize hrp' : rp ++ 32 :: rxL ++ joinL (gI g0 i) names ++ [41] = rp' at *
  -- what ParseFlags tells
  refine seqL_s (exS_as (by kernel_rfl) (by kernel_rfl) (u := .tuple (names.map fun n => .bytes (enc n))) (evE_call (by kernel_rfl) (evs1 (x := .bytes (enc (rp' ++ tI i))) (evE_bin (a := .bytes (enc rp')) (b := .bytes (enc (tI i))) (by kernel_rfl)
    (evE_it (by kernel_rfl) (by kernel_rfl) (y := .int (i : Int)) (by kernel_rfl) (x := .list [.bytes (enc tail0), .bytes (enc tail1)]) (by kernel_rfl) (gtP (by unfold tI; split <;> rfl))) (add_B (by omega)))) told) (e3 rp')) ?_
  -- the second test
  refine seqL_s (exS_if (evT_cmp (by kernel_rfl) (a := .tuple (names.map fun n => .bytes (enc n))) (by kernel_rfl) (evW_of (by kernel_rfl) (evE_call (by kernel_rfl) (evs1 ((evE_comp encP (it := prs names) (xs := names.map fun n => .list [S n, S n]) (by kernel_rfl) (by kernel_rfl) rfl (by kernel_rfl) (hnl _) fun v hv => ?_).trans (congrArg (fun l => some (PV.list l)) (enc_L h128)))) (T2_tuple _ (hnl _))))
    (ne_selfT _ fun x hx => ?_))) ?_
  · obtain ⟨n, hn, rfl⟩ := List.mem_map.mp hv
    have he : encP (.list [S n, S n]) = some (.bytes (enc n)) := by
      show (encS (strOfL n)).map PV.bytes = _
      rw [enc_str (l := n) (by simpa using h128 n hn)]; rfl
    rw [he]
    exact turn_0 (evE_me (x := .str (strOfL n)) (xs := []) (by kernel_rfl) (by kernel_rfl) (by kernel_rfl) rfl (enc_T2 (h128 n hn) (hN n hn).2.2))
  · obtain ⟨n, _, rfl⟩ := List.mem_map.mp hx
    show some (decide ((enc n).toList = (enc n).toList)) = _
    rw [decide_eq_true rfl]
  -- the flags read of them
  have hls2 : ls.length < lim := by rw [hls]; exact Nat.lt_trans hi (by decide)
  refine seqL_s (exS_ap rfl (xs := ls) (u := .list (intsV F)) (by kernel_rfl) ((evE_comp (fun v => runOf T1 dFlags [v, .int (a : Int)]) (it := .tuple (names.map fun n => .bytes (enc n))) (xs := names.map fun n => .bytes (enc n)) (by kernel_rfl) (by kernel_rfl) rfl (by kernel_rfl) (hnl _) fun v hv => ?_).trans ?_) hls2
    (ρ' := RQ ns fi se W a g0 dr rp' F (ls ++ [.list (intsV F)]) [(Str.ofString "part", .val (.int (i : Int))), (Str.ofString "pairs", .val (prs names)), (Str.ofString "told", .val (.tuple (names.map fun n => .bytes (enc n))))]) (by kernel_rfl)) ?_
  · rw [← hNs] at hv
    obtain ⟨n, hn, rfl⟩ := List.mem_map.mp hv
    obtain ⟨k, hk, rfl⟩ := List.mem_map.mp hn
    have hk := List.mem_range.mp hk
    have hfl := hfl k hk
    generalize nmOf a (se / 24 + (k : Int)) (F.getD k 0) = nn at hfl
    rw [hfl]
    exact turn_0 (evE_call (by kernel_rfl) (evsC (x := .bytes (enc nn)) (by kernel_rfl) (evsC (x := .int (a : Int)) (by kernel_rfl) rfl)) ((T2_flags _).trans hfl))
  · refine congrArg (fun l => some (PV.list l)) ?_
    have : names.map (fun n => PV.bytes (enc n)) = (List.range F.length).map fun (k : Nat) => PV.bytes (enc (nmOf a (se / 24 + (k : Int)) (F.getD k 0))) := by
      rw [← hNs]; unfold nmsOf; rw [List.map_map]; rfl
    rw [this, fm_map _ _ _ (fun k => PV.int ((F.getD k 0 : Nat) : Int)) fun k hk => hfl k (List.mem_range.mp hk)]
    unfold intsV
    refine List.ext_getElem (by rw [List.length_map, List.length_map, List.length_range]) fun j h1 h2 => ?_
    rw [List.getElem_map, List.getElem_map, List.getElem_range, List.getD_eq_getElem?_getD, List.getElem?_eq_getElem (by rwa [List.length_map] at h2)]
    rfl
  have hget : getitem (.list (ls ++ [.list (intsV F)])) (.int (i : Int)) = some (.list (intsV F)) := by
    rw [getNat _ _ (by rw [List.length_append, hls]; exact Nat.lt_succ_self i) (by rw [List.length_append, hls]; exact Nat.le_trans (Nat.add_le_add_right (Nat.le_of_lt hi) 1) (by decide))]
    simp [← hls]
  -- the third test
  refine seqL_s (exS_if (evT_cmp (by kernel_rfl) (evW_of (by kernel_rfl) (evE_it (by kernel_rfl) (by kernel_rfl) (y := .int (i : Int)) (by kernel_rfl) (x := .list (ls ++ [.list (intsV F)])) (by kernel_rfl) hget)) (b := .list (intsV F)) (by kernel_rfl) (ne_ints F))) ?_
  exact seqL_one (exS_as (by kernel_rfl) (by kernel_rfl) (u := .list (intsV (blk F))) (evE_call (by kernel_rfl) (evs1 (evE_it (by kernel_rfl) (by kernel_rfl) (y := .int (i : Int)) (by kernel_rfl) (x := .list (ls ++ [.list (intsV F)])) (by kernel_rfl) hget)) ((T2_meet _).trans (meet_native (by omega)))) (by kernel_rfl))
end Mine
end
section
open PySem PySem.W PyProof.Rows PySem.Calls
set_option maxRecDepth 100000
namespace Mine
noncomputable def rp1 (a : Nat) (se : Int) (g0 dr : List Nat) : List Nat := rep0 ++ 32 :: rxL ++ joinL g0 (nmsOf a se dr) ++ [41]
theorem told0 {a : Nat} {se : Int} {g0 dr : List Nat} (ha : a < 8) (hF : Small dr) (hl : dr.length ≤ 32) (hg : gapOk g0) (hg2 : g0.length ≤ 2) :
    T2.fn "ParseFlags" [.bytes (enc (rep0 ++ 32 :: rxL ++ joinL (gI g0 0) (nmsOf a se dr) ++ [41] ++ tI 0))] = some (.tuple ((nmsOf a se dr).map fun n => .bytes (enc n))) := by
  have := told_part (P := rep0 ++ [32]) (g := g0) (ns := nmsOf a se dr) (R := tail0) (.inl rfl) (by decide) (by decide) hg hg2 (nms_nm ha hF) (by simpa [nmsOf] using hl)
  have e : rep0 ++ 32 :: rxL ++ joinL (gI g0 0) (nmsOf a se dr) ++ [41] ++ tI 0 = rep0 ++ [32] ++ (rxL ++ (joinL g0 (nmsOf a se dr) ++ 41 :: tail0)) := by
    simp [gI, tI, List.append_assoc]
  rw [e]; exact this
theorem told1 {a : Nat} {se : Int} {g0 dr F : List Nat} (ha : a < 8) (hD : Small dr) (hdl : dr.length ≤ 32) (hF : Small F) (hl : F.length ≤ 32) (hg2 : g0.length ≤ 2) (hg10 : ∀ c ∈ g0, c < 128 ∧ c ≠ 10) :
    T2.fn "ParseFlags" [.bytes (enc (rp1 a se g0 dr ++ 32 :: rxL ++ joinL (gI g0 1) (nmsOf a se F) ++ [41] ++ tI 1))] = some (.tuple ((nmsOf a se F).map fun n => .bytes (enc n))) := by
  have hN := nms_nm (se := se) ha hD
  have hjl := joinL_len (g := g0) hg2 fun n h => (hN n h).2.2
  have hnl : (nmsOf a se dr).length = dr.length := by simp [nmsOf]
  have := told_part (P := rp1 a se g0 dr ++ [32]) (g := [13, 10]) (ns := nmsOf a se F) (R := tail1) (.inr rfl) (by
      intro c hc
      unfold rp1 at hc
      simp only [List.mem_append, List.mem_cons, List.not_mem_nil, or_false] at hc
      rcases hc with (((h | h | h) | h) | h) | h
      · have : ∀ c ∈ rep0, c < 128 ∧ c ≠ 10 := by decide
        exact this c h
      · omega
      · have : ∀ c ∈ rxL, c < 128 ∧ c ≠ 10 := by decide
        exact this c h
      · rcases mem_joinL h with h | ⟨n, h1, h2⟩
        · exact hg10 c h
        · have := (hN n h1).1 c h2
          omega
      · omega
      · omega) (by
      unfold rp1
      simp only [List.length_append, List.length_cons, List.length_nil]
      have e1 : rep0.length = 31 := rfl
      have e2 : rxL.length = 7 := rfl
      omega) ⟨by decide, fun c hc => by
        simp only [List.mem_cons, List.not_mem_nil, or_false] at hc
        rcases hc with rfl | rfl
        · exact .inr (.inr (.inl rfl))
        · exact .inr (.inr (.inr rfl))⟩ (by decide) (nms_nm ha hF) (by simpa [nmsOf] using hl)
  have e : rp1 a se g0 dr ++ 32 :: rxL ++ joinL (gI g0 1) (nmsOf a se F) ++ [41] ++ tI 1 = rp1 a se g0 dr ++ [32] ++ (rxL ++ (joinL [13, 10] (nmsOf a se F) ++ 41 :: tail1)) := by
    simp [gI, tI, List.append_assoc]
  rw [e]; exact this
theorem rp1_len {a : Nat} {se : Int} {g0 dr : List Nat} (ha : a < 8) (hD : Small dr) (hdl : dr.length ≤ 32) (hg2 : g0.length ≤ 2) : (rp1 a se g0 dr).length ≤ 5000 := by
  have hjl := joinL_len (g := g0) hg2 fun n h => (nms_nm (se := se) ha hD n h).2.2
  have hnl : (nmsOf a se dr).length = dr.length := by simp [nmsOf]
  unfold rp1
  simp only [List.length_append, List.length_cons, List.length_nil]
  have e1 : rep0.length = 31 := rfl
  have e2 : rxL.length = 7 := rfl
  omega
theorem blk_len (F : List Nat) : (blk F).length ≤ 32 := by
  unfold blk
  exact Nat.le_trans (List.length_filter_le _ _) (by simp)
set_option maxHeartbeats 4000000 in
theorem law_loop {ns : List Int} {fi se : Int} {W : Nat → Int} {a : Nat} {g0 dr : List Nat} (ha : a < 8) (hD : Small dr) (hdl : dr.length ≤ 32) (hg : gapOk g0) (hg2 : g0.length ≤ 2) (hg10 : ∀ c ∈ g0, c < 128 ∧ c ≠ 10) :
    ∃ rp tl, TailQ tl ∧ seqL (exS T2 oN 30 (fnAt 69).2.2) ((fnAt 69).2.1.drop 11) (RQ ns fi se W a g0 dr rep0 dr [] []) = seqL (exS T2 oN 30 (fnAt 69).2.2) ((fnAt 69).2.1.drop 12) (RQ ns fi se W a g0 dr rp (blk (blk dr)) [.list (intsV dr), .list (intsV (blk dr))] tl) := by
  obtain ⟨tl1, t1, e1⟩ := body_P (ns := ns) (fi := fi) (se := se) (W := W) (g0 := g0) (dr := dr) (rp := rep0) (F := dr) (ls := []) (tl := []) (i := 0) ha (by decide) hD hdl rfl hg2 (by decide) (.inl rfl) (told0 ha hD hdl hg hg2)
  obtain ⟨tl2, t2, e2⟩ := body_P (ns := ns) (fi := fi) (se := se) (W := W) (g0 := g0) (dr := dr) (rp := rp1 a se g0 dr) (F := blk dr) (ls := [.list (intsV dr)]) (tl := tl1) (i := 1) ha (by decide) (blk_small _) (blk_len _) rfl hg2 (rp1_len ha hD hdl hg2) (.inr t1) (told1 ha hD hdl (blk_small _) (blk_len _) hg2 hg10)
  refine ⟨rp1 a se g0 dr ++ 32 :: rxL ++ joinL (gI g0 1) (nmsOf a se (blk dr)) ++ [41], tl2, t2, ?_⟩
  have hl : forL (fun ρ v => seqL (exS T2 oN 29 (fnAt 69).2.2) lwFor (setR ρ "part" (.val v))) [.int 0, .int 1] (RQ ns fi se W a g0 dr rep0 dr [] []) = some (RQ ns fi se W a g0 dr (rp1 a se g0 dr ++ 32 :: rxL ++ joinL (gI g0 1) (nmsOf a se (blk dr)) ++ [41]) (blk (blk dr)) [.list (intsV dr), .list (intsV (blk dr))] tl2, .next) := by
    unfold forL
    rw [show ((0 : Nat) : Int) = 0 from rfl] at e1
    rw [e1]
    dsimp only
    unfold forL
    rw [show ((1 : Nat) : Int) = 1 from rfl] at e2
    rw [show rep0 ++ 32 :: rxL ++ joinL (gI g0 0) (nmsOf a se dr) ++ [41] = rp1 a se g0 dr from rfl, show ([] ++ [PV.list (intsV dr)]) = [PV.list (intsV dr)] from rfl, e2]
    rfl
  generalize rp1 a se g0 dr ++ 32 :: rxL ++ joinL (gI g0 1) (nmsOf a se (blk dr)) ++ [41] = rp2 at hl ⊢
  refine seqL_of rfl ((seqL_next (exS_For (y := .range 2) (xs := [.int 0, .int 1]) (by kernel_rfl) (by kernel_rfl) (by kernel_rfl) rfl hl)).trans (by kernel_rfl))
end Mine
end
section
open PySem PySem.W PyProof.Rows PySem.Calls
set_option maxRecDepth 100000
namespace Mine
noncomputable def TailD (tl : Rho) : Prop := TailQ tl ∨ ∃ v u w x y, tl = [(Str.ofString "part", Bd.val v), (Str.ofString "pairs", Bd.val u), (Str.ofString "told", Bd.val w), (Str.ofString "lows", Bd.val x), (Str.ofString "least", Bd.val y)]
theorem T2_min (l : List Int) (h : l ≠ []) : T2.fn "min" [.list (l.map .int)] = some (.int (minL l)) := by
  have : T2.fn "min" [.list (l.map .int)] = (ints? (l.map .int)).bind fun ns => match ns with | [] => none | n :: r => some (.int (r.foldl min n)) := by kernel_rfl
  rw [this, ints_I]
  cases l with
  | nil => exact absurd rfl h
  | cons n r => rfl
theorem T2_max (l : List Int) (h : l ≠ []) : T2.fn "max" [.list (l.map .int)] = some (.int (maxL l)) := by
  have : T2.fn "max" [.list (l.map .int)] = (ints? (l.map .int)).bind fun ns => match ns with | [] => none | n :: r => some (.int (r.foldl max n)) := by kernel_rfl
  rw [this, ints_I]
  cases l with
  | nil => exact absurd rfl h
  | cons n r => rfl
theorem T2_iseof (x : Int) : T2.fn "ISEOF" [.int x] = some (.bool (x == 0)) := by
  have : T2.fn "ISEOF" [.int x] = T1.fn "ISEOF" [.int x] := by kernel_rfl
  rw [this, T0_iseof]
theorem T2_isinst (b : Bool) : T2.fn "isinstance" [.bool b, .ty "bool"] = some (.bool true) := by kernel_rfl
theorem T2_bool : T2.glob "bool" = some (.ty "bool") := by kernel_rfl
theorem in_ints (k : Nat) (l : List Nat) : cmpop .In (.int (k : Int)) (.list (intsV l)) = some (l.contains k) := by
  show (ints? (intsV l)).map (fun ns => ns.any (· == (k : Int))) = _
  rw [ints_V]
  simp only [Option.map_some, List.any_map]
  congr 1
  induction l with
  | nil => rfl
  | cons j r ih =>
    rw [List.any_cons, List.contains_cons, ih]
    congr 1
    simp only [Function.comp]
    by_cases h : j = k
    · subst h; simp
    · rw [beq_eq_false_iff_ne.mpr (by omega : (j : Int) ≠ k), beq_eq_false_iff_ne.mpr (Ne.symm h)]
theorem notin_ints (l : List Nat) : cmpop .NotIn (.int 0) (.list (intsV l)) = some (!(l.contains 0)) := by
  have := in_ints 0 l
  show (ints? (intsV l)).map (fun ns => !(ns.any (· == (0 : Int)))) = _
  change (ints? (intsV l)).map (fun ns => ns.any (· == ((0 : Nat) : Int))) = _ at this
  rw [Option.map_eq_some_iff] at this
  obtain ⟨x, h1, h2⟩ := this
  rw [h1, Option.map_some, ← h2]; rfl
noncomputable def lowV (W : Nat → Int) : PV → Option PV
  | .int k => some (.int (lowN W k.toNat))
  | _ => none
noncomputable def topV (W : Nat → Int) : PV → Option PV
  | .int k => some (.int (topN W k.toNat))
  | _ => none
theorem fm_low {l : List Nat} {W : Nat → Int} : (intsV l).filterMap (lowV W) = (l.map (lowN W)).map .int := by
  unfold intsV
  rw [fm_map _ _ _ (fun k => PV.int (lowN W k)) fun k _ => by simp [lowV], List.map_map]; rfl
theorem fm_top {l : List Nat} {W : Nat → Int} : (intsV l).filterMap (topV W) = (l.map (topN W)).map .int := by
  unfold intsV
  rw [fm_map _ _ _ (fun k => PV.int (topN W k)) fun k _ => by simp [topV], List.map_map]; rfl
theorem law_mid {ns : List Int} {fi se : Int} {W : Nat → Int} {a : Nat} {g0 dr rp fam : List Nat} {tl : Rho} (hD : Small dr) (hdl : dr.length ≤ 32) (hne : dr ≠ []) (ht : TailQ tl) :
    ∃ tl', TailD tl' ∧ seqL (exS T2 oN 30 (fnAt 69).2.2) ((fnAt 69).2.1.drop 12) (RQ ns fi se W a g0 dr rp fam [.list (intsV dr), .list (intsV (blk dr))] tl) = seqL (exS T2 oN 30 (fnAt 69).2.2) ((fnAt 69).2.1.drop 13) (RQ ns fi se W a g0 dr rp fam [.list (intsV dr), .list (intsV (blk dr))] tl') := by
  have hni := notin_ints dr
  obtain ⟨v, u, w, rfl⟩ := ht
  by_cases h0 : dr.contains 0 = true
  · rw [h0] at hni
    refine ⟨_, .inl ⟨v, u, w, rfl⟩, seqL_of rfl ((seqL_next (exS_if (evT_cmp (by kernel_rfl) (a := .int 0) (b := .list (intsV dr)) (by kernel_rfl) (by kernel_rfl) hni))).trans (by kernel_rfl))⟩
  · have h0f : dr.contains 0 = false := by simpa using h0
    rw [h0f] at hni
    have h0m : 0 ∉ dr := by
      intro h
      exact h0 (List.contains_iff_mem.mpr h)
    obtain ⟨bB, bZ, bE⟩ := bottle (W := W) hD hne h0m
    have bl := blk_len dr
    have bs := blk_small dr
    have zD : ∀ f ∈ dr, numsN W f ≠ [] := fun f hf => nums_ne (hD f hf) fun e => h0m (e ▸ hf)
    have zB : ∀ f ∈ blk dr, numsN W f ≠ [] := fun f hf => nums_ne (bs f hf) fun e => bZ (e ▸ hf)
    have hLne : dr.map (lowN W) ≠ [] := fun e => hne (List.map_eq_nil_iff.mp e)
    have hBne : (blk dr).map (topN W) ≠ [] := fun e => bB (List.map_eq_nil_iff.mp e)
    have lmV : ∀ {l : List Nat}, l.length ≤ 32 → (intsV l).length ≤ lim := fun h => by rw [lenV]; exact Nat.le_trans h (by decide)
    generalize hB : blk dr = B at *
    have kD := lmV hdl
    have kB := lmV bl
    generalize hM : minL (B.map (topN W)) = M at *
    have hmin := T2_min _ hBne
    rw [hM] at hmin
    refine ⟨_, .inr ⟨v, u, .list ((dr.map (lowN W)).map fun l => .bool (l - M == 0)), .list ((dr.map (lowN W)).map .int), .int M, rfl⟩, seqL_of rfl ((seqL_next (ρ1 := RQ ns fi se W a g0 dr rp fam [.list (intsV dr), .list (intsV B)] [(Str.ofString "part", .val v), (Str.ofString "pairs", .val u), (Str.ofString "told", .val (.list ((dr.map (lowN W)).map fun l => .bool (l - M == 0)))), (Str.ofString "lows", .val (.list ((dr.map (lowN W)).map .int))), (Str.ofString "least", .val (.int M))])
      (exS_ifT (evT_cmp (by kernel_rfl) (a := .int 0) (b := .list (intsV dr)) (by kernel_rfl) (by kernel_rfl) hni) ?_)).trans (by kernel_rfl))⟩
    -- lows
    refine seqL_s (exS_as (by kernel_rfl) (by kernel_rfl) (u := .list ((dr.map (lowN W)).map .int)) ((evE_comp (lowV W) (it := .list (intsV dr)) (xs := intsV dr) (by kernel_rfl) (by kernel_rfl) rfl (by kernel_rfl) kD fun v hv => ?_).trans (congrArg (fun l => some (PV.list l)) fm_low))
      (ρ' := RQ ns fi se W a g0 dr rp fam [.list (intsV dr), .list (intsV B)] [(Str.ofString "part", .val v), (Str.ofString "pairs", .val u), (Str.ofString "told", .val w), (Str.ofString "lows", .val (.list ((dr.map (lowN W)).map .int)))]) (by kernel_rfl)) ?_
    · obtain ⟨k, hk, rfl⟩ := List.mem_map.mp hv
      exact turn_0 (evE_call (by kernel_rfl) (evs1 (evE_call (by kernel_rfl) (evsC (x := .int (k : Int)) (by kernel_rfl) (evsC (x := worthsV W) (by kernel_rfl) rfl)) ((T2_nums _).trans (nums_native W k)))) (T2_min _ (zD k hk)))
    -- least
    refine seqL_s (exS_as (by kernel_rfl) (by kernel_rfl) (u := .int M) (evE_call (by kernel_rfl) (evs1 ((evE_comp (topV W) (it := .list (intsV B)) (xs := intsV B) (by kernel_rfl) (by kernel_rfl) rfl (by kernel_rfl) kB fun v hv => ?_).trans (congrArg (fun l => some (PV.list l)) fm_top))) hmin)
      (ρ' := RQ ns fi se W a g0 dr rp fam [.list (intsV dr), .list (intsV B)] [(Str.ofString "part", .val v), (Str.ofString "pairs", .val u), (Str.ofString "told", .val w), (Str.ofString "lows", .val (.list ((dr.map (lowN W)).map .int))), (Str.ofString "least", .val (.int M))]) (by kernel_rfl)) ?_
    · obtain ⟨k, hk, rfl⟩ := List.mem_map.mp hv
      exact turn_0 (evE_call (by kernel_rfl) (evs1 (evE_call (by kernel_rfl) (evsC (x := .int (k : Int)) (by kernel_rfl) (evsC (x := worthsV W) (by kernel_rfl) rfl)) ((T2_nums _).trans (nums_native W k)))) (T2_max _ (zB k hk)))
    generalize hlows : dr.map (lowN W) = lows at *
    have hll : ∀ {α : Type} (f : Int → α), (lows.map f).length ≤ lim := fun f => by rw [List.length_map, ← hlows, List.length_map]; exact Nat.le_trans hdl (by decide)
    -- told
    refine seqL_s (exS_as (by kernel_rfl) (by kernel_rfl) (u := .list (lows.map fun l => .bool (l - M == 0))) ((evE_comp (fun v => match v with | .int l => some (.bool (l - M == 0)) | _ => none) (it := .list (lows.map .int)) (xs := lows.map .int) (by kernel_rfl) (by kernel_rfl) rfl (by kernel_rfl) (hll _) fun v hv => ?_).trans
      (congrArg (fun l => some (PV.list l)) (fm_map _ _ _ (fun l => PV.bool (l - M == 0)) fun l _ => rfl)))
      (ρ' := RQ ns fi se W a g0 dr rp fam [.list (intsV dr), .list (intsV B)] [(Str.ofString "part", .val v), (Str.ofString "pairs", .val u), (Str.ofString "told", .val (.list (lows.map fun l => .bool (l - M == 0)))), (Str.ofString "lows", .val (.list (lows.map .int))), (Str.ofString "least", .val (.int M))]) (by kernel_rfl)) ?_
    · obtain ⟨l, hl, rfl⟩ := List.mem_map.mp hv
      exact turn_0 (evE_call (by kernel_rfl) (evs1 (evE_bin (a := .int l) (b := .int M) (by kernel_rfl) (by kernel_rfl) (b_sub _ _))) (T2_iseof _))
    have hsame : (lows.map fun l => PV.bool (l == maxL lows)) = lows.map fun l => PV.bool (l - M == 0) := by
      refine List.map_congr_left fun l _ => ?_
      rw [bE]
      congr 1
      by_cases h : l = maxL lows
      · rw [h]; simp
      · rw [beq_eq_false_iff_ne.mpr h, beq_eq_false_iff_ne.mpr (by omega)]
    have e5 : (lows.map PV.int).filterMap (fun v => match v with | .int l => some (.bool (l == maxL lows)) | _ => none) = lows.map fun l => PV.bool (l - M == 0) := (fm_map lows (fun l => PV.int l) (fun v => match v with | .int l => some (.bool (l == maxL lows)) | _ => none) (fun l => PV.bool (l == maxL lows)) fun l _ => rfl).trans hsame
    refine seqL_one (exS_if (evT_or2 (evT_cmp (by kernel_rfl) (a := .list (lows.map fun l => .bool (l - M == 0))) (by kernel_rfl) (evW_of (by kernel_rfl) ((evE_comp (fun v => match v with | .int l => some (.bool (l == maxL lows)) | _ => none) (it := .list (lows.map .int)) (xs := lows.map .int) (by kernel_rfl) (by kernel_rfl) rfl (by kernel_rfl) (hll _) fun v hv => ?_).trans
      (congrArg (fun l => some (PV.list l)) e5))) (ne_self _ fun x hx => ?_))
      (evT_cmp (a := .list []) (by kernel_rfl) (evW_of (by kernel_rfl) ((evE_comp (fun _ => none) (it := .list (lows.map fun l => .bool (l - M == 0))) (xs := lows.map fun l => .bool (l - M == 0)) (by kernel_rfl) (by kernel_rfl) rfl (by kernel_rfl) (hll _) fun v hv => ?_).trans ?_)) (b := .list []) (by kernel_rfl) rfl)))
    · obtain ⟨l, hl, rfl⟩ := List.mem_map.mp hv
      exact turn_0 (evE_cmp (by kernel_rfl) (a := .int l) (by kernel_rfl) (evW_of (by kernel_rfl) (evE_call (by kernel_rfl) (evs1 (x := .list (lows.map .int)) (by kernel_rfl)) (T2_max lows hLne))) (c_eq _ _))
    · obtain ⟨l, _, rfl⟩ := List.mem_map.mp hx
      show some ((l - M == 0) == (l - M == 0)) = _
      rw [beq_self_eq_true]
    · obtain ⟨l, hl, rfl⟩ := List.mem_map.mp hv
      exact turn_F (evT_not (c := true) (evT_ca (evE_call (by kernel_rfl) (evsC (x := .bool (l - M == 0)) (by kernel_rfl) (evsC (x := .ty "bool") (by kernel_rfl) rfl)) (T2_isinst _))))
    · refine congrArg (fun l => some (PV.list l)) ?_
      generalize (lows.map fun l => PV.bool (l - M == 0)) = q
      induction q with
      | nil => rfl
      | cons x r ih => rw [List.filterMap_cons, ih]
end Mine
end
section
open PySem PySem.W PyProof.Rows PySem.Calls
set_option maxRecDepth 100000
namespace Mine
noncomputable def lessN (dr : List Nat) (f : Nat) : List Nat := dr.filter fun o => o != f && (o &&& f) == o
noncomputable def dueB (dr : List Nat) (f : Nat) : Bool := dr.contains f && (lessN dr f).isEmpty
theorem due_eq {dr : List Nat} (hD : Small dr) : blk (blk dr) = (List.range 32).filter (dueB dr) := by
  unfold blk
  refine List.filter_congr fun f hf => ?_
  have hf := List.mem_range.mp hf
  have : ((List.range 32).filter (blkB dr)) = blk dr := rfl
  rw [this, Bool.eq_iff_iff, blk_blk hD hf]
  unfold dueB lessN
  rw [Bool.and_eq_true, List.contains_iff_mem, List.isEmpty_iff, List.filter_eq_nil_iff]
  refine and_congr_right fun _ => ⟨fun h o ho hc => ?_, fun h o ho hs => ?_⟩
  · rw [Bool.and_eq_true, bne_iff_ne] at hc
    exact hc.1 (h o ho ((sub_iff hf (hD o ho)).mp hc.2))
  · apply Classical.byContradiction
    intro hne
    refine h o ho ?_
    rw [Bool.and_eq_true, bne_iff_ne]
    exact ⟨hne, (sub_iff hf (hD o ho)).mpr hs⟩
noncomputable def duFor : List Stmt := match (fnAt 69).2.1.drop 14 with
  | .For _ _ b _ _ :: _ => b
  | _ => []
/-- the frame with its last names -/
noncomputable def RD (ns : List Int) (fi se : Int) (W : Nat → Int) (a : Nat) (g0 dr rp fam : List Nat) (ls : List PV) (td : Rho) (ds : List Nat) (m : Rho) : Rho :=
  RQ ns fi se W a g0 dr rp fam ls (td ++ (Str.ofString "due", Bd.own (intsV ds)) :: m)
noncomputable def TailM2 (m : Rho) : Prop := m = [] ∨ ∃ v, m = [(Str.ofString "flags", Bd.val v)]
theorem nat_beq (x y : Nat) : ((x : Int) == (y : Int)) = (x == y) := by
  by_cases h : x = y
  · subst h; simp
  · rw [beq_eq_false_iff_ne.mpr h, beq_eq_false_iff_ne.mpr (by omega)]
theorem c_eqN (x y : Nat) : cmpop .Eq (.int (x : Int)) (.int (y : Int)) = some (x == y) := by rw [c_eq, nat_beq]
theorem c_neN (x y : Nat) : cmpop .NotEq (.int (x : Int)) (.int (y : Int)) = some (x != y) := by
  show some (!((x : Int) == (y : Int))) = _
  rw [nat_beq]; rfl
noncomputable def lessV (f : Nat) : PV → Option PV
  | .int o => if (o.toNat != f && (o.toNat &&& f) == o.toNat) = true then some (.int o) else none
  | _ => none
theorem flags_D {ns : List Int} {fi se : Int} {W : Nat → Int} {a : Nat} {g0 dr rp fam ds : List Nat} {ls : List PV} {td m : Rho} (v : PV) (ht : TailD td) (hm : TailM2 m) :
    setR (RD ns fi se W a g0 dr rp fam ls td ds m) "flags" (.val v) = RD ns fi se W a g0 dr rp fam ls td ds [(Str.ofString "flags", .val v)] := by
  rw [← setRF_eq]
  rcases hm with rfl | ⟨v, rfl⟩ <;> rcases ht with ⟨v1, v2, v3, rfl⟩ | ⟨v1, v2, v3, v4, v5, rfl⟩ <;> kernel_rfl
theorem own_D {ns : List Int} {fi se : Int} {W : Nat → Int} {a : Nat} {g0 dr rp fam ds : List Nat} {ls : List PV} {td m : Rho} (ht : TailD td) : lkS (RD ns fi se W a g0 dr rp fam ls td ds m) (Str.ofString "due") = some (.own (intsV ds)) := by
  rcases ht with ⟨v1, v2, v3, rfl⟩ | ⟨v1, v2, v3, v4, v5, rfl⟩ <;> kernel_rfl
theorem flag_D {ns : List Int} {fi se : Int} {W : Nat → Int} {a : Nat} {g0 dr rp fam ds : List Nat} {ls : List PV} {td : Rho} {v : PV} (ht : TailD td) : lkS (RD ns fi se W a g0 dr rp fam ls td ds [(Str.ofString "flags", .val v)]) (Str.ofString "flags") = some (.val v) := by
  rcases ht with ⟨v1, v2, v3, rfl⟩ | ⟨v1, v2, v3, v4, v5, rfl⟩ <;> kernel_rfl
theorem due_D {ns : List Int} {fi se : Int} {W : Nat → Int} {a : Nat} {g0 dr rp fam ds : List Nat} {ls : List PV} {td m : Rho} {f : Nat} (ht : TailD td) : setRF (RD ns fi se W a g0 dr rp fam ls td ds m) (Str.ofString "due") (.own (intsV ds ++ [.int (f : Int)])) = RD ns fi se W a g0 dr rp fam ls td (ds ++ [f]) m := by
  rw [show intsV ds ++ [PV.int (f : Int)] = intsV (ds ++ [f]) from (intsV_app ds [f]).symm]
  rcases ht with ⟨v1, v2, v3, rfl⟩ | ⟨v1, v2, v3, v4, v5, rfl⟩ <;> kernel_rfl
theorem flagE_D {T : Tab} {n : Nat} {sc : Scope} {ρ : Rho} {x : Str} {p : Pos} {v : PV} (hs : (if eqS x "__debug__" then false else match lkS sc.names x with | some .local => true | some .cell => true | _ => false) = true) (h : lkS ρ x = some (.val v)) : evE T (n + 1) sc ρ (.Name x p) = some v := by
  show (if eqS x "__debug__" then none else match lkS sc.names x with
    | some k => (match k with
      | .local => valOf (lkS ρ x)
      | .cell => valOf (lkS ρ x)
      | .globalImplicit => T.glob x
      | _ => none)
    | none => none) = _
  split
  · rename_i hd; rw [if_pos hd] at hs; cases hs
  · rename_i hd
    rw [if_neg hd] at hs
    cases hk : lkS sc.names x with
    | none => rw [hk] at hs; cases hs
    | some k =>
      rw [hk] at hs
      cases k <;> first | cases hs; done | (rw [h]; rfl)
theorem body_D {ns : List Int} {fi se : Int} {W : Nat → Int} {a : Nat} {g0 dr rp fam ds : List Nat} {ls : List PV} {td m : Rho} {f : Nat} (hdl : dr.length ≤ 32) (hs : ds.length ≤ 40) (ht : TailD td) (hm : TailM2 m) :
    ∃ m', TailM2 m' ∧ seqL (exS T2 oN 29 (fnAt 69).2.2) duFor (setR (RD ns fi se W a g0 dr rp fam ls td ds m) "flags" (.val (.int (f : Int)))) = some (RD ns fi se W a g0 dr rp fam ls td (if dueB dr f then ds ++ [f] else ds) m', .next) := by
  refine ⟨[(Str.ofString "flags", .val (.int (f : Int)))], .inr ⟨_, rfl⟩, ?_⟩
  rw [flags_D _ ht hm]
  have hl : (intsV ds).length < lim := by rw [lenV]; exact Nat.lt_of_le_of_lt hs (by decide)
  have hin := in_ints f dr
  have hdl' : (intsV dr).length ≤ lim := by rw [lenV]; exact Nat.le_trans hdl (by decide)
  have vf : ∀ {n : Nat} {p : Pos}, evE T2 (n + 1) (fnAt 69).2.2 (RD ns fi se W a g0 dr rp fam ls td ds [(Str.ofString "flags", .val (.int (f : Int)))]) (.Name (Str.ofString "flags") p) = some (.int (f : Int)) := fun {n p} => flagE_D (by kernel_rfl) (flag_D ht)
  have of : ∀ {p : Pos}, ownOfF (fnAt 69).2.2 (RD ns fi se W a g0 dr rp fam ls td ds [(Str.ofString "flags", .val (.int (f : Int)))]) (.Name (Str.ofString "flags") p) = none := fun {p} => by
    rcases ht with ⟨v1, v2, v3, rfl⟩ | ⟨v1, v2, v3, v4, v5, rfl⟩ <;> kernel_rfl
  cases hc : dr.contains f with
  | false =>
    rw [hc] at hin
    have hd : dueB dr f = false := by unfold dueB; rw [hc]; rfl
    rw [hd]
    exact seqL_of rfl (seqL_one (exS_if (evT_andF (evT_cmp (by kernel_rfl) (evW_of of vf) (b := .list (intsV dr)) (by kernel_rfl) hin))))
  | true =>
    rw [hc] at hin
    have hd : dueB dr f = (lessN dr f).isEmpty := by unfold dueB; rw [hc]; rfl
    rw [hd]
    have hleq : cmpop .Eq (.list (intsV (lessN dr f))) (.list []) = some (lessN dr f).isEmpty := by
      rw [leq_nil]; exact congrArg some List.isEmpty_map
    have el : (intsV dr).filterMap (lessV f) = intsV (lessN dr f) := filterMap_nats (fun o => o != f && (o &&& f) == o) (fun o => PV.int (o : Int)) dr (lessV f) fun k _ => rfl
    -- the turn of the inner list
    have turn : ∀ {n : Nat} {sc : Scope} {ρ : Rho} {l1 r1 l2 r2 elt : Expr} {p p1 p2 : Pos} (o : Nat), behindInMarks .NotEq r1 = false → evW T2 n sc ρ l1 = some (.int (o : Int)) → evW T2 n sc ρ r1 = some (.int (f : Int)) → behindInMarks .Eq r2 = false → evW T2 n sc ρ l2 = some (.int ((o &&& f : Nat) : Int)) → evW T2 n sc ρ r2 = some (.int (o : Int)) →
        evE T2 (n + 2) sc ρ elt = some (.int (o : Int)) → turnE T2 (n + 2) sc ρ [.BoolOp .And [.Compare l1 [.NotEq] [r1] p1, .Compare l2 [.Eq] [r2] p2] p] elt = some (lessV f (.int (o : Int))) := by
      intro n sc ρ l1 r1 l2 r2 elt p p1 p2 o b1 h1 h2 b2 h3 h4 h5
      have q1 := c_neN o f
      have q2 := c_eqN (o &&& f) o
      show _ = some (if (o != f && (o &&& f) == o) = true then some (PV.int (o : Int)) else none)
      cases e1 : (o != f) with
      | false => rw [e1] at q1; exact turn_F (evT_andF (evT_cmp b1 h1 h2 q1))
      | true =>
        rw [e1] at q1
        exact turn_c (evT_and2 (evT_cmp b1 h1 h2 q1) (evT_cmp b2 h3 h4 q2)) h5
    have inner : ∀ {n : Nat} {sc' : Scope} {elt iter : Expr} {x : Str} {px pos : Pos} {ifs : List Expr}, okIter iter = true → evE T2 n (fnAt 69).2.2 (RD ns fi se W a g0 dr rp fam ls td ds [(Str.ofString "flags", .val (.int (f : Int)))]) iter = some (.list (intsV dr)) → freeOkF sc' (fnAt 69).2.2 x = true →
        (∀ o : Nat, turnE T2 n (relabF sc' (fnAt 69).2.2) (rhoCF sc' (RD ns fi se W a g0 dr rp fam ls td ds [(Str.ofString "flags", .val (.int (f : Int)))]) x (.int (o : Int))) ifs elt = some (lessV f (.int (o : Int)))) →
        evE T2 (n + 1) (fnAt 69).2.2 (RD ns fi se W a g0 dr rp fam ls td ds [(Str.ofString "flags", .val (.int (f : Int)))]) (.ListComp elt [⟨.Name x px, iter, ifs, 0⟩] sc' pos) = some (.list (intsV (lessN dr f))) := by
      intro n sc' elt iter x px pos ifs h1 h2 h3 h4
      refine (evE_comp (lessV f) (it := .list (intsV dr)) (xs := intsV dr) h1 h2 rfl h3 hdl' fun v hv => ?_).trans (congrArg (fun l => some (PV.list l)) el)
      obtain ⟨o, _, rfl⟩ := List.mem_map.mp hv
      exact h4 o
    cases he : (lessN dr f).isEmpty with
    | false =>
      rw [he] at hleq
      refine seqL_of rfl (seqL_one (exS_if (evT_and2 (evT_cmp (by kernel_rfl) (evW_of of vf) (b := .list (intsV dr)) (by kernel_rfl) hin) (evT_cmp (by kernel_rfl) (evW_of (by kernel_rfl) (inner (by kernel_rfl) (by kernel_rfl) (by kernel_rfl) fun o => ?_)) (b := .list []) (by kernel_rfl) hleq))))
      rcases ht with ⟨v1, v2, v3, rfl⟩ | ⟨v1, v2, v3, v4, v5, rfl⟩ <;>
        exact turn o (by kernel_rfl) (by kernel_rfl) (by kernel_rfl) (by kernel_rfl) (evW_of (by kernel_rfl) (evE_bin (a := .int (o : Int)) (b := .int (f : Int)) (by kernel_rfl) (by kernel_rfl) (b_and o f))) (by kernel_rfl) (by kernel_rfl)
    | true =>
      rw [he] at hleq
      refine seqL_of rfl (seqL_one (exS_ifT (evT_and2 (evT_cmp (by kernel_rfl) (evW_of of vf) (b := .list (intsV dr)) (by kernel_rfl) hin) (evT_cmp (by kernel_rfl) (evW_of (by kernel_rfl) (inner (by kernel_rfl) (by kernel_rfl) (by kernel_rfl) fun o => ?_)) (b := .list []) (by kernel_rfl) hleq)) (seqL_one (exS_ap rfl (own_D ht) vf hl (due_D ht)))))
      rcases ht with ⟨v1, v2, v3, rfl⟩ | ⟨v1, v2, v3, v4, v5, rfl⟩ <;>
        exact turn o (by kernel_rfl) (by kernel_rfl) (by kernel_rfl) (by kernel_rfl) (evW_of (by kernel_rfl) (evE_bin (a := .int (o : Int)) (b := .int (f : Int)) (by kernel_rfl) (by kernel_rfl) (b_and o f))) (by kernel_rfl) (by kernel_rfl)
end Mine
end
section
open PySem PySem.W PyProof.Rows PySem.Calls
set_option maxRecDepth 100000
namespace Mine
theorem loop_D {ns : List Int} {fi se : Int} {W : Nat → Int} {a : Nat} {g0 dr rp fam : List Nat} {ls : List PV} {td : Rho} (hdl : dr.length ≤ 32) (ht : TailD td) : ∀ (L : List Nat) {ds : List Nat} {m : Rho}, ds.length + L.length ≤ 40 → TailM2 m →
    ∃ m', TailM2 m' ∧ forL (fun ρ v => seqL (exS T2 oN 29 (fnAt 69).2.2) duFor (setR ρ "flags" (.val v))) (intsV L) (RD ns fi se W a g0 dr rp fam ls td ds m) = some (RD ns fi se W a g0 dr rp fam ls td (ds ++ L.filter (dueB dr)) m', .next)
  | [], ds, m, _, hm => ⟨m, hm, by simp [intsV, forL]⟩
  | f :: r, ds, m, hs, hm => by
    simp only [List.length_cons] at hs
    obtain ⟨m1, hm1, e1⟩ := body_D (ns := ns) (fi := fi) (se := se) (W := W) (a := a) (g0 := g0) (rp := rp) (fam := fam) (ls := ls) (ds := ds) (f := f) hdl (by omega) ht hm
    have hlen : (if dueB dr f then ds ++ [f] else ds).length + r.length ≤ 40 := by
      split
      · simp; omega
      · omega
    obtain ⟨m2, hm2, e2⟩ := loop_D (ns := ns) (fi := fi) (se := se) (W := W) (a := a) (g0 := g0) (rp := rp) (fam := fam) (ls := ls) hdl ht r hlen hm1
    refine ⟨m2, hm2, ?_⟩
    show forL _ (PV.int (f : Int) :: intsV r) _ = _
    unfold forL
    rw [e1]
    dsimp only
    rw [e2]
    congr 3
    rw [List.filter_cons]
    split <;> simp
theorem eq_ints (F : List Nat) : cmpop .Eq (.list (intsV F)) (.list (intsV F)) = some true := by
  show leq _ _ = _
  unfold leq
  rw [if_pos rfl, feqs_self]
  · simp
  · intro x hx
    obtain ⟨j, _, rfl⟩ := List.mem_map.mp hx
    show some ((j : Int) == (j : Int)) = _
    simp
theorem law_tail {ns : List Int} {fi se : Int} {W : Nat → Int} {a : Nat} {g0 dr rp : List Nat} {ls : List PV} {td : Rho} (hD : Small dr) (hdl : dr.length ≤ 32) (ht : TailD td) :
    ∃ ρ', seqL (exS T2 oN 30 (fnAt 69).2.2) ((fnAt 69).2.1.drop 13) (RQ ns fi se W a g0 dr rp (blk (blk dr)) ls td) = some (ρ', .ret (.bool true)) := by
  obtain ⟨m, hm, hl⟩ := loop_D (ns := ns) (fi := fi) (se := se) (W := W) (a := a) (g0 := g0) (dr := dr) (rp := rp) (fam := blk (blk dr)) (ls := ls) hdl ht (List.range 32) (ds := []) (m := []) (by simp) (.inl rfl)
  rw [List.nil_append, ← due_eq hD] at hl
  have hq := eq_ints (blk (blk dr))
  generalize blk (blk dr) = fam at *
  have e1 : setRF (RQ ns fi se W a g0 dr rp fam ls td) (Str.ofString "due") (.own []) = RD ns fi se W a g0 dr rp fam ls td [] [] := by
    rcases ht with ⟨v1, v2, v3, rfl⟩ | ⟨v1, v2, v3, v4, v5, rfl⟩ <;> kernel_rfl
  have e2 : ownOfF (fnAt 69).2.2 (RD ns fi se W a g0 dr rp fam ls td fam m) (.Name (Str.ofString "due") default) = some (intsV fam) := by
    rcases ht with ⟨v1, v2, v3, rfl⟩ | ⟨v1, v2, v3, v4, v5, rfl⟩ <;> kernel_rfl
  exact ⟨RD ns fi se W a g0 dr rp fam ls td fam m, seqL_of rfl (seqL_s (exS_new (by kernel_rfl) (by kernel_rfl) e1)
    (seqL_s (exS_For (y := .range 32) (xs := intsV (List.range 32)) (by kernel_rfl) (by kernel_rfl) (by kernel_rfl) (items_range (by decide)) hl)
      (seqL_ret (exS_ret (evW_of (by kernel_rfl) (evE_cmp (by kernel_rfl) (a := .list (intsV fam)) (by kernel_rfl) (evW_own e2) hq))))))⟩
theorem dr_small (fi : Int) : Small (drOf fi) ∧ (drOf fi).length ≤ 32 ∧ drOf fi ≠ [] := by
  refine ⟨fun o ho => ?_, by simp [drOf], by simp [drOf]⟩
  obtain ⟨k, _, rfl⟩ := List.mem_map.mp ho
  omega
theorem g_ok (se : Int) : gapOk (gOf se) ∧ (gOf se).length ≤ 2 ∧ ∀ c ∈ gOf se, c < 128 ∧ c ≠ 10 := by
  unfold gOf gapOk blank
  split
  · refine ⟨by simp, by decide, by decide⟩
  · split
    · refine ⟨by simp, by decide, by decide⟩
    · refine ⟨by simp, by decide, by decide⟩
theorem hplain (ns : List Int) (hz : ns.length ≤ 63) : runOf T2 dLaw [.list (ns.map .int)] = some (.bool true) := by
  rw [at_Law]
  obtain ⟨d1, d2, d3⟩ := dr_small (fiOf ns)
  obtain ⟨k1, k2, k3⟩ := g_ok (seOf ns)
  have ha : (seOf ns % 8).toNat < 8 := by omega
  obtain ⟨rp, tl, t1, e1⟩ := law_loop (ns := ns) (fi := fiOf ns) (se := seOf ns) (W := WOf ns) ha d1 d2 k1 k2 k3
  obtain ⟨tl', t2, e2⟩ := law_mid (ns := ns) (fi := fiOf ns) (se := seOf ns) (W := WOf ns) (a := (seOf ns % 8).toNat) (g0 := gOf (seOf ns)) (rp := rp) (fam := blk (blk (drOf (fiOf ns)))) d1 d2 d3 t1
  obtain ⟨ρ', e3⟩ := law_tail (ns := ns) (fi := fiOf ns) (se := seOf ns) (W := WOf ns) (a := (seOf ns % 8).toNat) (g0 := gOf (seOf ns)) (rp := rp) (ls := [.list (intsV (drOf (fiOf ns))), .list (intsV (blk (drOf (fiOf ns))))]) d1 d2 t2
  exact runOf_R (by kernel_rfl) rfl ⟨ρ', law_head hz (e1.trans (e2.trans e3))⟩
end Mine
end
theorem PySem.Challenge.cw_kl0207_01_holds : PySem.Challenge.rw_kl0207_01.Holds :=
  Mine.law_walk Mine.hplain
