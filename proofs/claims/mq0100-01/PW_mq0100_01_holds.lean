import PyProof.Rows.All
import Wide.All
import OpenK.AllK
import Wide.FinOn
import PySem.Challenge.RW_mq0100_01
set_option Elab.async false
-- part HA
section
open PySem PySem.W PyProof.Rows
set_option linter.unusedVariables false
set_option maxRecDepth 100000
set_option maxHeartbeats 0
namespace Mine
noncomputable section
theorem tw_made : (PySem.Challenge.pw_mq0100_01.main.body.length == 23) = true := by k_qdec
noncomputable def fnA (p : Program) (i : Nat) : Arguments := match p.main.body[i]? with | some (.FunctionDef _ a _ _ _ _ _ _ _ _) => a | _ => default
noncomputable def fnB (p : Program) (i : Nat) : List Stmt := match p.main.body[i]? with | some (.FunctionDef _ _ b _ _ _ _ _ _ _) => b | _ => []
noncomputable def fnS (p : Program) (i : Nat) : Scope := match p.main.body[i]? with | some (.FunctionDef _ _ _ _ _ _ s _ _ _) => s | _ => default
noncomputable def stm (p : Program) (i : Nat) : Stmt := p.main.body.getD i (.Pass default)
abbrev lf : Life := {}
abbrev dr : Drawn := {}
abbrev ann : Option Value := some (.ref 6)
noncomputable def env (p : Program) : Env := { scope := p.main.scope, locals := mainNs, globals := mainNs, cells := [], code := .ref 13, frame := some 14 }
noncomputable def cE (p : Program) : Code := .body (behindTheImports p) (env p)
abbrev B0 : List Frame := [topFrame ⟨0, 0, 0, 0⟩]
abbrev runT (w : World) (n : Nat) (s : SharedT) (t : Thread) := segRunT treeTable PySem.Challenge.pw_mq0100_01 w 11 ann 1 n s t
abbrev goT (w : World) (n : Nat) (s : SharedT) (t : Thread) := segGoT treeTable PySem.Challenge.pw_mq0100_01 w 11 ann 1 n s t
abbrev SG := (String → Option Builtin) → Program → World → Nat → Option Value → Nat → Nat → SharedT → Thread → Option (SharedT × Thread)
abbrev DN := (String → Option Builtin) → Code → Sem Fin
noncomputable def stkOf (r : Option (SharedT × Thread)) : List Frame := match r with | some (_, t) => t.stack | none => []
noncomputable def okStk (l : List Frame) : Bool := match l with | .ret _ _ _ _ _ _ _ :: _ :: _ => true | _ => false
/-- n ints from x on, with rising tokens -/
noncomputable def up : Nat → Nat → Nat → List Value
  | 0, _, _ => []
  | n + 1, x, t => .int (Int.ofNat x) t :: up n (x + 1) (t + 1)
noncomputable def ents (l : List (Nat × Nat)) : List (Int × Value) := l.map fun q => (Int.ofNat q.1, .int (Int.ofNat q.1) q.2)
/-- a set of ints as the top lays it -/
noncomputable def setO (l : List (Nat × Nat)) (n mask : Nat) (pl : List Nat) (mv : Nat) (b : Bool) : Obj :=
  ⟨.type "set", none, .set (Array.mk (ents l)) n ⟨mask, Array.mk pl, Array.mk [], 0, b, mv, true⟩, Array.mk []⟩
/-- a def of the text as the top leaves it; its parts are read off the text by rfl -/
noncomputable def kfn {p : Program} {i : Nat} {n : Str} {a : Arguments} {b : List Stmt} {ds : List Expr} {r : Option Expr} {tp : List TypeParam} {sc : Scope} {ts : Option Scope} {bi : Str} {pos : Pos}
    (h : p.main.body[i]? = some (.FunctionDef n a b ds r tp sc ts bi pos)) (nm : Str) (pm cd : Value) : Obj :=
  ⟨.type "function", none, .func { name := nm, qualname := nm, params := a, body := .stmts b, scope := sc, globals := 3, closure := [], defaults := .none, kwdefaults := .none, doc := .none, pyModule := pm, annotations := none, code := cd, closureTuple := .none, builtins := 0 }, Array.mk []⟩
/-- one turn of a built-in's loop, whatever stack lies below -/
abbrev TEq (sg : SG) (dn : DN) (tb : String → Option Builtin) (p : Program) (T : Program → Params → Obj → Obj → BT) (n : Nat) (cd : Code) (pos : Pos) (c : Nat) (a b : Obj) (tk : Nat) (a' b' : Obj) (tk' : Nat)
    (w : World) (os : OsState) (k : Result → Sem Fin) (h : Option Value) (g : Bool) (lv : List Value) (cc : Code) (q : Pos) (kept : List Value) (f : Frame) (fs : List Frame) : Prop :=
  sg tb p w 11 ann 1 c (SharedT.mk (T p w.params a b) n lf (Array.mk []) dr tk os) ⟨dn tb cd, cd, pos, .ret k h g lv cc q kept :: f :: fs⟩ =
    some (SharedT.mk (T p w.params a' b') n lf (Array.mk []) dr tk' os, ⟨dn tb cd, cd, pos, .ret k h g lv cc q kept :: f :: fs⟩)
noncomputable def TurnG (sg : SG) (dn : DN) (tb : String → Option Builtin) (p : Program) (T : Program → Params → Obj → Obj → BT) (n : Nat) (cd : Code) (pos : Pos) (c : Nat) (a b : Obj) (tk : Nat) (a' b' : Obj) (tk' : Nat) : Prop :=
  ∀ (w : World) (os : OsState) (k : Result → Sem Fin) (h : Option Value) (g : Bool) (lv : List Value) (cc : Code) (q : Pos) (kept : List Value) (f : Frame) (fs : List Frame), TEq sg dn tb p T n cd pos c a b tk a' b' tk' w os k h g lv cc q kept f fs
abbrev Turn := TurnG @segGoT @denote treeTable PySem.Challenge.pw_mq0100_01
theorem turn_pl {T : Program → Params → Obj → Obj → BT} {n : Nat} {cd : Code} {pos : Pos} {c : Nat} {a b : Obj} {tk : Nat} {a' b' : Obj} {tk' : Nat}
    (h : TurnG @PySem.W.Fast.tw10295753902157049106 @PySem.W.Fast.tw11892475500146522536 PySem.W.Fast.tw14364793385576792824 PySem.W.Fast.tw7261500446525621778 T n cd pos c a b tk a' b' tk') : Turn T n cd pos c a b tk a' b' tk' := by
  unfold Turn; rewrite [PySem.W.Fast.te10295753902157049106, PySem.W.Fast.te11892475500146522536, PySem.W.Fast.te14364793385576792824, PySem.W.Fast.te7261500446525621778]; exact h
theorem turn_row {T : Program → Params → Obj → Obj → BT} {n : Nat} {cd : Code} {pos : Pos} {c : Nat} {a b : Obj} {tk : Nat} {a' b' : Obj} {tk' : Nat}
    (h0 : ∀ (w : World) (os : OsState) (k : Result → Sem Fin) (h : Option Value) (g : Bool) (lv : List Value) (cc : Code) (q : Pos) (kept : List Value) (f : Frame) (fs : List Frame),
      TEq @PySem.W.Fast.tw10295753902157049106 @PySem.W.Fast.tw11892475500146522536 PySem.W.Fast.tw14364793385576792824 PySem.W.Fast.tw7261500446525621778 T n cd pos c a b tk a' b' tk' (w.withFollow "special-get-raises" false) os k h g lv cc q kept f fs)
    (h1 : ∀ (w : World) (os : OsState) (k : Result → Sem Fin) (h : Option Value) (g : Bool) (lv : List Value) (cc : Code) (q : Pos) (kept : List Value) (f : Frame) (fs : List Frame),
      TEq @PySem.W.Fast.tw10295753902157049106 @PySem.W.Fast.tw11892475500146522536 PySem.W.Fast.tw14364793385576792824 PySem.W.Fast.tw7261500446525621778 T n cd pos c a b tk a' b' tk' (w.withFollow "special-get-raises" true) os k h g lv cc q kept f fs) :
    Turn T n cd pos c a b tk a' b' tk' :=
  turn_pl (byRow2 "special-get-raises" (P := fun w => ∀ (os : OsState) (k : Result → Sem Fin) (h : Option Value) (g : Bool) (lv : List Value) (cc : Code) (q : Pos) (kept : List Value) (f : Frame) (fs : List Frame),
      TEq @PySem.W.Fast.tw10295753902157049106 @PySem.W.Fast.tw11892475500146522536 PySem.W.Fast.tw14364793385576792824 PySem.W.Fast.tw7261500446525621778 T n cd pos c a b tk a' b' tk' w os k h g lv cc q kept f fs) h0 h1)
theorem go_add {tb : String → Option Builtin} {p : Program} {w : World} {n₀ : Nat} {an : Option Value} {b : Nat} {m : Nat} {r : SharedT × Thread} : ∀ {n : Nat} {s s' : SharedT} {t t' : Thread},
    segGoT tb p w n₀ an b n s t = some (s', t') → segGoT tb p w n₀ an b m s' t' = some r → segGoT tb p w n₀ an b (n + m) s t = some r
  | 0, s, s', t, t', h, k => by
    obtain ⟨rfl, rfl⟩ : s = s' ∧ t = t' := by simpa [segGoT] using h
    rw [Nat.zero_add]; exact k
  | n + 1, s, s', t, t', h, k => by
    rw [show n + 1 + m = n + m + 1 by omega]
    unfold segGoT at h ⊢
    cases he : endAt b t with
    | some f => rw [he] at h; cases h
    | none =>
      rw [he] at h
      cases hk : stepOk n₀ an t with
      | false => rw [hk] at h; cases h
      | true =>
        rw [hk] at h
        cases hs : stepT (denote tb) p w s t with
        | none => rw [hs] at h; cases h
        | some q => obtain ⟨s₂, t₂⟩ := q; rw [hs] at h; exact go_add h k
theorem TurnG.trans {T : Program → Params → Obj → Obj → BT} {n : Nat} {cd : Code} {pos : Pos} {c c' : Nat} {a b : Obj} {tk : Nat} {a' b' : Obj} {tk' : Nat} {a'' b'' : Obj} {tk'' : Nat}
    (x : Turn T n cd pos c a b tk a' b' tk') (y : Turn T n cd pos c' a' b' tk' a'' b'' tk'') : Turn T n cd pos (c + c') a b tk a'' b'' tk'' :=
  fun w os k h g lv cc q kept f fs => go_add (x w os k h g lv cc q kept f fs) (y w os k h g lv cc q kept f fs)
theorem stk_form {l : List Frame} (h : okStk l = true) : ∃ k hd g lv cc q kept f fs, l = .ret k hd g lv cc q kept :: f :: fs := by
  unfold okStk at h
  split at h
  · exact ⟨_, _, _, _, _, _, _, _, _, rfl⟩
  · cases h
theorem join {w : World} {os : OsState} {nA N : Nat} {S : SharedT} {thr : Thread} {T : Program → Params → Obj → Obj → BT} {n : Nat} {cd : Code} {pos : Pos} {c : Nat} {a b : Obj} {tk : Nat} {a' b' : Obj} {tk' : Nat} {stk : List Frame} {r : Flow × Shared × Code × Pos}
    (hA : goT w nA S thr = some (SharedT.mk (T PySem.Challenge.pw_mq0100_01 w.params a b) n lf (Array.mk []) dr tk os, ⟨denote treeTable cd, cd, pos, stk⟩)) (ok : okStk stk = true) (lp : Turn T n cd pos c a b tk a' b' tk')
    (k : segRun treeTable PySem.Challenge.pw_mq0100_01 w 11 ann 1 N (SharedT.abs (SharedT.mk (T PySem.Challenge.pw_mq0100_01 w.params a' b') n lf (Array.mk []) dr tk' os)) ⟨denote treeTable cd, cd, pos, stk⟩ = some r) :
    segRun treeTable PySem.Challenge.pw_mq0100_01 w 11 ann 1 (nA + (c + N)) (SharedT.abs S) thr = some r := by
  obtain ⟨k', hd, g, lv, cc, q, kept, f, fs, rfl⟩ := stk_form ok
  exact seg_go (segGo_of hA) (seg_go (segGo_of (lp w os k' hd g lv cc q kept f fs)) k)
noncomputable def s0 : Str := Str.mk (Array.mk [60, 109, 111, 100, 117, 108, 101, 62])
noncomputable def s1 : Str := Str.mk (Array.mk [47, 99, 108, 97, 105, 109, 47, 99, 117, 116, 46, 112, 121])
noncomputable def s2 : Str := Str.mk (Array.mk [95, 95, 109, 97, 105, 110, 95, 95])
noncomputable def s3 : Str := Str.mk (Array.mk [95, 95, 110, 97, 109, 101, 95, 95])
noncomputable def s4 : Str := Str.mk (Array.mk [99, 112, 121, 51, 49, 51, 46, 115, 116, 114, 105, 110, 103, 112, 114, 101, 112])
noncomputable def s5 : Str := Str.mk (Array.mk [95, 95, 100, 111, 99, 95, 95])
noncomputable def s6 : Str := Str.mk (Array.mk [95, 95, 112, 97, 99, 107, 97, 103, 101, 95, 95])
noncomputable def s7 : Str := Str.mk (Array.mk [95, 95, 108, 111, 97, 100, 101, 114, 95, 95])
noncomputable def s8 : Str := Str.mk (Array.mk [95, 95, 115, 112, 101, 99, 95, 95])
noncomputable def s9 : Str := Str.mk (Array.mk [95, 95, 97, 110, 110, 111, 116, 97, 116, 105, 111, 110, 115, 95, 95])
noncomputable def s10 : Str := Str.mk (Array.mk [95, 95, 98, 117, 105, 108, 116, 105, 110, 115, 95, 95])
noncomputable def s11 : Str := Str.mk (Array.mk [95, 95, 102, 105, 108, 101, 95, 95])
noncomputable def s12 : Str := Str.mk (Array.mk [95, 95, 99, 97, 99, 104, 101, 100, 95, 95])
noncomputable def s13 : Str := Str.mk (Array.mk [115, 111, 114, 116, 101, 100, 95, 108, 105, 115, 116, 95, 100, 105, 102, 102, 101, 114, 101, 110, 99, 101])
noncomputable def s14 : Str := Str.mk (Array.mk [101, 120, 112, 101, 99, 116, 101, 100])
noncomputable def s15 : Str := Str.mk (Array.mk [97, 99, 116, 117, 97, 108])
noncomputable def s16 : Str := Str.mk (Array.mk [105])
noncomputable def s17 : Str := Str.mk (Array.mk [106])
noncomputable def s18 : Str := Str.mk (Array.mk [109, 105, 115, 115, 105, 110, 103])
noncomputable def s19 : Str := Str.mk (Array.mk [117, 110, 101, 120, 112, 101, 99, 116, 101, 100])
noncomputable def s20 : Str := Str.mk (Array.mk [101])
noncomputable def s21 : Str := Str.mk (Array.mk [97])
noncomputable def s22 : Str := Str.mk (Array.mk [99, 112, 121, 51, 49, 51, 46, 117, 110, 105, 116, 116, 101, 115, 116, 46, 117, 116, 105, 108])
noncomputable def s23 : Str := Str.mk (Array.mk [98, 49, 95, 115, 101, 116])
noncomputable def s24 : Str := Str.mk (Array.mk [105, 110, 95, 116, 97, 98, 108, 101, 95, 98, 49])
noncomputable def s25 : Str := Str.mk (Array.mk [105, 110, 95, 116, 97, 98, 108, 101, 95, 99, 49, 49])
noncomputable def s26 : Str := Str.mk (Array.mk [105, 110, 95, 116, 97, 98, 108, 101, 95, 99, 52])
noncomputable def s27 : Str := Str.mk (Array.mk [99, 111, 100, 101])
noncomputable def s28 : Str := Str.mk (Array.mk [99])
noncomputable def s29 : Str := Str.mk (Array.mk [99, 54, 95, 115, 101, 116])
noncomputable def s30 : Str := Str.mk (Array.mk [105, 110, 95, 116, 97, 98, 108, 101, 95, 99, 54])
noncomputable def s31 : Str := Str.mk (Array.mk [99, 55, 95, 115, 101, 116])
noncomputable def s32 : Str := Str.mk (Array.mk [105, 110, 95, 116, 97, 98, 108, 101, 95, 99, 55])
noncomputable def s33 : Str := Str.mk (Array.mk [99, 56, 95, 115, 101, 116])
noncomputable def s34 : Str := Str.mk (Array.mk [105, 110, 95, 116, 97, 98, 108, 101, 95, 99, 56])
noncomputable def s35 : Str := Str.mk (Array.mk [99, 57, 95, 115, 101, 116])
noncomputable def s36 : Str := Str.mk (Array.mk [108, 97, 119, 95, 109, 113, 48, 49, 48, 48, 95, 48, 49])
noncomputable def s37 : Str := Str.mk (Array.mk [105, 110, 95, 116, 97, 98, 108, 101, 95, 99, 57])
noncomputable def s38 : Str := Str.mk (Array.mk [95, 108, 97, 119, 95, 116, 97, 98, 108, 101, 115])
noncomputable def s39 : Str := Str.mk (Array.mk [95, 108, 97, 119, 95, 108, 101, 102, 116])
noncomputable def s40 : Str := Str.mk (Array.mk [95, 108, 97, 119, 95, 115, 97, 105, 100])
noncomputable def s41 : Str := Str.mk (Array.mk [95, 108, 97, 119, 95, 109, 97, 114, 107, 115])
noncomputable def s42 : Str := Str.mk (Array.mk [95, 108, 97, 119, 95, 111, 100, 100])
noncomputable def s43 : Str := Str.mk (Array.mk [95, 108, 97, 119, 95, 109, 111, 118, 101, 100])
noncomputable def s44 : Str := Str.mk (Array.mk [108, 97, 119])
noncomputable def s45 : Str := Str.mk (Array.mk [108, 101, 102, 116])
noncomputable def s46 : Str := Str.mk (Array.mk [115, 112, 97, 114, 101, 100])
noncomputable def s47 : Str := Str.mk (Array.mk [109, 97, 114, 107, 115])
noncomputable def s48 : Str := Str.mk (Array.mk [107])
noncomputable def s49 : Str := Str.mk (Array.mk [114, 97, 110, 103, 101, 115])
noncomputable def s50 : Str := Str.mk (Array.mk [102, 105, 114, 115, 116])
noncomputable def s51 : Str := Str.mk (Array.mk [108, 97, 115, 116])
noncomputable def s52 : Str := Str.mk (Array.mk [112, 108, 97, 99, 101])
noncomputable def e0 (P : Params) : DictEntry := ⟨PyData.keyHash P s3, (.str s3 165), (.str s4 203)⟩
noncomputable def e1 (P : Params) : DictEntry := ⟨PyData.keyHash P s5, (.str s5 166), .none⟩
noncomputable def e2 (P : Params) : DictEntry := ⟨PyData.keyHash P s6, (.str s6 167), .none⟩
noncomputable def e3 (P : Params) : DictEntry := ⟨PyData.keyHash P s7, (.str s7 168), (.builtin "__main__.__loader__#opaque")⟩
noncomputable def e4 (P : Params) : DictEntry := ⟨PyData.keyHash P s8, (.str s8 169), .none⟩
noncomputable def e5 (P : Params) : DictEntry := ⟨PyData.keyHash P s9, (.str s9 170), (.ref 6)⟩
noncomputable def e6 (P : Params) : DictEntry := ⟨PyData.keyHash P s10, (.str s10 171), (.ref 4)⟩
noncomputable def e7 (P : Params) : DictEntry := ⟨PyData.keyHash P s11, (.str s11 173), (.str s1 172)⟩
noncomputable def e8 (P : Params) : DictEntry := ⟨PyData.keyHash P s12, (.str s12 174), .none⟩
noncomputable def e9 (P : Params) : DictEntry := ⟨PyData.keyHash P s13, (.str s13 202), (.ref 21)⟩
noncomputable def e10 (P : Params) : DictEntry := ⟨PyData.keyHash P s23, (.str s23 264), (.ref 29)⟩
noncomputable def e11 (P : Params) : DictEntry := ⟨PyData.keyHash P s24, (.str s24 271), (.ref 39)⟩
noncomputable def e12 (P : Params) : DictEntry := ⟨PyData.keyHash P s25, (.str s25 278), (.ref 46)⟩
noncomputable def e13 (P : Params) : DictEntry := ⟨PyData.keyHash P s26, (.str s26 286), (.ref 53)⟩
noncomputable def e14 (P : Params) : DictEntry := ⟨PyData.keyHash P s29, (.str s29 300), (.ref 55)⟩
noncomputable def e15 (P : Params) : DictEntry := ⟨PyData.keyHash P s30, (.str s30 307), (.ref 65)⟩
noncomputable def e16 (P : Params) : DictEntry := ⟨PyData.keyHash P s31, (.str s31 335), (.ref 67)⟩
noncomputable def e17 (P : Params) : DictEntry := ⟨PyData.keyHash P s32, (.str s32 342), (.ref 77)⟩
noncomputable def e18 (P : Params) : DictEntry := ⟨PyData.keyHash P s33, (.str s33 383), (.ref 91)⟩
noncomputable def e19 (P : Params) : DictEntry := ⟨PyData.keyHash P s34, (.str s34 390), (.ref 101)⟩
noncomputable def e20 (P : Params) : DictEntry := ⟨PyData.keyHash P s35, (.str s35 590), (.ref 109)⟩
noncomputable def e21 (P : Params) : DictEntry := ⟨PyData.keyHash P s3, (.str s3 165), (.str s36 598)⟩
noncomputable def e22 (P : Params) : DictEntry := ⟨PyData.keyHash P s37, (.str s37 597), (.ref 119)⟩
noncomputable def e23 (P : Params) : DictEntry := ⟨PyData.keyHash P s38, (.str s38 605), (.ref 124)⟩
noncomputable def e24 (P : Params) : DictEntry := ⟨PyData.keyHash P s39, (.str s39 611), (.ref 129)⟩
noncomputable def e25 (P : Params) : DictEntry := ⟨PyData.keyHash P s40, (.str s40 617), (.ref 134)⟩
noncomputable def e26 (P : Params) : DictEntry := ⟨PyData.keyHash P s41, (.str s41 631), (.ref 141)⟩
noncomputable def e27 (P : Params) : DictEntry := ⟨PyData.keyHash P s42, (.str s42 637), (.ref 146)⟩
noncomputable def e28 (P : Params) : DictEntry := ⟨PyData.keyHash P s43, (.str s43 643), (.ref 151)⟩
noncomputable def e29 (P : Params) : DictEntry := ⟨PyData.keyHash P s44, (.str s44 649), (.ref 156)⟩
noncomputable def ob11v0 (p : Program) (P : Params) : Obj := ⟨(.type "tuple"), none, (.seq (Array.mk []) 0), (Array.mk [])⟩
noncomputable def ob12v1 (p : Program) (P : Params) : Obj := ⟨.none, none, (.fields (Array.mk [])), (Array.mk [])⟩
noncomputable def ob13v2 (p : Program) (P : Params) : Obj := ⟨(.type "code"), none, (.fields (Array.mk [(.str s0 182), (.str s0 183), (.str s1 184), (.int 1 0), (.int 0 0), (.int 0 0), (.int 0 0), (.int 0 0), (.ref 11), (.bool false), (.int 181 0), (.ref 12), .none, .none, .none, .none, (.int 185 0), (.int 1 0), (.str s1 186)])), (Array.mk [])⟩
noncomputable def ob14v3 (p : Program) (P : Params) : Obj := ⟨(.type "frame"), none, .plain, (Array.mk [some (.ref 13), some (.ref 3), some (.ref 3), none, some (.str s2 164), none, some (.ref 0)])⟩
noncomputable def T0 (p : Program) (P : Params) : BT := (.node (boot_o_0 P) (.node (boot_o_1 P) (.node (boot_o_3 P) (.node (boot_o_7 P) .nil .nil) (.node (ob11v0 p P) .nil .nil)) (.node (boot_o_5 P) (.node (boot_o_9 P) .nil .nil) (.node (ob13v2 p P) .nil .nil))) (.node (boot_o_2 P) (.node (boot_o_4 P) (.node (boot_o_8 P) .nil .nil) (.node (ob12v1 p P) .nil .nil)) (.node (boot_o_6 P) (.node (boot_o_10 P) .nil .nil) (.node (ob14v3 p P) .nil .nil))))
noncomputable def ob3v4 (p : Program) (P : Params) : Obj := ⟨(.type "dict"), none, (.dict (Array.mk [(e0 P), (e1 P), (e2 P), (e3 P), (e4 P), (e5 P), (e6 P), (e7 P), (e8 P), (e9 P)]) 10), (Array.mk [])⟩
noncomputable def ob12v5 (p : Program) (P : Params) : Obj := ⟨.none, none, (.fields (Array.mk [(.int 2 0), (.int 0 0), (.ref 20)])), (Array.mk [])⟩
noncomputable def ob15v6 (p : Program) (P : Params) : Obj := ⟨(.type "tuple"), none, (.seq (Array.mk []) 0), (Array.mk [])⟩
noncomputable def ob16v7 (p : Program) (P : Params) : Obj := ⟨.none, none, (.fields (Array.mk [])), (Array.mk [])⟩
noncomputable def ob17v8 (p : Program) (P : Params) : Obj := ⟨(.type "tuple"), none, (.seq (Array.mk [(.str s14 192), (.str s15 193), (.str s16 194), (.str s17 195), (.str s18 196), (.str s19 197), (.str s20 198), (.str s21 199)]) 0), (Array.mk [])⟩
noncomputable def ob18v9 (p : Program) (P : Params) : Obj := ⟨(.type "tuple"), none, (.seq (Array.mk []) 0), (Array.mk [])⟩
noncomputable def ob19v10 (p : Program) (P : Params) : Obj := ⟨.none, none, (.func { name := s13, qualname := s13, params := fnA p 1, body := .stmts (fnB p 1), scope := fnS p 1, globals := 0, closure := [], defaults := .none, kwdefaults := .none, doc := .none, pyModule := .none, annotations := none, code := .none, closureTuple := .none, builtins := 0 : FuncData }), (Array.mk [])⟩
noncomputable def ob20v11 (p : Program) (P : Params) : Obj := ⟨(.type "code"), none, (.fields (Array.mk [(.str s13 189), (.str s13 190), (.str s1 191), (.int 2 0), (.int 2 0), (.int 0 0), (.int 0 0), (.int 3 0), (.ref 15), (.bool true), (.int 181 0), (.ref 16), .none, (.ref 17), (.ref 18), (.ref 19), (.int 200 0), (.int 2 0), (.str s1 201)])), (Array.mk [])⟩
noncomputable def ob21v12 (p : Program) (P : Params) : Obj := ⟨(.type "function"), none, (.func { name := s13, qualname := s13, params := fnA p 1, body := .stmts (fnB p 1), scope := fnS p 1, globals := 3, closure := [], defaults := .none, kwdefaults := .none, doc := .none, pyModule := (.str s22 187), annotations := none, code := (.ref 20), closureTuple := .none, builtins := 0 : FuncData }), (Array.mk [])⟩
noncomputable def T3 (p : Program) (P : Params) : BT := (.node (boot_o_0 P) (.node (boot_o_1 P) (.node (ob3v4 p P) (.node (boot_o_7 P) (.node (ob15v6 p P) .nil .nil) .nil) (.node (ob11v0 p P) (.node (ob19v10 p P) .nil .nil) .nil)) (.node (boot_o_5 P) (.node (boot_o_9 P) (.node (ob17v8 p P) .nil .nil) .nil) (.node (ob13v2 p P) (.node (ob21v12 p P) .nil .nil) .nil))) (.node (boot_o_2 P) (.node (boot_o_4 P) (.node (boot_o_8 P) (.node (ob16v7 p P) .nil .nil) .nil) (.node (ob12v5 p P) (.node (ob20v11 p P) .nil .nil) .nil)) (.node (boot_o_6 P) (.node (boot_o_10 P) (.node (ob18v9 p P) .nil .nil) .nil) (.node (ob14v3 p P) .nil .nil))))
theorem seg0 : ∀ (w : World) (os : OsState), runT w 55 (SharedT.mk (T0 PySem.Challenge.pw_mq0100_01 w.params) 15 lf (Array.mk []) dr 187 os) (piecesOf [stm PySem.Challenge.pw_mq0100_01 0, stm PySem.Challenge.pw_mq0100_01 1, stm PySem.Challenge.pw_mq0100_01 2] (env PySem.Challenge.pw_mq0100_01) (cE PySem.Challenge.pw_mq0100_01) ⟨0, 0, 0, 0⟩ B0) = some (.next, (SharedT.mk (T3 PySem.Challenge.pw_mq0100_01 w.params) 22 lf (Array.mk []) dr 205 os), cE PySem.Challenge.pw_mq0100_01, ⟨34, 0, 34, 8⟩) := by
  intro w os; unfold runT; rewrite [PySem.W.Fast.te10110043849684766642, PySem.W.Fast.te14364793385576792824, PySem.W.Fast.te7261500446525621778]; kernel_rfl
noncomputable def ob22v13 (p : Program) (P : Params) : Obj := ⟨(.type "list"), none, (.seq (Array.mk [(.int 173 205), (.int 847 206), (.int 6150 207), (.int 6155 208), (.int 6156 209), (.int 6157 210), (.int 8203 211), (.int 8204 212), (.int 8205 213), (.int 8288 214), (.int 65279 215)]) 0), (Array.mk [])⟩
noncomputable def ob23v14 (p : Program) (P : Params) : Obj := ⟨(.type "range"), none, (.fields (Array.mk [(.int 65024 216), (.int 65040 217), (.int 1 218)])), (Array.mk [])⟩
noncomputable def TL3x0 (p : Program) (P : Params) (h0 : Obj) (h1 : Obj) : BT := (.node (boot_o_0 P) (.node (boot_o_1 P) (.node (ob3v4 p P) (.node (boot_o_7 P) (.node (ob15v6 p P) .nil .nil) (.node (ob23v14 p P) .nil .nil)) (.node (ob11v0 p P) (.node (ob19v10 p P) .nil .nil) .nil)) (.node (boot_o_5 P) (.node (boot_o_9 P) (.node (ob17v8 p P) .nil .nil) (.node h1 .nil .nil)) (.node (ob13v2 p P) (.node (ob21v12 p P) .nil .nil) .nil))) (.node (boot_o_2 P) (.node (boot_o_4 P) (.node (boot_o_8 P) (.node (ob16v7 p P) .nil .nil) (.node h0 .nil .nil)) (.node (ob12v5 p P) (.node (ob20v11 p P) .nil .nil) .nil)) (.node (boot_o_6 P) (.node (boot_o_10 P) (.node (ob18v9 p P) .nil .nil) .nil) (.node (ob14v3 p P) (.node (ob22v13 p P) .nil .nil) .nil))))
noncomputable def cd3x0 : Code := (Code.builtin "list.extend.loop" ⟨[(.ref 24), (.ref 25), .none], []⟩)
noncomputable def hb3x0x0x0 : Obj := ⟨(.type "list"), none, (.seq (Array.mk []) 2), (Array.mk [])⟩
noncomputable def hb3x0x0x1 : Obj := ⟨(.type "range_iterator"), none, (.fields (Array.mk [(.int 65024 0), (.int 16 0), (.int 1 0)])), (Array.mk [])⟩
noncomputable def hb3x0x1x0 : Obj := ⟨(.type "list"), none, (.seq (Array.mk [(.int 65024 221)]) 3), (Array.mk [])⟩
noncomputable def hb3x0x1x1 : Obj := ⟨(.type "range_iterator"), none, (.fields (Array.mk [(.int 65025 0), (.int 15 0), (.int 1 0)])), (Array.mk [])⟩
noncomputable def hb3x0x2x0 : Obj := ⟨(.type "list"), none, (.seq (Array.mk [(.int 65024 221), (.int 65025 222)]) 4), (Array.mk [])⟩
noncomputable def hb3x0x2x1 : Obj := ⟨(.type "range_iterator"), none, (.fields (Array.mk [(.int 65026 0), (.int 14 0), (.int 1 0)])), (Array.mk [])⟩
noncomputable def hb3x0x3x0 : Obj := ⟨(.type "list"), none, .seq (Array.mk (up 3 65024 221)) 5, (Array.mk [])⟩
noncomputable def hb3x0x3x1 : Obj := ⟨(.type "range_iterator"), none, (.fields (Array.mk [(.int 65027 0), (.int 13 0), (.int 1 0)])), (Array.mk [])⟩
noncomputable def hb3x0x4x0 : Obj := ⟨(.type "list"), none, .seq (Array.mk (up 4 65024 221)) 6, (Array.mk [])⟩
noncomputable def hb3x0x4x1 : Obj := ⟨(.type "range_iterator"), none, (.fields (Array.mk [(.int 65028 0), (.int 12 0), (.int 1 0)])), (Array.mk [])⟩
noncomputable def hb3x0x5x0 : Obj := ⟨(.type "list"), none, .seq (Array.mk (up 5 65024 221)) 7, (Array.mk [])⟩
noncomputable def hb3x0x5x1 : Obj := ⟨(.type "range_iterator"), none, (.fields (Array.mk [(.int 65029 0), (.int 11 0), (.int 1 0)])), (Array.mk [])⟩
noncomputable def hb3x0x6x0 : Obj := ⟨(.type "list"), none, .seq (Array.mk (up 6 65024 221)) 8, (Array.mk [])⟩
noncomputable def hb3x0x6x1 : Obj := ⟨(.type "range_iterator"), none, (.fields (Array.mk [(.int 65030 0), (.int 10 0), (.int 1 0)])), (Array.mk [])⟩
noncomputable def hb3x0x7x0 : Obj := ⟨(.type "list"), none, .seq (Array.mk (up 7 65024 221)) 9, (Array.mk [])⟩
noncomputable def hb3x0x7x1 : Obj := ⟨(.type "range_iterator"), none, (.fields (Array.mk [(.int 65031 0), (.int 9 0), (.int 1 0)])), (Array.mk [])⟩
noncomputable def hb3x0x8x0 : Obj := ⟨(.type "list"), none, .seq (Array.mk (up 8 65024 221)) 10, (Array.mk [])⟩
noncomputable def hb3x0x8x1 : Obj := ⟨(.type "range_iterator"), none, (.fields (Array.mk [(.int 65032 0), (.int 8 0), (.int 1 0)])), (Array.mk [])⟩
noncomputable def hb3x0x9x0 : Obj := ⟨(.type "list"), none, .seq (Array.mk (up 9 65024 221)) 11, (Array.mk [])⟩
noncomputable def hb3x0x9x1 : Obj := ⟨(.type "range_iterator"), none, (.fields (Array.mk [(.int 65033 0), (.int 7 0), (.int 1 0)])), (Array.mk [])⟩
noncomputable def hb3x0x10x0 : Obj := ⟨(.type "list"), none, .seq (Array.mk (up 10 65024 221)) 12, (Array.mk [])⟩
noncomputable def hb3x0x10x1 : Obj := ⟨(.type "range_iterator"), none, (.fields (Array.mk [(.int 65034 0), (.int 6 0), (.int 1 0)])), (Array.mk [])⟩
noncomputable def hb3x0x11x0 : Obj := ⟨(.type "list"), none, .seq (Array.mk (up 11 65024 221)) 13, (Array.mk [])⟩
noncomputable def hb3x0x11x1 : Obj := ⟨(.type "range_iterator"), none, (.fields (Array.mk [(.int 65035 0), (.int 5 0), (.int 1 0)])), (Array.mk [])⟩
noncomputable def hb3x0x12x0 : Obj := ⟨(.type "list"), none, .seq (Array.mk (up 12 65024 221)) 14, (Array.mk [])⟩
noncomputable def hb3x0x12x1 : Obj := ⟨(.type "range_iterator"), none, (.fields (Array.mk [(.int 65036 0), (.int 4 0), (.int 1 0)])), (Array.mk [])⟩
noncomputable def hb3x0x13x0 : Obj := ⟨(.type "list"), none, .seq (Array.mk (up 13 65024 221)) 15, (Array.mk [])⟩
noncomputable def hb3x0x13x1 : Obj := ⟨(.type "range_iterator"), none, (.fields (Array.mk [(.int 65037 0), (.int 3 0), (.int 1 0)])), (Array.mk [])⟩
noncomputable def hb3x0x14x0 : Obj := ⟨(.type "list"), none, .seq (Array.mk (up 14 65024 221)) 16, (Array.mk [])⟩
noncomputable def hb3x0x14x1 : Obj := ⟨(.type "range_iterator"), none, (.fields (Array.mk [(.int 65038 0), (.int 2 0), (.int 1 0)])), (Array.mk [])⟩
noncomputable def hb3x0x15x0 : Obj := ⟨(.type "list"), none, .seq (Array.mk (up 15 65024 221)) 17, (Array.mk [])⟩
noncomputable def hb3x0x15x1 : Obj := ⟨(.type "range_iterator"), none, (.fields (Array.mk [(.int 65039 0), (.int 1 0), (.int 1 0)])), (Array.mk [])⟩
noncomputable def hb3x0x16x0 : Obj := ⟨(.type "list"), none, .seq (Array.mk (up 16 65024 221)) 18, (Array.mk [])⟩
noncomputable def hb3x0x16x1 : Obj := ⟨(.type "range_iterator"), none, (.fields (Array.mk [(.int 65040 0), (.int 0 0), (.int 1 0)])), (Array.mk [])⟩
noncomputable def stk3x0 (sg : SG) (dn : DN) (tb : String → Option Builtin) (p : Program) (w : World) (os : OsState) : List Frame := stkOf (sg tb p w 11 ann 1 97 (SharedT.mk (T3 p w.params) 22 lf (Array.mk []) dr 205 os) (piecesOf [stm p 3] (env p) (cE p) ⟨34, 0, 34, 8⟩ B0))
theorem segA3x0 : ∀ (w : World) (os : OsState), goT w 97 (SharedT.mk (T3 PySem.Challenge.pw_mq0100_01 w.params) 22 lf (Array.mk []) dr 205 os) (piecesOf [stm PySem.Challenge.pw_mq0100_01 3] (env PySem.Challenge.pw_mq0100_01) (cE PySem.Challenge.pw_mq0100_01) ⟨34, 0, 34, 8⟩ B0) = some ((SharedT.mk (TL3x0 PySem.Challenge.pw_mq0100_01 w.params hb3x0x0x0 hb3x0x0x1) 26 lf (Array.mk []) dr 221 os), ⟨denote treeTable cd3x0, cd3x0, ⟨35, 81, 35, 106⟩, stk3x0 @segGoT @denote treeTable PySem.Challenge.pw_mq0100_01 w os⟩) := by
  refine byRow2 "special-get-raises" ?_ ?_ <;> (intro w os; unfold goT; rewrite [PySem.W.Fast.te10295753902157049106, PySem.W.Fast.te11892475500146522536, PySem.W.Fast.te14364793385576792824, PySem.W.Fast.te7261500446525621778]; kernel_rfl)
theorem okA3x0 : ∀ (w : World) (os : OsState), okStk (stk3x0 @segGoT @denote treeTable PySem.Challenge.pw_mq0100_01 w os) = true := by
  refine byRow2 "special-get-raises" ?_ ?_ <;> (intro w os; rewrite [PySem.W.Fast.te10295753902157049106, PySem.W.Fast.te11892475500146522536, PySem.W.Fast.te14364793385576792824, PySem.W.Fast.te7261500446525621778]; kernel_rfl)
theorem it3x0x0 : Turn TL3x0 26 cd3x0 ⟨35, 81, 35, 106⟩ 17 hb3x0x0x0 hb3x0x0x1 221 hb3x0x1x0 hb3x0x1x1 222 := by exact turn_pl (by unfold TurnG; intros; kernel_rfl)
theorem it3x0x1 : Turn TL3x0 26 cd3x0 ⟨35, 81, 35, 106⟩ 17 hb3x0x1x0 hb3x0x1x1 222 hb3x0x2x0 hb3x0x2x1 223 := by exact turn_pl (by unfold TurnG; intros; kernel_rfl)
theorem it3x0x2 : Turn TL3x0 26 cd3x0 ⟨35, 81, 35, 106⟩ 17 hb3x0x2x0 hb3x0x2x1 223 hb3x0x3x0 hb3x0x3x1 224 := by exact turn_pl (by unfold TurnG; intros; kernel_rfl)
theorem it3x0x3 : Turn TL3x0 26 cd3x0 ⟨35, 81, 35, 106⟩ 17 hb3x0x3x0 hb3x0x3x1 224 hb3x0x4x0 hb3x0x4x1 225 := by exact turn_pl (by unfold TurnG; intros; kernel_rfl)
theorem it3x0x4 : Turn TL3x0 26 cd3x0 ⟨35, 81, 35, 106⟩ 17 hb3x0x4x0 hb3x0x4x1 225 hb3x0x5x0 hb3x0x5x1 226 := by exact turn_pl (by unfold TurnG; intros; kernel_rfl)
theorem it3x0x5 : Turn TL3x0 26 cd3x0 ⟨35, 81, 35, 106⟩ 17 hb3x0x5x0 hb3x0x5x1 226 hb3x0x6x0 hb3x0x6x1 227 := by exact turn_pl (by unfold TurnG; intros; kernel_rfl)
theorem it3x0x6 : Turn TL3x0 26 cd3x0 ⟨35, 81, 35, 106⟩ 17 hb3x0x6x0 hb3x0x6x1 227 hb3x0x7x0 hb3x0x7x1 228 := by exact turn_pl (by unfold TurnG; intros; kernel_rfl)
theorem it3x0x7 : Turn TL3x0 26 cd3x0 ⟨35, 81, 35, 106⟩ 17 hb3x0x7x0 hb3x0x7x1 228 hb3x0x8x0 hb3x0x8x1 229 := by exact turn_pl (by unfold TurnG; intros; kernel_rfl)
theorem it3x0x8 : Turn TL3x0 26 cd3x0 ⟨35, 81, 35, 106⟩ 17 hb3x0x8x0 hb3x0x8x1 229 hb3x0x9x0 hb3x0x9x1 230 := by exact turn_pl (by unfold TurnG; intros; kernel_rfl)
theorem it3x0x9 : Turn TL3x0 26 cd3x0 ⟨35, 81, 35, 106⟩ 17 hb3x0x9x0 hb3x0x9x1 230 hb3x0x10x0 hb3x0x10x1 231 := by exact turn_pl (by unfold TurnG; intros; kernel_rfl)
theorem it3x0x10 : Turn TL3x0 26 cd3x0 ⟨35, 81, 35, 106⟩ 17 hb3x0x10x0 hb3x0x10x1 231 hb3x0x11x0 hb3x0x11x1 232 := by exact turn_pl (by unfold TurnG; intros; kernel_rfl)
theorem it3x0x11 : Turn TL3x0 26 cd3x0 ⟨35, 81, 35, 106⟩ 17 hb3x0x11x0 hb3x0x11x1 232 hb3x0x12x0 hb3x0x12x1 233 := by exact turn_pl (by unfold TurnG; intros; kernel_rfl)
theorem it3x0x12 : Turn TL3x0 26 cd3x0 ⟨35, 81, 35, 106⟩ 17 hb3x0x12x0 hb3x0x12x1 233 hb3x0x13x0 hb3x0x13x1 234 := by exact turn_pl (by unfold TurnG; intros; kernel_rfl)
theorem it3x0x13 : Turn TL3x0 26 cd3x0 ⟨35, 81, 35, 106⟩ 17 hb3x0x13x0 hb3x0x13x1 234 hb3x0x14x0 hb3x0x14x1 235 := by exact turn_pl (by unfold TurnG; intros; kernel_rfl)
theorem it3x0x14 : Turn TL3x0 26 cd3x0 ⟨35, 81, 35, 106⟩ 17 hb3x0x14x0 hb3x0x14x1 235 hb3x0x15x0 hb3x0x15x1 236 := by exact turn_pl (by unfold TurnG; intros; kernel_rfl)
theorem it3x0x15 : Turn TL3x0 26 cd3x0 ⟨35, 81, 35, 106⟩ 17 hb3x0x15x0 hb3x0x15x1 236 hb3x0x16x0 hb3x0x16x1 237 := by exact turn_pl (by unfold TurnG; intros; kernel_rfl)
theorem loop3x0 : Turn TL3x0 26 cd3x0 ⟨35, 81, 35, 106⟩ 272 hb3x0x0x0 hb3x0x0x1 221 hb3x0x16x0 hb3x0x16x1 237 := (it3x0x0).trans ((it3x0x1).trans ((it3x0x2).trans ((it3x0x3).trans ((it3x0x4).trans ((it3x0x5).trans ((it3x0x6).trans ((it3x0x7).trans ((it3x0x8).trans ((it3x0x9).trans ((it3x0x10).trans ((it3x0x11).trans ((it3x0x12).trans ((it3x0x13).trans ((it3x0x14).trans (it3x0x15)))))))))))))))
noncomputable def ob24v15 (p : Program) (P : Params) : Obj := ⟨(.type "list"), none, .seq (Array.mk (up 16 65024 221)) 18, (Array.mk [])⟩
noncomputable def ob25v16 (p : Program) (P : Params) : Obj := ⟨(.type "range_iterator"), none, (.fields (Array.mk [(.int 65040 0), (.int 0 0), (.int 1 0)])), (Array.mk [])⟩
noncomputable def ob26v17 (p : Program) (P : Params) : Obj := ⟨(.type "tuple"), none, (.seq (Array.mk []) 0), (Array.mk [])⟩
noncomputable def ob27v18 (p : Program) (P : Params) : Obj := ⟨(.type "StopIteration"), none, (.fields (Array.mk [(.ref 26), .none, .none, .none, (.bool false), .none])), (Array.mk [])⟩
noncomputable def ob28v19 (p : Program) (P : Params) : Obj := ⟨(.type "list"), none, (.seq (Array.mk [(.int 173 205), (.int 847 206), (.int 6150 207), (.int 6155 208), (.int 6156 209), (.int 6157 210), (.int 8203 211), (.int 8204 212), (.int 8205 213), (.int 8288 214), (.int 65279 215), (.int 65024 221), (.int 65025 222), (.int 65026 223), (.int 65027 224), (.int 65028 225), (.int 65029 226), (.int 65030 227), (.int 65031 228), (.int 65032 229), (.int 65033 230), (.int 65034 231), (.int 65035 232), (.int 65036 233), (.int 65037 234), (.int 65038 235), (.int 65039 236)]) 0), (Array.mk [])⟩
noncomputable def TL3x1 (p : Program) (P : Params) (h0 : Obj) (h1 : Obj) : BT := (.node (boot_o_0 P) (.node (boot_o_1 P) (.node (ob3v4 p P) (.node (boot_o_7 P) (.node (ob15v6 p P) .nil .nil) (.node (ob23v14 p P) .nil .nil)) (.node (ob11v0 p P) (.node (ob19v10 p P) .nil .nil) (.node (ob27v18 p P) .nil .nil))) (.node (boot_o_5 P) (.node (boot_o_9 P) (.node (ob17v8 p P) .nil .nil) (.node (ob25v16 p P) .nil .nil)) (.node (ob13v2 p P) (.node (ob21v12 p P) .nil .nil) (.node h0 .nil .nil)))) (.node (boot_o_2 P) (.node (boot_o_4 P) (.node (boot_o_8 P) (.node (ob16v7 p P) .nil .nil) (.node (ob24v15 p P) .nil .nil)) (.node (ob12v5 p P) (.node (ob20v11 p P) .nil .nil) (.node (ob28v19 p P) .nil .nil))) (.node (boot_o_6 P) (.node (boot_o_10 P) (.node (ob18v9 p P) .nil .nil) (.node (ob26v17 p P) .nil .nil)) (.node (ob14v3 p P) (.node (ob22v13 p P) .nil .nil) (.node h1 .nil .nil)))))
noncomputable def cd3x1 : Code := (Code.builtin "set.update.loop" ⟨[(.ref 29), (.ref 30)], []⟩)
noncomputable def hb3x1x0x0 (b : Bool) : Obj := (setO [] 0 7 [] 0 b)
noncomputable def hb3x1x0x1 : Obj := ⟨(.type "list_iterator"), none, (.fields (Array.mk [(.ref 28), (.int 0 0)])), (Array.mk [])⟩
noncomputable def hb3x1x1x0 (b : Bool) : Obj := (setO [(173, 205)] 1 7 [5] 0 b)
noncomputable def hb3x1x1x1 : Obj := ⟨(.type "list_iterator"), none, (.fields (Array.mk [(.ref 28), (.int 1 0)])), (Array.mk [])⟩
noncomputable def hb3x1x2x0 (b : Bool) : Obj := (setO [(173, 205), (847, 206)] 2 7 [5, 7] 0 b)
noncomputable def hb3x1x2x1 : Obj := ⟨(.type "list_iterator"), none, (.fields (Array.mk [(.ref 28), (.int 2 0)])), (Array.mk [])⟩
noncomputable def hb3x1x3x0 (b : Bool) : Obj := (setO [(173, 205), (6150, 207), (847, 206)] 3 7 [5, 6, 7] 0 b)
noncomputable def hb3x1x3x1 : Obj := ⟨(.type "list_iterator"), none, (.fields (Array.mk [(.ref 28), (.int 3 0)])), (Array.mk [])⟩
noncomputable def hb3x1x4x0 (b : Bool) : Obj := (setO [(6155, 208), (173, 205), (6150, 207), (847, 206)] 4 7 [3, 5, 6, 7] 0 b)
noncomputable def hb3x1x4x1 : Obj := ⟨(.type "list_iterator"), none, (.fields (Array.mk [(.ref 28), (.int 4 0)])), (Array.mk [])⟩
noncomputable def hb3x1x5x0 (b : Bool) : Obj := (setO [(6150, 207), (6155, 208), (6156, 209), (173, 205), (847, 206)] 6 31 [6, 11, 12, 13, 15] 1 b)
noncomputable def hb3x1x5x1 : Obj := ⟨(.type "list_iterator"), none, (.fields (Array.mk [(.ref 28), (.int 5 0)])), (Array.mk [])⟩
noncomputable def hb3x1x6x0 (b : Bool) : Obj := (setO [(6150, 207), (6155, 208), (6156, 209), (173, 205), (6157, 210), (847, 206)] 7 31 [6, 11, 12, 13, 14, 15] 1 b)
noncomputable def hb3x1x6x1 : Obj := ⟨(.type "list_iterator"), none, (.fields (Array.mk [(.ref 28), (.int 6 0)])), (Array.mk [])⟩
noncomputable def hb3x1x7x0 (b : Bool) : Obj := (setO [(6150, 207), (6155, 208), (6156, 209), (173, 205), (6157, 210), (847, 206), (8203, 211)] 8 31 [6, 11, 12, 13, 14, 15, 16] 1 b)
noncomputable def hb3x1x7x1 : Obj := ⟨(.type "list_iterator"), none, (.fields (Array.mk [(.ref 28), (.int 7 0)])), (Array.mk [])⟩
noncomputable def hb3x1x8x0 (b : Bool) : Obj := (setO [(6150, 207), (6155, 208), (6156, 209), (173, 205), (6157, 210), (847, 206), (8203, 211), (8204, 212)] 9 31 [6, 11, 12, 13, 14, 15, 16, 17] 1 b)
noncomputable def hb3x1x8x1 : Obj := ⟨(.type "list_iterator"), none, (.fields (Array.mk [(.ref 28), (.int 8 0)])), (Array.mk [])⟩
noncomputable def hb3x1x9x0 (b : Bool) : Obj := (setO [(6150, 207), (6155, 208), (6156, 209), (173, 205), (6157, 210), (847, 206), (8203, 211), (8204, 212), (8205, 213)] 10 31 [6, 11, 12, 13, 14, 15, 16, 17, 18] 1 b)
noncomputable def hb3x1x9x1 : Obj := ⟨(.type "list_iterator"), none, (.fields (Array.mk [(.ref 28), (.int 9 0)])), (Array.mk [])⟩
noncomputable def hb3x1x10x0 (b : Bool) : Obj := (setO [(8288, 214), (6150, 207), (6155, 208), (6156, 209), (173, 205), (6157, 210), (847, 206), (8203, 211), (8204, 212), (8205, 213)] 11 31 [0, 6, 11, 12, 13, 14, 15, 16, 17, 18] 1 b)
noncomputable def hb3x1x10x1 : Obj := ⟨(.type "list_iterator"), none, (.fields (Array.mk [(.ref 28), (.int 10 0)])), (Array.mk [])⟩
noncomputable def hb3x1x11x0 (b : Bool) : Obj := (setO [(8288, 214), (6150, 207), (6155, 208), (6156, 209), (173, 205), (6157, 210), (847, 206), (8203, 211), (8204, 212), (8205, 213), (65279, 215)] 12 31 [0, 6, 11, 12, 13, 14, 15, 16, 17, 18, 31] 1 b)
noncomputable def hb3x1x11x1 : Obj := ⟨(.type "list_iterator"), none, (.fields (Array.mk [(.ref 28), (.int 11 0)])), (Array.mk [])⟩
noncomputable def hb3x1x12x0 (b : Bool) : Obj := (setO [(8288, 214), (65024, 221), (6150, 207), (6155, 208), (6156, 209), (173, 205), (6157, 210), (847, 206), (8203, 211), (8204, 212), (8205, 213), (65279, 215)] 13 31 [0, 1, 6, 11, 12, 13, 14, 15, 16, 17, 18, 31] 1 b)
noncomputable def hb3x1x12x1 : Obj := ⟨(.type "list_iterator"), none, (.fields (Array.mk [(.ref 28), (.int 12 0)])), (Array.mk [])⟩
noncomputable def hb3x1x13x0 (b : Bool) : Obj := (setO [(8288, 214), (65024, 221), (65025, 222), (6150, 207), (6155, 208), (6156, 209), (173, 205), (6157, 210), (847, 206), (8203, 211), (8204, 212), (8205, 213), (65279, 215)] 14 31 [0, 1, 2, 6, 11, 12, 13, 14, 15, 16, 17, 18, 31] 1 b)
noncomputable def hb3x1x13x1 : Obj := ⟨(.type "list_iterator"), none, (.fields (Array.mk [(.ref 28), (.int 13 0)])), (Array.mk [])⟩
noncomputable def hb3x1x14x0 (b : Bool) : Obj := (setO [(8288, 214), (65024, 221), (65025, 222), (65026, 223), (6150, 207), (6155, 208), (6156, 209), (173, 205), (6157, 210), (847, 206), (8203, 211), (8204, 212), (8205, 213), (65279, 215)] 15 31 [0, 1, 2, 3, 6, 11, 12, 13, 14, 15, 16, 17, 18, 31] 1 b)
noncomputable def hb3x1x14x1 : Obj := ⟨(.type "list_iterator"), none, (.fields (Array.mk [(.ref 28), (.int 14 0)])), (Array.mk [])⟩
noncomputable def hb3x1x15x0 (b : Bool) : Obj := (setO [(8288, 214), (65024, 221), (65025, 222), (65026, 223), (65027, 224), (6150, 207), (6155, 208), (6156, 209), (173, 205), (6157, 210), (847, 206), (8203, 211), (8204, 212), (8205, 213), (65279, 215)] 16 31 [0, 1, 2, 3, 4, 6, 11, 12, 13, 14, 15, 16, 17, 18, 31] 1 b)
noncomputable def hb3x1x15x1 : Obj := ⟨(.type "list_iterator"), none, (.fields (Array.mk [(.ref 28), (.int 15 0)])), (Array.mk [])⟩
noncomputable def hb3x1x16x0 (b : Bool) : Obj := (setO [(8288, 214), (65024, 221), (65025, 222), (65026, 223), (65027, 224), (65028, 225), (6150, 207), (6155, 208), (6156, 209), (173, 205), (6157, 210), (847, 206), (8203, 211), (8204, 212), (8205, 213), (65279, 215)] 17 31 [0, 1, 2, 3, 4, 5, 6, 11, 12, 13, 14, 15, 16, 17, 18, 31] 1 b)
noncomputable def hb3x1x16x1 : Obj := ⟨(.type "list_iterator"), none, (.fields (Array.mk [(.ref 28), (.int 16 0)])), (Array.mk [])⟩
noncomputable def hb3x1x17x0 (b : Bool) : Obj := (setO [(8288, 214), (65024, 221), (65025, 222), (65026, 223), (65027, 224), (65028, 225), (6150, 207), (65029, 226), (6155, 208), (6156, 209), (173, 205), (6157, 210), (847, 206), (8203, 211), (8204, 212), (8205, 213), (65279, 215)] 18 31 [0, 1, 2, 3, 4, 5, 6, 7, 11, 12, 13, 14, 15, 16, 17, 18, 31] 1 b)
noncomputable def hb3x1x17x1 : Obj := ⟨(.type "list_iterator"), none, (.fields (Array.mk [(.ref 28), (.int 17 0)])), (Array.mk [])⟩
noncomputable def hb3x1x18x0 (b : Bool) : Obj := (setO [(8288, 214), (65024, 221), (65025, 222), (65026, 223), (65027, 224), (65028, 225), (6150, 207), (65029, 226), (65030, 227), (6155, 208), (6156, 209), (173, 205), (6157, 210), (847, 206), (8203, 211), (8204, 212), (8205, 213), (65279, 215)] 19 31 [0, 1, 2, 3, 4, 5, 6, 7, 8, 11, 12, 13, 14, 15, 16, 17, 18, 31] 1 b)
noncomputable def hb3x1x18x1 : Obj := ⟨(.type "list_iterator"), none, (.fields (Array.mk [(.ref 28), (.int 18 0)])), (Array.mk [])⟩
noncomputable def hb3x1x19x0 (b : Bool) : Obj := (setO [(65024, 221), (65025, 222), (65026, 223), (65027, 224), (65028, 225), (65029, 226), (6150, 207), (65030, 227), (65031, 228), (6155, 208), (6156, 209), (6157, 210), (8203, 211), (8204, 212), (8205, 213), (173, 205), (847, 206), (8288, 214), (65279, 215)] 21 127 [0, 1, 2, 3, 4, 5, 6, 7, 8, 11, 12, 13, 14, 15, 16, 45, 79, 96, 127] 2 b)
noncomputable def hb3x1x19x1 : Obj := ⟨(.type "list_iterator"), none, (.fields (Array.mk [(.ref 28), (.int 19 0)])), (Array.mk [])⟩
noncomputable def hb3x1x20x0 (b : Bool) : Obj := (setO [(65024, 221), (65025, 222), (65026, 223), (65027, 224), (65028, 225), (65029, 226), (6150, 207), (65030, 227), (65031, 228), (65032, 229), (6155, 208), (6156, 209), (6157, 210), (8203, 211), (8204, 212), (8205, 213), (173, 205), (847, 206), (8288, 214), (65279, 215)] 22 127 [0, 1, 2, 3, 4, 5, 6, 7, 8, 9, 11, 12, 13, 14, 15, 16, 45, 79, 96, 127] 2 b)
noncomputable def hb3x1x20x1 : Obj := ⟨(.type "list_iterator"), none, (.fields (Array.mk [(.ref 28), (.int 20 0)])), (Array.mk [])⟩
noncomputable def hb3x1x21x0 (b : Bool) : Obj := (setO [(65024, 221), (65025, 222), (65026, 223), (65027, 224), (65028, 225), (65029, 226), (6150, 207), (65030, 227), (65031, 228), (65032, 229), (65033, 230), (6155, 208), (6156, 209), (6157, 210), (8203, 211), (8204, 212), (8205, 213), (173, 205), (847, 206), (8288, 214), (65279, 215)] 23 127 [0, 1, 2, 3, 4, 5, 6, 7, 8, 9, 10, 11, 12, 13, 14, 15, 16, 45, 79, 96, 127] 2 b)
noncomputable def hb3x1x21x1 : Obj := ⟨(.type "list_iterator"), none, (.fields (Array.mk [(.ref 28), (.int 21 0)])), (Array.mk [])⟩
noncomputable def hb3x1x22x0 (b : Bool) : Obj := (setO [(65024, 221), (65025, 222), (65026, 223), (65027, 224), (65028, 225), (65029, 226), (6150, 207), (65030, 227), (65031, 228), (65032, 229), (65033, 230), (6155, 208), (6156, 209), (6157, 210), (8203, 211), (8204, 212), (8205, 213), (65034, 231), (173, 205), (847, 206), (8288, 214), (65279, 215)] 24 127 [0, 1, 2, 3, 4, 5, 6, 7, 8, 9, 10, 11, 12, 13, 14, 15, 16, 17, 45, 79, 96, 127] 2 b)
noncomputable def hb3x1x22x1 : Obj := ⟨(.type "list_iterator"), none, (.fields (Array.mk [(.ref 28), (.int 22 0)])), (Array.mk [])⟩
noncomputable def hb3x1x23x0 (b : Bool) : Obj := (setO [(65024, 221), (65025, 222), (65026, 223), (65027, 224), (65028, 225), (65029, 226), (6150, 207), (65030, 227), (65031, 228), (65032, 229), (65033, 230), (6155, 208), (6156, 209), (6157, 210), (8203, 211), (8204, 212), (8205, 213), (65034, 231), (65035, 232), (173, 205), (847, 206), (8288, 214), (65279, 215)] 25 127 [0, 1, 2, 3, 4, 5, 6, 7, 8, 9, 10, 11, 12, 13, 14, 15, 16, 17, 18, 45, 79, 96, 127] 2 b)
noncomputable def hb3x1x23x1 : Obj := ⟨(.type "list_iterator"), none, (.fields (Array.mk [(.ref 28), (.int 23 0)])), (Array.mk [])⟩
noncomputable def hb3x1x24x0 (b : Bool) : Obj := (setO [(65024, 221), (65025, 222), (65026, 223), (65027, 224), (65028, 225), (65029, 226), (6150, 207), (65030, 227), (65031, 228), (65032, 229), (65033, 230), (6155, 208), (6156, 209), (6157, 210), (8203, 211), (8204, 212), (8205, 213), (65034, 231), (65035, 232), (65036, 233), (173, 205), (847, 206), (8288, 214), (65279, 215)] 26 127 [0, 1, 2, 3, 4, 5, 6, 7, 8, 9, 10, 11, 12, 13, 14, 15, 16, 17, 18, 19, 45, 79, 96, 127] 2 b)
noncomputable def hb3x1x24x1 : Obj := ⟨(.type "list_iterator"), none, (.fields (Array.mk [(.ref 28), (.int 24 0)])), (Array.mk [])⟩
noncomputable def hb3x1x25x0 (b : Bool) : Obj := (setO [(65024, 221), (65025, 222), (65026, 223), (65027, 224), (65028, 225), (65029, 226), (6150, 207), (65030, 227), (65031, 228), (65032, 229), (65033, 230), (6155, 208), (6156, 209), (6157, 210), (8203, 211), (8204, 212), (8205, 213), (65034, 231), (65035, 232), (65036, 233), (65037, 234), (173, 205), (847, 206), (8288, 214), (65279, 215)] 27 127 [0, 1, 2, 3, 4, 5, 6, 7, 8, 9, 10, 11, 12, 13, 14, 15, 16, 17, 18, 19, 20, 45, 79, 96, 127] 2 b)
noncomputable def hb3x1x25x1 : Obj := ⟨(.type "list_iterator"), none, (.fields (Array.mk [(.ref 28), (.int 25 0)])), (Array.mk [])⟩
noncomputable def hb3x1x26x0 (b : Bool) : Obj := (setO [(65024, 221), (65025, 222), (65026, 223), (65027, 224), (65028, 225), (65029, 226), (6150, 207), (65030, 227), (65031, 228), (65032, 229), (65033, 230), (6155, 208), (6156, 209), (6157, 210), (8203, 211), (8204, 212), (8205, 213), (65034, 231), (65035, 232), (65036, 233), (65037, 234), (65038, 235), (173, 205), (847, 206), (8288, 214), (65279, 215)] 28 127 [0, 1, 2, 3, 4, 5, 6, 7, 8, 9, 10, 11, 12, 13, 14, 15, 16, 17, 18, 19, 20, 21, 45, 79, 96, 127] 2 b)
noncomputable def hb3x1x26x1 : Obj := ⟨(.type "list_iterator"), none, (.fields (Array.mk [(.ref 28), (.int 26 0)])), (Array.mk [])⟩
noncomputable def hb3x1x27x0 (b : Bool) : Obj := (setO [(65024, 221), (65025, 222), (65026, 223), (65027, 224), (65028, 225), (65029, 226), (6150, 207), (65030, 227), (65031, 228), (65032, 229), (65033, 230), (6155, 208), (6156, 209), (6157, 210), (8203, 211), (8204, 212), (8205, 213), (65034, 231), (65035, 232), (65036, 233), (65037, 234), (65038, 235), (65039, 236), (173, 205), (847, 206), (8288, 214), (65279, 215)] 29 127 [0, 1, 2, 3, 4, 5, 6, 7, 8, 9, 10, 11, 12, 13, 14, 15, 16, 17, 18, 19, 20, 21, 22, 45, 79, 96, 127] 2 b)
noncomputable def hb3x1x27x1 : Obj := ⟨(.type "list_iterator"), none, (.fields (Array.mk [(.ref 28), (.int 27 0)])), (Array.mk [])⟩
noncomputable def stk3x1 (sg : SG) (dn : DN) (tb : String → Option Builtin) (p : Program) (w : World) (os : OsState) : List Frame := stkOf (sg tb p w 11 ann 1 59 (SharedT.mk (TL3x0 p w.params hb3x0x16x0 hb3x0x16x1) 26 lf (Array.mk []) dr 237 os) ⟨dn tb cd3x0, cd3x0, ⟨35, 81, 35, 106⟩, stk3x0 sg dn tb p w os⟩)
theorem segA3x1 : ∀ (w : World) (os : OsState), goT w 59 (SharedT.mk (TL3x0 PySem.Challenge.pw_mq0100_01 w.params hb3x0x16x0 hb3x0x16x1) 26 lf (Array.mk []) dr 237 os) ⟨denote treeTable cd3x0, cd3x0, ⟨35, 81, 35, 106⟩, stk3x0 @segGoT @denote treeTable PySem.Challenge.pw_mq0100_01 w os⟩ = some ((SharedT.mk (TL3x1 PySem.Challenge.pw_mq0100_01 w.params (hb3x1x0x0 (not (w.params.followText "set-order"))) hb3x1x0x1) 31 lf (Array.mk []) dr 237 os), ⟨denote treeTable cd3x1, cd3x1, ⟨35, 9, 35, 107⟩, stk3x1 @segGoT @denote treeTable PySem.Challenge.pw_mq0100_01 w os⟩) := by
  refine byRow2 "special-get-raises" ?_ ?_ <;> (intro w os; unfold goT; rewrite [PySem.W.Fast.te10295753902157049106, PySem.W.Fast.te11892475500146522536, PySem.W.Fast.te14364793385576792824, PySem.W.Fast.te7261500446525621778]; kernel_rfl)
theorem okA3x1 : ∀ (w : World) (os : OsState), okStk (stk3x1 @segGoT @denote treeTable PySem.Challenge.pw_mq0100_01 w os) = true := by
  refine byRow2 "special-get-raises" ?_ ?_ <;> (intro w os; rewrite [PySem.W.Fast.te10295753902157049106, PySem.W.Fast.te11892475500146522536, PySem.W.Fast.te14364793385576792824, PySem.W.Fast.te7261500446525621778]; kernel_rfl)
theorem it3x1x0 (b : Bool) : Turn TL3x1 31 cd3x1 ⟨35, 9, 35, 107⟩ 20 (hb3x1x0x0 b) hb3x1x0x1 237 (hb3x1x1x0 b) hb3x1x1x1 238 := by cases b <;> exact turn_row (by intros; kernel_rfl) (by intros; kernel_rfl)
theorem it3x1x1 (b : Bool) : Turn TL3x1 31 cd3x1 ⟨35, 9, 35, 107⟩ 20 (hb3x1x1x0 b) hb3x1x1x1 238 (hb3x1x2x0 b) hb3x1x2x1 239 := by cases b <;> exact turn_row (by intros; kernel_rfl) (by intros; kernel_rfl)
theorem it3x1x2 (b : Bool) : Turn TL3x1 31 cd3x1 ⟨35, 9, 35, 107⟩ 20 (hb3x1x2x0 b) hb3x1x2x1 239 (hb3x1x3x0 b) hb3x1x3x1 240 := by cases b <;> exact turn_row (by intros; kernel_rfl) (by intros; kernel_rfl)
theorem it3x1x3 (b : Bool) : Turn TL3x1 31 cd3x1 ⟨35, 9, 35, 107⟩ 20 (hb3x1x3x0 b) hb3x1x3x1 240 (hb3x1x4x0 b) hb3x1x4x1 241 := by cases b <;> exact turn_row (by intros; kernel_rfl) (by intros; kernel_rfl)
theorem it3x1x4 (b : Bool) : Turn TL3x1 31 cd3x1 ⟨35, 9, 35, 107⟩ 22 (hb3x1x4x0 b) hb3x1x4x1 241 (hb3x1x5x0 b) hb3x1x5x1 242 := by cases b <;> exact turn_row (by intros; kernel_rfl) (by intros; kernel_rfl)
theorem it3x1x5 (b : Bool) : Turn TL3x1 31 cd3x1 ⟨35, 9, 35, 107⟩ 20 (hb3x1x5x0 b) hb3x1x5x1 242 (hb3x1x6x0 b) hb3x1x6x1 243 := by cases b <;> exact turn_row (by intros; kernel_rfl) (by intros; kernel_rfl)
theorem it3x1x6 (b : Bool) : Turn TL3x1 31 cd3x1 ⟨35, 9, 35, 107⟩ 20 (hb3x1x6x0 b) hb3x1x6x1 243 (hb3x1x7x0 b) hb3x1x7x1 244 := by cases b <;> exact turn_row (by intros; kernel_rfl) (by intros; kernel_rfl)
theorem it3x1x7 (b : Bool) : Turn TL3x1 31 cd3x1 ⟨35, 9, 35, 107⟩ 20 (hb3x1x7x0 b) hb3x1x7x1 244 (hb3x1x8x0 b) hb3x1x8x1 245 := by cases b <;> exact turn_row (by intros; kernel_rfl) (by intros; kernel_rfl)
theorem it3x1x8 (b : Bool) : Turn TL3x1 31 cd3x1 ⟨35, 9, 35, 107⟩ 20 (hb3x1x8x0 b) hb3x1x8x1 245 (hb3x1x9x0 b) hb3x1x9x1 246 := by cases b <;> exact turn_row (by intros; kernel_rfl) (by intros; kernel_rfl)
theorem it3x1x9 (b : Bool) : Turn TL3x1 31 cd3x1 ⟨35, 9, 35, 107⟩ 20 (hb3x1x9x0 b) hb3x1x9x1 246 (hb3x1x10x0 b) hb3x1x10x1 247 := by cases b <;> exact turn_row (by intros; kernel_rfl) (by intros; kernel_rfl)
theorem it3x1x10 (b : Bool) : Turn TL3x1 31 cd3x1 ⟨35, 9, 35, 107⟩ 20 (hb3x1x10x0 b) hb3x1x10x1 247 (hb3x1x11x0 b) hb3x1x11x1 248 := by cases b <;> exact turn_row (by intros; kernel_rfl) (by intros; kernel_rfl)
theorem it3x1x11 (b : Bool) : Turn TL3x1 31 cd3x1 ⟨35, 9, 35, 107⟩ 20 (hb3x1x11x0 b) hb3x1x11x1 248 (hb3x1x12x0 b) hb3x1x12x1 249 := by cases b <;> exact turn_row (by intros; kernel_rfl) (by intros; kernel_rfl)
theorem it3x1x12 (b : Bool) : Turn TL3x1 31 cd3x1 ⟨35, 9, 35, 107⟩ 20 (hb3x1x12x0 b) hb3x1x12x1 249 (hb3x1x13x0 b) hb3x1x13x1 250 := by cases b <;> exact turn_row (by intros; kernel_rfl) (by intros; kernel_rfl)
theorem it3x1x13 (b : Bool) : Turn TL3x1 31 cd3x1 ⟨35, 9, 35, 107⟩ 20 (hb3x1x13x0 b) hb3x1x13x1 250 (hb3x1x14x0 b) hb3x1x14x1 251 := by cases b <;> exact turn_row (by intros; kernel_rfl) (by intros; kernel_rfl)
theorem it3x1x14 (b : Bool) : Turn TL3x1 31 cd3x1 ⟨35, 9, 35, 107⟩ 20 (hb3x1x14x0 b) hb3x1x14x1 251 (hb3x1x15x0 b) hb3x1x15x1 252 := by cases b <;> exact turn_row (by intros; kernel_rfl) (by intros; kernel_rfl)
theorem it3x1x15 (b : Bool) : Turn TL3x1 31 cd3x1 ⟨35, 9, 35, 107⟩ 20 (hb3x1x15x0 b) hb3x1x15x1 252 (hb3x1x16x0 b) hb3x1x16x1 253 := by cases b <;> exact turn_row (by intros; kernel_rfl) (by intros; kernel_rfl)
theorem it3x1x16 (b : Bool) : Turn TL3x1 31 cd3x1 ⟨35, 9, 35, 107⟩ 20 (hb3x1x16x0 b) hb3x1x16x1 253 (hb3x1x17x0 b) hb3x1x17x1 254 := by cases b <;> exact turn_row (by intros; kernel_rfl) (by intros; kernel_rfl)
theorem it3x1x17 (b : Bool) : Turn TL3x1 31 cd3x1 ⟨35, 9, 35, 107⟩ 20 (hb3x1x17x0 b) hb3x1x17x1 254 (hb3x1x18x0 b) hb3x1x18x1 255 := by cases b <;> exact turn_row (by intros; kernel_rfl) (by intros; kernel_rfl)
theorem it3x1x18 (b : Bool) : Turn TL3x1 31 cd3x1 ⟨35, 9, 35, 107⟩ 22 (hb3x1x18x0 b) hb3x1x18x1 255 (hb3x1x19x0 b) hb3x1x19x1 256 := by cases b <;> exact turn_row (by intros; kernel_rfl) (by intros; kernel_rfl)
theorem it3x1x19 (b : Bool) : Turn TL3x1 31 cd3x1 ⟨35, 9, 35, 107⟩ 20 (hb3x1x19x0 b) hb3x1x19x1 256 (hb3x1x20x0 b) hb3x1x20x1 257 := by cases b <;> exact turn_row (by intros; kernel_rfl) (by intros; kernel_rfl)
theorem it3x1x20 (b : Bool) : Turn TL3x1 31 cd3x1 ⟨35, 9, 35, 107⟩ 20 (hb3x1x20x0 b) hb3x1x20x1 257 (hb3x1x21x0 b) hb3x1x21x1 258 := by cases b <;> exact turn_row (by intros; kernel_rfl) (by intros; kernel_rfl)
theorem it3x1x21 (b : Bool) : Turn TL3x1 31 cd3x1 ⟨35, 9, 35, 107⟩ 20 (hb3x1x21x0 b) hb3x1x21x1 258 (hb3x1x22x0 b) hb3x1x22x1 259 := by cases b <;> exact turn_row (by intros; kernel_rfl) (by intros; kernel_rfl)
theorem it3x1x22 (b : Bool) : Turn TL3x1 31 cd3x1 ⟨35, 9, 35, 107⟩ 20 (hb3x1x22x0 b) hb3x1x22x1 259 (hb3x1x23x0 b) hb3x1x23x1 260 := by cases b <;> exact turn_row (by intros; kernel_rfl) (by intros; kernel_rfl)
theorem it3x1x23 (b : Bool) : Turn TL3x1 31 cd3x1 ⟨35, 9, 35, 107⟩ 20 (hb3x1x23x0 b) hb3x1x23x1 260 (hb3x1x24x0 b) hb3x1x24x1 261 := by cases b <;> exact turn_row (by intros; kernel_rfl) (by intros; kernel_rfl)
theorem it3x1x24 (b : Bool) : Turn TL3x1 31 cd3x1 ⟨35, 9, 35, 107⟩ 20 (hb3x1x24x0 b) hb3x1x24x1 261 (hb3x1x25x0 b) hb3x1x25x1 262 := by cases b <;> exact turn_row (by intros; kernel_rfl) (by intros; kernel_rfl)
theorem it3x1x25 (b : Bool) : Turn TL3x1 31 cd3x1 ⟨35, 9, 35, 107⟩ 20 (hb3x1x25x0 b) hb3x1x25x1 262 (hb3x1x26x0 b) hb3x1x26x1 263 := by cases b <;> exact turn_row (by intros; kernel_rfl) (by intros; kernel_rfl)
theorem it3x1x26 (b : Bool) : Turn TL3x1 31 cd3x1 ⟨35, 9, 35, 107⟩ 20 (hb3x1x26x0 b) hb3x1x26x1 263 (hb3x1x27x0 b) hb3x1x27x1 264 := by cases b <;> exact turn_row (by intros; kernel_rfl) (by intros; kernel_rfl)
theorem loop3x1 (b : Bool) : Turn TL3x1 31 cd3x1 ⟨35, 9, 35, 107⟩ 544 (hb3x1x0x0 b) hb3x1x0x1 237 (hb3x1x27x0 b) hb3x1x27x1 264 := (it3x1x0 b).trans ((it3x1x1 b).trans ((it3x1x2 b).trans ((it3x1x3 b).trans ((it3x1x4 b).trans ((it3x1x5 b).trans ((it3x1x6 b).trans ((it3x1x7 b).trans ((it3x1x8 b).trans ((it3x1x9 b).trans ((it3x1x10 b).trans ((it3x1x11 b).trans ((it3x1x12 b).trans ((it3x1x13 b).trans ((it3x1x14 b).trans ((it3x1x15 b).trans ((it3x1x16 b).trans ((it3x1x17 b).trans ((it3x1x18 b).trans ((it3x1x19 b).trans ((it3x1x20 b).trans ((it3x1x21 b).trans ((it3x1x22 b).trans ((it3x1x23 b).trans ((it3x1x24 b).trans ((it3x1x25 b).trans (it3x1x26 b))))))))))))))))))))))))))
noncomputable def ob3v20 (p : Program) (P : Params) : Obj := ⟨(.type "dict"), none, (.dict (Array.mk [(e0 P), (e1 P), (e2 P), (e3 P), (e4 P), (e5 P), (e6 P), (e7 P), (e8 P), (e9 P), (e10 P)]) 11), (Array.mk [])⟩
noncomputable def ob29v21 (p : Program) (P : Params) : Obj := (setO [(65024, 221), (65025, 222), (65026, 223), (65027, 224), (65028, 225), (65029, 226), (6150, 207), (65030, 227), (65031, 228), (65032, 229), (65033, 230), (6155, 208), (6156, 209), (6157, 210), (8203, 211), (8204, 212), (8205, 213), (65034, 231), (65035, 232), (65036, 233), (65037, 234), (65038, 235), (65039, 236), (173, 205), (847, 206), (8288, 214), (65279, 215)] 29 127 [0, 1, 2, 3, 4, 5, 6, 7, 8, 9, 10, 11, 12, 13, 14, 15, 16, 17, 18, 19, 20, 21, 22, 45, 79, 96, 127] 2 (not (P.followText "set-order")))
noncomputable def ob30v22 (p : Program) (P : Params) : Obj := ⟨(.type "list_iterator"), none, (.fields (Array.mk [.none, (.int 27 0)])), (Array.mk [])⟩
noncomputable def ob31v23 (p : Program) (P : Params) : Obj := ⟨(.type "tuple"), none, (.seq (Array.mk []) 0), (Array.mk [])⟩
noncomputable def ob32v24 (p : Program) (P : Params) : Obj := ⟨(.type "StopIteration"), none, (.fields (Array.mk [(.ref 31), .none, .none, .none, (.bool false), .none])), (Array.mk [])⟩
noncomputable def T4 (p : Program) (P : Params) : BT := (.node (boot_o_0 P) (.node (boot_o_1 P) (.node (ob3v20 p P) (.node (boot_o_7 P) (.node (ob15v6 p P) (.node (ob31v23 p P) .nil .nil) .nil) (.node (ob23v14 p P) .nil .nil)) (.node (ob11v0 p P) (.node (ob19v10 p P) .nil .nil) (.node (ob27v18 p P) .nil .nil))) (.node (boot_o_5 P) (.node (boot_o_9 P) (.node (ob17v8 p P) .nil .nil) (.node (ob25v16 p P) .nil .nil)) (.node (ob13v2 p P) (.node (ob21v12 p P) .nil .nil) (.node (ob29v21 p P) .nil .nil)))) (.node (boot_o_2 P) (.node (boot_o_4 P) (.node (boot_o_8 P) (.node (ob16v7 p P) (.node (ob32v24 p P) .nil .nil) .nil) (.node (ob24v15 p P) .nil .nil)) (.node (ob12v5 p P) (.node (ob20v11 p P) .nil .nil) (.node (ob28v19 p P) .nil .nil))) (.node (boot_o_6 P) (.node (boot_o_10 P) (.node (ob18v9 p P) .nil .nil) (.node (ob26v17 p P) .nil .nil)) (.node (ob14v3 p P) (.node (ob22v13 p P) .nil .nil) (.node (ob30v22 p P) .nil .nil)))))
theorem segE3 : ∀ (w : World) (os : OsState), runT w 27 (SharedT.mk (TL3x1 PySem.Challenge.pw_mq0100_01 w.params (hb3x1x27x0 (not (w.params.followText "set-order"))) hb3x1x27x1) 31 lf (Array.mk []) dr 264 os) ⟨denote treeTable cd3x1, cd3x1, ⟨35, 9, 35, 107⟩, stk3x1 @segGoT @denote treeTable PySem.Challenge.pw_mq0100_01 w os⟩ = some (.next, (SharedT.mk (T4 PySem.Challenge.pw_mq0100_01 w.params) 33 lf (Array.mk []) dr 265 os), cE PySem.Challenge.pw_mq0100_01, ⟨35, 0, 35, 6⟩) := by
  refine byRow2 "special-get-raises" ?_ ?_ <;> (intro w os; unfold runT; rewrite [PySem.W.Fast.te10110043849684766642, PySem.W.Fast.te11892475500146522536, PySem.W.Fast.te10295753902157049106, PySem.W.Fast.te14364793385576792824, PySem.W.Fast.te7261500446525621778]; kernel_rfl)
theorem seg3 : ∀ (w : World) (os : OsState), segRun treeTable PySem.Challenge.pw_mq0100_01 w 11 ann 1 (97 + (272 + (59 + (544 + 27)))) (SharedT.abs (SharedT.mk (T3 PySem.Challenge.pw_mq0100_01 w.params) 22 lf (Array.mk []) dr 205 os)) (piecesOf [stm PySem.Challenge.pw_mq0100_01 3] (env PySem.Challenge.pw_mq0100_01) (cE PySem.Challenge.pw_mq0100_01) ⟨34, 0, 34, 8⟩ B0) = some (.next, SharedT.abs (SharedT.mk (T4 PySem.Challenge.pw_mq0100_01 w.params) 33 lf (Array.mk []) dr 265 os), cE PySem.Challenge.pw_mq0100_01, ⟨35, 0, 35, 6⟩) := fun w os => join (segA3x0 w os) (okA3x0 w os) loop3x0 (join (segA3x1 w os) (okA3x1 w os) (loop3x1 (not (w.params.followText "set-order"))) (segRun_of (segE3 w os)))
noncomputable def ob3v25 (p : Program) (P : Params) : Obj := ⟨(.type "dict"), none, (.dict (Array.mk [(e0 P), (e1 P), (e2 P), (e3 P), (e4 P), (e5 P), (e6 P), (e7 P), (e8 P), (e9 P), (e10 P), (e11 P), (e12 P), (e13 P)]) 14), (Array.mk [])⟩
noncomputable def ob12v26 (p : Program) (P : Params) : Obj := ⟨.none, none, (.fields (Array.mk [(.int 2 0), (.int 0 0), (.ref 20), (.int 36 0), (.int 0 0), (.ref 38), (.int 38 0), (.int 0 0), (.ref 45), (.int 40 0), (.int 0 0), (.ref 52)])), (Array.mk [])⟩
noncomputable def ob33v27 (p : Program) (P : Params) : Obj := ⟨(.type "tuple"), none, (.seq (Array.mk []) 0), (Array.mk [])⟩
noncomputable def ob34v28 (p : Program) (P : Params) : Obj := ⟨.none, none, (.fields (Array.mk [])), (Array.mk [])⟩
noncomputable def ob35v29 (p : Program) (P : Params) : Obj := ⟨(.type "tuple"), none, (.seq (Array.mk [(.str s27 268)]) 0), (Array.mk [])⟩
noncomputable def ob36v30 (p : Program) (P : Params) : Obj := ⟨(.type "tuple"), none, (.seq (Array.mk []) 0), (Array.mk [])⟩
noncomputable def ob37v31 (p : Program) (P : Params) : Obj := ⟨.none, none, (.func { name := s24, qualname := s24, params := fnA p 4, body := .stmts (fnB p 4), scope := fnS p 4, globals := 0, closure := [], defaults := .none, kwdefaults := .none, doc := .none, pyModule := .none, annotations := none, code := .none, closureTuple := .none, builtins := 0 : FuncData }), (Array.mk [])⟩
noncomputable def ob38v32 (p : Program) (P : Params) : Obj := ⟨(.type "code"), none, (.fields (Array.mk [(.str s24 265), (.str s24 266), (.str s1 267), (.int 36 0), (.int 1 0), (.int 0 0), (.int 0 0), (.int 3 0), (.ref 33), (.bool true), (.int 181 0), (.ref 34), .none, (.ref 35), (.ref 36), (.ref 37), (.int 269 0), (.int 36 0), (.str s1 270)])), (Array.mk [])⟩
noncomputable def ob39v33 (p : Program) (P : Params) : Obj := ⟨(.type "function"), none, (.func { name := s24, qualname := s24, params := fnA p 4, body := .stmts (fnB p 4), scope := fnS p 4, globals := 3, closure := [], defaults := .none, kwdefaults := .none, doc := .none, pyModule := (.str s4 203), annotations := none, code := (.ref 38), closureTuple := .none, builtins := 0 : FuncData }), (Array.mk [])⟩
noncomputable def ob40v34 (p : Program) (P : Params) : Obj := ⟨(.type "tuple"), none, (.seq (Array.mk []) 0), (Array.mk [])⟩
noncomputable def ob41v35 (p : Program) (P : Params) : Obj := ⟨.none, none, (.fields (Array.mk [])), (Array.mk [])⟩
noncomputable def ob42v36 (p : Program) (P : Params) : Obj := ⟨(.type "tuple"), none, (.seq (Array.mk [(.str s27 275)]) 0), (Array.mk [])⟩
noncomputable def ob43v37 (p : Program) (P : Params) : Obj := ⟨(.type "tuple"), none, (.seq (Array.mk []) 0), (Array.mk [])⟩
noncomputable def ob44v38 (p : Program) (P : Params) : Obj := ⟨.none, none, (.func { name := s25, qualname := s25, params := fnA p 5, body := .stmts (fnB p 5), scope := fnS p 5, globals := 0, closure := [], defaults := .none, kwdefaults := .none, doc := .none, pyModule := .none, annotations := none, code := .none, closureTuple := .none, builtins := 0 : FuncData }), (Array.mk [])⟩
noncomputable def ob45v39 (p : Program) (P : Params) : Obj := ⟨(.type "code"), none, (.fields (Array.mk [(.str s25 272), (.str s25 273), (.str s1 274), (.int 38 0), (.int 1 0), (.int 0 0), (.int 0 0), (.int 3 0), (.ref 40), (.bool true), (.int 181 0), (.ref 41), .none, (.ref 42), (.ref 43), (.ref 44), (.int 276 0), (.int 38 0), (.str s1 277)])), (Array.mk [])⟩
noncomputable def ob46v40 (p : Program) (P : Params) : Obj := ⟨(.type "function"), none, (.func { name := s25, qualname := s25, params := fnA p 5, body := .stmts (fnB p 5), scope := fnS p 5, globals := 3, closure := [], defaults := .none, kwdefaults := .none, doc := .none, pyModule := (.str s4 203), annotations := none, code := (.ref 45), closureTuple := .none, builtins := 0 : FuncData }), (Array.mk [])⟩
noncomputable def ob47v41 (p : Program) (P : Params) : Obj := ⟨(.type "tuple"), none, (.seq (Array.mk []) 0), (Array.mk [])⟩
noncomputable def ob48v42 (p : Program) (P : Params) : Obj := ⟨.none, none, (.fields (Array.mk [])), (Array.mk [])⟩
noncomputable def ob49v43 (p : Program) (P : Params) : Obj := ⟨(.type "tuple"), none, (.seq (Array.mk [(.str s27 282), (.str s28 283)]) 0), (Array.mk [])⟩
noncomputable def ob50v44 (p : Program) (P : Params) : Obj := ⟨(.type "tuple"), none, (.seq (Array.mk []) 0), (Array.mk [])⟩
noncomputable def ob51v45 (p : Program) (P : Params) : Obj := ⟨.none, none, (.func { name := s26, qualname := s26, params := fnA p 6, body := .stmts (fnB p 6), scope := fnS p 6, globals := 0, closure := [], defaults := .none, kwdefaults := .none, doc := .none, pyModule := .none, annotations := none, code := .none, closureTuple := .none, builtins := 0 : FuncData }), (Array.mk [])⟩
noncomputable def ob52v46 (p : Program) (P : Params) : Obj := ⟨(.type "code"), none, (.fields (Array.mk [(.str s26 279), (.str s26 280), (.str s1 281), (.int 40 0), (.int 1 0), (.int 0 0), (.int 0 0), (.int 3 0), (.ref 47), (.bool true), (.int 181 0), (.ref 48), .none, (.ref 49), (.ref 50), (.ref 51), (.int 284 0), (.int 40 0), (.str s1 285)])), (Array.mk [])⟩
noncomputable def ob53v47 (p : Program) (P : Params) : Obj := ⟨(.type "function"), none, (.func { name := s26, qualname := s26, params := fnA p 6, body := .stmts (fnB p 6), scope := fnS p 6, globals := 3, closure := [], defaults := .none, kwdefaults := .none, doc := .none, pyModule := (.str s4 203), annotations := none, code := (.ref 52), closureTuple := .none, builtins := 0 : FuncData }), (Array.mk [])⟩
noncomputable def T7 (p : Program) (P : Params) : BT := (.node (boot_o_0 P) (.node (boot_o_1 P) (.node (ob3v25 p P) (.node (boot_o_7 P) (.node (ob15v6 p P) (.node (ob31v23 p P) .nil .nil) (.node (ob47v41 p P) .nil .nil)) (.node (ob23v14 p P) (.node (ob39v33 p P) .nil .nil) .nil)) (.node (ob11v0 p P) (.node (ob19v10 p P) (.node (ob35v29 p P) .nil .nil) (.node (ob51v45 p P) .nil .nil)) (.node (ob27v18 p P) (.node (ob43v37 p P) .nil .nil) .nil))) (.node (boot_o_5 P) (.node (boot_o_9 P) (.node (ob17v8 p P) (.node (ob33v27 p P) .nil .nil) (.node (ob49v43 p P) .nil .nil)) (.node (ob25v16 p P) (.node (ob41v35 p P) .nil .nil) .nil)) (.node (ob13v2 p P) (.node (ob21v12 p P) (.node (ob37v31 p P) .nil .nil) (.node (ob53v47 p P) .nil .nil)) (.node (ob29v21 p P) (.node (ob45v39 p P) .nil .nil) .nil)))) (.node (boot_o_2 P) (.node (boot_o_4 P) (.node (boot_o_8 P) (.node (ob16v7 p P) (.node (ob32v24 p P) .nil .nil) (.node (ob48v42 p P) .nil .nil)) (.node (ob24v15 p P) (.node (ob40v34 p P) .nil .nil) .nil)) (.node (ob12v26 p P) (.node (ob20v11 p P) (.node (ob36v30 p P) .nil .nil) (.node (ob52v46 p P) .nil .nil)) (.node (ob28v19 p P) (.node (ob44v38 p P) .nil .nil) .nil))) (.node (boot_o_6 P) (.node (boot_o_10 P) (.node (ob18v9 p P) (.node (ob34v28 p P) .nil .nil) (.node (ob50v44 p P) .nil .nil)) (.node (ob26v17 p P) (.node (ob42v36 p P) .nil .nil) .nil)) (.node (ob14v3 p P) (.node (ob22v13 p P) (.node (ob38v32 p P) .nil .nil) .nil) (.node (ob30v22 p P) (.node (ob46v40 p P) .nil .nil) .nil)))))
theorem seg4 : ∀ (w : World) (os : OsState), runT w 89 (SharedT.mk (T4 PySem.Challenge.pw_mq0100_01 w.params) 33 lf (Array.mk []) dr 265 os) (piecesOf [stm PySem.Challenge.pw_mq0100_01 4, stm PySem.Challenge.pw_mq0100_01 5, stm PySem.Challenge.pw_mq0100_01 6] (env PySem.Challenge.pw_mq0100_01) (cE PySem.Challenge.pw_mq0100_01) ⟨35, 0, 35, 6⟩ B0) = some (.next, (SharedT.mk (T7 PySem.Challenge.pw_mq0100_01 w.params) 54 lf (Array.mk []) dr 287 os), cE PySem.Challenge.pw_mq0100_01, ⟨40, 0, 46, 46⟩) := by
  intro w os; unfold runT; rewrite [PySem.W.Fast.te10110043849684766642, PySem.W.Fast.te14364793385576792824, PySem.W.Fast.te7261500446525621778]; kernel_rfl
noncomputable def ob54v48 (p : Program) (P : Params) : Obj := ⟨(.type "range"), none, (.fields (Array.mk [(.int 65529 287), (.int 65534 288), (.int 1 289)])), (Array.mk [])⟩
noncomputable def TL7x0 (p : Program) (P : Params) (h0 : Obj) (h1 : Obj) : BT := (.node (boot_o_0 P) (.node (boot_o_1 P) (.node (ob3v25 p P) (.node (boot_o_7 P) (.node (ob15v6 p P) (.node (ob31v23 p P) .nil .nil) (.node (ob47v41 p P) .nil .nil)) (.node (ob23v14 p P) (.node (ob39v33 p P) .nil .nil) (.node h0 .nil .nil))) (.node (ob11v0 p P) (.node (ob19v10 p P) (.node (ob35v29 p P) .nil .nil) (.node (ob51v45 p P) .nil .nil)) (.node (ob27v18 p P) (.node (ob43v37 p P) .nil .nil) .nil))) (.node (boot_o_5 P) (.node (boot_o_9 P) (.node (ob17v8 p P) (.node (ob33v27 p P) .nil .nil) (.node (ob49v43 p P) .nil .nil)) (.node (ob25v16 p P) (.node (ob41v35 p P) .nil .nil) .nil)) (.node (ob13v2 p P) (.node (ob21v12 p P) (.node (ob37v31 p P) .nil .nil) (.node (ob53v47 p P) .nil .nil)) (.node (ob29v21 p P) (.node (ob45v39 p P) .nil .nil) .nil)))) (.node (boot_o_2 P) (.node (boot_o_4 P) (.node (boot_o_8 P) (.node (ob16v7 p P) (.node (ob32v24 p P) .nil .nil) (.node (ob48v42 p P) .nil .nil)) (.node (ob24v15 p P) (.node (ob40v34 p P) .nil .nil) (.node h1 .nil .nil))) (.node (ob12v26 p P) (.node (ob20v11 p P) (.node (ob36v30 p P) .nil .nil) (.node (ob52v46 p P) .nil .nil)) (.node (ob28v19 p P) (.node (ob44v38 p P) .nil .nil) .nil))) (.node (boot_o_6 P) (.node (boot_o_10 P) (.node (ob18v9 p P) (.node (ob34v28 p P) .nil .nil) (.node (ob50v44 p P) .nil .nil)) (.node (ob26v17 p P) (.node (ob42v36 p P) .nil .nil) .nil)) (.node (ob14v3 p P) (.node (ob22v13 p P) (.node (ob38v32 p P) .nil .nil) (.node (ob54v48 p P) .nil .nil)) (.node (ob30v22 p P) (.node (ob46v40 p P) .nil .nil) .nil)))))
noncomputable def cd7x0 : Code := (Code.builtin "set.update.loop" ⟨[(.ref 55), (.ref 56)], []⟩)
noncomputable def hb7x0x0x0 (b : Bool) : Obj := (setO [] 0 7 [] 0 b)
noncomputable def hb7x0x0x1 : Obj := ⟨(.type "range_iterator"), none, (.fields (Array.mk [(.int 65529 0), (.int 5 0), (.int 1 0)])), (Array.mk [])⟩
noncomputable def hb7x0x1x0 (b : Bool) : Obj := (setO [(65529, 290)] 1 7 [1] 0 b)
noncomputable def hb7x0x1x1 : Obj := ⟨(.type "range_iterator"), none, (.fields (Array.mk [(.int 65530 0), (.int 4 0), (.int 1 0)])), (Array.mk [])⟩
noncomputable def hb7x0x2x0 (b : Bool) : Obj := (setO [(65529, 290), (65530, 292)] 2 7 [1, 2] 0 b)
noncomputable def hb7x0x2x1 : Obj := ⟨(.type "range_iterator"), none, (.fields (Array.mk [(.int 65531 0), (.int 3 0), (.int 1 0)])), (Array.mk [])⟩
noncomputable def hb7x0x3x0 (b : Bool) : Obj := (setO [(65529, 290), (65530, 292), (65531, 294)] 3 7 [1, 2, 3] 0 b)
noncomputable def hb7x0x3x1 : Obj := ⟨(.type "range_iterator"), none, (.fields (Array.mk [(.int 65532 0), (.int 2 0), (.int 1 0)])), (Array.mk [])⟩
noncomputable def hb7x0x4x0 (b : Bool) : Obj := (setO [(65529, 290), (65530, 292), (65531, 294), (65532, 296)] 4 7 [1, 2, 3, 4] 0 b)
noncomputable def hb7x0x4x1 : Obj := ⟨(.type "range_iterator"), none, (.fields (Array.mk [(.int 65533 0), (.int 1 0), (.int 1 0)])), (Array.mk [])⟩
noncomputable def hb7x0x5x0 (b : Bool) : Obj := (setO [(65529, 290), (65530, 292), (65531, 294), (65532, 296), (65533, 298)] 6 31 [25, 26, 27, 28, 29] 1 b)
noncomputable def hb7x0x5x1 : Obj := ⟨(.type "range_iterator"), none, (.fields (Array.mk [(.int 65534 0), (.int 0 0), (.int 1 0)])), (Array.mk [])⟩
noncomputable def stk7x0 (sg : SG) (dn : DN) (tb : String → Option Builtin) (p : Program) (w : World) (os : OsState) : List Frame := stkOf (sg tb p w 11 ann 1 58 (SharedT.mk (T7 p w.params) 54 lf (Array.mk []) dr 287 os) (piecesOf [stm p 7] (env p) (cE p) ⟨40, 0, 46, 46⟩ B0))
theorem segA7x0 : ∀ (w : World) (os : OsState), goT w 58 (SharedT.mk (T7 PySem.Challenge.pw_mq0100_01 w.params) 54 lf (Array.mk []) dr 287 os) (piecesOf [stm PySem.Challenge.pw_mq0100_01 7] (env PySem.Challenge.pw_mq0100_01) (cE PySem.Challenge.pw_mq0100_01) ⟨40, 0, 46, 46⟩ B0) = some ((SharedT.mk (TL7x0 PySem.Challenge.pw_mq0100_01 w.params (hb7x0x0x0 (not (w.params.followText "set-order"))) hb7x0x0x1) 57 lf (Array.mk []) dr 290 os), ⟨denote treeTable cd7x0, cd7x0, ⟨47, 9, 47, 33⟩, stk7x0 @segGoT @denote treeTable PySem.Challenge.pw_mq0100_01 w os⟩) := by
  refine byRow2 "special-get-raises" ?_ ?_ <;> (intro w os; unfold goT; rewrite [PySem.W.Fast.te10295753902157049106, PySem.W.Fast.te11892475500146522536, PySem.W.Fast.te14364793385576792824, PySem.W.Fast.te7261500446525621778]; kernel_rfl)
theorem okA7x0 : ∀ (w : World) (os : OsState), okStk (stk7x0 @segGoT @denote treeTable PySem.Challenge.pw_mq0100_01 w os) = true := by
  refine byRow2 "special-get-raises" ?_ ?_ <;> (intro w os; rewrite [PySem.W.Fast.te10295753902157049106, PySem.W.Fast.te11892475500146522536, PySem.W.Fast.te14364793385576792824, PySem.W.Fast.te7261500446525621778]; kernel_rfl)
theorem it7x0x0 (b : Bool) : Turn TL7x0 57 cd7x0 ⟨47, 9, 47, 33⟩ 23 (hb7x0x0x0 b) hb7x0x0x1 290 (hb7x0x1x0 b) hb7x0x1x1 292 := by cases b <;> exact turn_row (by intros; kernel_rfl) (by intros; kernel_rfl)
theorem it7x0x1 (b : Bool) : Turn TL7x0 57 cd7x0 ⟨47, 9, 47, 33⟩ 23 (hb7x0x1x0 b) hb7x0x1x1 292 (hb7x0x2x0 b) hb7x0x2x1 294 := by cases b <;> exact turn_row (by intros; kernel_rfl) (by intros; kernel_rfl)
theorem it7x0x2 (b : Bool) : Turn TL7x0 57 cd7x0 ⟨47, 9, 47, 33⟩ 23 (hb7x0x2x0 b) hb7x0x2x1 294 (hb7x0x3x0 b) hb7x0x3x1 296 := by cases b <;> exact turn_row (by intros; kernel_rfl) (by intros; kernel_rfl)
theorem it7x0x3 (b : Bool) : Turn TL7x0 57 cd7x0 ⟨47, 9, 47, 33⟩ 23 (hb7x0x3x0 b) hb7x0x3x1 296 (hb7x0x4x0 b) hb7x0x4x1 298 := by cases b <;> exact turn_row (by intros; kernel_rfl) (by intros; kernel_rfl)
theorem it7x0x4 (b : Bool) : Turn TL7x0 57 cd7x0 ⟨47, 9, 47, 33⟩ 25 (hb7x0x4x0 b) hb7x0x4x1 298 (hb7x0x5x0 b) hb7x0x5x1 300 := by cases b <;> exact turn_row (by intros; kernel_rfl) (by intros; kernel_rfl)
theorem loop7x0 (b : Bool) : Turn TL7x0 57 cd7x0 ⟨47, 9, 47, 33⟩ 117 (hb7x0x0x0 b) hb7x0x0x1 290 (hb7x0x5x0 b) hb7x0x5x1 300 := (it7x0x0 b).trans ((it7x0x1 b).trans ((it7x0x2 b).trans ((it7x0x3 b).trans (it7x0x4 b))))
noncomputable def ob3v49 (p : Program) (P : Params) : Obj := ⟨(.type "dict"), none, (.dict (Array.mk [(e0 P), (e1 P), (e2 P), (e3 P), (e4 P), (e5 P), (e6 P), (e7 P), (e8 P), (e9 P), (e10 P), (e11 P), (e12 P), (e13 P), (e14 P)]) 15), (Array.mk [])⟩
noncomputable def ob55v50 (p : Program) (P : Params) : Obj := (setO [(65529, 290), (65530, 292), (65531, 294), (65532, 296), (65533, 298)] 6 31 [25, 26, 27, 28, 29] 1 (not (P.followText "set-order")))
noncomputable def ob56v51 (p : Program) (P : Params) : Obj := ⟨(.type "range_iterator"), none, (.fields (Array.mk [(.int 65534 0), (.int 0 0), (.int 1 0)])), (Array.mk [])⟩
noncomputable def ob57v52 (p : Program) (P : Params) : Obj := ⟨(.type "tuple"), none, (.seq (Array.mk []) 0), (Array.mk [])⟩
noncomputable def ob58v53 (p : Program) (P : Params) : Obj := ⟨(.type "StopIteration"), none, (.fields (Array.mk [(.ref 57), .none, .none, .none, (.bool false), .none])), (Array.mk [])⟩
noncomputable def T8 (p : Program) (P : Params) : BT := (.node (boot_o_0 P) (.node (boot_o_1 P) (.node (ob3v49 p P) (.node (boot_o_7 P) (.node (ob15v6 p P) (.node (ob31v23 p P) .nil .nil) (.node (ob47v41 p P) .nil .nil)) (.node (ob23v14 p P) (.node (ob39v33 p P) .nil .nil) (.node (ob55v50 p P) .nil .nil))) (.node (ob11v0 p P) (.node (ob19v10 p P) (.node (ob35v29 p P) .nil .nil) (.node (ob51v45 p P) .nil .nil)) (.node (ob27v18 p P) (.node (ob43v37 p P) .nil .nil) .nil))) (.node (boot_o_5 P) (.node (boot_o_9 P) (.node (ob17v8 p P) (.node (ob33v27 p P) .nil .nil) (.node (ob49v43 p P) .nil .nil)) (.node (ob25v16 p P) (.node (ob41v35 p P) .nil .nil) (.node (ob57v52 p P) .nil .nil))) (.node (ob13v2 p P) (.node (ob21v12 p P) (.node (ob37v31 p P) .nil .nil) (.node (ob53v47 p P) .nil .nil)) (.node (ob29v21 p P) (.node (ob45v39 p P) .nil .nil) .nil)))) (.node (boot_o_2 P) (.node (boot_o_4 P) (.node (boot_o_8 P) (.node (ob16v7 p P) (.node (ob32v24 p P) .nil .nil) (.node (ob48v42 p P) .nil .nil)) (.node (ob24v15 p P) (.node (ob40v34 p P) .nil .nil) (.node (ob56v51 p P) .nil .nil))) (.node (ob12v26 p P) (.node (ob20v11 p P) (.node (ob36v30 p P) .nil .nil) (.node (ob52v46 p P) .nil .nil)) (.node (ob28v19 p P) (.node (ob44v38 p P) .nil .nil) .nil))) (.node (boot_o_6 P) (.node (boot_o_10 P) (.node (ob18v9 p P) (.node (ob34v28 p P) .nil .nil) (.node (ob50v44 p P) .nil .nil)) (.node (ob26v17 p P) (.node (ob42v36 p P) .nil .nil) (.node (ob58v53 p P) .nil .nil))) (.node (ob14v3 p P) (.node (ob22v13 p P) (.node (ob38v32 p P) .nil .nil) (.node (ob54v48 p P) .nil .nil)) (.node (ob30v22 p P) (.node (ob46v40 p P) .nil .nil) .nil)))))
theorem segE7 : ∀ (w : World) (os : OsState), runT w 25 (SharedT.mk (TL7x0 PySem.Challenge.pw_mq0100_01 w.params (hb7x0x5x0 (not (w.params.followText "set-order"))) hb7x0x5x1) 57 lf (Array.mk []) dr 300 os) ⟨denote treeTable cd7x0, cd7x0, ⟨47, 9, 47, 33⟩, stk7x0 @segGoT @denote treeTable PySem.Challenge.pw_mq0100_01 w os⟩ = some (.next, (SharedT.mk (T8 PySem.Challenge.pw_mq0100_01 w.params) 59 lf (Array.mk []) dr 301 os), cE PySem.Challenge.pw_mq0100_01, ⟨47, 0, 47, 6⟩) := by
  refine byRow2 "special-get-raises" ?_ ?_ <;> (intro w os; unfold runT; rewrite [PySem.W.Fast.te10110043849684766642, PySem.W.Fast.te11892475500146522536, PySem.W.Fast.te10295753902157049106, PySem.W.Fast.te14364793385576792824, PySem.W.Fast.te7261500446525621778]; kernel_rfl)
theorem seg7 : ∀ (w : World) (os : OsState), segRun treeTable PySem.Challenge.pw_mq0100_01 w 11 ann 1 (58 + (117 + 25)) (SharedT.abs (SharedT.mk (T7 PySem.Challenge.pw_mq0100_01 w.params) 54 lf (Array.mk []) dr 287 os)) (piecesOf [stm PySem.Challenge.pw_mq0100_01 7] (env PySem.Challenge.pw_mq0100_01) (cE PySem.Challenge.pw_mq0100_01) ⟨40, 0, 46, 46⟩ B0) = some (.next, SharedT.abs (SharedT.mk (T8 PySem.Challenge.pw_mq0100_01 w.params) 59 lf (Array.mk []) dr 301 os), cE PySem.Challenge.pw_mq0100_01, ⟨47, 0, 47, 6⟩) := fun w os => join (segA7x0 w os) (okA7x0 w os) (loop7x0 (not (w.params.followText "set-order"))) (segRun_of (segE7 w os))
noncomputable def ob3v54 (p : Program) (P : Params) : Obj := ⟨(.type "dict"), none, (.dict (Array.mk [(e0 P), (e1 P), (e2 P), (e3 P), (e4 P), (e5 P), (e6 P), (e7 P), (e8 P), (e9 P), (e10 P), (e11 P), (e12 P), (e13 P), (e14 P), (e15 P)]) 16), (Array.mk [])⟩
noncomputable def ob12v55 (p : Program) (P : Params) : Obj := ⟨.none, none, (.fields (Array.mk [(.int 2 0), (.int 0 0), (.ref 20), (.int 36 0), (.int 0 0), (.ref 38), (.int 38 0), (.int 0 0), (.ref 45), (.int 40 0), (.int 0 0), (.ref 52), (.int 48 0), (.int 0 0), (.ref 64)])), (Array.mk [])⟩
noncomputable def ob59v56 (p : Program) (P : Params) : Obj := ⟨(.type "tuple"), none, (.seq (Array.mk []) 0), (Array.mk [])⟩
noncomputable def ob60v57 (p : Program) (P : Params) : Obj := ⟨.none, none, (.fields (Array.mk [])), (Array.mk [])⟩
noncomputable def ob61v58 (p : Program) (P : Params) : Obj := ⟨(.type "tuple"), none, (.seq (Array.mk [(.str s27 304)]) 0), (Array.mk [])⟩
noncomputable def ob62v59 (p : Program) (P : Params) : Obj := ⟨(.type "tuple"), none, (.seq (Array.mk []) 0), (Array.mk [])⟩
noncomputable def ob63v60 (p : Program) (P : Params) : Obj := ⟨.none, none, (.func { name := s30, qualname := s30, params := fnA p 8, body := .stmts (fnB p 8), scope := fnS p 8, globals := 0, closure := [], defaults := .none, kwdefaults := .none, doc := .none, pyModule := .none, annotations := none, code := .none, closureTuple := .none, builtins := 0 : FuncData }), (Array.mk [])⟩
noncomputable def ob64v61 (p : Program) (P : Params) : Obj := ⟨(.type "code"), none, (.fields (Array.mk [(.str s30 301), (.str s30 302), (.str s1 303), (.int 48 0), (.int 1 0), (.int 0 0), (.int 0 0), (.int 3 0), (.ref 59), (.bool true), (.int 181 0), (.ref 60), .none, (.ref 61), (.ref 62), (.ref 63), (.int 305 0), (.int 48 0), (.str s1 306)])), (Array.mk [])⟩
noncomputable def ob65v62 (p : Program) (P : Params) : Obj := ⟨(.type "function"), none, (.func { name := s30, qualname := s30, params := fnA p 8, body := .stmts (fnB p 8), scope := fnS p 8, globals := 3, closure := [], defaults := .none, kwdefaults := .none, doc := .none, pyModule := (.str s4 203), annotations := none, code := (.ref 64), closureTuple := .none, builtins := 0 : FuncData }), (Array.mk [])⟩
noncomputable def T9 (p : Program) (P : Params) : BT := (.node (boot_o_0 P) (.node (boot_o_1 P) (.node (ob3v54 p P) (.node (boot_o_7 P) (.node (ob15v6 p P) (.node (ob31v23 p P) (.node (ob63v60 p P) .nil .nil) .nil) (.node (ob47v41 p P) .nil .nil)) (.node (ob23v14 p P) (.node (ob39v33 p P) .nil .nil) (.node (ob55v50 p P) .nil .nil))) (.node (ob11v0 p P) (.node (ob19v10 p P) (.node (ob35v29 p P) .nil .nil) (.node (ob51v45 p P) .nil .nil)) (.node (ob27v18 p P) (.node (ob43v37 p P) .nil .nil) (.node (ob59v56 p P) .nil .nil)))) (.node (boot_o_5 P) (.node (boot_o_9 P) (.node (ob17v8 p P) (.node (ob33v27 p P) (.node (ob65v62 p P) .nil .nil) .nil) (.node (ob49v43 p P) .nil .nil)) (.node (ob25v16 p P) (.node (ob41v35 p P) .nil .nil) (.node (ob57v52 p P) .nil .nil))) (.node (ob13v2 p P) (.node (ob21v12 p P) (.node (ob37v31 p P) .nil .nil) (.node (ob53v47 p P) .nil .nil)) (.node (ob29v21 p P) (.node (ob45v39 p P) .nil .nil) (.node (ob61v58 p P) .nil .nil))))) (.node (boot_o_2 P) (.node (boot_o_4 P) (.node (boot_o_8 P) (.node (ob16v7 p P) (.node (ob32v24 p P) (.node (ob64v61 p P) .nil .nil) .nil) (.node (ob48v42 p P) .nil .nil)) (.node (ob24v15 p P) (.node (ob40v34 p P) .nil .nil) (.node (ob56v51 p P) .nil .nil))) (.node (ob12v55 p P) (.node (ob20v11 p P) (.node (ob36v30 p P) .nil .nil) (.node (ob52v46 p P) .nil .nil)) (.node (ob28v19 p P) (.node (ob44v38 p P) .nil .nil) (.node (ob60v57 p P) .nil .nil)))) (.node (boot_o_6 P) (.node (boot_o_10 P) (.node (ob18v9 p P) (.node (ob34v28 p P) .nil .nil) (.node (ob50v44 p P) .nil .nil)) (.node (ob26v17 p P) (.node (ob42v36 p P) .nil .nil) (.node (ob58v53 p P) .nil .nil))) (.node (ob14v3 p P) (.node (ob22v13 p P) (.node (ob38v32 p P) .nil .nil) (.node (ob54v48 p P) .nil .nil)) (.node (ob30v22 p P) (.node (ob46v40 p P) .nil .nil) (.node (ob62v59 p P) .nil .nil))))))
theorem seg8 : ∀ (w : World) (os : OsState), runT w 30 (SharedT.mk (T8 PySem.Challenge.pw_mq0100_01 w.params) 59 lf (Array.mk []) dr 301 os) (piecesOf [stm PySem.Challenge.pw_mq0100_01 8] (env PySem.Challenge.pw_mq0100_01) (cE PySem.Challenge.pw_mq0100_01) ⟨47, 0, 47, 6⟩ B0) = some (.next, (SharedT.mk (T9 PySem.Challenge.pw_mq0100_01 w.params) 66 lf (Array.mk []) dr 308 os), cE PySem.Challenge.pw_mq0100_01, ⟨48, 0, 49, 30⟩) := by
  intro w os; unfold runT; rewrite [PySem.W.Fast.te10110043849684766642, PySem.W.Fast.te14364793385576792824, PySem.W.Fast.te7261500446525621778]; kernel_rfl
noncomputable def ob66v63 (p : Program) (P : Params) : Obj := ⟨(.type "range"), none, (.fields (Array.mk [(.int 12272 308), (.int 12284 309), (.int 1 310)])), (Array.mk [])⟩
noncomputable def TL9x0 (p : Program) (P : Params) (h0 : Obj) (h1 : Obj) : BT := (.node (boot_o_0 P) (.node (boot_o_1 P) (.node (ob3v54 p P) (.node (boot_o_7 P) (.node (ob15v6 p P) (.node (ob31v23 p P) (.node (ob63v60 p P) .nil .nil) .nil) (.node (ob47v41 p P) .nil .nil)) (.node (ob23v14 p P) (.node (ob39v33 p P) .nil .nil) (.node (ob55v50 p P) .nil .nil))) (.node (ob11v0 p P) (.node (ob19v10 p P) (.node (ob35v29 p P) (.node h0 .nil .nil) .nil) (.node (ob51v45 p P) .nil .nil)) (.node (ob27v18 p P) (.node (ob43v37 p P) .nil .nil) (.node (ob59v56 p P) .nil .nil)))) (.node (boot_o_5 P) (.node (boot_o_9 P) (.node (ob17v8 p P) (.node (ob33v27 p P) (.node (ob65v62 p P) .nil .nil) .nil) (.node (ob49v43 p P) .nil .nil)) (.node (ob25v16 p P) (.node (ob41v35 p P) .nil .nil) (.node (ob57v52 p P) .nil .nil))) (.node (ob13v2 p P) (.node (ob21v12 p P) (.node (ob37v31 p P) .nil .nil) (.node (ob53v47 p P) .nil .nil)) (.node (ob29v21 p P) (.node (ob45v39 p P) .nil .nil) (.node (ob61v58 p P) .nil .nil))))) (.node (boot_o_2 P) (.node (boot_o_4 P) (.node (boot_o_8 P) (.node (ob16v7 p P) (.node (ob32v24 p P) (.node (ob64v61 p P) .nil .nil) .nil) (.node (ob48v42 p P) .nil .nil)) (.node (ob24v15 p P) (.node (ob40v34 p P) .nil .nil) (.node (ob56v51 p P) .nil .nil))) (.node (ob12v55 p P) (.node (ob20v11 p P) (.node (ob36v30 p P) (.node h1 .nil .nil) .nil) (.node (ob52v46 p P) .nil .nil)) (.node (ob28v19 p P) (.node (ob44v38 p P) .nil .nil) (.node (ob60v57 p P) .nil .nil)))) (.node (boot_o_6 P) (.node (boot_o_10 P) (.node (ob18v9 p P) (.node (ob34v28 p P) (.node (ob66v63 p P) .nil .nil) .nil) (.node (ob50v44 p P) .nil .nil)) (.node (ob26v17 p P) (.node (ob42v36 p P) .nil .nil) (.node (ob58v53 p P) .nil .nil))) (.node (ob14v3 p P) (.node (ob22v13 p P) (.node (ob38v32 p P) .nil .nil) (.node (ob54v48 p P) .nil .nil)) (.node (ob30v22 p P) (.node (ob46v40 p P) .nil .nil) (.node (ob62v59 p P) .nil .nil))))))
noncomputable def cd9x0 : Code := (Code.builtin "set.update.loop" ⟨[(.ref 67), (.ref 68)], []⟩)
noncomputable def hb9x0x0x0 (b : Bool) : Obj := (setO [] 0 7 [] 0 b)
noncomputable def hb9x0x0x1 : Obj := ⟨(.type "range_iterator"), none, (.fields (Array.mk [(.int 12272 0), (.int 12 0), (.int 1 0)])), (Array.mk [])⟩
noncomputable def hb9x0x1x0 (b : Bool) : Obj := (setO [(12272, 311)] 1 7 [0] 0 b)
noncomputable def hb9x0x1x1 : Obj := ⟨(.type "range_iterator"), none, (.fields (Array.mk [(.int 12273 0), (.int 11 0), (.int 1 0)])), (Array.mk [])⟩
noncomputable def hb9x0x2x0 (b : Bool) : Obj := (setO [(12272, 311), (12273, 313)] 2 7 [0, 1] 0 b)
noncomputable def hb9x0x2x1 : Obj := ⟨(.type "range_iterator"), none, (.fields (Array.mk [(.int 12274 0), (.int 10 0), (.int 1 0)])), (Array.mk [])⟩
noncomputable def hb9x0x3x0 (b : Bool) : Obj := (setO [(12272, 311), (12273, 313), (12274, 315)] 3 7 [0, 1, 2] 0 b)
noncomputable def hb9x0x3x1 : Obj := ⟨(.type "range_iterator"), none, (.fields (Array.mk [(.int 12275 0), (.int 9 0), (.int 1 0)])), (Array.mk [])⟩
noncomputable def hb9x0x4x0 (b : Bool) : Obj := (setO [(12272, 311), (12273, 313), (12274, 315), (12275, 317)] 4 7 [0, 1, 2, 3] 0 b)
noncomputable def hb9x0x4x1 : Obj := ⟨(.type "range_iterator"), none, (.fields (Array.mk [(.int 12276 0), (.int 8 0), (.int 1 0)])), (Array.mk [])⟩
noncomputable def hb9x0x5x0 (b : Bool) : Obj := (setO [(12272, 311), (12273, 313), (12274, 315), (12275, 317), (12276, 319)] 6 31 [16, 17, 18, 19, 20] 1 b)
noncomputable def hb9x0x5x1 : Obj := ⟨(.type "range_iterator"), none, (.fields (Array.mk [(.int 12277 0), (.int 7 0), (.int 1 0)])), (Array.mk [])⟩
noncomputable def hb9x0x6x0 (b : Bool) : Obj := (setO [(12272, 311), (12273, 313), (12274, 315), (12275, 317), (12276, 319), (12277, 321)] 7 31 [16, 17, 18, 19, 20, 21] 1 b)
noncomputable def hb9x0x6x1 : Obj := ⟨(.type "range_iterator"), none, (.fields (Array.mk [(.int 12278 0), (.int 6 0), (.int 1 0)])), (Array.mk [])⟩
noncomputable def hb9x0x7x0 (b : Bool) : Obj := (setO [(12272, 311), (12273, 313), (12274, 315), (12275, 317), (12276, 319), (12277, 321), (12278, 323)] 8 31 [16, 17, 18, 19, 20, 21, 22] 1 b)
noncomputable def hb9x0x7x1 : Obj := ⟨(.type "range_iterator"), none, (.fields (Array.mk [(.int 12279 0), (.int 5 0), (.int 1 0)])), (Array.mk [])⟩
noncomputable def hb9x0x8x0 (b : Bool) : Obj := (setO [(12272, 311), (12273, 313), (12274, 315), (12275, 317), (12276, 319), (12277, 321), (12278, 323), (12279, 325)] 9 31 [16, 17, 18, 19, 20, 21, 22, 23] 1 b)
noncomputable def hb9x0x8x1 : Obj := ⟨(.type "range_iterator"), none, (.fields (Array.mk [(.int 12280 0), (.int 4 0), (.int 1 0)])), (Array.mk [])⟩
noncomputable def hb9x0x9x0 (b : Bool) : Obj := (setO [(12272, 311), (12273, 313), (12274, 315), (12275, 317), (12276, 319), (12277, 321), (12278, 323), (12279, 325), (12280, 327)] 10 31 [16, 17, 18, 19, 20, 21, 22, 23, 24] 1 b)
noncomputable def hb9x0x9x1 : Obj := ⟨(.type "range_iterator"), none, (.fields (Array.mk [(.int 12281 0), (.int 3 0), (.int 1 0)])), (Array.mk [])⟩
noncomputable def hb9x0x10x0 (b : Bool) : Obj := (setO [(12272, 311), (12273, 313), (12274, 315), (12275, 317), (12276, 319), (12277, 321), (12278, 323), (12279, 325), (12280, 327), (12281, 329)] 11 31 [16, 17, 18, 19, 20, 21, 22, 23, 24, 25] 1 b)
noncomputable def hb9x0x10x1 : Obj := ⟨(.type "range_iterator"), none, (.fields (Array.mk [(.int 12282 0), (.int 2 0), (.int 1 0)])), (Array.mk [])⟩
noncomputable def hb9x0x11x0 (b : Bool) : Obj := (setO [(12272, 311), (12273, 313), (12274, 315), (12275, 317), (12276, 319), (12277, 321), (12278, 323), (12279, 325), (12280, 327), (12281, 329), (12282, 331)] 12 31 [16, 17, 18, 19, 20, 21, 22, 23, 24, 25, 26] 1 b)
noncomputable def hb9x0x11x1 : Obj := ⟨(.type "range_iterator"), none, (.fields (Array.mk [(.int 12283 0), (.int 1 0), (.int 1 0)])), (Array.mk [])⟩
noncomputable def hb9x0x12x0 (b : Bool) : Obj := (setO [(12272, 311), (12273, 313), (12274, 315), (12275, 317), (12276, 319), (12277, 321), (12278, 323), (12279, 325), (12280, 327), (12281, 329), (12282, 331), (12283, 333)] 13 31 [16, 17, 18, 19, 20, 21, 22, 23, 24, 25, 26, 27] 1 b)
noncomputable def hb9x0x12x1 : Obj := ⟨(.type "range_iterator"), none, (.fields (Array.mk [(.int 12284 0), (.int 0 0), (.int 1 0)])), (Array.mk [])⟩
noncomputable def stk9x0 (sg : SG) (dn : DN) (tb : String → Option Builtin) (p : Program) (w : World) (os : OsState) : List Frame := stkOf (sg tb p w 11 ann 1 58 (SharedT.mk (T9 p w.params) 66 lf (Array.mk []) dr 308 os) (piecesOf [stm p 9] (env p) (cE p) ⟨48, 0, 49, 30⟩ B0))
theorem segA9x0 : ∀ (w : World) (os : OsState), goT w 58 (SharedT.mk (T9 PySem.Challenge.pw_mq0100_01 w.params) 66 lf (Array.mk []) dr 308 os) (piecesOf [stm PySem.Challenge.pw_mq0100_01 9] (env PySem.Challenge.pw_mq0100_01) (cE PySem.Challenge.pw_mq0100_01) ⟨48, 0, 49, 30⟩ B0) = some ((SharedT.mk (TL9x0 PySem.Challenge.pw_mq0100_01 w.params (hb9x0x0x0 (not (w.params.followText "set-order"))) hb9x0x0x1) 69 lf (Array.mk []) dr 311 os), ⟨denote treeTable cd9x0, cd9x0, ⟨50, 9, 50, 33⟩, stk9x0 @segGoT @denote treeTable PySem.Challenge.pw_mq0100_01 w os⟩) := by
  refine byRow2 "special-get-raises" ?_ ?_ <;> (intro w os; unfold goT; rewrite [PySem.W.Fast.te10295753902157049106, PySem.W.Fast.te11892475500146522536, PySem.W.Fast.te14364793385576792824, PySem.W.Fast.te7261500446525621778]; kernel_rfl)
theorem okA9x0 : ∀ (w : World) (os : OsState), okStk (stk9x0 @segGoT @denote treeTable PySem.Challenge.pw_mq0100_01 w os) = true := by
  refine byRow2 "special-get-raises" ?_ ?_ <;> (intro w os; rewrite [PySem.W.Fast.te10295753902157049106, PySem.W.Fast.te11892475500146522536, PySem.W.Fast.te14364793385576792824, PySem.W.Fast.te7261500446525621778]; kernel_rfl)
theorem it9x0x0 (b : Bool) : Turn TL9x0 69 cd9x0 ⟨50, 9, 50, 33⟩ 23 (hb9x0x0x0 b) hb9x0x0x1 311 (hb9x0x1x0 b) hb9x0x1x1 313 := by cases b <;> exact turn_row (by intros; kernel_rfl) (by intros; kernel_rfl)
theorem it9x0x1 (b : Bool) : Turn TL9x0 69 cd9x0 ⟨50, 9, 50, 33⟩ 23 (hb9x0x1x0 b) hb9x0x1x1 313 (hb9x0x2x0 b) hb9x0x2x1 315 := by cases b <;> exact turn_row (by intros; kernel_rfl) (by intros; kernel_rfl)
theorem it9x0x2 (b : Bool) : Turn TL9x0 69 cd9x0 ⟨50, 9, 50, 33⟩ 23 (hb9x0x2x0 b) hb9x0x2x1 315 (hb9x0x3x0 b) hb9x0x3x1 317 := by cases b <;> exact turn_row (by intros; kernel_rfl) (by intros; kernel_rfl)
theorem it9x0x3 (b : Bool) : Turn TL9x0 69 cd9x0 ⟨50, 9, 50, 33⟩ 23 (hb9x0x3x0 b) hb9x0x3x1 317 (hb9x0x4x0 b) hb9x0x4x1 319 := by cases b <;> exact turn_row (by intros; kernel_rfl) (by intros; kernel_rfl)
theorem it9x0x4 (b : Bool) : Turn TL9x0 69 cd9x0 ⟨50, 9, 50, 33⟩ 25 (hb9x0x4x0 b) hb9x0x4x1 319 (hb9x0x5x0 b) hb9x0x5x1 321 := by cases b <;> exact turn_row (by intros; kernel_rfl) (by intros; kernel_rfl)
theorem it9x0x5 (b : Bool) : Turn TL9x0 69 cd9x0 ⟨50, 9, 50, 33⟩ 23 (hb9x0x5x0 b) hb9x0x5x1 321 (hb9x0x6x0 b) hb9x0x6x1 323 := by cases b <;> exact turn_row (by intros; kernel_rfl) (by intros; kernel_rfl)
theorem it9x0x6 (b : Bool) : Turn TL9x0 69 cd9x0 ⟨50, 9, 50, 33⟩ 23 (hb9x0x6x0 b) hb9x0x6x1 323 (hb9x0x7x0 b) hb9x0x7x1 325 := by cases b <;> exact turn_row (by intros; kernel_rfl) (by intros; kernel_rfl)
theorem it9x0x7 (b : Bool) : Turn TL9x0 69 cd9x0 ⟨50, 9, 50, 33⟩ 23 (hb9x0x7x0 b) hb9x0x7x1 325 (hb9x0x8x0 b) hb9x0x8x1 327 := by cases b <;> exact turn_row (by intros; kernel_rfl) (by intros; kernel_rfl)
theorem it9x0x8 (b : Bool) : Turn TL9x0 69 cd9x0 ⟨50, 9, 50, 33⟩ 23 (hb9x0x8x0 b) hb9x0x8x1 327 (hb9x0x9x0 b) hb9x0x9x1 329 := by cases b <;> exact turn_row (by intros; kernel_rfl) (by intros; kernel_rfl)
theorem it9x0x9 (b : Bool) : Turn TL9x0 69 cd9x0 ⟨50, 9, 50, 33⟩ 23 (hb9x0x9x0 b) hb9x0x9x1 329 (hb9x0x10x0 b) hb9x0x10x1 331 := by cases b <;> exact turn_row (by intros; kernel_rfl) (by intros; kernel_rfl)
theorem it9x0x10 (b : Bool) : Turn TL9x0 69 cd9x0 ⟨50, 9, 50, 33⟩ 23 (hb9x0x10x0 b) hb9x0x10x1 331 (hb9x0x11x0 b) hb9x0x11x1 333 := by cases b <;> exact turn_row (by intros; kernel_rfl) (by intros; kernel_rfl)
theorem it9x0x11 (b : Bool) : Turn TL9x0 69 cd9x0 ⟨50, 9, 50, 33⟩ 23 (hb9x0x11x0 b) hb9x0x11x1 333 (hb9x0x12x0 b) hb9x0x12x1 335 := by cases b <;> exact turn_row (by intros; kernel_rfl) (by intros; kernel_rfl)
theorem loop9x0 (b : Bool) : Turn TL9x0 69 cd9x0 ⟨50, 9, 50, 33⟩ 278 (hb9x0x0x0 b) hb9x0x0x1 311 (hb9x0x12x0 b) hb9x0x12x1 335 := (it9x0x0 b).trans ((it9x0x1 b).trans ((it9x0x2 b).trans ((it9x0x3 b).trans ((it9x0x4 b).trans ((it9x0x5 b).trans ((it9x0x6 b).trans ((it9x0x7 b).trans ((it9x0x8 b).trans ((it9x0x9 b).trans ((it9x0x10 b).trans (it9x0x11 b)))))))))))
noncomputable def ob3v64 (p : Program) (P : Params) : Obj := ⟨(.type "dict"), none, (.dict (Array.mk [(e0 P), (e1 P), (e2 P), (e3 P), (e4 P), (e5 P), (e6 P), (e7 P), (e8 P), (e9 P), (e10 P), (e11 P), (e12 P), (e13 P), (e14 P), (e15 P), (e16 P)]) 17), (Array.mk [])⟩
noncomputable def ob67v65 (p : Program) (P : Params) : Obj := (setO [(12272, 311), (12273, 313), (12274, 315), (12275, 317), (12276, 319), (12277, 321), (12278, 323), (12279, 325), (12280, 327), (12281, 329), (12282, 331), (12283, 333)] 13 31 [16, 17, 18, 19, 20, 21, 22, 23, 24, 25, 26, 27] 1 (not (P.followText "set-order")))
noncomputable def ob68v66 (p : Program) (P : Params) : Obj := ⟨(.type "range_iterator"), none, (.fields (Array.mk [(.int 12284 0), (.int 0 0), (.int 1 0)])), (Array.mk [])⟩
noncomputable def ob69v67 (p : Program) (P : Params) : Obj := ⟨(.type "tuple"), none, (.seq (Array.mk []) 0), (Array.mk [])⟩
noncomputable def ob70v68 (p : Program) (P : Params) : Obj := ⟨(.type "StopIteration"), none, (.fields (Array.mk [(.ref 69), .none, .none, .none, (.bool false), .none])), (Array.mk [])⟩
noncomputable def T10 (p : Program) (P : Params) : BT := (.node (boot_o_0 P) (.node (boot_o_1 P) (.node (ob3v64 p P) (.node (boot_o_7 P) (.node (ob15v6 p P) (.node (ob31v23 p P) (.node (ob63v60 p P) .nil .nil) .nil) (.node (ob47v41 p P) .nil .nil)) (.node (ob23v14 p P) (.node (ob39v33 p P) .nil .nil) (.node (ob55v50 p P) .nil .nil))) (.node (ob11v0 p P) (.node (ob19v10 p P) (.node (ob35v29 p P) (.node (ob67v65 p P) .nil .nil) .nil) (.node (ob51v45 p P) .nil .nil)) (.node (ob27v18 p P) (.node (ob43v37 p P) .nil .nil) (.node (ob59v56 p P) .nil .nil)))) (.node (boot_o_5 P) (.node (boot_o_9 P) (.node (ob17v8 p P) (.node (ob33v27 p P) (.node (ob65v62 p P) .nil .nil) .nil) (.node (ob49v43 p P) .nil .nil)) (.node (ob25v16 p P) (.node (ob41v35 p P) .nil .nil) (.node (ob57v52 p P) .nil .nil))) (.node (ob13v2 p P) (.node (ob21v12 p P) (.node (ob37v31 p P) (.node (ob69v67 p P) .nil .nil) .nil) (.node (ob53v47 p P) .nil .nil)) (.node (ob29v21 p P) (.node (ob45v39 p P) .nil .nil) (.node (ob61v58 p P) .nil .nil))))) (.node (boot_o_2 P) (.node (boot_o_4 P) (.node (boot_o_8 P) (.node (ob16v7 p P) (.node (ob32v24 p P) (.node (ob64v61 p P) .nil .nil) .nil) (.node (ob48v42 p P) .nil .nil)) (.node (ob24v15 p P) (.node (ob40v34 p P) .nil .nil) (.node (ob56v51 p P) .nil .nil))) (.node (ob12v55 p P) (.node (ob20v11 p P) (.node (ob36v30 p P) (.node (ob68v66 p P) .nil .nil) .nil) (.node (ob52v46 p P) .nil .nil)) (.node (ob28v19 p P) (.node (ob44v38 p P) .nil .nil) (.node (ob60v57 p P) .nil .nil)))) (.node (boot_o_6 P) (.node (boot_o_10 P) (.node (ob18v9 p P) (.node (ob34v28 p P) (.node (ob66v63 p P) .nil .nil) .nil) (.node (ob50v44 p P) .nil .nil)) (.node (ob26v17 p P) (.node (ob42v36 p P) .nil .nil) (.node (ob58v53 p P) .nil .nil))) (.node (ob14v3 p P) (.node (ob22v13 p P) (.node (ob38v32 p P) (.node (ob70v68 p P) .nil .nil) .nil) (.node (ob54v48 p P) .nil .nil)) (.node (ob30v22 p P) (.node (ob46v40 p P) .nil .nil) (.node (ob62v59 p P) .nil .nil))))))
theorem segE9 : ∀ (w : World) (os : OsState), runT w 25 (SharedT.mk (TL9x0 PySem.Challenge.pw_mq0100_01 w.params (hb9x0x12x0 (not (w.params.followText "set-order"))) hb9x0x12x1) 69 lf (Array.mk []) dr 335 os) ⟨denote treeTable cd9x0, cd9x0, ⟨50, 9, 50, 33⟩, stk9x0 @segGoT @denote treeTable PySem.Challenge.pw_mq0100_01 w os⟩ = some (.next, (SharedT.mk (T10 PySem.Challenge.pw_mq0100_01 w.params) 71 lf (Array.mk []) dr 336 os), cE PySem.Challenge.pw_mq0100_01, ⟨50, 0, 50, 6⟩) := by
  refine byRow2 "special-get-raises" ?_ ?_ <;> (intro w os; unfold runT; rewrite [PySem.W.Fast.te10110043849684766642, PySem.W.Fast.te11892475500146522536, PySem.W.Fast.te10295753902157049106, PySem.W.Fast.te14364793385576792824, PySem.W.Fast.te7261500446525621778]; kernel_rfl)
theorem seg9 : ∀ (w : World) (os : OsState), segRun treeTable PySem.Challenge.pw_mq0100_01 w 11 ann 1 (58 + (278 + 25)) (SharedT.abs (SharedT.mk (T9 PySem.Challenge.pw_mq0100_01 w.params) 66 lf (Array.mk []) dr 308 os)) (piecesOf [stm PySem.Challenge.pw_mq0100_01 9] (env PySem.Challenge.pw_mq0100_01) (cE PySem.Challenge.pw_mq0100_01) ⟨48, 0, 49, 30⟩ B0) = some (.next, SharedT.abs (SharedT.mk (T10 PySem.Challenge.pw_mq0100_01 w.params) 71 lf (Array.mk []) dr 336 os), cE PySem.Challenge.pw_mq0100_01, ⟨50, 0, 50, 6⟩) := fun w os => join (segA9x0 w os) (okA9x0 w os) (loop9x0 (not (w.params.followText "set-order"))) (segRun_of (segE9 w os))
noncomputable def ob3v69 (p : Program) (P : Params) : Obj := ⟨(.type "dict"), none, (.dict (Array.mk [(e0 P), (e1 P), (e2 P), (e3 P), (e4 P), (e5 P), (e6 P), (e7 P), (e8 P), (e9 P), (e10 P), (e11 P), (e12 P), (e13 P), (e14 P), (e15 P), (e16 P), (e17 P)]) 18), (Array.mk [])⟩
noncomputable def ob12v70 (p : Program) (P : Params) : Obj := ⟨.none, none, (.fields (Array.mk [(.int 2 0), (.int 0 0), (.ref 20), (.int 36 0), (.int 0 0), (.ref 38), (.int 38 0), (.int 0 0), (.ref 45), (.int 40 0), (.int 0 0), (.ref 52), (.int 48 0), (.int 0 0), (.ref 64), (.int 51 0), (.int 0 0), (.ref 76)])), (Array.mk [])⟩
noncomputable def ob71v71 (p : Program) (P : Params) : Obj := ⟨(.type "tuple"), none, (.seq (Array.mk []) 0), (Array.mk [])⟩
noncomputable def ob72v72 (p : Program) (P : Params) : Obj := ⟨.none, none, (.fields (Array.mk [])), (Array.mk [])⟩
noncomputable def ob73v73 (p : Program) (P : Params) : Obj := ⟨(.type "tuple"), none, (.seq (Array.mk [(.str s27 339)]) 0), (Array.mk [])⟩
noncomputable def ob74v74 (p : Program) (P : Params) : Obj := ⟨(.type "tuple"), none, (.seq (Array.mk []) 0), (Array.mk [])⟩
noncomputable def ob75v75 (p : Program) (P : Params) : Obj := ⟨.none, none, (.func { name := s32, qualname := s32, params := fnA p 10, body := .stmts (fnB p 10), scope := fnS p 10, globals := 0, closure := [], defaults := .none, kwdefaults := .none, doc := .none, pyModule := .none, annotations := none, code := .none, closureTuple := .none, builtins := 0 : FuncData }), (Array.mk [])⟩
noncomputable def ob76v76 (p : Program) (P : Params) : Obj := ⟨(.type "code"), none, (.fields (Array.mk [(.str s32 336), (.str s32 337), (.str s1 338), (.int 51 0), (.int 1 0), (.int 0 0), (.int 0 0), (.int 3 0), (.ref 71), (.bool true), (.int 181 0), (.ref 72), .none, (.ref 73), (.ref 74), (.ref 75), (.int 340 0), (.int 51 0), (.str s1 341)])), (Array.mk [])⟩
noncomputable def ob77v77 (p : Program) (P : Params) : Obj := ⟨(.type "function"), none, (.func { name := s32, qualname := s32, params := fnA p 10, body := .stmts (fnB p 10), scope := fnS p 10, globals := 3, closure := [], defaults := .none, kwdefaults := .none, doc := .none, pyModule := (.str s4 203), annotations := none, code := (.ref 76), closureTuple := .none, builtins := 0 : FuncData }), (Array.mk [])⟩
noncomputable def T11 (p : Program) (P : Params) : BT := (.node (boot_o_0 P) (.node (boot_o_1 P) (.node (ob3v69 p P) (.node (boot_o_7 P) (.node (ob15v6 p P) (.node (ob31v23 p P) (.node (ob63v60 p P) .nil .nil) .nil) (.node (ob47v41 p P) .nil .nil)) (.node (ob23v14 p P) (.node (ob39v33 p P) (.node (ob71v71 p P) .nil .nil) .nil) (.node (ob55v50 p P) .nil .nil))) (.node (ob11v0 p P) (.node (ob19v10 p P) (.node (ob35v29 p P) (.node (ob67v65 p P) .nil .nil) .nil) (.node (ob51v45 p P) .nil .nil)) (.node (ob27v18 p P) (.node (ob43v37 p P) (.node (ob75v75 p P) .nil .nil) .nil) (.node (ob59v56 p P) .nil .nil)))) (.node (boot_o_5 P) (.node (boot_o_9 P) (.node (ob17v8 p P) (.node (ob33v27 p P) (.node (ob65v62 p P) .nil .nil) .nil) (.node (ob49v43 p P) .nil .nil)) (.node (ob25v16 p P) (.node (ob41v35 p P) (.node (ob73v73 p P) .nil .nil) .nil) (.node (ob57v52 p P) .nil .nil))) (.node (ob13v2 p P) (.node (ob21v12 p P) (.node (ob37v31 p P) (.node (ob69v67 p P) .nil .nil) .nil) (.node (ob53v47 p P) .nil .nil)) (.node (ob29v21 p P) (.node (ob45v39 p P) (.node (ob77v77 p P) .nil .nil) .nil) (.node (ob61v58 p P) .nil .nil))))) (.node (boot_o_2 P) (.node (boot_o_4 P) (.node (boot_o_8 P) (.node (ob16v7 p P) (.node (ob32v24 p P) (.node (ob64v61 p P) .nil .nil) .nil) (.node (ob48v42 p P) .nil .nil)) (.node (ob24v15 p P) (.node (ob40v34 p P) (.node (ob72v72 p P) .nil .nil) .nil) (.node (ob56v51 p P) .nil .nil))) (.node (ob12v70 p P) (.node (ob20v11 p P) (.node (ob36v30 p P) (.node (ob68v66 p P) .nil .nil) .nil) (.node (ob52v46 p P) .nil .nil)) (.node (ob28v19 p P) (.node (ob44v38 p P) (.node (ob76v76 p P) .nil .nil) .nil) (.node (ob60v57 p P) .nil .nil)))) (.node (boot_o_6 P) (.node (boot_o_10 P) (.node (ob18v9 p P) (.node (ob34v28 p P) (.node (ob66v63 p P) .nil .nil) .nil) (.node (ob50v44 p P) .nil .nil)) (.node (ob26v17 p P) (.node (ob42v36 p P) (.node (ob74v74 p P) .nil .nil) .nil) (.node (ob58v53 p P) .nil .nil))) (.node (ob14v3 p P) (.node (ob22v13 p P) (.node (ob38v32 p P) (.node (ob70v68 p P) .nil .nil) .nil) (.node (ob54v48 p P) .nil .nil)) (.node (ob30v22 p P) (.node (ob46v40 p P) .nil .nil) (.node (ob62v59 p P) .nil .nil))))))
theorem seg10 : ∀ (w : World) (os : OsState), runT w 30 (SharedT.mk (T10 PySem.Challenge.pw_mq0100_01 w.params) 71 lf (Array.mk []) dr 336 os) (piecesOf [stm PySem.Challenge.pw_mq0100_01 10] (env PySem.Challenge.pw_mq0100_01) (cE PySem.Challenge.pw_mq0100_01) ⟨50, 0, 50, 6⟩ B0) = some (.next, (SharedT.mk (T11 PySem.Challenge.pw_mq0100_01 w.params) 78 lf (Array.mk []) dr 343 os), cE PySem.Challenge.pw_mq0100_01, ⟨51, 0, 52, 30⟩) := by
  intro w os; unfold runT; rewrite [PySem.W.Fast.te10110043849684766642, PySem.W.Fast.te14364793385576792824, PySem.W.Fast.te7261500446525621778]; kernel_rfl
noncomputable def ob78v78 (p : Program) (P : Params) : Obj := ⟨(.type "list"), none, (.seq (Array.mk [(.int 832 343), (.int 833 344), (.int 8206 345), (.int 8207 346)]) 0), (Array.mk [])⟩
noncomputable def ob79v79 (p : Program) (P : Params) : Obj := ⟨(.type "range"), none, (.fields (Array.mk [(.int 8234 347), (.int 8239 348), (.int 1 349)])), (Array.mk [])⟩
noncomputable def TL11x0 (p : Program) (P : Params) (h0 : Obj) (h1 : Obj) : BT := (.node (boot_o_0 P) (.node (boot_o_1 P) (.node (ob3v69 p P) (.node (boot_o_7 P) (.node (ob15v6 p P) (.node (ob31v23 p P) (.node (ob63v60 p P) .nil .nil) .nil) (.node (ob47v41 p P) (.node (ob79v79 p P) .nil .nil) .nil)) (.node (ob23v14 p P) (.node (ob39v33 p P) (.node (ob71v71 p P) .nil .nil) .nil) (.node (ob55v50 p P) .nil .nil))) (.node (ob11v0 p P) (.node (ob19v10 p P) (.node (ob35v29 p P) (.node (ob67v65 p P) .nil .nil) .nil) (.node (ob51v45 p P) .nil .nil)) (.node (ob27v18 p P) (.node (ob43v37 p P) (.node (ob75v75 p P) .nil .nil) .nil) (.node (ob59v56 p P) .nil .nil)))) (.node (boot_o_5 P) (.node (boot_o_9 P) (.node (ob17v8 p P) (.node (ob33v27 p P) (.node (ob65v62 p P) .nil .nil) .nil) (.node (ob49v43 p P) (.node h1 .nil .nil) .nil)) (.node (ob25v16 p P) (.node (ob41v35 p P) (.node (ob73v73 p P) .nil .nil) .nil) (.node (ob57v52 p P) .nil .nil))) (.node (ob13v2 p P) (.node (ob21v12 p P) (.node (ob37v31 p P) (.node (ob69v67 p P) .nil .nil) .nil) (.node (ob53v47 p P) .nil .nil)) (.node (ob29v21 p P) (.node (ob45v39 p P) (.node (ob77v77 p P) .nil .nil) .nil) (.node (ob61v58 p P) .nil .nil))))) (.node (boot_o_2 P) (.node (boot_o_4 P) (.node (boot_o_8 P) (.node (ob16v7 p P) (.node (ob32v24 p P) (.node (ob64v61 p P) .nil .nil) .nil) (.node (ob48v42 p P) (.node h0 .nil .nil) .nil)) (.node (ob24v15 p P) (.node (ob40v34 p P) (.node (ob72v72 p P) .nil .nil) .nil) (.node (ob56v51 p P) .nil .nil))) (.node (ob12v70 p P) (.node (ob20v11 p P) (.node (ob36v30 p P) (.node (ob68v66 p P) .nil .nil) .nil) (.node (ob52v46 p P) .nil .nil)) (.node (ob28v19 p P) (.node (ob44v38 p P) (.node (ob76v76 p P) .nil .nil) .nil) (.node (ob60v57 p P) .nil .nil)))) (.node (boot_o_6 P) (.node (boot_o_10 P) (.node (ob18v9 p P) (.node (ob34v28 p P) (.node (ob66v63 p P) .nil .nil) .nil) (.node (ob50v44 p P) .nil .nil)) (.node (ob26v17 p P) (.node (ob42v36 p P) (.node (ob74v74 p P) .nil .nil) .nil) (.node (ob58v53 p P) .nil .nil))) (.node (ob14v3 p P) (.node (ob22v13 p P) (.node (ob38v32 p P) (.node (ob70v68 p P) .nil .nil) .nil) (.node (ob54v48 p P) .nil .nil)) (.node (ob30v22 p P) (.node (ob46v40 p P) (.node (ob78v78 p P) .nil .nil) .nil) (.node (ob62v59 p P) .nil .nil))))))
noncomputable def cd11x0 : Code := (Code.builtin "list.extend.loop" ⟨[(.ref 80), (.ref 81), .none], []⟩)
noncomputable def hb11x0x0x0 : Obj := ⟨(.type "list"), none, (.seq (Array.mk []) 2), (Array.mk [])⟩
noncomputable def hb11x0x0x1 : Obj := ⟨(.type "range_iterator"), none, (.fields (Array.mk [(.int 8234 0), (.int 5 0), (.int 1 0)])), (Array.mk [])⟩
noncomputable def hb11x0x1x0 : Obj := ⟨(.type "list"), none, (.seq (Array.mk [(.int 8234 352)]) 3), (Array.mk [])⟩
noncomputable def hb11x0x1x1 : Obj := ⟨(.type "range_iterator"), none, (.fields (Array.mk [(.int 8235 0), (.int 4 0), (.int 1 0)])), (Array.mk [])⟩
noncomputable def hb11x0x2x0 : Obj := ⟨(.type "list"), none, (.seq (Array.mk [(.int 8234 352), (.int 8235 353)]) 4), (Array.mk [])⟩
noncomputable def hb11x0x2x1 : Obj := ⟨(.type "range_iterator"), none, (.fields (Array.mk [(.int 8236 0), (.int 3 0), (.int 1 0)])), (Array.mk [])⟩
noncomputable def hb11x0x3x0 : Obj := ⟨(.type "list"), none, .seq (Array.mk (up 3 8234 352)) 5, (Array.mk [])⟩
noncomputable def hb11x0x3x1 : Obj := ⟨(.type "range_iterator"), none, (.fields (Array.mk [(.int 8237 0), (.int 2 0), (.int 1 0)])), (Array.mk [])⟩
noncomputable def hb11x0x4x0 : Obj := ⟨(.type "list"), none, .seq (Array.mk (up 4 8234 352)) 6, (Array.mk [])⟩
noncomputable def hb11x0x4x1 : Obj := ⟨(.type "range_iterator"), none, (.fields (Array.mk [(.int 8238 0), (.int 1 0), (.int 1 0)])), (Array.mk [])⟩
noncomputable def hb11x0x5x0 : Obj := ⟨(.type "list"), none, .seq (Array.mk (up 5 8234 352)) 7, (Array.mk [])⟩
noncomputable def hb11x0x5x1 : Obj := ⟨(.type "range_iterator"), none, (.fields (Array.mk [(.int 8239 0), (.int 0 0), (.int 1 0)])), (Array.mk [])⟩
noncomputable def stk11x0 (sg : SG) (dn : DN) (tb : String → Option Builtin) (p : Program) (w : World) (os : OsState) : List Frame := stkOf (sg tb p w 11 ann 1 90 (SharedT.mk (T11 p w.params) 78 lf (Array.mk []) dr 343 os) (piecesOf [stm p 11] (env p) (cE p) ⟨51, 0, 52, 30⟩ B0))
theorem segA11x0 : ∀ (w : World) (os : OsState), goT w 90 (SharedT.mk (T11 PySem.Challenge.pw_mq0100_01 w.params) 78 lf (Array.mk []) dr 343 os) (piecesOf [stm PySem.Challenge.pw_mq0100_01 11] (env PySem.Challenge.pw_mq0100_01) (cE PySem.Challenge.pw_mq0100_01) ⟨51, 0, 52, 30⟩ B0) = some ((SharedT.mk (TL11x0 PySem.Challenge.pw_mq0100_01 w.params hb11x0x0x0 hb11x0x0x1) 82 lf (Array.mk []) dr 352 os), ⟨denote treeTable cd11x0, cd11x0, ⟨53, 38, 53, 61⟩, stk11x0 @segGoT @denote treeTable PySem.Challenge.pw_mq0100_01 w os⟩) := by
  refine byRow2 "special-get-raises" ?_ ?_ <;> (intro w os; unfold goT; rewrite [PySem.W.Fast.te10295753902157049106, PySem.W.Fast.te11892475500146522536, PySem.W.Fast.te14364793385576792824, PySem.W.Fast.te7261500446525621778]; kernel_rfl)
theorem okA11x0 : ∀ (w : World) (os : OsState), okStk (stk11x0 @segGoT @denote treeTable PySem.Challenge.pw_mq0100_01 w os) = true := by
  refine byRow2 "special-get-raises" ?_ ?_ <;> (intro w os; rewrite [PySem.W.Fast.te10295753902157049106, PySem.W.Fast.te11892475500146522536, PySem.W.Fast.te14364793385576792824, PySem.W.Fast.te7261500446525621778]; kernel_rfl)
theorem it11x0x0 : Turn TL11x0 82 cd11x0 ⟨53, 38, 53, 61⟩ 17 hb11x0x0x0 hb11x0x0x1 352 hb11x0x1x0 hb11x0x1x1 353 := by exact turn_pl (by unfold TurnG; intros; kernel_rfl)
theorem it11x0x1 : Turn TL11x0 82 cd11x0 ⟨53, 38, 53, 61⟩ 17 hb11x0x1x0 hb11x0x1x1 353 hb11x0x2x0 hb11x0x2x1 354 := by exact turn_pl (by unfold TurnG; intros; kernel_rfl)
theorem it11x0x2 : Turn TL11x0 82 cd11x0 ⟨53, 38, 53, 61⟩ 17 hb11x0x2x0 hb11x0x2x1 354 hb11x0x3x0 hb11x0x3x1 355 := by exact turn_pl (by unfold TurnG; intros; kernel_rfl)
theorem it11x0x3 : Turn TL11x0 82 cd11x0 ⟨53, 38, 53, 61⟩ 17 hb11x0x3x0 hb11x0x3x1 355 hb11x0x4x0 hb11x0x4x1 356 := by exact turn_pl (by unfold TurnG; intros; kernel_rfl)
theorem it11x0x4 : Turn TL11x0 82 cd11x0 ⟨53, 38, 53, 61⟩ 17 hb11x0x4x0 hb11x0x4x1 356 hb11x0x5x0 hb11x0x5x1 357 := by exact turn_pl (by unfold TurnG; intros; kernel_rfl)
theorem loop11x0 : Turn TL11x0 82 cd11x0 ⟨53, 38, 53, 61⟩ 85 hb11x0x0x0 hb11x0x0x1 352 hb11x0x5x0 hb11x0x5x1 357 := (it11x0x0).trans ((it11x0x1).trans ((it11x0x2).trans ((it11x0x3).trans (it11x0x4))))
noncomputable def ob80v80 (p : Program) (P : Params) : Obj := ⟨(.type "list"), none, .seq (Array.mk (up 5 8234 352)) 7, (Array.mk [])⟩
noncomputable def ob81v81 (p : Program) (P : Params) : Obj := ⟨(.type "range_iterator"), none, (.fields (Array.mk [(.int 8239 0), (.int 0 0), (.int 1 0)])), (Array.mk [])⟩
noncomputable def ob82v82 (p : Program) (P : Params) : Obj := ⟨(.type "tuple"), none, (.seq (Array.mk []) 0), (Array.mk [])⟩
noncomputable def ob83v83 (p : Program) (P : Params) : Obj := ⟨(.type "StopIteration"), none, (.fields (Array.mk [(.ref 82), .none, .none, .none, (.bool false), .none])), (Array.mk [])⟩
noncomputable def ob84v84 (p : Program) (P : Params) : Obj := ⟨(.type "list"), none, (.seq (Array.mk [(.int 832 343), (.int 833 344), (.int 8206 345), (.int 8207 346), (.int 8234 352), (.int 8235 353), (.int 8236 354), (.int 8237 355), (.int 8238 356)]) 0), (Array.mk [])⟩
noncomputable def ob85v85 (p : Program) (P : Params) : Obj := ⟨(.type "range"), none, (.fields (Array.mk [(.int 8298 357), (.int 8304 358), (.int 1 359)])), (Array.mk [])⟩
noncomputable def TL11x1 (p : Program) (P : Params) (h0 : Obj) (h1 : Obj) : BT := (.node (boot_o_0 P) (.node (boot_o_1 P) (.node (ob3v69 p P) (.node (boot_o_7 P) (.node (ob15v6 p P) (.node (ob31v23 p P) (.node (ob63v60 p P) .nil .nil) .nil) (.node (ob47v41 p P) (.node (ob79v79 p P) .nil .nil) .nil)) (.node (ob23v14 p P) (.node (ob39v33 p P) (.node (ob71v71 p P) .nil .nil) .nil) (.node (ob55v50 p P) (.node h1 .nil .nil) .nil))) (.node (ob11v0 p P) (.node (ob19v10 p P) (.node (ob35v29 p P) (.node (ob67v65 p P) .nil .nil) .nil) (.node (ob51v45 p P) (.node (ob83v83 p P) .nil .nil) .nil)) (.node (ob27v18 p P) (.node (ob43v37 p P) (.node (ob75v75 p P) .nil .nil) .nil) (.node (ob59v56 p P) .nil .nil)))) (.node (boot_o_5 P) (.node (boot_o_9 P) (.node (ob17v8 p P) (.node (ob33v27 p P) (.node (ob65v62 p P) .nil .nil) .nil) (.node (ob49v43 p P) (.node (ob81v81 p P) .nil .nil) .nil)) (.node (ob25v16 p P) (.node (ob41v35 p P) (.node (ob73v73 p P) .nil .nil) .nil) (.node (ob57v52 p P) .nil .nil))) (.node (ob13v2 p P) (.node (ob21v12 p P) (.node (ob37v31 p P) (.node (ob69v67 p P) .nil .nil) .nil) (.node (ob53v47 p P) (.node (ob85v85 p P) .nil .nil) .nil)) (.node (ob29v21 p P) (.node (ob45v39 p P) (.node (ob77v77 p P) .nil .nil) .nil) (.node (ob61v58 p P) .nil .nil))))) (.node (boot_o_2 P) (.node (boot_o_4 P) (.node (boot_o_8 P) (.node (ob16v7 p P) (.node (ob32v24 p P) (.node (ob64v61 p P) .nil .nil) .nil) (.node (ob48v42 p P) (.node (ob80v80 p P) .nil .nil) .nil)) (.node (ob24v15 p P) (.node (ob40v34 p P) (.node (ob72v72 p P) .nil .nil) .nil) (.node (ob56v51 p P) .nil .nil))) (.node (ob12v70 p P) (.node (ob20v11 p P) (.node (ob36v30 p P) (.node (ob68v66 p P) .nil .nil) .nil) (.node (ob52v46 p P) (.node (ob84v84 p P) .nil .nil) .nil)) (.node (ob28v19 p P) (.node (ob44v38 p P) (.node (ob76v76 p P) .nil .nil) .nil) (.node (ob60v57 p P) .nil .nil)))) (.node (boot_o_6 P) (.node (boot_o_10 P) (.node (ob18v9 p P) (.node (ob34v28 p P) (.node (ob66v63 p P) .nil .nil) .nil) (.node (ob50v44 p P) (.node (ob82v82 p P) .nil .nil) .nil)) (.node (ob26v17 p P) (.node (ob42v36 p P) (.node (ob74v74 p P) .nil .nil) .nil) (.node (ob58v53 p P) .nil .nil))) (.node (ob14v3 p P) (.node (ob22v13 p P) (.node (ob38v32 p P) (.node (ob70v68 p P) .nil .nil) .nil) (.node (ob54v48 p P) (.node h0 .nil .nil) .nil)) (.node (ob30v22 p P) (.node (ob46v40 p P) (.node (ob78v78 p P) .nil .nil) .nil) (.node (ob62v59 p P) .nil .nil))))))
noncomputable def cd11x1 : Code := (Code.builtin "list.extend.loop" ⟨[(.ref 86), (.ref 87), .none], []⟩)
noncomputable def hb11x1x0x0 : Obj := ⟨(.type "list"), none, (.seq (Array.mk []) 2), (Array.mk [])⟩
noncomputable def hb11x1x0x1 : Obj := ⟨(.type "range_iterator"), none, (.fields (Array.mk [(.int 8298 0), (.int 6 0), (.int 1 0)])), (Array.mk [])⟩
noncomputable def hb11x1x1x0 : Obj := ⟨(.type "list"), none, (.seq (Array.mk [(.int 8298 362)]) 3), (Array.mk [])⟩
noncomputable def hb11x1x1x1 : Obj := ⟨(.type "range_iterator"), none, (.fields (Array.mk [(.int 8299 0), (.int 5 0), (.int 1 0)])), (Array.mk [])⟩
noncomputable def hb11x1x2x0 : Obj := ⟨(.type "list"), none, (.seq (Array.mk [(.int 8298 362), (.int 8299 363)]) 4), (Array.mk [])⟩
noncomputable def hb11x1x2x1 : Obj := ⟨(.type "range_iterator"), none, (.fields (Array.mk [(.int 8300 0), (.int 4 0), (.int 1 0)])), (Array.mk [])⟩
noncomputable def hb11x1x3x0 : Obj := ⟨(.type "list"), none, .seq (Array.mk (up 3 8298 362)) 5, (Array.mk [])⟩
noncomputable def hb11x1x3x1 : Obj := ⟨(.type "range_iterator"), none, (.fields (Array.mk [(.int 8301 0), (.int 3 0), (.int 1 0)])), (Array.mk [])⟩
noncomputable def hb11x1x4x0 : Obj := ⟨(.type "list"), none, .seq (Array.mk (up 4 8298 362)) 6, (Array.mk [])⟩
noncomputable def hb11x1x4x1 : Obj := ⟨(.type "range_iterator"), none, (.fields (Array.mk [(.int 8302 0), (.int 2 0), (.int 1 0)])), (Array.mk [])⟩
noncomputable def hb11x1x5x0 : Obj := ⟨(.type "list"), none, .seq (Array.mk (up 5 8298 362)) 7, (Array.mk [])⟩
noncomputable def hb11x1x5x1 : Obj := ⟨(.type "range_iterator"), none, (.fields (Array.mk [(.int 8303 0), (.int 1 0), (.int 1 0)])), (Array.mk [])⟩
noncomputable def hb11x1x6x0 : Obj := ⟨(.type "list"), none, .seq (Array.mk (up 6 8298 362)) 8, (Array.mk [])⟩
noncomputable def hb11x1x6x1 : Obj := ⟨(.type "range_iterator"), none, (.fields (Array.mk [(.int 8304 0), (.int 0 0), (.int 1 0)])), (Array.mk [])⟩
noncomputable def stk11x1 (sg : SG) (dn : DN) (tb : String → Option Builtin) (p : Program) (w : World) (os : OsState) : List Frame := stkOf (sg tb p w 11 ann 1 110 (SharedT.mk (TL11x0 p w.params hb11x0x5x0 hb11x0x5x1) 82 lf (Array.mk []) dr 357 os) ⟨dn tb cd11x0, cd11x0, ⟨53, 38, 53, 61⟩, stk11x0 sg dn tb p w os⟩)
theorem segA11x1 : ∀ (w : World) (os : OsState), goT w 110 (SharedT.mk (TL11x0 PySem.Challenge.pw_mq0100_01 w.params hb11x0x5x0 hb11x0x5x1) 82 lf (Array.mk []) dr 357 os) ⟨denote treeTable cd11x0, cd11x0, ⟨53, 38, 53, 61⟩, stk11x0 @segGoT @denote treeTable PySem.Challenge.pw_mq0100_01 w os⟩ = some ((SharedT.mk (TL11x1 PySem.Challenge.pw_mq0100_01 w.params hb11x1x0x0 hb11x1x0x1) 88 lf (Array.mk []) dr 362 os), ⟨denote treeTable cd11x1, cd11x1, ⟨53, 64, 53, 87⟩, stk11x1 @segGoT @denote treeTable PySem.Challenge.pw_mq0100_01 w os⟩) := by
  refine byRow2 "special-get-raises" ?_ ?_ <;> (intro w os; unfold goT; rewrite [PySem.W.Fast.te10295753902157049106, PySem.W.Fast.te11892475500146522536, PySem.W.Fast.te14364793385576792824, PySem.W.Fast.te7261500446525621778]; kernel_rfl)
theorem okA11x1 : ∀ (w : World) (os : OsState), okStk (stk11x1 @segGoT @denote treeTable PySem.Challenge.pw_mq0100_01 w os) = true := by
  refine byRow2 "special-get-raises" ?_ ?_ <;> (intro w os; rewrite [PySem.W.Fast.te10295753902157049106, PySem.W.Fast.te11892475500146522536, PySem.W.Fast.te14364793385576792824, PySem.W.Fast.te7261500446525621778]; kernel_rfl)
theorem it11x1x0 : Turn TL11x1 88 cd11x1 ⟨53, 64, 53, 87⟩ 17 hb11x1x0x0 hb11x1x0x1 362 hb11x1x1x0 hb11x1x1x1 363 := by exact turn_pl (by unfold TurnG; intros; kernel_rfl)
theorem it11x1x1 : Turn TL11x1 88 cd11x1 ⟨53, 64, 53, 87⟩ 17 hb11x1x1x0 hb11x1x1x1 363 hb11x1x2x0 hb11x1x2x1 364 := by exact turn_pl (by unfold TurnG; intros; kernel_rfl)
theorem it11x1x2 : Turn TL11x1 88 cd11x1 ⟨53, 64, 53, 87⟩ 17 hb11x1x2x0 hb11x1x2x1 364 hb11x1x3x0 hb11x1x3x1 365 := by exact turn_pl (by unfold TurnG; intros; kernel_rfl)
theorem it11x1x3 : Turn TL11x1 88 cd11x1 ⟨53, 64, 53, 87⟩ 17 hb11x1x3x0 hb11x1x3x1 365 hb11x1x4x0 hb11x1x4x1 366 := by exact turn_pl (by unfold TurnG; intros; kernel_rfl)
theorem it11x1x4 : Turn TL11x1 88 cd11x1 ⟨53, 64, 53, 87⟩ 17 hb11x1x4x0 hb11x1x4x1 366 hb11x1x5x0 hb11x1x5x1 367 := by exact turn_pl (by unfold TurnG; intros; kernel_rfl)
theorem it11x1x5 : Turn TL11x1 88 cd11x1 ⟨53, 64, 53, 87⟩ 17 hb11x1x5x0 hb11x1x5x1 367 hb11x1x6x0 hb11x1x6x1 368 := by exact turn_pl (by unfold TurnG; intros; kernel_rfl)
theorem loop11x1 : Turn TL11x1 88 cd11x1 ⟨53, 64, 53, 87⟩ 102 hb11x1x0x0 hb11x1x0x1 362 hb11x1x6x0 hb11x1x6x1 368 := (it11x1x0).trans ((it11x1x1).trans ((it11x1x2).trans ((it11x1x3).trans ((it11x1x4).trans (it11x1x5)))))
noncomputable def ob86v86 (p : Program) (P : Params) : Obj := ⟨(.type "list"), none, .seq (Array.mk (up 6 8298 362)) 8, (Array.mk [])⟩
noncomputable def ob87v87 (p : Program) (P : Params) : Obj := ⟨(.type "range_iterator"), none, (.fields (Array.mk [(.int 8304 0), (.int 0 0), (.int 1 0)])), (Array.mk [])⟩
noncomputable def ob88v88 (p : Program) (P : Params) : Obj := ⟨(.type "tuple"), none, (.seq (Array.mk []) 0), (Array.mk [])⟩
noncomputable def ob89v89 (p : Program) (P : Params) : Obj := ⟨(.type "StopIteration"), none, (.fields (Array.mk [(.ref 88), .none, .none, .none, (.bool false), .none])), (Array.mk [])⟩
noncomputable def ob90v90 (p : Program) (P : Params) : Obj := ⟨(.type "list"), none, (.seq (Array.mk [(.int 832 343), (.int 833 344), (.int 8206 345), (.int 8207 346), (.int 8234 352), (.int 8235 353), (.int 8236 354), (.int 8237 355), (.int 8238 356), (.int 8298 362), (.int 8299 363), (.int 8300 364), (.int 8301 365), (.int 8302 366), (.int 8303 367)]) 0), (Array.mk [])⟩
noncomputable def TL11x2 (p : Program) (P : Params) (h0 : Obj) (h1 : Obj) : BT := (.node (boot_o_0 P) (.node (boot_o_1 P) (.node (ob3v69 p P) (.node (boot_o_7 P) (.node (ob15v6 p P) (.node (ob31v23 p P) (.node (ob63v60 p P) .nil .nil) .nil) (.node (ob47v41 p P) (.node (ob79v79 p P) .nil .nil) .nil)) (.node (ob23v14 p P) (.node (ob39v33 p P) (.node (ob71v71 p P) .nil .nil) .nil) (.node (ob55v50 p P) (.node (ob87v87 p P) .nil .nil) .nil))) (.node (ob11v0 p P) (.node (ob19v10 p P) (.node (ob35v29 p P) (.node (ob67v65 p P) .nil .nil) .nil) (.node (ob51v45 p P) (.node (ob83v83 p P) .nil .nil) .nil)) (.node (ob27v18 p P) (.node (ob43v37 p P) (.node (ob75v75 p P) .nil .nil) .nil) (.node (ob59v56 p P) (.node h0 .nil .nil) .nil)))) (.node (boot_o_5 P) (.node (boot_o_9 P) (.node (ob17v8 p P) (.node (ob33v27 p P) (.node (ob65v62 p P) .nil .nil) .nil) (.node (ob49v43 p P) (.node (ob81v81 p P) .nil .nil) .nil)) (.node (ob25v16 p P) (.node (ob41v35 p P) (.node (ob73v73 p P) .nil .nil) .nil) (.node (ob57v52 p P) (.node (ob89v89 p P) .nil .nil) .nil))) (.node (ob13v2 p P) (.node (ob21v12 p P) (.node (ob37v31 p P) (.node (ob69v67 p P) .nil .nil) .nil) (.node (ob53v47 p P) (.node (ob85v85 p P) .nil .nil) .nil)) (.node (ob29v21 p P) (.node (ob45v39 p P) (.node (ob77v77 p P) .nil .nil) .nil) (.node (ob61v58 p P) .nil .nil))))) (.node (boot_o_2 P) (.node (boot_o_4 P) (.node (boot_o_8 P) (.node (ob16v7 p P) (.node (ob32v24 p P) (.node (ob64v61 p P) .nil .nil) .nil) (.node (ob48v42 p P) (.node (ob80v80 p P) .nil .nil) .nil)) (.node (ob24v15 p P) (.node (ob40v34 p P) (.node (ob72v72 p P) .nil .nil) .nil) (.node (ob56v51 p P) (.node (ob88v88 p P) .nil .nil) .nil))) (.node (ob12v70 p P) (.node (ob20v11 p P) (.node (ob36v30 p P) (.node (ob68v66 p P) .nil .nil) .nil) (.node (ob52v46 p P) (.node (ob84v84 p P) .nil .nil) .nil)) (.node (ob28v19 p P) (.node (ob44v38 p P) (.node (ob76v76 p P) .nil .nil) .nil) (.node (ob60v57 p P) (.node h1 .nil .nil) .nil)))) (.node (boot_o_6 P) (.node (boot_o_10 P) (.node (ob18v9 p P) (.node (ob34v28 p P) (.node (ob66v63 p P) .nil .nil) .nil) (.node (ob50v44 p P) (.node (ob82v82 p P) .nil .nil) .nil)) (.node (ob26v17 p P) (.node (ob42v36 p P) (.node (ob74v74 p P) .nil .nil) .nil) (.node (ob58v53 p P) (.node (ob90v90 p P) .nil .nil) .nil))) (.node (ob14v3 p P) (.node (ob22v13 p P) (.node (ob38v32 p P) (.node (ob70v68 p P) .nil .nil) .nil) (.node (ob54v48 p P) (.node (ob86v86 p P) .nil .nil) .nil)) (.node (ob30v22 p P) (.node (ob46v40 p P) (.node (ob78v78 p P) .nil .nil) .nil) (.node (ob62v59 p P) .nil .nil))))))
noncomputable def cd11x2 : Code := (Code.builtin "set.update.loop" ⟨[(.ref 91), (.ref 92)], []⟩)
noncomputable def hb11x2x0x0 (b : Bool) : Obj := (setO [] 0 7 [] 0 b)
noncomputable def hb11x2x0x1 : Obj := ⟨(.type "list_iterator"), none, (.fields (Array.mk [(.ref 90), (.int 0 0)])), (Array.mk [])⟩
noncomputable def hb11x2x1x0 (b : Bool) : Obj := (setO [(832, 343)] 1 7 [0] 0 b)
noncomputable def hb11x2x1x1 : Obj := ⟨(.type "list_iterator"), none, (.fields (Array.mk [(.ref 90), (.int 1 0)])), (Array.mk [])⟩
noncomputable def hb11x2x2x0 (b : Bool) : Obj := (setO [(832, 343), (833, 344)] 2 7 [0, 1] 0 b)
noncomputable def hb11x2x2x1 : Obj := ⟨(.type "list_iterator"), none, (.fields (Array.mk [(.ref 90), (.int 2 0)])), (Array.mk [])⟩
noncomputable def hb11x2x3x0 (b : Bool) : Obj := (setO [(832, 343), (833, 344), (8206, 345)] 3 7 [0, 1, 6] 0 b)
noncomputable def hb11x2x3x1 : Obj := ⟨(.type "list_iterator"), none, (.fields (Array.mk [(.ref 90), (.int 3 0)])), (Array.mk [])⟩
noncomputable def hb11x2x4x0 (b : Bool) : Obj := (setO [(832, 343), (833, 344), (8206, 345), (8207, 346)] 4 7 [0, 1, 6, 7] 0 b)
noncomputable def hb11x2x4x1 : Obj := ⟨(.type "list_iterator"), none, (.fields (Array.mk [(.ref 90), (.int 4 0)])), (Array.mk [])⟩
noncomputable def hb11x2x5x0 (b : Bool) : Obj := (setO [(832, 343), (833, 344), (8234, 352), (8206, 345), (8207, 346)] 6 31 [0, 1, 10, 14, 15] 1 b)
noncomputable def hb11x2x5x1 : Obj := ⟨(.type "list_iterator"), none, (.fields (Array.mk [(.ref 90), (.int 5 0)])), (Array.mk [])⟩
noncomputable def hb11x2x6x0 (b : Bool) : Obj := (setO [(832, 343), (833, 344), (8234, 352), (8235, 353), (8206, 345), (8207, 346)] 7 31 [0, 1, 10, 11, 14, 15] 1 b)
noncomputable def hb11x2x6x1 : Obj := ⟨(.type "list_iterator"), none, (.fields (Array.mk [(.ref 90), (.int 6 0)])), (Array.mk [])⟩
noncomputable def hb11x2x7x0 (b : Bool) : Obj := (setO [(832, 343), (833, 344), (8234, 352), (8235, 353), (8236, 354), (8206, 345), (8207, 346)] 8 31 [0, 1, 10, 11, 12, 14, 15] 1 b)
noncomputable def hb11x2x7x1 : Obj := ⟨(.type "list_iterator"), none, (.fields (Array.mk [(.ref 90), (.int 7 0)])), (Array.mk [])⟩
noncomputable def hb11x2x8x0 (b : Bool) : Obj := (setO [(832, 343), (833, 344), (8234, 352), (8235, 353), (8236, 354), (8237, 355), (8206, 345), (8207, 346)] 9 31 [0, 1, 10, 11, 12, 13, 14, 15] 1 b)
noncomputable def hb11x2x8x1 : Obj := ⟨(.type "list_iterator"), none, (.fields (Array.mk [(.ref 90), (.int 8 0)])), (Array.mk [])⟩
noncomputable def hb11x2x9x0 (b : Bool) : Obj := (setO [(832, 343), (833, 344), (8234, 352), (8235, 353), (8236, 354), (8237, 355), (8206, 345), (8207, 346), (8238, 356)] 10 31 [0, 1, 10, 11, 12, 13, 14, 15, 16] 1 b)
noncomputable def hb11x2x9x1 : Obj := ⟨(.type "list_iterator"), none, (.fields (Array.mk [(.ref 90), (.int 9 0)])), (Array.mk [])⟩
noncomputable def hb11x2x10x0 (b : Bool) : Obj := (setO [(832, 343), (833, 344), (8234, 352), (8235, 353), (8236, 354), (8237, 355), (8206, 345), (8207, 346), (8238, 356), (8298, 362)] 11 31 [0, 1, 10, 11, 12, 13, 14, 15, 16, 17] 1 b)
noncomputable def hb11x2x10x1 : Obj := ⟨(.type "list_iterator"), none, (.fields (Array.mk [(.ref 90), (.int 10 0)])), (Array.mk [])⟩
noncomputable def hb11x2x11x0 (b : Bool) : Obj := (setO [(832, 343), (833, 344), (8234, 352), (8235, 353), (8236, 354), (8237, 355), (8206, 345), (8207, 346), (8238, 356), (8298, 362), (8299, 363)] 12 31 [0, 1, 10, 11, 12, 13, 14, 15, 16, 17, 18] 1 b)
noncomputable def hb11x2x11x1 : Obj := ⟨(.type "list_iterator"), none, (.fields (Array.mk [(.ref 90), (.int 11 0)])), (Array.mk [])⟩
noncomputable def hb11x2x12x0 (b : Bool) : Obj := (setO [(832, 343), (833, 344), (8234, 352), (8235, 353), (8236, 354), (8237, 355), (8206, 345), (8207, 346), (8238, 356), (8298, 362), (8299, 363), (8300, 364)] 13 31 [0, 1, 10, 11, 12, 13, 14, 15, 16, 17, 18, 19] 1 b)
noncomputable def hb11x2x12x1 : Obj := ⟨(.type "list_iterator"), none, (.fields (Array.mk [(.ref 90), (.int 12 0)])), (Array.mk [])⟩
noncomputable def hb11x2x13x0 (b : Bool) : Obj := (setO [(832, 343), (833, 344), (8234, 352), (8235, 353), (8236, 354), (8237, 355), (8206, 345), (8207, 346), (8238, 356), (8298, 362), (8299, 363), (8300, 364), (8301, 365)] 14 31 [0, 1, 10, 11, 12, 13, 14, 15, 16, 17, 18, 19, 20] 1 b)
noncomputable def hb11x2x13x1 : Obj := ⟨(.type "list_iterator"), none, (.fields (Array.mk [(.ref 90), (.int 13 0)])), (Array.mk [])⟩
noncomputable def hb11x2x14x0 (b : Bool) : Obj := (setO [(832, 343), (833, 344), (8234, 352), (8235, 353), (8236, 354), (8237, 355), (8206, 345), (8207, 346), (8238, 356), (8298, 362), (8299, 363), (8300, 364), (8301, 365), (8302, 366)] 15 31 [0, 1, 10, 11, 12, 13, 14, 15, 16, 17, 18, 19, 20, 21] 1 b)
noncomputable def hb11x2x14x1 : Obj := ⟨(.type "list_iterator"), none, (.fields (Array.mk [(.ref 90), (.int 14 0)])), (Array.mk [])⟩
noncomputable def hb11x2x15x0 (b : Bool) : Obj := (setO [(832, 343), (833, 344), (8234, 352), (8235, 353), (8236, 354), (8237, 355), (8206, 345), (8207, 346), (8238, 356), (8298, 362), (8299, 363), (8300, 364), (8301, 365), (8302, 366), (8303, 367)] 16 31 [0, 1, 10, 11, 12, 13, 14, 15, 16, 17, 18, 19, 20, 21, 22] 1 b)
noncomputable def hb11x2x15x1 : Obj := ⟨(.type "list_iterator"), none, (.fields (Array.mk [(.ref 90), (.int 15 0)])), (Array.mk [])⟩
noncomputable def stk11x2 (sg : SG) (dn : DN) (tb : String → Option Builtin) (p : Program) (w : World) (os : OsState) : List Frame := stkOf (sg tb p w 11 ann 1 59 (SharedT.mk (TL11x1 p w.params hb11x1x6x0 hb11x1x6x1) 88 lf (Array.mk []) dr 368 os) ⟨dn tb cd11x1, cd11x1, ⟨53, 64, 53, 87⟩, stk11x1 sg dn tb p w os⟩)
theorem segA11x2 : ∀ (w : World) (os : OsState), goT w 59 (SharedT.mk (TL11x1 PySem.Challenge.pw_mq0100_01 w.params hb11x1x6x0 hb11x1x6x1) 88 lf (Array.mk []) dr 368 os) ⟨denote treeTable cd11x1, cd11x1, ⟨53, 64, 53, 87⟩, stk11x1 @segGoT @denote treeTable PySem.Challenge.pw_mq0100_01 w os⟩ = some ((SharedT.mk (TL11x2 PySem.Challenge.pw_mq0100_01 w.params (hb11x2x0x0 (not (w.params.followText "set-order"))) hb11x2x0x1) 93 lf (Array.mk []) dr 368 os), ⟨denote treeTable cd11x2, cd11x2, ⟨53, 9, 53, 88⟩, stk11x2 @segGoT @denote treeTable PySem.Challenge.pw_mq0100_01 w os⟩) := by
  refine byRow2 "special-get-raises" ?_ ?_ <;> (intro w os; unfold goT; rewrite [PySem.W.Fast.te10295753902157049106, PySem.W.Fast.te11892475500146522536, PySem.W.Fast.te14364793385576792824, PySem.W.Fast.te7261500446525621778]; kernel_rfl)
theorem okA11x2 : ∀ (w : World) (os : OsState), okStk (stk11x2 @segGoT @denote treeTable PySem.Challenge.pw_mq0100_01 w os) = true := by
  refine byRow2 "special-get-raises" ?_ ?_ <;> (intro w os; rewrite [PySem.W.Fast.te10295753902157049106, PySem.W.Fast.te11892475500146522536, PySem.W.Fast.te14364793385576792824, PySem.W.Fast.te7261500446525621778]; kernel_rfl)
theorem it11x2x0 (b : Bool) : Turn TL11x2 93 cd11x2 ⟨53, 9, 53, 88⟩ 20 (hb11x2x0x0 b) hb11x2x0x1 368 (hb11x2x1x0 b) hb11x2x1x1 369 := by cases b <;> exact turn_row (by intros; kernel_rfl) (by intros; kernel_rfl)
theorem it11x2x1 (b : Bool) : Turn TL11x2 93 cd11x2 ⟨53, 9, 53, 88⟩ 20 (hb11x2x1x0 b) hb11x2x1x1 369 (hb11x2x2x0 b) hb11x2x2x1 370 := by cases b <;> exact turn_row (by intros; kernel_rfl) (by intros; kernel_rfl)
theorem it11x2x2 (b : Bool) : Turn TL11x2 93 cd11x2 ⟨53, 9, 53, 88⟩ 20 (hb11x2x2x0 b) hb11x2x2x1 370 (hb11x2x3x0 b) hb11x2x3x1 371 := by cases b <;> exact turn_row (by intros; kernel_rfl) (by intros; kernel_rfl)
theorem it11x2x3 (b : Bool) : Turn TL11x2 93 cd11x2 ⟨53, 9, 53, 88⟩ 20 (hb11x2x3x0 b) hb11x2x3x1 371 (hb11x2x4x0 b) hb11x2x4x1 372 := by cases b <;> exact turn_row (by intros; kernel_rfl) (by intros; kernel_rfl)
theorem it11x2x4 (b : Bool) : Turn TL11x2 93 cd11x2 ⟨53, 9, 53, 88⟩ 22 (hb11x2x4x0 b) hb11x2x4x1 372 (hb11x2x5x0 b) hb11x2x5x1 373 := by cases b <;> exact turn_row (by intros; kernel_rfl) (by intros; kernel_rfl)
theorem it11x2x5 (b : Bool) : Turn TL11x2 93 cd11x2 ⟨53, 9, 53, 88⟩ 20 (hb11x2x5x0 b) hb11x2x5x1 373 (hb11x2x6x0 b) hb11x2x6x1 374 := by cases b <;> exact turn_row (by intros; kernel_rfl) (by intros; kernel_rfl)
theorem it11x2x6 (b : Bool) : Turn TL11x2 93 cd11x2 ⟨53, 9, 53, 88⟩ 20 (hb11x2x6x0 b) hb11x2x6x1 374 (hb11x2x7x0 b) hb11x2x7x1 375 := by cases b <;> exact turn_row (by intros; kernel_rfl) (by intros; kernel_rfl)
theorem it11x2x7 (b : Bool) : Turn TL11x2 93 cd11x2 ⟨53, 9, 53, 88⟩ 20 (hb11x2x7x0 b) hb11x2x7x1 375 (hb11x2x8x0 b) hb11x2x8x1 376 := by cases b <;> exact turn_row (by intros; kernel_rfl) (by intros; kernel_rfl)
theorem it11x2x8 (b : Bool) : Turn TL11x2 93 cd11x2 ⟨53, 9, 53, 88⟩ 20 (hb11x2x8x0 b) hb11x2x8x1 376 (hb11x2x9x0 b) hb11x2x9x1 377 := by cases b <;> exact turn_row (by intros; kernel_rfl) (by intros; kernel_rfl)
theorem it11x2x9 (b : Bool) : Turn TL11x2 93 cd11x2 ⟨53, 9, 53, 88⟩ 20 (hb11x2x9x0 b) hb11x2x9x1 377 (hb11x2x10x0 b) hb11x2x10x1 378 := by cases b <;> exact turn_row (by intros; kernel_rfl) (by intros; kernel_rfl)
theorem it11x2x10 (b : Bool) : Turn TL11x2 93 cd11x2 ⟨53, 9, 53, 88⟩ 20 (hb11x2x10x0 b) hb11x2x10x1 378 (hb11x2x11x0 b) hb11x2x11x1 379 := by cases b <;> exact turn_row (by intros; kernel_rfl) (by intros; kernel_rfl)
theorem it11x2x11 (b : Bool) : Turn TL11x2 93 cd11x2 ⟨53, 9, 53, 88⟩ 20 (hb11x2x11x0 b) hb11x2x11x1 379 (hb11x2x12x0 b) hb11x2x12x1 380 := by cases b <;> exact turn_row (by intros; kernel_rfl) (by intros; kernel_rfl)
theorem it11x2x12 (b : Bool) : Turn TL11x2 93 cd11x2 ⟨53, 9, 53, 88⟩ 20 (hb11x2x12x0 b) hb11x2x12x1 380 (hb11x2x13x0 b) hb11x2x13x1 381 := by cases b <;> exact turn_row (by intros; kernel_rfl) (by intros; kernel_rfl)
theorem it11x2x13 (b : Bool) : Turn TL11x2 93 cd11x2 ⟨53, 9, 53, 88⟩ 20 (hb11x2x13x0 b) hb11x2x13x1 381 (hb11x2x14x0 b) hb11x2x14x1 382 := by cases b <;> exact turn_row (by intros; kernel_rfl) (by intros; kernel_rfl)
theorem it11x2x14 (b : Bool) : Turn TL11x2 93 cd11x2 ⟨53, 9, 53, 88⟩ 20 (hb11x2x14x0 b) hb11x2x14x1 382 (hb11x2x15x0 b) hb11x2x15x1 383 := by cases b <;> exact turn_row (by intros; kernel_rfl) (by intros; kernel_rfl)
theorem loop11x2 (b : Bool) : Turn TL11x2 93 cd11x2 ⟨53, 9, 53, 88⟩ 302 (hb11x2x0x0 b) hb11x2x0x1 368 (hb11x2x15x0 b) hb11x2x15x1 383 := (it11x2x0 b).trans ((it11x2x1 b).trans ((it11x2x2 b).trans ((it11x2x3 b).trans ((it11x2x4 b).trans ((it11x2x5 b).trans ((it11x2x6 b).trans ((it11x2x7 b).trans ((it11x2x8 b).trans ((it11x2x9 b).trans ((it11x2x10 b).trans ((it11x2x11 b).trans ((it11x2x12 b).trans ((it11x2x13 b).trans (it11x2x14 b))))))))))))))
noncomputable def ob3v91 (p : Program) (P : Params) : Obj := ⟨(.type "dict"), none, (.dict (Array.mk [(e0 P), (e1 P), (e2 P), (e3 P), (e4 P), (e5 P), (e6 P), (e7 P), (e8 P), (e9 P), (e10 P), (e11 P), (e12 P), (e13 P), (e14 P), (e15 P), (e16 P), (e17 P), (e18 P)]) 19), (Array.mk [])⟩
noncomputable def ob91v92 (p : Program) (P : Params) : Obj := (setO [(832, 343), (833, 344), (8234, 352), (8235, 353), (8236, 354), (8237, 355), (8206, 345), (8207, 346), (8238, 356), (8298, 362), (8299, 363), (8300, 364), (8301, 365), (8302, 366), (8303, 367)] 16 31 [0, 1, 10, 11, 12, 13, 14, 15, 16, 17, 18, 19, 20, 21, 22] 1 (not (P.followText "set-order")))
noncomputable def ob92v93 (p : Program) (P : Params) : Obj := ⟨(.type "list_iterator"), none, (.fields (Array.mk [.none, (.int 15 0)])), (Array.mk [])⟩
noncomputable def ob93v94 (p : Program) (P : Params) : Obj := ⟨(.type "tuple"), none, (.seq (Array.mk []) 0), (Array.mk [])⟩
noncomputable def ob94v95 (p : Program) (P : Params) : Obj := ⟨(.type "StopIteration"), none, (.fields (Array.mk [(.ref 93), .none, .none, .none, (.bool false), .none])), (Array.mk [])⟩
noncomputable def T12 (p : Program) (P : Params) : BT := (.node (boot_o_0 P) (.node (boot_o_1 P) (.node (ob3v91 p P) (.node (boot_o_7 P) (.node (ob15v6 p P) (.node (ob31v23 p P) (.node (ob63v60 p P) .nil .nil) .nil) (.node (ob47v41 p P) (.node (ob79v79 p P) .nil .nil) .nil)) (.node (ob23v14 p P) (.node (ob39v33 p P) (.node (ob71v71 p P) .nil .nil) .nil) (.node (ob55v50 p P) (.node (ob87v87 p P) .nil .nil) .nil))) (.node (ob11v0 p P) (.node (ob19v10 p P) (.node (ob35v29 p P) (.node (ob67v65 p P) .nil .nil) .nil) (.node (ob51v45 p P) (.node (ob83v83 p P) .nil .nil) .nil)) (.node (ob27v18 p P) (.node (ob43v37 p P) (.node (ob75v75 p P) .nil .nil) .nil) (.node (ob59v56 p P) (.node (ob91v92 p P) .nil .nil) .nil)))) (.node (boot_o_5 P) (.node (boot_o_9 P) (.node (ob17v8 p P) (.node (ob33v27 p P) (.node (ob65v62 p P) .nil .nil) .nil) (.node (ob49v43 p P) (.node (ob81v81 p P) .nil .nil) .nil)) (.node (ob25v16 p P) (.node (ob41v35 p P) (.node (ob73v73 p P) .nil .nil) .nil) (.node (ob57v52 p P) (.node (ob89v89 p P) .nil .nil) .nil))) (.node (ob13v2 p P) (.node (ob21v12 p P) (.node (ob37v31 p P) (.node (ob69v67 p P) .nil .nil) .nil) (.node (ob53v47 p P) (.node (ob85v85 p P) .nil .nil) .nil)) (.node (ob29v21 p P) (.node (ob45v39 p P) (.node (ob77v77 p P) .nil .nil) .nil) (.node (ob61v58 p P) (.node (ob93v94 p P) .nil .nil) .nil))))) (.node (boot_o_2 P) (.node (boot_o_4 P) (.node (boot_o_8 P) (.node (ob16v7 p P) (.node (ob32v24 p P) (.node (ob64v61 p P) .nil .nil) .nil) (.node (ob48v42 p P) (.node (ob80v80 p P) .nil .nil) .nil)) (.node (ob24v15 p P) (.node (ob40v34 p P) (.node (ob72v72 p P) .nil .nil) .nil) (.node (ob56v51 p P) (.node (ob88v88 p P) .nil .nil) .nil))) (.node (ob12v70 p P) (.node (ob20v11 p P) (.node (ob36v30 p P) (.node (ob68v66 p P) .nil .nil) .nil) (.node (ob52v46 p P) (.node (ob84v84 p P) .nil .nil) .nil)) (.node (ob28v19 p P) (.node (ob44v38 p P) (.node (ob76v76 p P) .nil .nil) .nil) (.node (ob60v57 p P) (.node (ob92v93 p P) .nil .nil) .nil)))) (.node (boot_o_6 P) (.node (boot_o_10 P) (.node (ob18v9 p P) (.node (ob34v28 p P) (.node (ob66v63 p P) .nil .nil) .nil) (.node (ob50v44 p P) (.node (ob82v82 p P) .nil .nil) .nil)) (.node (ob26v17 p P) (.node (ob42v36 p P) (.node (ob74v74 p P) .nil .nil) .nil) (.node (ob58v53 p P) (.node (ob90v90 p P) .nil .nil) .nil))) (.node (ob14v3 p P) (.node (ob22v13 p P) (.node (ob38v32 p P) (.node (ob70v68 p P) .nil .nil) .nil) (.node (ob54v48 p P) (.node (ob86v86 p P) .nil .nil) .nil)) (.node (ob30v22 p P) (.node (ob46v40 p P) (.node (ob78v78 p P) .nil .nil) .nil) (.node (ob62v59 p P) (.node (ob94v95 p P) .nil .nil) .nil))))))
theorem segE11 : ∀ (w : World) (os : OsState), runT w 27 (SharedT.mk (TL11x2 PySem.Challenge.pw_mq0100_01 w.params (hb11x2x15x0 (not (w.params.followText "set-order"))) hb11x2x15x1) 93 lf (Array.mk []) dr 383 os) ⟨denote treeTable cd11x2, cd11x2, ⟨53, 9, 53, 88⟩, stk11x2 @segGoT @denote treeTable PySem.Challenge.pw_mq0100_01 w os⟩ = some (.next, (SharedT.mk (T12 PySem.Challenge.pw_mq0100_01 w.params) 95 lf (Array.mk []) dr 384 os), cE PySem.Challenge.pw_mq0100_01, ⟨53, 0, 53, 6⟩) := by
  refine byRow2 "special-get-raises" ?_ ?_ <;> (intro w os; unfold runT; rewrite [PySem.W.Fast.te10110043849684766642, PySem.W.Fast.te11892475500146522536, PySem.W.Fast.te10295753902157049106, PySem.W.Fast.te14364793385576792824, PySem.W.Fast.te7261500446525621778]; kernel_rfl)
theorem seg11 : ∀ (w : World) (os : OsState), segRun treeTable PySem.Challenge.pw_mq0100_01 w 11 ann 1 (90 + (85 + (110 + (102 + (59 + (302 + 27)))))) (SharedT.abs (SharedT.mk (T11 PySem.Challenge.pw_mq0100_01 w.params) 78 lf (Array.mk []) dr 343 os)) (piecesOf [stm PySem.Challenge.pw_mq0100_01 11] (env PySem.Challenge.pw_mq0100_01) (cE PySem.Challenge.pw_mq0100_01) ⟨51, 0, 52, 30⟩ B0) = some (.next, SharedT.abs (SharedT.mk (T12 PySem.Challenge.pw_mq0100_01 w.params) 95 lf (Array.mk []) dr 384 os), cE PySem.Challenge.pw_mq0100_01, ⟨53, 0, 53, 6⟩) := fun w os => join (segA11x0 w os) (okA11x0 w os) loop11x0 (join (segA11x1 w os) (okA11x1 w os) loop11x1 (join (segA11x2 w os) (okA11x2 w os) (loop11x2 (not (w.params.followText "set-order"))) (segRun_of (segE11 w os))))
noncomputable def ob3v96 (p : Program) (P : Params) : Obj := ⟨(.type "dict"), none, (.dict (Array.mk [(e0 P), (e1 P), (e2 P), (e3 P), (e4 P), (e5 P), (e6 P), (e7 P), (e8 P), (e9 P), (e10 P), (e11 P), (e12 P), (e13 P), (e14 P), (e15 P), (e16 P), (e17 P), (e18 P), (e19 P)]) 20), (Array.mk [])⟩
noncomputable def ob12v97 (p : Program) (P : Params) : Obj := ⟨.none, none, (.fields (Array.mk [(.int 2 0), (.int 0 0), (.ref 20), (.int 36 0), (.int 0 0), (.ref 38), (.int 38 0), (.int 0 0), (.ref 45), (.int 40 0), (.int 0 0), (.ref 52), (.int 48 0), (.int 0 0), (.ref 64), (.int 51 0), (.int 0 0), (.ref 76), (.int 54 0), (.int 0 0), (.ref 100)])), (Array.mk [])⟩
noncomputable def ob95v98 (p : Program) (P : Params) : Obj := ⟨(.type "tuple"), none, (.seq (Array.mk []) 0), (Array.mk [])⟩
noncomputable def ob96v99 (p : Program) (P : Params) : Obj := ⟨.none, none, (.fields (Array.mk [])), (Array.mk [])⟩
noncomputable def ob97v100 (p : Program) (P : Params) : Obj := ⟨(.type "tuple"), none, (.seq (Array.mk [(.str s27 387)]) 0), (Array.mk [])⟩
noncomputable def ob98v101 (p : Program) (P : Params) : Obj := ⟨(.type "tuple"), none, (.seq (Array.mk []) 0), (Array.mk [])⟩
noncomputable def ob99v102 (p : Program) (P : Params) : Obj := ⟨.none, none, (.func { name := s34, qualname := s34, params := fnA p 12, body := .stmts (fnB p 12), scope := fnS p 12, globals := 0, closure := [], defaults := .none, kwdefaults := .none, doc := .none, pyModule := .none, annotations := none, code := .none, closureTuple := .none, builtins := 0 : FuncData }), (Array.mk [])⟩
noncomputable def ob100v103 (p : Program) (P : Params) : Obj := ⟨(.type "code"), none, (.fields (Array.mk [(.str s34 384), (.str s34 385), (.str s1 386), (.int 54 0), (.int 1 0), (.int 0 0), (.int 0 0), (.int 3 0), (.ref 95), (.bool true), (.int 181 0), (.ref 96), .none, (.ref 97), (.ref 98), (.ref 99), (.int 388 0), (.int 54 0), (.str s1 389)])), (Array.mk [])⟩
noncomputable def ob101v104 (p : Program) (P : Params) : Obj := ⟨(.type "function"), none, (.func { name := s34, qualname := s34, params := fnA p 12, body := .stmts (fnB p 12), scope := fnS p 12, globals := 3, closure := [], defaults := .none, kwdefaults := .none, doc := .none, pyModule := (.str s4 203), annotations := none, code := (.ref 100), closureTuple := .none, builtins := 0 : FuncData }), (Array.mk [])⟩
noncomputable def T13 (p : Program) (P : Params) : BT := (.node (boot_o_0 P) (.node (boot_o_1 P) (.node (ob3v96 p P) (.node (boot_o_7 P) (.node (ob15v6 p P) (.node (ob31v23 p P) (.node (ob63v60 p P) .nil .nil) (.node (ob95v98 p P) .nil .nil)) (.node (ob47v41 p P) (.node (ob79v79 p P) .nil .nil) .nil)) (.node (ob23v14 p P) (.node (ob39v33 p P) (.node (ob71v71 p P) .nil .nil) .nil) (.node (ob55v50 p P) (.node (ob87v87 p P) .nil .nil) .nil))) (.node (ob11v0 p P) (.node (ob19v10 p P) (.node (ob35v29 p P) (.node (ob67v65 p P) .nil .nil) (.node (ob99v102 p P) .nil .nil)) (.node (ob51v45 p P) (.node (ob83v83 p P) .nil .nil) .nil)) (.node (ob27v18 p P) (.node (ob43v37 p P) (.node (ob75v75 p P) .nil .nil) .nil) (.node (ob59v56 p P) (.node (ob91v92 p P) .nil .nil) .nil)))) (.node (boot_o_5 P) (.node (boot_o_9 P) (.node (ob17v8 p P) (.node (ob33v27 p P) (.node (ob65v62 p P) .nil .nil) (.node (ob97v100 p P) .nil .nil)) (.node (ob49v43 p P) (.node (ob81v81 p P) .nil .nil) .nil)) (.node (ob25v16 p P) (.node (ob41v35 p P) (.node (ob73v73 p P) .nil .nil) .nil) (.node (ob57v52 p P) (.node (ob89v89 p P) .nil .nil) .nil))) (.node (ob13v2 p P) (.node (ob21v12 p P) (.node (ob37v31 p P) (.node (ob69v67 p P) .nil .nil) (.node (ob101v104 p P) .nil .nil)) (.node (ob53v47 p P) (.node (ob85v85 p P) .nil .nil) .nil)) (.node (ob29v21 p P) (.node (ob45v39 p P) (.node (ob77v77 p P) .nil .nil) .nil) (.node (ob61v58 p P) (.node (ob93v94 p P) .nil .nil) .nil))))) (.node (boot_o_2 P) (.node (boot_o_4 P) (.node (boot_o_8 P) (.node (ob16v7 p P) (.node (ob32v24 p P) (.node (ob64v61 p P) .nil .nil) (.node (ob96v99 p P) .nil .nil)) (.node (ob48v42 p P) (.node (ob80v80 p P) .nil .nil) .nil)) (.node (ob24v15 p P) (.node (ob40v34 p P) (.node (ob72v72 p P) .nil .nil) .nil) (.node (ob56v51 p P) (.node (ob88v88 p P) .nil .nil) .nil))) (.node (ob12v97 p P) (.node (ob20v11 p P) (.node (ob36v30 p P) (.node (ob68v66 p P) .nil .nil) (.node (ob100v103 p P) .nil .nil)) (.node (ob52v46 p P) (.node (ob84v84 p P) .nil .nil) .nil)) (.node (ob28v19 p P) (.node (ob44v38 p P) (.node (ob76v76 p P) .nil .nil) .nil) (.node (ob60v57 p P) (.node (ob92v93 p P) .nil .nil) .nil)))) (.node (boot_o_6 P) (.node (boot_o_10 P) (.node (ob18v9 p P) (.node (ob34v28 p P) (.node (ob66v63 p P) .nil .nil) (.node (ob98v101 p P) .nil .nil)) (.node (ob50v44 p P) (.node (ob82v82 p P) .nil .nil) .nil)) (.node (ob26v17 p P) (.node (ob42v36 p P) (.node (ob74v74 p P) .nil .nil) .nil) (.node (ob58v53 p P) (.node (ob90v90 p P) .nil .nil) .nil))) (.node (ob14v3 p P) (.node (ob22v13 p P) (.node (ob38v32 p P) (.node (ob70v68 p P) .nil .nil) .nil) (.node (ob54v48 p P) (.node (ob86v86 p P) .nil .nil) .nil)) (.node (ob30v22 p P) (.node (ob46v40 p P) (.node (ob78v78 p P) .nil .nil) .nil) (.node (ob62v59 p P) (.node (ob94v95 p P) .nil .nil) .nil))))))
theorem seg12 : ∀ (w : World) (os : OsState), runT w 30 (SharedT.mk (T12 PySem.Challenge.pw_mq0100_01 w.params) 95 lf (Array.mk []) dr 384 os) (piecesOf [stm PySem.Challenge.pw_mq0100_01 12] (env PySem.Challenge.pw_mq0100_01) (cE PySem.Challenge.pw_mq0100_01) ⟨53, 0, 53, 6⟩ B0) = some (.next, (SharedT.mk (T13 PySem.Challenge.pw_mq0100_01 w.params) 102 lf (Array.mk []) dr 391 os), cE PySem.Challenge.pw_mq0100_01, ⟨54, 0, 55, 30⟩) := by
  intro w os; unfold runT; rewrite [PySem.W.Fast.te10110043849684766642, PySem.W.Fast.te14364793385576792824, PySem.W.Fast.te7261500446525621778]; kernel_rfl
end
end Mine
end
-- part HC
section
open PySem PySem.W PyProof.Rows
set_option linter.unusedVariables false
set_option maxRecDepth 100000
set_option maxHeartbeats 0
namespace Mine
noncomputable section
noncomputable def ob102v105 (p : Program) (P : Params) : Obj := ⟨(.type "list"), none, (.seq (Array.mk [(.int 917505 391)]) 0), (Array.mk [])⟩
noncomputable def ob103v106 (p : Program) (P : Params) : Obj := ⟨(.type "range"), none, (.fields (Array.mk [(.int 917536 392), (.int 917632 393), (.int 1 394)])), (Array.mk [])⟩
noncomputable def TL13x0 (p : Program) (P : Params) (h0 : Obj) (h1 : Obj) : BT := (.node (boot_o_0 P) (.node (boot_o_1 P) (.node (ob3v96 p P) (.node (boot_o_7 P) (.node (ob15v6 p P) (.node (ob31v23 p P) (.node (ob63v60 p P) .nil .nil) (.node (ob95v98 p P) .nil .nil)) (.node (ob47v41 p P) (.node (ob79v79 p P) .nil .nil) .nil)) (.node (ob23v14 p P) (.node (ob39v33 p P) (.node (ob71v71 p P) .nil .nil) (.node (ob103v106 p P) .nil .nil)) (.node (ob55v50 p P) (.node (ob87v87 p P) .nil .nil) .nil))) (.node (ob11v0 p P) (.node (ob19v10 p P) (.node (ob35v29 p P) (.node (ob67v65 p P) .nil .nil) (.node (ob99v102 p P) .nil .nil)) (.node (ob51v45 p P) (.node (ob83v83 p P) .nil .nil) .nil)) (.node (ob27v18 p P) (.node (ob43v37 p P) (.node (ob75v75 p P) .nil .nil) .nil) (.node (ob59v56 p P) (.node (ob91v92 p P) .nil .nil) .nil)))) (.node (boot_o_5 P) (.node (boot_o_9 P) (.node (ob17v8 p P) (.node (ob33v27 p P) (.node (ob65v62 p P) .nil .nil) (.node (ob97v100 p P) .nil .nil)) (.node (ob49v43 p P) (.node (ob81v81 p P) .nil .nil) .nil)) (.node (ob25v16 p P) (.node (ob41v35 p P) (.node (ob73v73 p P) .nil .nil) (.node h1 .nil .nil)) (.node (ob57v52 p P) (.node (ob89v89 p P) .nil .nil) .nil))) (.node (ob13v2 p P) (.node (ob21v12 p P) (.node (ob37v31 p P) (.node (ob69v67 p P) .nil .nil) (.node (ob101v104 p P) .nil .nil)) (.node (ob53v47 p P) (.node (ob85v85 p P) .nil .nil) .nil)) (.node (ob29v21 p P) (.node (ob45v39 p P) (.node (ob77v77 p P) .nil .nil) .nil) (.node (ob61v58 p P) (.node (ob93v94 p P) .nil .nil) .nil))))) (.node (boot_o_2 P) (.node (boot_o_4 P) (.node (boot_o_8 P) (.node (ob16v7 p P) (.node (ob32v24 p P) (.node (ob64v61 p P) .nil .nil) (.node (ob96v99 p P) .nil .nil)) (.node (ob48v42 p P) (.node (ob80v80 p P) .nil .nil) .nil)) (.node (ob24v15 p P) (.node (ob40v34 p P) (.node (ob72v72 p P) .nil .nil) (.node h0 .nil .nil)) (.node (ob56v51 p P) (.node (ob88v88 p P) .nil .nil) .nil))) (.node (ob12v97 p P) (.node (ob20v11 p P) (.node (ob36v30 p P) (.node (ob68v66 p P) .nil .nil) (.node (ob100v103 p P) .nil .nil)) (.node (ob52v46 p P) (.node (ob84v84 p P) .nil .nil) .nil)) (.node (ob28v19 p P) (.node (ob44v38 p P) (.node (ob76v76 p P) .nil .nil) .nil) (.node (ob60v57 p P) (.node (ob92v93 p P) .nil .nil) .nil)))) (.node (boot_o_6 P) (.node (boot_o_10 P) (.node (ob18v9 p P) (.node (ob34v28 p P) (.node (ob66v63 p P) .nil .nil) (.node (ob98v101 p P) .nil .nil)) (.node (ob50v44 p P) (.node (ob82v82 p P) .nil .nil) .nil)) (.node (ob26v17 p P) (.node (ob42v36 p P) (.node (ob74v74 p P) .nil .nil) .nil) (.node (ob58v53 p P) (.node (ob90v90 p P) .nil .nil) .nil))) (.node (ob14v3 p P) (.node (ob22v13 p P) (.node (ob38v32 p P) (.node (ob70v68 p P) .nil .nil) (.node (ob102v105 p P) .nil .nil)) (.node (ob54v48 p P) (.node (ob86v86 p P) .nil .nil) .nil)) (.node (ob30v22 p P) (.node (ob46v40 p P) (.node (ob78v78 p P) .nil .nil) .nil) (.node (ob62v59 p P) (.node (ob94v95 p P) .nil .nil) .nil))))))
noncomputable def cd13x0 : Code := (Code.builtin "list.extend.loop" ⟨[(.ref 104), (.ref 105), .none], []⟩)
noncomputable def hb13x0x0x0 : Obj := ⟨(.type "list"), none, (.seq (Array.mk []) 2), (Array.mk [])⟩
noncomputable def hb13x0x0x1 : Obj := ⟨(.type "range_iterator"), none, (.fields (Array.mk [(.int 917536 0), (.int 96 0), (.int 1 0)])), (Array.mk [])⟩
noncomputable def hb13x0x1x0 : Obj := ⟨(.type "list"), none, (.seq (Array.mk [(.int 917536 397)]) 3), (Array.mk [])⟩
noncomputable def hb13x0x1x1 : Obj := ⟨(.type "range_iterator"), none, (.fields (Array.mk [(.int 917537 0), (.int 95 0), (.int 1 0)])), (Array.mk [])⟩
noncomputable def hb13x0x2x0 : Obj := ⟨(.type "list"), none, (.seq (Array.mk [(.int 917536 397), (.int 917537 398)]) 4), (Array.mk [])⟩
noncomputable def hb13x0x2x1 : Obj := ⟨(.type "range_iterator"), none, (.fields (Array.mk [(.int 917538 0), (.int 94 0), (.int 1 0)])), (Array.mk [])⟩
noncomputable def hb13x0x3x0 : Obj := ⟨(.type "list"), none, .seq (Array.mk (up 3 917536 397)) 5, (Array.mk [])⟩
noncomputable def hb13x0x3x1 : Obj := ⟨(.type "range_iterator"), none, (.fields (Array.mk [(.int 917539 0), (.int 93 0), (.int 1 0)])), (Array.mk [])⟩
noncomputable def hb13x0x4x0 : Obj := ⟨(.type "list"), none, .seq (Array.mk (up 4 917536 397)) 6, (Array.mk [])⟩
noncomputable def hb13x0x4x1 : Obj := ⟨(.type "range_iterator"), none, (.fields (Array.mk [(.int 917540 0), (.int 92 0), (.int 1 0)])), (Array.mk [])⟩
noncomputable def hb13x0x5x0 : Obj := ⟨(.type "list"), none, .seq (Array.mk (up 5 917536 397)) 7, (Array.mk [])⟩
noncomputable def hb13x0x5x1 : Obj := ⟨(.type "range_iterator"), none, (.fields (Array.mk [(.int 917541 0), (.int 91 0), (.int 1 0)])), (Array.mk [])⟩
noncomputable def hb13x0x6x0 : Obj := ⟨(.type "list"), none, .seq (Array.mk (up 6 917536 397)) 8, (Array.mk [])⟩
noncomputable def hb13x0x6x1 : Obj := ⟨(.type "range_iterator"), none, (.fields (Array.mk [(.int 917542 0), (.int 90 0), (.int 1 0)])), (Array.mk [])⟩
noncomputable def hb13x0x7x0 : Obj := ⟨(.type "list"), none, .seq (Array.mk (up 7 917536 397)) 9, (Array.mk [])⟩
noncomputable def hb13x0x7x1 : Obj := ⟨(.type "range_iterator"), none, (.fields (Array.mk [(.int 917543 0), (.int 89 0), (.int 1 0)])), (Array.mk [])⟩
noncomputable def hb13x0x8x0 : Obj := ⟨(.type "list"), none, .seq (Array.mk (up 8 917536 397)) 10, (Array.mk [])⟩
noncomputable def hb13x0x8x1 : Obj := ⟨(.type "range_iterator"), none, (.fields (Array.mk [(.int 917544 0), (.int 88 0), (.int 1 0)])), (Array.mk [])⟩
noncomputable def hb13x0x9x0 : Obj := ⟨(.type "list"), none, .seq (Array.mk (up 9 917536 397)) 11, (Array.mk [])⟩
noncomputable def hb13x0x9x1 : Obj := ⟨(.type "range_iterator"), none, (.fields (Array.mk [(.int 917545 0), (.int 87 0), (.int 1 0)])), (Array.mk [])⟩
noncomputable def hb13x0x10x0 : Obj := ⟨(.type "list"), none, .seq (Array.mk (up 10 917536 397)) 12, (Array.mk [])⟩
noncomputable def hb13x0x10x1 : Obj := ⟨(.type "range_iterator"), none, (.fields (Array.mk [(.int 917546 0), (.int 86 0), (.int 1 0)])), (Array.mk [])⟩
noncomputable def hb13x0x11x0 : Obj := ⟨(.type "list"), none, .seq (Array.mk (up 11 917536 397)) 13, (Array.mk [])⟩
noncomputable def hb13x0x11x1 : Obj := ⟨(.type "range_iterator"), none, (.fields (Array.mk [(.int 917547 0), (.int 85 0), (.int 1 0)])), (Array.mk [])⟩
noncomputable def hb13x0x12x0 : Obj := ⟨(.type "list"), none, .seq (Array.mk (up 12 917536 397)) 14, (Array.mk [])⟩
noncomputable def hb13x0x12x1 : Obj := ⟨(.type "range_iterator"), none, (.fields (Array.mk [(.int 917548 0), (.int 84 0), (.int 1 0)])), (Array.mk [])⟩
noncomputable def hb13x0x13x0 : Obj := ⟨(.type "list"), none, .seq (Array.mk (up 13 917536 397)) 15, (Array.mk [])⟩
noncomputable def hb13x0x13x1 : Obj := ⟨(.type "range_iterator"), none, (.fields (Array.mk [(.int 917549 0), (.int 83 0), (.int 1 0)])), (Array.mk [])⟩
noncomputable def hb13x0x14x0 : Obj := ⟨(.type "list"), none, .seq (Array.mk (up 14 917536 397)) 16, (Array.mk [])⟩
noncomputable def hb13x0x14x1 : Obj := ⟨(.type "range_iterator"), none, (.fields (Array.mk [(.int 917550 0), (.int 82 0), (.int 1 0)])), (Array.mk [])⟩
noncomputable def hb13x0x15x0 : Obj := ⟨(.type "list"), none, .seq (Array.mk (up 15 917536 397)) 17, (Array.mk [])⟩
noncomputable def hb13x0x15x1 : Obj := ⟨(.type "range_iterator"), none, (.fields (Array.mk [(.int 917551 0), (.int 81 0), (.int 1 0)])), (Array.mk [])⟩
noncomputable def hb13x0x16x0 : Obj := ⟨(.type "list"), none, .seq (Array.mk (up 16 917536 397)) 18, (Array.mk [])⟩
noncomputable def hb13x0x16x1 : Obj := ⟨(.type "range_iterator"), none, (.fields (Array.mk [(.int 917552 0), (.int 80 0), (.int 1 0)])), (Array.mk [])⟩
noncomputable def hb13x0x17x0 : Obj := ⟨(.type "list"), none, .seq (Array.mk (up 17 917536 397)) 19, (Array.mk [])⟩
noncomputable def hb13x0x17x1 : Obj := ⟨(.type "range_iterator"), none, (.fields (Array.mk [(.int 917553 0), (.int 79 0), (.int 1 0)])), (Array.mk [])⟩
noncomputable def hb13x0x18x0 : Obj := ⟨(.type "list"), none, .seq (Array.mk (up 18 917536 397)) 20, (Array.mk [])⟩
noncomputable def hb13x0x18x1 : Obj := ⟨(.type "range_iterator"), none, (.fields (Array.mk [(.int 917554 0), (.int 78 0), (.int 1 0)])), (Array.mk [])⟩
noncomputable def hb13x0x19x0 : Obj := ⟨(.type "list"), none, .seq (Array.mk (up 19 917536 397)) 21, (Array.mk [])⟩
noncomputable def hb13x0x19x1 : Obj := ⟨(.type "range_iterator"), none, (.fields (Array.mk [(.int 917555 0), (.int 77 0), (.int 1 0)])), (Array.mk [])⟩
noncomputable def hb13x0x20x0 : Obj := ⟨(.type "list"), none, .seq (Array.mk (up 20 917536 397)) 22, (Array.mk [])⟩
noncomputable def hb13x0x20x1 : Obj := ⟨(.type "range_iterator"), none, (.fields (Array.mk [(.int 917556 0), (.int 76 0), (.int 1 0)])), (Array.mk [])⟩
noncomputable def hb13x0x21x0 : Obj := ⟨(.type "list"), none, .seq (Array.mk (up 21 917536 397)) 23, (Array.mk [])⟩
noncomputable def hb13x0x21x1 : Obj := ⟨(.type "range_iterator"), none, (.fields (Array.mk [(.int 917557 0), (.int 75 0), (.int 1 0)])), (Array.mk [])⟩
noncomputable def hb13x0x22x0 : Obj := ⟨(.type "list"), none, .seq (Array.mk (up 22 917536 397)) 24, (Array.mk [])⟩
noncomputable def hb13x0x22x1 : Obj := ⟨(.type "range_iterator"), none, (.fields (Array.mk [(.int 917558 0), (.int 74 0), (.int 1 0)])), (Array.mk [])⟩
noncomputable def hb13x0x23x0 : Obj := ⟨(.type "list"), none, .seq (Array.mk (up 23 917536 397)) 25, (Array.mk [])⟩
noncomputable def hb13x0x23x1 : Obj := ⟨(.type "range_iterator"), none, (.fields (Array.mk [(.int 917559 0), (.int 73 0), (.int 1 0)])), (Array.mk [])⟩
noncomputable def hb13x0x24x0 : Obj := ⟨(.type "list"), none, .seq (Array.mk (up 24 917536 397)) 26, (Array.mk [])⟩
noncomputable def hb13x0x24x1 : Obj := ⟨(.type "range_iterator"), none, (.fields (Array.mk [(.int 917560 0), (.int 72 0), (.int 1 0)])), (Array.mk [])⟩
noncomputable def hb13x0x25x0 : Obj := ⟨(.type "list"), none, .seq (Array.mk (up 25 917536 397)) 27, (Array.mk [])⟩
noncomputable def hb13x0x25x1 : Obj := ⟨(.type "range_iterator"), none, (.fields (Array.mk [(.int 917561 0), (.int 71 0), (.int 1 0)])), (Array.mk [])⟩
noncomputable def hb13x0x26x0 : Obj := ⟨(.type "list"), none, .seq (Array.mk (up 26 917536 397)) 28, (Array.mk [])⟩
noncomputable def hb13x0x26x1 : Obj := ⟨(.type "range_iterator"), none, (.fields (Array.mk [(.int 917562 0), (.int 70 0), (.int 1 0)])), (Array.mk [])⟩
noncomputable def hb13x0x27x0 : Obj := ⟨(.type "list"), none, .seq (Array.mk (up 27 917536 397)) 29, (Array.mk [])⟩
noncomputable def hb13x0x27x1 : Obj := ⟨(.type "range_iterator"), none, (.fields (Array.mk [(.int 917563 0), (.int 69 0), (.int 1 0)])), (Array.mk [])⟩
noncomputable def hb13x0x28x0 : Obj := ⟨(.type "list"), none, .seq (Array.mk (up 28 917536 397)) 30, (Array.mk [])⟩
noncomputable def hb13x0x28x1 : Obj := ⟨(.type "range_iterator"), none, (.fields (Array.mk [(.int 917564 0), (.int 68 0), (.int 1 0)])), (Array.mk [])⟩
noncomputable def hb13x0x29x0 : Obj := ⟨(.type "list"), none, .seq (Array.mk (up 29 917536 397)) 31, (Array.mk [])⟩
noncomputable def hb13x0x29x1 : Obj := ⟨(.type "range_iterator"), none, (.fields (Array.mk [(.int 917565 0), (.int 67 0), (.int 1 0)])), (Array.mk [])⟩
noncomputable def hb13x0x30x0 : Obj := ⟨(.type "list"), none, .seq (Array.mk (up 30 917536 397)) 32, (Array.mk [])⟩
noncomputable def hb13x0x30x1 : Obj := ⟨(.type "range_iterator"), none, (.fields (Array.mk [(.int 917566 0), (.int 66 0), (.int 1 0)])), (Array.mk [])⟩
noncomputable def hb13x0x31x0 : Obj := ⟨(.type "list"), none, .seq (Array.mk (up 31 917536 397)) 33, (Array.mk [])⟩
noncomputable def hb13x0x31x1 : Obj := ⟨(.type "range_iterator"), none, (.fields (Array.mk [(.int 917567 0), (.int 65 0), (.int 1 0)])), (Array.mk [])⟩
noncomputable def hb13x0x32x0 : Obj := ⟨(.type "list"), none, .seq (Array.mk (up 32 917536 397)) 34, (Array.mk [])⟩
noncomputable def hb13x0x32x1 : Obj := ⟨(.type "range_iterator"), none, (.fields (Array.mk [(.int 917568 0), (.int 64 0), (.int 1 0)])), (Array.mk [])⟩
noncomputable def hb13x0x33x0 : Obj := ⟨(.type "list"), none, .seq (Array.mk (up 33 917536 397)) 35, (Array.mk [])⟩
noncomputable def hb13x0x33x1 : Obj := ⟨(.type "range_iterator"), none, (.fields (Array.mk [(.int 917569 0), (.int 63 0), (.int 1 0)])), (Array.mk [])⟩
noncomputable def hb13x0x34x0 : Obj := ⟨(.type "list"), none, .seq (Array.mk (up 34 917536 397)) 36, (Array.mk [])⟩
noncomputable def hb13x0x34x1 : Obj := ⟨(.type "range_iterator"), none, (.fields (Array.mk [(.int 917570 0), (.int 62 0), (.int 1 0)])), (Array.mk [])⟩
noncomputable def hb13x0x35x0 : Obj := ⟨(.type "list"), none, .seq (Array.mk (up 35 917536 397)) 37, (Array.mk [])⟩
noncomputable def hb13x0x35x1 : Obj := ⟨(.type "range_iterator"), none, (.fields (Array.mk [(.int 917571 0), (.int 61 0), (.int 1 0)])), (Array.mk [])⟩
noncomputable def hb13x0x36x0 : Obj := ⟨(.type "list"), none, .seq (Array.mk (up 36 917536 397)) 38, (Array.mk [])⟩
noncomputable def hb13x0x36x1 : Obj := ⟨(.type "range_iterator"), none, (.fields (Array.mk [(.int 917572 0), (.int 60 0), (.int 1 0)])), (Array.mk [])⟩
noncomputable def hb13x0x37x0 : Obj := ⟨(.type "list"), none, .seq (Array.mk (up 37 917536 397)) 39, (Array.mk [])⟩
noncomputable def hb13x0x37x1 : Obj := ⟨(.type "range_iterator"), none, (.fields (Array.mk [(.int 917573 0), (.int 59 0), (.int 1 0)])), (Array.mk [])⟩
noncomputable def hb13x0x38x0 : Obj := ⟨(.type "list"), none, .seq (Array.mk (up 38 917536 397)) 40, (Array.mk [])⟩
noncomputable def hb13x0x38x1 : Obj := ⟨(.type "range_iterator"), none, (.fields (Array.mk [(.int 917574 0), (.int 58 0), (.int 1 0)])), (Array.mk [])⟩
noncomputable def hb13x0x39x0 : Obj := ⟨(.type "list"), none, .seq (Array.mk (up 39 917536 397)) 41, (Array.mk [])⟩
noncomputable def hb13x0x39x1 : Obj := ⟨(.type "range_iterator"), none, (.fields (Array.mk [(.int 917575 0), (.int 57 0), (.int 1 0)])), (Array.mk [])⟩
noncomputable def hb13x0x40x0 : Obj := ⟨(.type "list"), none, .seq (Array.mk (up 40 917536 397)) 42, (Array.mk [])⟩
noncomputable def hb13x0x40x1 : Obj := ⟨(.type "range_iterator"), none, (.fields (Array.mk [(.int 917576 0), (.int 56 0), (.int 1 0)])), (Array.mk [])⟩
noncomputable def hb13x0x41x0 : Obj := ⟨(.type "list"), none, .seq (Array.mk (up 41 917536 397)) 43, (Array.mk [])⟩
noncomputable def hb13x0x41x1 : Obj := ⟨(.type "range_iterator"), none, (.fields (Array.mk [(.int 917577 0), (.int 55 0), (.int 1 0)])), (Array.mk [])⟩
noncomputable def hb13x0x42x0 : Obj := ⟨(.type "list"), none, .seq (Array.mk (up 42 917536 397)) 44, (Array.mk [])⟩
noncomputable def hb13x0x42x1 : Obj := ⟨(.type "range_iterator"), none, (.fields (Array.mk [(.int 917578 0), (.int 54 0), (.int 1 0)])), (Array.mk [])⟩
noncomputable def hb13x0x43x0 : Obj := ⟨(.type "list"), none, .seq (Array.mk (up 43 917536 397)) 45, (Array.mk [])⟩
noncomputable def hb13x0x43x1 : Obj := ⟨(.type "range_iterator"), none, (.fields (Array.mk [(.int 917579 0), (.int 53 0), (.int 1 0)])), (Array.mk [])⟩
noncomputable def hb13x0x44x0 : Obj := ⟨(.type "list"), none, .seq (Array.mk (up 44 917536 397)) 46, (Array.mk [])⟩
noncomputable def hb13x0x44x1 : Obj := ⟨(.type "range_iterator"), none, (.fields (Array.mk [(.int 917580 0), (.int 52 0), (.int 1 0)])), (Array.mk [])⟩
noncomputable def hb13x0x45x0 : Obj := ⟨(.type "list"), none, .seq (Array.mk (up 45 917536 397)) 47, (Array.mk [])⟩
noncomputable def hb13x0x45x1 : Obj := ⟨(.type "range_iterator"), none, (.fields (Array.mk [(.int 917581 0), (.int 51 0), (.int 1 0)])), (Array.mk [])⟩
noncomputable def hb13x0x46x0 : Obj := ⟨(.type "list"), none, .seq (Array.mk (up 46 917536 397)) 48, (Array.mk [])⟩
noncomputable def hb13x0x46x1 : Obj := ⟨(.type "range_iterator"), none, (.fields (Array.mk [(.int 917582 0), (.int 50 0), (.int 1 0)])), (Array.mk [])⟩
noncomputable def hb13x0x47x0 : Obj := ⟨(.type "list"), none, .seq (Array.mk (up 47 917536 397)) 49, (Array.mk [])⟩
noncomputable def hb13x0x47x1 : Obj := ⟨(.type "range_iterator"), none, (.fields (Array.mk [(.int 917583 0), (.int 49 0), (.int 1 0)])), (Array.mk [])⟩
noncomputable def hb13x0x48x0 : Obj := ⟨(.type "list"), none, .seq (Array.mk (up 48 917536 397)) 50, (Array.mk [])⟩
noncomputable def hb13x0x48x1 : Obj := ⟨(.type "range_iterator"), none, (.fields (Array.mk [(.int 917584 0), (.int 48 0), (.int 1 0)])), (Array.mk [])⟩
noncomputable def hb13x0x49x0 : Obj := ⟨(.type "list"), none, .seq (Array.mk (up 49 917536 397)) 51, (Array.mk [])⟩
noncomputable def hb13x0x49x1 : Obj := ⟨(.type "range_iterator"), none, (.fields (Array.mk [(.int 917585 0), (.int 47 0), (.int 1 0)])), (Array.mk [])⟩
noncomputable def hb13x0x50x0 : Obj := ⟨(.type "list"), none, .seq (Array.mk (up 50 917536 397)) 52, (Array.mk [])⟩
noncomputable def hb13x0x50x1 : Obj := ⟨(.type "range_iterator"), none, (.fields (Array.mk [(.int 917586 0), (.int 46 0), (.int 1 0)])), (Array.mk [])⟩
noncomputable def hb13x0x51x0 : Obj := ⟨(.type "list"), none, .seq (Array.mk (up 51 917536 397)) 53, (Array.mk [])⟩
noncomputable def hb13x0x51x1 : Obj := ⟨(.type "range_iterator"), none, (.fields (Array.mk [(.int 917587 0), (.int 45 0), (.int 1 0)])), (Array.mk [])⟩
noncomputable def hb13x0x52x0 : Obj := ⟨(.type "list"), none, .seq (Array.mk (up 52 917536 397)) 54, (Array.mk [])⟩
noncomputable def hb13x0x52x1 : Obj := ⟨(.type "range_iterator"), none, (.fields (Array.mk [(.int 917588 0), (.int 44 0), (.int 1 0)])), (Array.mk [])⟩
noncomputable def hb13x0x53x0 : Obj := ⟨(.type "list"), none, .seq (Array.mk (up 53 917536 397)) 55, (Array.mk [])⟩
noncomputable def hb13x0x53x1 : Obj := ⟨(.type "range_iterator"), none, (.fields (Array.mk [(.int 917589 0), (.int 43 0), (.int 1 0)])), (Array.mk [])⟩
noncomputable def hb13x0x54x0 : Obj := ⟨(.type "list"), none, .seq (Array.mk (up 54 917536 397)) 56, (Array.mk [])⟩
noncomputable def hb13x0x54x1 : Obj := ⟨(.type "range_iterator"), none, (.fields (Array.mk [(.int 917590 0), (.int 42 0), (.int 1 0)])), (Array.mk [])⟩
noncomputable def hb13x0x55x0 : Obj := ⟨(.type "list"), none, .seq (Array.mk (up 55 917536 397)) 57, (Array.mk [])⟩
noncomputable def hb13x0x55x1 : Obj := ⟨(.type "range_iterator"), none, (.fields (Array.mk [(.int 917591 0), (.int 41 0), (.int 1 0)])), (Array.mk [])⟩
noncomputable def hb13x0x56x0 : Obj := ⟨(.type "list"), none, .seq (Array.mk (up 56 917536 397)) 58, (Array.mk [])⟩
noncomputable def hb13x0x56x1 : Obj := ⟨(.type "range_iterator"), none, (.fields (Array.mk [(.int 917592 0), (.int 40 0), (.int 1 0)])), (Array.mk [])⟩
noncomputable def hb13x0x57x0 : Obj := ⟨(.type "list"), none, .seq (Array.mk (up 57 917536 397)) 59, (Array.mk [])⟩
noncomputable def hb13x0x57x1 : Obj := ⟨(.type "range_iterator"), none, (.fields (Array.mk [(.int 917593 0), (.int 39 0), (.int 1 0)])), (Array.mk [])⟩
noncomputable def hb13x0x58x0 : Obj := ⟨(.type "list"), none, .seq (Array.mk (up 58 917536 397)) 60, (Array.mk [])⟩
noncomputable def hb13x0x58x1 : Obj := ⟨(.type "range_iterator"), none, (.fields (Array.mk [(.int 917594 0), (.int 38 0), (.int 1 0)])), (Array.mk [])⟩
noncomputable def hb13x0x59x0 : Obj := ⟨(.type "list"), none, .seq (Array.mk (up 59 917536 397)) 61, (Array.mk [])⟩
noncomputable def hb13x0x59x1 : Obj := ⟨(.type "range_iterator"), none, (.fields (Array.mk [(.int 917595 0), (.int 37 0), (.int 1 0)])), (Array.mk [])⟩
noncomputable def hb13x0x60x0 : Obj := ⟨(.type "list"), none, .seq (Array.mk (up 60 917536 397)) 62, (Array.mk [])⟩
noncomputable def hb13x0x60x1 : Obj := ⟨(.type "range_iterator"), none, (.fields (Array.mk [(.int 917596 0), (.int 36 0), (.int 1 0)])), (Array.mk [])⟩
noncomputable def hb13x0x61x0 : Obj := ⟨(.type "list"), none, .seq (Array.mk (up 61 917536 397)) 63, (Array.mk [])⟩
noncomputable def hb13x0x61x1 : Obj := ⟨(.type "range_iterator"), none, (.fields (Array.mk [(.int 917597 0), (.int 35 0), (.int 1 0)])), (Array.mk [])⟩
noncomputable def hb13x0x62x0 : Obj := ⟨(.type "list"), none, .seq (Array.mk (up 62 917536 397)) 64, (Array.mk [])⟩
noncomputable def hb13x0x62x1 : Obj := ⟨(.type "range_iterator"), none, (.fields (Array.mk [(.int 917598 0), (.int 34 0), (.int 1 0)])), (Array.mk [])⟩
noncomputable def hb13x0x63x0 : Obj := ⟨(.type "list"), none, .seq (Array.mk (up 63 917536 397)) 65, (Array.mk [])⟩
noncomputable def hb13x0x63x1 : Obj := ⟨(.type "range_iterator"), none, (.fields (Array.mk [(.int 917599 0), (.int 33 0), (.int 1 0)])), (Array.mk [])⟩
noncomputable def hb13x0x64x0 : Obj := ⟨(.type "list"), none, .seq (Array.mk (up 64 917536 397)) 66, (Array.mk [])⟩
noncomputable def hb13x0x64x1 : Obj := ⟨(.type "range_iterator"), none, (.fields (Array.mk [(.int 917600 0), (.int 32 0), (.int 1 0)])), (Array.mk [])⟩
noncomputable def hb13x0x65x0 : Obj := ⟨(.type "list"), none, .seq (Array.mk (up 65 917536 397)) 67, (Array.mk [])⟩
noncomputable def hb13x0x65x1 : Obj := ⟨(.type "range_iterator"), none, (.fields (Array.mk [(.int 917601 0), (.int 31 0), (.int 1 0)])), (Array.mk [])⟩
noncomputable def hb13x0x66x0 : Obj := ⟨(.type "list"), none, .seq (Array.mk (up 66 917536 397)) 68, (Array.mk [])⟩
noncomputable def hb13x0x66x1 : Obj := ⟨(.type "range_iterator"), none, (.fields (Array.mk [(.int 917602 0), (.int 30 0), (.int 1 0)])), (Array.mk [])⟩
noncomputable def hb13x0x67x0 : Obj := ⟨(.type "list"), none, .seq (Array.mk (up 67 917536 397)) 69, (Array.mk [])⟩
noncomputable def hb13x0x67x1 : Obj := ⟨(.type "range_iterator"), none, (.fields (Array.mk [(.int 917603 0), (.int 29 0), (.int 1 0)])), (Array.mk [])⟩
noncomputable def hb13x0x68x0 : Obj := ⟨(.type "list"), none, .seq (Array.mk (up 68 917536 397)) 70, (Array.mk [])⟩
noncomputable def hb13x0x68x1 : Obj := ⟨(.type "range_iterator"), none, (.fields (Array.mk [(.int 917604 0), (.int 28 0), (.int 1 0)])), (Array.mk [])⟩
noncomputable def hb13x0x69x0 : Obj := ⟨(.type "list"), none, .seq (Array.mk (up 69 917536 397)) 71, (Array.mk [])⟩
noncomputable def hb13x0x69x1 : Obj := ⟨(.type "range_iterator"), none, (.fields (Array.mk [(.int 917605 0), (.int 27 0), (.int 1 0)])), (Array.mk [])⟩
noncomputable def hb13x0x70x0 : Obj := ⟨(.type "list"), none, .seq (Array.mk (up 70 917536 397)) 72, (Array.mk [])⟩
noncomputable def hb13x0x70x1 : Obj := ⟨(.type "range_iterator"), none, (.fields (Array.mk [(.int 917606 0), (.int 26 0), (.int 1 0)])), (Array.mk [])⟩
noncomputable def hb13x0x71x0 : Obj := ⟨(.type "list"), none, .seq (Array.mk (up 71 917536 397)) 73, (Array.mk [])⟩
noncomputable def hb13x0x71x1 : Obj := ⟨(.type "range_iterator"), none, (.fields (Array.mk [(.int 917607 0), (.int 25 0), (.int 1 0)])), (Array.mk [])⟩
noncomputable def hb13x0x72x0 : Obj := ⟨(.type "list"), none, .seq (Array.mk (up 72 917536 397)) 74, (Array.mk [])⟩
noncomputable def hb13x0x72x1 : Obj := ⟨(.type "range_iterator"), none, (.fields (Array.mk [(.int 917608 0), (.int 24 0), (.int 1 0)])), (Array.mk [])⟩
noncomputable def hb13x0x73x0 : Obj := ⟨(.type "list"), none, .seq (Array.mk (up 73 917536 397)) 75, (Array.mk [])⟩
noncomputable def hb13x0x73x1 : Obj := ⟨(.type "range_iterator"), none, (.fields (Array.mk [(.int 917609 0), (.int 23 0), (.int 1 0)])), (Array.mk [])⟩
noncomputable def hb13x0x74x0 : Obj := ⟨(.type "list"), none, .seq (Array.mk (up 74 917536 397)) 76, (Array.mk [])⟩
noncomputable def hb13x0x74x1 : Obj := ⟨(.type "range_iterator"), none, (.fields (Array.mk [(.int 917610 0), (.int 22 0), (.int 1 0)])), (Array.mk [])⟩
noncomputable def hb13x0x75x0 : Obj := ⟨(.type "list"), none, .seq (Array.mk (up 75 917536 397)) 77, (Array.mk [])⟩
noncomputable def hb13x0x75x1 : Obj := ⟨(.type "range_iterator"), none, (.fields (Array.mk [(.int 917611 0), (.int 21 0), (.int 1 0)])), (Array.mk [])⟩
noncomputable def hb13x0x76x0 : Obj := ⟨(.type "list"), none, .seq (Array.mk (up 76 917536 397)) 78, (Array.mk [])⟩
noncomputable def hb13x0x76x1 : Obj := ⟨(.type "range_iterator"), none, (.fields (Array.mk [(.int 917612 0), (.int 20 0), (.int 1 0)])), (Array.mk [])⟩
noncomputable def hb13x0x77x0 : Obj := ⟨(.type "list"), none, .seq (Array.mk (up 77 917536 397)) 79, (Array.mk [])⟩
noncomputable def hb13x0x77x1 : Obj := ⟨(.type "range_iterator"), none, (.fields (Array.mk [(.int 917613 0), (.int 19 0), (.int 1 0)])), (Array.mk [])⟩
noncomputable def hb13x0x78x0 : Obj := ⟨(.type "list"), none, .seq (Array.mk (up 78 917536 397)) 80, (Array.mk [])⟩
noncomputable def hb13x0x78x1 : Obj := ⟨(.type "range_iterator"), none, (.fields (Array.mk [(.int 917614 0), (.int 18 0), (.int 1 0)])), (Array.mk [])⟩
noncomputable def hb13x0x79x0 : Obj := ⟨(.type "list"), none, .seq (Array.mk (up 79 917536 397)) 81, (Array.mk [])⟩
noncomputable def hb13x0x79x1 : Obj := ⟨(.type "range_iterator"), none, (.fields (Array.mk [(.int 917615 0), (.int 17 0), (.int 1 0)])), (Array.mk [])⟩
noncomputable def hb13x0x80x0 : Obj := ⟨(.type "list"), none, .seq (Array.mk (up 80 917536 397)) 82, (Array.mk [])⟩
noncomputable def hb13x0x80x1 : Obj := ⟨(.type "range_iterator"), none, (.fields (Array.mk [(.int 917616 0), (.int 16 0), (.int 1 0)])), (Array.mk [])⟩
noncomputable def hb13x0x81x0 : Obj := ⟨(.type "list"), none, .seq (Array.mk (up 81 917536 397)) 83, (Array.mk [])⟩
noncomputable def hb13x0x81x1 : Obj := ⟨(.type "range_iterator"), none, (.fields (Array.mk [(.int 917617 0), (.int 15 0), (.int 1 0)])), (Array.mk [])⟩
noncomputable def hb13x0x82x0 : Obj := ⟨(.type "list"), none, .seq (Array.mk (up 82 917536 397)) 84, (Array.mk [])⟩
noncomputable def hb13x0x82x1 : Obj := ⟨(.type "range_iterator"), none, (.fields (Array.mk [(.int 917618 0), (.int 14 0), (.int 1 0)])), (Array.mk [])⟩
noncomputable def hb13x0x83x0 : Obj := ⟨(.type "list"), none, .seq (Array.mk (up 83 917536 397)) 85, (Array.mk [])⟩
noncomputable def hb13x0x83x1 : Obj := ⟨(.type "range_iterator"), none, (.fields (Array.mk [(.int 917619 0), (.int 13 0), (.int 1 0)])), (Array.mk [])⟩
noncomputable def hb13x0x84x0 : Obj := ⟨(.type "list"), none, .seq (Array.mk (up 84 917536 397)) 86, (Array.mk [])⟩
noncomputable def hb13x0x84x1 : Obj := ⟨(.type "range_iterator"), none, (.fields (Array.mk [(.int 917620 0), (.int 12 0), (.int 1 0)])), (Array.mk [])⟩
noncomputable def hb13x0x85x0 : Obj := ⟨(.type "list"), none, .seq (Array.mk (up 85 917536 397)) 87, (Array.mk [])⟩
noncomputable def hb13x0x85x1 : Obj := ⟨(.type "range_iterator"), none, (.fields (Array.mk [(.int 917621 0), (.int 11 0), (.int 1 0)])), (Array.mk [])⟩
noncomputable def hb13x0x86x0 : Obj := ⟨(.type "list"), none, .seq (Array.mk (up 86 917536 397)) 88, (Array.mk [])⟩
noncomputable def hb13x0x86x1 : Obj := ⟨(.type "range_iterator"), none, (.fields (Array.mk [(.int 917622 0), (.int 10 0), (.int 1 0)])), (Array.mk [])⟩
noncomputable def hb13x0x87x0 : Obj := ⟨(.type "list"), none, .seq (Array.mk (up 87 917536 397)) 89, (Array.mk [])⟩
noncomputable def hb13x0x87x1 : Obj := ⟨(.type "range_iterator"), none, (.fields (Array.mk [(.int 917623 0), (.int 9 0), (.int 1 0)])), (Array.mk [])⟩
noncomputable def hb13x0x88x0 : Obj := ⟨(.type "list"), none, .seq (Array.mk (up 88 917536 397)) 90, (Array.mk [])⟩
noncomputable def hb13x0x88x1 : Obj := ⟨(.type "range_iterator"), none, (.fields (Array.mk [(.int 917624 0), (.int 8 0), (.int 1 0)])), (Array.mk [])⟩
noncomputable def hb13x0x89x0 : Obj := ⟨(.type "list"), none, .seq (Array.mk (up 89 917536 397)) 91, (Array.mk [])⟩
noncomputable def hb13x0x89x1 : Obj := ⟨(.type "range_iterator"), none, (.fields (Array.mk [(.int 917625 0), (.int 7 0), (.int 1 0)])), (Array.mk [])⟩
noncomputable def hb13x0x90x0 : Obj := ⟨(.type "list"), none, .seq (Array.mk (up 90 917536 397)) 92, (Array.mk [])⟩
noncomputable def hb13x0x90x1 : Obj := ⟨(.type "range_iterator"), none, (.fields (Array.mk [(.int 917626 0), (.int 6 0), (.int 1 0)])), (Array.mk [])⟩
noncomputable def hb13x0x91x0 : Obj := ⟨(.type "list"), none, .seq (Array.mk (up 91 917536 397)) 93, (Array.mk [])⟩
noncomputable def hb13x0x91x1 : Obj := ⟨(.type "range_iterator"), none, (.fields (Array.mk [(.int 917627 0), (.int 5 0), (.int 1 0)])), (Array.mk [])⟩
noncomputable def hb13x0x92x0 : Obj := ⟨(.type "list"), none, .seq (Array.mk (up 92 917536 397)) 94, (Array.mk [])⟩
noncomputable def hb13x0x92x1 : Obj := ⟨(.type "range_iterator"), none, (.fields (Array.mk [(.int 917628 0), (.int 4 0), (.int 1 0)])), (Array.mk [])⟩
noncomputable def hb13x0x93x0 : Obj := ⟨(.type "list"), none, .seq (Array.mk (up 93 917536 397)) 95, (Array.mk [])⟩
noncomputable def hb13x0x93x1 : Obj := ⟨(.type "range_iterator"), none, (.fields (Array.mk [(.int 917629 0), (.int 3 0), (.int 1 0)])), (Array.mk [])⟩
noncomputable def hb13x0x94x0 : Obj := ⟨(.type "list"), none, .seq (Array.mk (up 94 917536 397)) 96, (Array.mk [])⟩
noncomputable def hb13x0x94x1 : Obj := ⟨(.type "range_iterator"), none, (.fields (Array.mk [(.int 917630 0), (.int 2 0), (.int 1 0)])), (Array.mk [])⟩
noncomputable def hb13x0x95x0 : Obj := ⟨(.type "list"), none, .seq (Array.mk (up 95 917536 397)) 97, (Array.mk [])⟩
noncomputable def hb13x0x95x1 : Obj := ⟨(.type "range_iterator"), none, (.fields (Array.mk [(.int 917631 0), (.int 1 0), (.int 1 0)])), (Array.mk [])⟩
noncomputable def hb13x0x96x0 : Obj := ⟨(.type "list"), none, .seq (Array.mk (up 96 917536 397)) 98, (Array.mk [])⟩
noncomputable def hb13x0x96x1 : Obj := ⟨(.type "range_iterator"), none, (.fields (Array.mk [(.int 917632 0), (.int 0 0), (.int 1 0)])), (Array.mk [])⟩
noncomputable def stk13x0 (sg : SG) (dn : DN) (tb : String → Option Builtin) (p : Program) (w : World) (os : OsState) : List Frame := stkOf (sg tb p w 11 ann 1 87 (SharedT.mk (T13 p w.params) 102 lf (Array.mk []) dr 391 os) (piecesOf [stm p 13] (env p) (cE p) ⟨54, 0, 55, 30⟩ B0))
theorem segA13x0 : ∀ (w : World) (os : OsState), goT w 87 (SharedT.mk (T13 PySem.Challenge.pw_mq0100_01 w.params) 102 lf (Array.mk []) dr 391 os) (piecesOf [stm PySem.Challenge.pw_mq0100_01 13] (env PySem.Challenge.pw_mq0100_01) (cE PySem.Challenge.pw_mq0100_01) ⟨54, 0, 55, 30⟩ B0) = some ((SharedT.mk (TL13x0 PySem.Challenge.pw_mq0100_01 w.params hb13x0x0x0 hb13x0x0x1) 106 lf (Array.mk []) dr 397 os), ⟨denote treeTable cd13x0, cd13x0, ⟨56, 24, 56, 51⟩, stk13x0 @segGoT @denote treeTable PySem.Challenge.pw_mq0100_01 w os⟩) := by
  refine byRow2 "special-get-raises" ?_ ?_ <;> (intro w os; unfold goT; rewrite [PySem.W.Fast.te10295753902157049106, PySem.W.Fast.te11892475500146522536, PySem.W.Fast.te14364793385576792824, PySem.W.Fast.te7261500446525621778]; kernel_rfl)
theorem okA13x0 : ∀ (w : World) (os : OsState), okStk (stk13x0 @segGoT @denote treeTable PySem.Challenge.pw_mq0100_01 w os) = true := by
  refine byRow2 "special-get-raises" ?_ ?_ <;> (intro w os; rewrite [PySem.W.Fast.te10295753902157049106, PySem.W.Fast.te11892475500146522536, PySem.W.Fast.te14364793385576792824, PySem.W.Fast.te7261500446525621778]; kernel_rfl)
theorem it13x0x0 : Turn TL13x0 106 cd13x0 ⟨56, 24, 56, 51⟩ 17 hb13x0x0x0 hb13x0x0x1 397 hb13x0x1x0 hb13x0x1x1 398 := by exact turn_pl (by unfold TurnG; intros; kernel_rfl)
theorem it13x0x1 : Turn TL13x0 106 cd13x0 ⟨56, 24, 56, 51⟩ 17 hb13x0x1x0 hb13x0x1x1 398 hb13x0x2x0 hb13x0x2x1 399 := by exact turn_pl (by unfold TurnG; intros; kernel_rfl)
theorem it13x0x2 : Turn TL13x0 106 cd13x0 ⟨56, 24, 56, 51⟩ 17 hb13x0x2x0 hb13x0x2x1 399 hb13x0x3x0 hb13x0x3x1 400 := by exact turn_pl (by unfold TurnG; intros; kernel_rfl)
theorem it13x0x3 : Turn TL13x0 106 cd13x0 ⟨56, 24, 56, 51⟩ 17 hb13x0x3x0 hb13x0x3x1 400 hb13x0x4x0 hb13x0x4x1 401 := by exact turn_pl (by unfold TurnG; intros; kernel_rfl)
theorem it13x0x4 : Turn TL13x0 106 cd13x0 ⟨56, 24, 56, 51⟩ 17 hb13x0x4x0 hb13x0x4x1 401 hb13x0x5x0 hb13x0x5x1 402 := by exact turn_pl (by unfold TurnG; intros; kernel_rfl)
theorem it13x0x5 : Turn TL13x0 106 cd13x0 ⟨56, 24, 56, 51⟩ 17 hb13x0x5x0 hb13x0x5x1 402 hb13x0x6x0 hb13x0x6x1 403 := by exact turn_pl (by unfold TurnG; intros; kernel_rfl)
theorem it13x0x6 : Turn TL13x0 106 cd13x0 ⟨56, 24, 56, 51⟩ 17 hb13x0x6x0 hb13x0x6x1 403 hb13x0x7x0 hb13x0x7x1 404 := by exact turn_pl (by unfold TurnG; intros; kernel_rfl)
theorem it13x0x7 : Turn TL13x0 106 cd13x0 ⟨56, 24, 56, 51⟩ 17 hb13x0x7x0 hb13x0x7x1 404 hb13x0x8x0 hb13x0x8x1 405 := by exact turn_pl (by unfold TurnG; intros; kernel_rfl)
theorem it13x0x8 : Turn TL13x0 106 cd13x0 ⟨56, 24, 56, 51⟩ 17 hb13x0x8x0 hb13x0x8x1 405 hb13x0x9x0 hb13x0x9x1 406 := by exact turn_pl (by unfold TurnG; intros; kernel_rfl)
theorem it13x0x9 : Turn TL13x0 106 cd13x0 ⟨56, 24, 56, 51⟩ 17 hb13x0x9x0 hb13x0x9x1 406 hb13x0x10x0 hb13x0x10x1 407 := by exact turn_pl (by unfold TurnG; intros; kernel_rfl)
theorem it13x0x10 : Turn TL13x0 106 cd13x0 ⟨56, 24, 56, 51⟩ 17 hb13x0x10x0 hb13x0x10x1 407 hb13x0x11x0 hb13x0x11x1 408 := by exact turn_pl (by unfold TurnG; intros; kernel_rfl)
theorem it13x0x11 : Turn TL13x0 106 cd13x0 ⟨56, 24, 56, 51⟩ 17 hb13x0x11x0 hb13x0x11x1 408 hb13x0x12x0 hb13x0x12x1 409 := by exact turn_pl (by unfold TurnG; intros; kernel_rfl)
theorem it13x0x12 : Turn TL13x0 106 cd13x0 ⟨56, 24, 56, 51⟩ 17 hb13x0x12x0 hb13x0x12x1 409 hb13x0x13x0 hb13x0x13x1 410 := by exact turn_pl (by unfold TurnG; intros; kernel_rfl)
theorem it13x0x13 : Turn TL13x0 106 cd13x0 ⟨56, 24, 56, 51⟩ 17 hb13x0x13x0 hb13x0x13x1 410 hb13x0x14x0 hb13x0x14x1 411 := by exact turn_pl (by unfold TurnG; intros; kernel_rfl)
theorem it13x0x14 : Turn TL13x0 106 cd13x0 ⟨56, 24, 56, 51⟩ 17 hb13x0x14x0 hb13x0x14x1 411 hb13x0x15x0 hb13x0x15x1 412 := by exact turn_pl (by unfold TurnG; intros; kernel_rfl)
theorem it13x0x15 : Turn TL13x0 106 cd13x0 ⟨56, 24, 56, 51⟩ 17 hb13x0x15x0 hb13x0x15x1 412 hb13x0x16x0 hb13x0x16x1 413 := by exact turn_pl (by unfold TurnG; intros; kernel_rfl)
theorem it13x0x16 : Turn TL13x0 106 cd13x0 ⟨56, 24, 56, 51⟩ 17 hb13x0x16x0 hb13x0x16x1 413 hb13x0x17x0 hb13x0x17x1 414 := by exact turn_pl (by unfold TurnG; intros; kernel_rfl)
theorem it13x0x17 : Turn TL13x0 106 cd13x0 ⟨56, 24, 56, 51⟩ 17 hb13x0x17x0 hb13x0x17x1 414 hb13x0x18x0 hb13x0x18x1 415 := by exact turn_pl (by unfold TurnG; intros; kernel_rfl)
theorem it13x0x18 : Turn TL13x0 106 cd13x0 ⟨56, 24, 56, 51⟩ 17 hb13x0x18x0 hb13x0x18x1 415 hb13x0x19x0 hb13x0x19x1 416 := by exact turn_pl (by unfold TurnG; intros; kernel_rfl)
theorem it13x0x19 : Turn TL13x0 106 cd13x0 ⟨56, 24, 56, 51⟩ 17 hb13x0x19x0 hb13x0x19x1 416 hb13x0x20x0 hb13x0x20x1 417 := by exact turn_pl (by unfold TurnG; intros; kernel_rfl)
theorem it13x0x20 : Turn TL13x0 106 cd13x0 ⟨56, 24, 56, 51⟩ 17 hb13x0x20x0 hb13x0x20x1 417 hb13x0x21x0 hb13x0x21x1 418 := by exact turn_pl (by unfold TurnG; intros; kernel_rfl)
theorem it13x0x21 : Turn TL13x0 106 cd13x0 ⟨56, 24, 56, 51⟩ 17 hb13x0x21x0 hb13x0x21x1 418 hb13x0x22x0 hb13x0x22x1 419 := by exact turn_pl (by unfold TurnG; intros; kernel_rfl)
theorem it13x0x22 : Turn TL13x0 106 cd13x0 ⟨56, 24, 56, 51⟩ 17 hb13x0x22x0 hb13x0x22x1 419 hb13x0x23x0 hb13x0x23x1 420 := by exact turn_pl (by unfold TurnG; intros; kernel_rfl)
theorem it13x0x23 : Turn TL13x0 106 cd13x0 ⟨56, 24, 56, 51⟩ 17 hb13x0x23x0 hb13x0x23x1 420 hb13x0x24x0 hb13x0x24x1 421 := by exact turn_pl (by unfold TurnG; intros; kernel_rfl)
theorem it13x0x24 : Turn TL13x0 106 cd13x0 ⟨56, 24, 56, 51⟩ 17 hb13x0x24x0 hb13x0x24x1 421 hb13x0x25x0 hb13x0x25x1 422 := by exact turn_pl (by unfold TurnG; intros; kernel_rfl)
theorem it13x0x25 : Turn TL13x0 106 cd13x0 ⟨56, 24, 56, 51⟩ 17 hb13x0x25x0 hb13x0x25x1 422 hb13x0x26x0 hb13x0x26x1 423 := by exact turn_pl (by unfold TurnG; intros; kernel_rfl)
theorem it13x0x26 : Turn TL13x0 106 cd13x0 ⟨56, 24, 56, 51⟩ 17 hb13x0x26x0 hb13x0x26x1 423 hb13x0x27x0 hb13x0x27x1 424 := by exact turn_pl (by unfold TurnG; intros; kernel_rfl)
theorem it13x0x27 : Turn TL13x0 106 cd13x0 ⟨56, 24, 56, 51⟩ 17 hb13x0x27x0 hb13x0x27x1 424 hb13x0x28x0 hb13x0x28x1 425 := by exact turn_pl (by unfold TurnG; intros; kernel_rfl)
theorem it13x0x28 : Turn TL13x0 106 cd13x0 ⟨56, 24, 56, 51⟩ 17 hb13x0x28x0 hb13x0x28x1 425 hb13x0x29x0 hb13x0x29x1 426 := by exact turn_pl (by unfold TurnG; intros; kernel_rfl)
theorem it13x0x29 : Turn TL13x0 106 cd13x0 ⟨56, 24, 56, 51⟩ 17 hb13x0x29x0 hb13x0x29x1 426 hb13x0x30x0 hb13x0x30x1 427 := by exact turn_pl (by unfold TurnG; intros; kernel_rfl)
theorem it13x0x30 : Turn TL13x0 106 cd13x0 ⟨56, 24, 56, 51⟩ 17 hb13x0x30x0 hb13x0x30x1 427 hb13x0x31x0 hb13x0x31x1 428 := by exact turn_pl (by unfold TurnG; intros; kernel_rfl)
theorem it13x0x31 : Turn TL13x0 106 cd13x0 ⟨56, 24, 56, 51⟩ 17 hb13x0x31x0 hb13x0x31x1 428 hb13x0x32x0 hb13x0x32x1 429 := by exact turn_pl (by unfold TurnG; intros; kernel_rfl)
theorem it13x0x32 : Turn TL13x0 106 cd13x0 ⟨56, 24, 56, 51⟩ 17 hb13x0x32x0 hb13x0x32x1 429 hb13x0x33x0 hb13x0x33x1 430 := by exact turn_pl (by unfold TurnG; intros; kernel_rfl)
theorem it13x0x33 : Turn TL13x0 106 cd13x0 ⟨56, 24, 56, 51⟩ 17 hb13x0x33x0 hb13x0x33x1 430 hb13x0x34x0 hb13x0x34x1 431 := by exact turn_pl (by unfold TurnG; intros; kernel_rfl)
theorem it13x0x34 : Turn TL13x0 106 cd13x0 ⟨56, 24, 56, 51⟩ 17 hb13x0x34x0 hb13x0x34x1 431 hb13x0x35x0 hb13x0x35x1 432 := by exact turn_pl (by unfold TurnG; intros; kernel_rfl)
theorem it13x0x35 : Turn TL13x0 106 cd13x0 ⟨56, 24, 56, 51⟩ 17 hb13x0x35x0 hb13x0x35x1 432 hb13x0x36x0 hb13x0x36x1 433 := by exact turn_pl (by unfold TurnG; intros; kernel_rfl)
theorem it13x0x36 : Turn TL13x0 106 cd13x0 ⟨56, 24, 56, 51⟩ 17 hb13x0x36x0 hb13x0x36x1 433 hb13x0x37x0 hb13x0x37x1 434 := by exact turn_pl (by unfold TurnG; intros; kernel_rfl)
theorem it13x0x37 : Turn TL13x0 106 cd13x0 ⟨56, 24, 56, 51⟩ 17 hb13x0x37x0 hb13x0x37x1 434 hb13x0x38x0 hb13x0x38x1 435 := by exact turn_pl (by unfold TurnG; intros; kernel_rfl)
theorem it13x0x38 : Turn TL13x0 106 cd13x0 ⟨56, 24, 56, 51⟩ 17 hb13x0x38x0 hb13x0x38x1 435 hb13x0x39x0 hb13x0x39x1 436 := by exact turn_pl (by unfold TurnG; intros; kernel_rfl)
theorem it13x0x39 : Turn TL13x0 106 cd13x0 ⟨56, 24, 56, 51⟩ 17 hb13x0x39x0 hb13x0x39x1 436 hb13x0x40x0 hb13x0x40x1 437 := by exact turn_pl (by unfold TurnG; intros; kernel_rfl)
theorem it13x0x40 : Turn TL13x0 106 cd13x0 ⟨56, 24, 56, 51⟩ 17 hb13x0x40x0 hb13x0x40x1 437 hb13x0x41x0 hb13x0x41x1 438 := by exact turn_pl (by unfold TurnG; intros; kernel_rfl)
theorem it13x0x41 : Turn TL13x0 106 cd13x0 ⟨56, 24, 56, 51⟩ 17 hb13x0x41x0 hb13x0x41x1 438 hb13x0x42x0 hb13x0x42x1 439 := by exact turn_pl (by unfold TurnG; intros; kernel_rfl)
theorem it13x0x42 : Turn TL13x0 106 cd13x0 ⟨56, 24, 56, 51⟩ 17 hb13x0x42x0 hb13x0x42x1 439 hb13x0x43x0 hb13x0x43x1 440 := by exact turn_pl (by unfold TurnG; intros; kernel_rfl)
theorem it13x0x43 : Turn TL13x0 106 cd13x0 ⟨56, 24, 56, 51⟩ 17 hb13x0x43x0 hb13x0x43x1 440 hb13x0x44x0 hb13x0x44x1 441 := by exact turn_pl (by unfold TurnG; intros; kernel_rfl)
theorem it13x0x44 : Turn TL13x0 106 cd13x0 ⟨56, 24, 56, 51⟩ 17 hb13x0x44x0 hb13x0x44x1 441 hb13x0x45x0 hb13x0x45x1 442 := by exact turn_pl (by unfold TurnG; intros; kernel_rfl)
theorem it13x0x45 : Turn TL13x0 106 cd13x0 ⟨56, 24, 56, 51⟩ 17 hb13x0x45x0 hb13x0x45x1 442 hb13x0x46x0 hb13x0x46x1 443 := by exact turn_pl (by unfold TurnG; intros; kernel_rfl)
theorem it13x0x46 : Turn TL13x0 106 cd13x0 ⟨56, 24, 56, 51⟩ 17 hb13x0x46x0 hb13x0x46x1 443 hb13x0x47x0 hb13x0x47x1 444 := by exact turn_pl (by unfold TurnG; intros; kernel_rfl)
theorem it13x0x47 : Turn TL13x0 106 cd13x0 ⟨56, 24, 56, 51⟩ 17 hb13x0x47x0 hb13x0x47x1 444 hb13x0x48x0 hb13x0x48x1 445 := by exact turn_pl (by unfold TurnG; intros; kernel_rfl)
theorem it13x0x48 : Turn TL13x0 106 cd13x0 ⟨56, 24, 56, 51⟩ 17 hb13x0x48x0 hb13x0x48x1 445 hb13x0x49x0 hb13x0x49x1 446 := by exact turn_pl (by unfold TurnG; intros; kernel_rfl)
theorem it13x0x49 : Turn TL13x0 106 cd13x0 ⟨56, 24, 56, 51⟩ 17 hb13x0x49x0 hb13x0x49x1 446 hb13x0x50x0 hb13x0x50x1 447 := by exact turn_pl (by unfold TurnG; intros; kernel_rfl)
theorem it13x0x50 : Turn TL13x0 106 cd13x0 ⟨56, 24, 56, 51⟩ 17 hb13x0x50x0 hb13x0x50x1 447 hb13x0x51x0 hb13x0x51x1 448 := by exact turn_pl (by unfold TurnG; intros; kernel_rfl)
theorem it13x0x51 : Turn TL13x0 106 cd13x0 ⟨56, 24, 56, 51⟩ 17 hb13x0x51x0 hb13x0x51x1 448 hb13x0x52x0 hb13x0x52x1 449 := by exact turn_pl (by unfold TurnG; intros; kernel_rfl)
theorem it13x0x52 : Turn TL13x0 106 cd13x0 ⟨56, 24, 56, 51⟩ 17 hb13x0x52x0 hb13x0x52x1 449 hb13x0x53x0 hb13x0x53x1 450 := by exact turn_pl (by unfold TurnG; intros; kernel_rfl)
theorem it13x0x53 : Turn TL13x0 106 cd13x0 ⟨56, 24, 56, 51⟩ 17 hb13x0x53x0 hb13x0x53x1 450 hb13x0x54x0 hb13x0x54x1 451 := by exact turn_pl (by unfold TurnG; intros; kernel_rfl)
theorem it13x0x54 : Turn TL13x0 106 cd13x0 ⟨56, 24, 56, 51⟩ 17 hb13x0x54x0 hb13x0x54x1 451 hb13x0x55x0 hb13x0x55x1 452 := by exact turn_pl (by unfold TurnG; intros; kernel_rfl)
theorem it13x0x55 : Turn TL13x0 106 cd13x0 ⟨56, 24, 56, 51⟩ 17 hb13x0x55x0 hb13x0x55x1 452 hb13x0x56x0 hb13x0x56x1 453 := by exact turn_pl (by unfold TurnG; intros; kernel_rfl)
theorem it13x0x56 : Turn TL13x0 106 cd13x0 ⟨56, 24, 56, 51⟩ 17 hb13x0x56x0 hb13x0x56x1 453 hb13x0x57x0 hb13x0x57x1 454 := by exact turn_pl (by unfold TurnG; intros; kernel_rfl)
theorem it13x0x57 : Turn TL13x0 106 cd13x0 ⟨56, 24, 56, 51⟩ 17 hb13x0x57x0 hb13x0x57x1 454 hb13x0x58x0 hb13x0x58x1 455 := by exact turn_pl (by unfold TurnG; intros; kernel_rfl)
theorem it13x0x58 : Turn TL13x0 106 cd13x0 ⟨56, 24, 56, 51⟩ 17 hb13x0x58x0 hb13x0x58x1 455 hb13x0x59x0 hb13x0x59x1 456 := by exact turn_pl (by unfold TurnG; intros; kernel_rfl)
theorem it13x0x59 : Turn TL13x0 106 cd13x0 ⟨56, 24, 56, 51⟩ 17 hb13x0x59x0 hb13x0x59x1 456 hb13x0x60x0 hb13x0x60x1 457 := by exact turn_pl (by unfold TurnG; intros; kernel_rfl)
theorem it13x0x60 : Turn TL13x0 106 cd13x0 ⟨56, 24, 56, 51⟩ 17 hb13x0x60x0 hb13x0x60x1 457 hb13x0x61x0 hb13x0x61x1 458 := by exact turn_pl (by unfold TurnG; intros; kernel_rfl)
theorem it13x0x61 : Turn TL13x0 106 cd13x0 ⟨56, 24, 56, 51⟩ 17 hb13x0x61x0 hb13x0x61x1 458 hb13x0x62x0 hb13x0x62x1 459 := by exact turn_pl (by unfold TurnG; intros; kernel_rfl)
theorem it13x0x62 : Turn TL13x0 106 cd13x0 ⟨56, 24, 56, 51⟩ 17 hb13x0x62x0 hb13x0x62x1 459 hb13x0x63x0 hb13x0x63x1 460 := by exact turn_pl (by unfold TurnG; intros; kernel_rfl)
theorem it13x0x63 : Turn TL13x0 106 cd13x0 ⟨56, 24, 56, 51⟩ 17 hb13x0x63x0 hb13x0x63x1 460 hb13x0x64x0 hb13x0x64x1 461 := by exact turn_pl (by unfold TurnG; intros; kernel_rfl)
theorem it13x0x64 : Turn TL13x0 106 cd13x0 ⟨56, 24, 56, 51⟩ 17 hb13x0x64x0 hb13x0x64x1 461 hb13x0x65x0 hb13x0x65x1 462 := by exact turn_pl (by unfold TurnG; intros; kernel_rfl)
theorem it13x0x65 : Turn TL13x0 106 cd13x0 ⟨56, 24, 56, 51⟩ 17 hb13x0x65x0 hb13x0x65x1 462 hb13x0x66x0 hb13x0x66x1 463 := by exact turn_pl (by unfold TurnG; intros; kernel_rfl)
theorem it13x0x66 : Turn TL13x0 106 cd13x0 ⟨56, 24, 56, 51⟩ 17 hb13x0x66x0 hb13x0x66x1 463 hb13x0x67x0 hb13x0x67x1 464 := by exact turn_pl (by unfold TurnG; intros; kernel_rfl)
theorem it13x0x67 : Turn TL13x0 106 cd13x0 ⟨56, 24, 56, 51⟩ 17 hb13x0x67x0 hb13x0x67x1 464 hb13x0x68x0 hb13x0x68x1 465 := by exact turn_pl (by unfold TurnG; intros; kernel_rfl)
theorem it13x0x68 : Turn TL13x0 106 cd13x0 ⟨56, 24, 56, 51⟩ 17 hb13x0x68x0 hb13x0x68x1 465 hb13x0x69x0 hb13x0x69x1 466 := by exact turn_pl (by unfold TurnG; intros; kernel_rfl)
theorem it13x0x69 : Turn TL13x0 106 cd13x0 ⟨56, 24, 56, 51⟩ 17 hb13x0x69x0 hb13x0x69x1 466 hb13x0x70x0 hb13x0x70x1 467 := by exact turn_pl (by unfold TurnG; intros; kernel_rfl)
theorem it13x0x70 : Turn TL13x0 106 cd13x0 ⟨56, 24, 56, 51⟩ 17 hb13x0x70x0 hb13x0x70x1 467 hb13x0x71x0 hb13x0x71x1 468 := by exact turn_pl (by unfold TurnG; intros; kernel_rfl)
theorem it13x0x71 : Turn TL13x0 106 cd13x0 ⟨56, 24, 56, 51⟩ 17 hb13x0x71x0 hb13x0x71x1 468 hb13x0x72x0 hb13x0x72x1 469 := by exact turn_pl (by unfold TurnG; intros; kernel_rfl)
theorem it13x0x72 : Turn TL13x0 106 cd13x0 ⟨56, 24, 56, 51⟩ 17 hb13x0x72x0 hb13x0x72x1 469 hb13x0x73x0 hb13x0x73x1 470 := by exact turn_pl (by unfold TurnG; intros; kernel_rfl)
theorem it13x0x73 : Turn TL13x0 106 cd13x0 ⟨56, 24, 56, 51⟩ 17 hb13x0x73x0 hb13x0x73x1 470 hb13x0x74x0 hb13x0x74x1 471 := by exact turn_pl (by unfold TurnG; intros; kernel_rfl)
theorem it13x0x74 : Turn TL13x0 106 cd13x0 ⟨56, 24, 56, 51⟩ 17 hb13x0x74x0 hb13x0x74x1 471 hb13x0x75x0 hb13x0x75x1 472 := by exact turn_pl (by unfold TurnG; intros; kernel_rfl)
theorem it13x0x75 : Turn TL13x0 106 cd13x0 ⟨56, 24, 56, 51⟩ 17 hb13x0x75x0 hb13x0x75x1 472 hb13x0x76x0 hb13x0x76x1 473 := by exact turn_pl (by unfold TurnG; intros; kernel_rfl)
theorem it13x0x76 : Turn TL13x0 106 cd13x0 ⟨56, 24, 56, 51⟩ 17 hb13x0x76x0 hb13x0x76x1 473 hb13x0x77x0 hb13x0x77x1 474 := by exact turn_pl (by unfold TurnG; intros; kernel_rfl)
theorem it13x0x77 : Turn TL13x0 106 cd13x0 ⟨56, 24, 56, 51⟩ 17 hb13x0x77x0 hb13x0x77x1 474 hb13x0x78x0 hb13x0x78x1 475 := by exact turn_pl (by unfold TurnG; intros; kernel_rfl)
theorem it13x0x78 : Turn TL13x0 106 cd13x0 ⟨56, 24, 56, 51⟩ 17 hb13x0x78x0 hb13x0x78x1 475 hb13x0x79x0 hb13x0x79x1 476 := by exact turn_pl (by unfold TurnG; intros; kernel_rfl)
theorem it13x0x79 : Turn TL13x0 106 cd13x0 ⟨56, 24, 56, 51⟩ 17 hb13x0x79x0 hb13x0x79x1 476 hb13x0x80x0 hb13x0x80x1 477 := by exact turn_pl (by unfold TurnG; intros; kernel_rfl)
theorem it13x0x80 : Turn TL13x0 106 cd13x0 ⟨56, 24, 56, 51⟩ 17 hb13x0x80x0 hb13x0x80x1 477 hb13x0x81x0 hb13x0x81x1 478 := by exact turn_pl (by unfold TurnG; intros; kernel_rfl)
theorem it13x0x81 : Turn TL13x0 106 cd13x0 ⟨56, 24, 56, 51⟩ 17 hb13x0x81x0 hb13x0x81x1 478 hb13x0x82x0 hb13x0x82x1 479 := by exact turn_pl (by unfold TurnG; intros; kernel_rfl)
theorem it13x0x82 : Turn TL13x0 106 cd13x0 ⟨56, 24, 56, 51⟩ 17 hb13x0x82x0 hb13x0x82x1 479 hb13x0x83x0 hb13x0x83x1 480 := by exact turn_pl (by unfold TurnG; intros; kernel_rfl)
theorem it13x0x83 : Turn TL13x0 106 cd13x0 ⟨56, 24, 56, 51⟩ 17 hb13x0x83x0 hb13x0x83x1 480 hb13x0x84x0 hb13x0x84x1 481 := by exact turn_pl (by unfold TurnG; intros; kernel_rfl)
theorem it13x0x84 : Turn TL13x0 106 cd13x0 ⟨56, 24, 56, 51⟩ 17 hb13x0x84x0 hb13x0x84x1 481 hb13x0x85x0 hb13x0x85x1 482 := by exact turn_pl (by unfold TurnG; intros; kernel_rfl)
theorem it13x0x85 : Turn TL13x0 106 cd13x0 ⟨56, 24, 56, 51⟩ 17 hb13x0x85x0 hb13x0x85x1 482 hb13x0x86x0 hb13x0x86x1 483 := by exact turn_pl (by unfold TurnG; intros; kernel_rfl)
theorem it13x0x86 : Turn TL13x0 106 cd13x0 ⟨56, 24, 56, 51⟩ 17 hb13x0x86x0 hb13x0x86x1 483 hb13x0x87x0 hb13x0x87x1 484 := by exact turn_pl (by unfold TurnG; intros; kernel_rfl)
theorem it13x0x87 : Turn TL13x0 106 cd13x0 ⟨56, 24, 56, 51⟩ 17 hb13x0x87x0 hb13x0x87x1 484 hb13x0x88x0 hb13x0x88x1 485 := by exact turn_pl (by unfold TurnG; intros; kernel_rfl)
theorem it13x0x88 : Turn TL13x0 106 cd13x0 ⟨56, 24, 56, 51⟩ 17 hb13x0x88x0 hb13x0x88x1 485 hb13x0x89x0 hb13x0x89x1 486 := by exact turn_pl (by unfold TurnG; intros; kernel_rfl)
theorem it13x0x89 : Turn TL13x0 106 cd13x0 ⟨56, 24, 56, 51⟩ 17 hb13x0x89x0 hb13x0x89x1 486 hb13x0x90x0 hb13x0x90x1 487 := by exact turn_pl (by unfold TurnG; intros; kernel_rfl)
theorem it13x0x90 : Turn TL13x0 106 cd13x0 ⟨56, 24, 56, 51⟩ 17 hb13x0x90x0 hb13x0x90x1 487 hb13x0x91x0 hb13x0x91x1 488 := by exact turn_pl (by unfold TurnG; intros; kernel_rfl)
theorem it13x0x91 : Turn TL13x0 106 cd13x0 ⟨56, 24, 56, 51⟩ 17 hb13x0x91x0 hb13x0x91x1 488 hb13x0x92x0 hb13x0x92x1 489 := by exact turn_pl (by unfold TurnG; intros; kernel_rfl)
theorem it13x0x92 : Turn TL13x0 106 cd13x0 ⟨56, 24, 56, 51⟩ 17 hb13x0x92x0 hb13x0x92x1 489 hb13x0x93x0 hb13x0x93x1 490 := by exact turn_pl (by unfold TurnG; intros; kernel_rfl)
theorem it13x0x93 : Turn TL13x0 106 cd13x0 ⟨56, 24, 56, 51⟩ 17 hb13x0x93x0 hb13x0x93x1 490 hb13x0x94x0 hb13x0x94x1 491 := by exact turn_pl (by unfold TurnG; intros; kernel_rfl)
theorem it13x0x94 : Turn TL13x0 106 cd13x0 ⟨56, 24, 56, 51⟩ 17 hb13x0x94x0 hb13x0x94x1 491 hb13x0x95x0 hb13x0x95x1 492 := by exact turn_pl (by unfold TurnG; intros; kernel_rfl)
theorem it13x0x95 : Turn TL13x0 106 cd13x0 ⟨56, 24, 56, 51⟩ 17 hb13x0x95x0 hb13x0x95x1 492 hb13x0x96x0 hb13x0x96x1 493 := by exact turn_pl (by unfold TurnG; intros; kernel_rfl)
theorem loop13x0 : Turn TL13x0 106 cd13x0 ⟨56, 24, 56, 51⟩ 1632 hb13x0x0x0 hb13x0x0x1 397 hb13x0x96x0 hb13x0x96x1 493 := (it13x0x0).trans ((it13x0x1).trans ((it13x0x2).trans ((it13x0x3).trans ((it13x0x4).trans ((it13x0x5).trans ((it13x0x6).trans ((it13x0x7).trans ((it13x0x8).trans ((it13x0x9).trans ((it13x0x10).trans ((it13x0x11).trans ((it13x0x12).trans ((it13x0x13).trans ((it13x0x14).trans ((it13x0x15).trans ((it13x0x16).trans ((it13x0x17).trans ((it13x0x18).trans ((it13x0x19).trans ((it13x0x20).trans ((it13x0x21).trans ((it13x0x22).trans ((it13x0x23).trans ((it13x0x24).trans ((it13x0x25).trans ((it13x0x26).trans ((it13x0x27).trans ((it13x0x28).trans ((it13x0x29).trans ((it13x0x30).trans ((it13x0x31).trans ((it13x0x32).trans ((it13x0x33).trans ((it13x0x34).trans ((it13x0x35).trans ((it13x0x36).trans ((it13x0x37).trans ((it13x0x38).trans ((it13x0x39).trans ((it13x0x40).trans ((it13x0x41).trans ((it13x0x42).trans ((it13x0x43).trans ((it13x0x44).trans ((it13x0x45).trans ((it13x0x46).trans ((it13x0x47).trans ((it13x0x48).trans ((it13x0x49).trans ((it13x0x50).trans ((it13x0x51).trans ((it13x0x52).trans ((it13x0x53).trans ((it13x0x54).trans ((it13x0x55).trans ((it13x0x56).trans ((it13x0x57).trans ((it13x0x58).trans ((it13x0x59).trans ((it13x0x60).trans ((it13x0x61).trans ((it13x0x62).trans ((it13x0x63).trans ((it13x0x64).trans ((it13x0x65).trans ((it13x0x66).trans ((it13x0x67).trans ((it13x0x68).trans ((it13x0x69).trans ((it13x0x70).trans ((it13x0x71).trans ((it13x0x72).trans ((it13x0x73).trans ((it13x0x74).trans ((it13x0x75).trans ((it13x0x76).trans ((it13x0x77).trans ((it13x0x78).trans ((it13x0x79).trans ((it13x0x80).trans ((it13x0x81).trans ((it13x0x82).trans ((it13x0x83).trans ((it13x0x84).trans ((it13x0x85).trans ((it13x0x86).trans ((it13x0x87).trans ((it13x0x88).trans ((it13x0x89).trans ((it13x0x90).trans ((it13x0x91).trans ((it13x0x92).trans ((it13x0x93).trans ((it13x0x94).trans (it13x0x95)))))))))))))))))))))))))))))))))))))))))))))))))))))))))))))))))))))))))))))))))))))))))))))))
noncomputable def ob104v107 (p : Program) (P : Params) : Obj := ⟨(.type "list"), none, .seq (Array.mk (up 96 917536 397)) 98, (Array.mk [])⟩
noncomputable def ob105v108 (p : Program) (P : Params) : Obj := ⟨(.type "range_iterator"), none, (.fields (Array.mk [(.int 917632 0), (.int 0 0), (.int 1 0)])), (Array.mk [])⟩
noncomputable def ob106v109 (p : Program) (P : Params) : Obj := ⟨(.type "tuple"), none, (.seq (Array.mk []) 0), (Array.mk [])⟩
noncomputable def ob107v110 (p : Program) (P : Params) : Obj := ⟨(.type "StopIteration"), none, (.fields (Array.mk [(.ref 106), .none, .none, .none, (.bool false), .none])), (Array.mk [])⟩
noncomputable def ob108v111 (p : Program) (P : Params) : Obj := ⟨(.type "list"), none, (.seq (Array.mk [(.int 917505 391), (.int 917536 397), (.int 917537 398), (.int 917538 399), (.int 917539 400), (.int 917540 401), (.int 917541 402), (.int 917542 403), (.int 917543 404), (.int 917544 405), (.int 917545 406), (.int 917546 407), (.int 917547 408), (.int 917548 409), (.int 917549 410), (.int 917550 411), (.int 917551 412), (.int 917552 413), (.int 917553 414), (.int 917554 415), (.int 917555 416), (.int 917556 417), (.int 917557 418), (.int 917558 419), (.int 917559 420), (.int 917560 421), (.int 917561 422), (.int 917562 423), (.int 917563 424), (.int 917564 425), (.int 917565 426), (.int 917566 427), (.int 917567 428), (.int 917568 429), (.int 917569 430), (.int 917570 431), (.int 917571 432), (.int 917572 433), (.int 917573 434), (.int 917574 435), (.int 917575 436), (.int 917576 437), (.int 917577 438), (.int 917578 439), (.int 917579 440), (.int 917580 441), (.int 917581 442), (.int 917582 443), (.int 917583 444), (.int 917584 445), (.int 917585 446), (.int 917586 447), (.int 917587 448), (.int 917588 449), (.int 917589 450), (.int 917590 451), (.int 917591 452), (.int 917592 453), (.int 917593 454), (.int 917594 455), (.int 917595 456), (.int 917596 457), (.int 917597 458), (.int 917598 459), (.int 917599 460), (.int 917600 461), (.int 917601 462), (.int 917602 463), (.int 917603 464), (.int 917604 465), (.int 917605 466), (.int 917606 467), (.int 917607 468), (.int 917608 469), (.int 917609 470), (.int 917610 471), (.int 917611 472), (.int 917612 473), (.int 917613 474), (.int 917614 475), (.int 917615 476), (.int 917616 477), (.int 917617 478), (.int 917618 479), (.int 917619 480), (.int 917620 481), (.int 917621 482), (.int 917622 483), (.int 917623 484), (.int 917624 485), (.int 917625 486), (.int 917626 487), (.int 917627 488), (.int 917628 489), (.int 917629 490), (.int 917630 491), (.int 917631 492)]) 0), (Array.mk [])⟩
noncomputable def TL13x1 (p : Program) (P : Params) (h0 : Obj) (h1 : Obj) : BT := (.node (boot_o_0 P) (.node (boot_o_1 P) (.node (ob3v96 p P) (.node (boot_o_7 P) (.node (ob15v6 p P) (.node (ob31v23 p P) (.node (ob63v60 p P) .nil .nil) (.node (ob95v98 p P) .nil .nil)) (.node (ob47v41 p P) (.node (ob79v79 p P) .nil .nil) .nil)) (.node (ob23v14 p P) (.node (ob39v33 p P) (.node (ob71v71 p P) .nil .nil) (.node (ob103v106 p P) .nil .nil)) (.node (ob55v50 p P) (.node (ob87v87 p P) .nil .nil) .nil))) (.node (ob11v0 p P) (.node (ob19v10 p P) (.node (ob35v29 p P) (.node (ob67v65 p P) .nil .nil) (.node (ob99v102 p P) .nil .nil)) (.node (ob51v45 p P) (.node (ob83v83 p P) .nil .nil) .nil)) (.node (ob27v18 p P) (.node (ob43v37 p P) (.node (ob75v75 p P) .nil .nil) (.node (ob107v110 p P) .nil .nil)) (.node (ob59v56 p P) (.node (ob91v92 p P) .nil .nil) .nil)))) (.node (boot_o_5 P) (.node (boot_o_9 P) (.node (ob17v8 p P) (.node (ob33v27 p P) (.node (ob65v62 p P) .nil .nil) (.node (ob97v100 p P) .nil .nil)) (.node (ob49v43 p P) (.node (ob81v81 p P) .nil .nil) .nil)) (.node (ob25v16 p P) (.node (ob41v35 p P) (.node (ob73v73 p P) .nil .nil) (.node (ob105v108 p P) .nil .nil)) (.node (ob57v52 p P) (.node (ob89v89 p P) .nil .nil) .nil))) (.node (ob13v2 p P) (.node (ob21v12 p P) (.node (ob37v31 p P) (.node (ob69v67 p P) .nil .nil) (.node (ob101v104 p P) .nil .nil)) (.node (ob53v47 p P) (.node (ob85v85 p P) .nil .nil) .nil)) (.node (ob29v21 p P) (.node (ob45v39 p P) (.node (ob77v77 p P) .nil .nil) (.node h0 .nil .nil)) (.node (ob61v58 p P) (.node (ob93v94 p P) .nil .nil) .nil))))) (.node (boot_o_2 P) (.node (boot_o_4 P) (.node (boot_o_8 P) (.node (ob16v7 p P) (.node (ob32v24 p P) (.node (ob64v61 p P) .nil .nil) (.node (ob96v99 p P) .nil .nil)) (.node (ob48v42 p P) (.node (ob80v80 p P) .nil .nil) .nil)) (.node (ob24v15 p P) (.node (ob40v34 p P) (.node (ob72v72 p P) .nil .nil) (.node (ob104v107 p P) .nil .nil)) (.node (ob56v51 p P) (.node (ob88v88 p P) .nil .nil) .nil))) (.node (ob12v97 p P) (.node (ob20v11 p P) (.node (ob36v30 p P) (.node (ob68v66 p P) .nil .nil) (.node (ob100v103 p P) .nil .nil)) (.node (ob52v46 p P) (.node (ob84v84 p P) .nil .nil) .nil)) (.node (ob28v19 p P) (.node (ob44v38 p P) (.node (ob76v76 p P) .nil .nil) (.node (ob108v111 p P) .nil .nil)) (.node (ob60v57 p P) (.node (ob92v93 p P) .nil .nil) .nil)))) (.node (boot_o_6 P) (.node (boot_o_10 P) (.node (ob18v9 p P) (.node (ob34v28 p P) (.node (ob66v63 p P) .nil .nil) (.node (ob98v101 p P) .nil .nil)) (.node (ob50v44 p P) (.node (ob82v82 p P) .nil .nil) .nil)) (.node (ob26v17 p P) (.node (ob42v36 p P) (.node (ob74v74 p P) .nil .nil) (.node (ob106v109 p P) .nil .nil)) (.node (ob58v53 p P) (.node (ob90v90 p P) .nil .nil) .nil))) (.node (ob14v3 p P) (.node (ob22v13 p P) (.node (ob38v32 p P) (.node (ob70v68 p P) .nil .nil) (.node (ob102v105 p P) .nil .nil)) (.node (ob54v48 p P) (.node (ob86v86 p P) .nil .nil) .nil)) (.node (ob30v22 p P) (.node (ob46v40 p P) (.node (ob78v78 p P) .nil .nil) (.node h1 .nil .nil)) (.node (ob62v59 p P) (.node (ob94v95 p P) .nil .nil) .nil))))))
noncomputable def cd13x1 : Code := (Code.builtin "set.update.loop" ⟨[(.ref 109), (.ref 110)], []⟩)
noncomputable def hb13x1x0x0 (b : Bool) : Obj := (setO [] 0 7 [] 0 b)
noncomputable def hb13x1x0x1 : Obj := ⟨(.type "list_iterator"), none, (.fields (Array.mk [(.ref 108), (.int 0 0)])), (Array.mk [])⟩
noncomputable def hb13x1x1x0 (b : Bool) : Obj := (setO [(917505, 391)] 1 7 [1] 0 b)
noncomputable def hb13x1x1x1 : Obj := ⟨(.type "list_iterator"), none, (.fields (Array.mk [(.ref 108), (.int 1 0)])), (Array.mk [])⟩
noncomputable def hb13x1x2x0 (b : Bool) : Obj := (setO [(917536, 397), (917505, 391)] 2 7 [0, 1] 0 b)
noncomputable def hb13x1x2x1 : Obj := ⟨(.type "list_iterator"), none, (.fields (Array.mk [(.ref 108), (.int 2 0)])), (Array.mk [])⟩
noncomputable def hb13x1x3x0 (b : Bool) : Obj := (setO [(917536, 397), (917505, 391), (917537, 398)] 3 7 [0, 1, 7] 0 b)
noncomputable def hb13x1x3x1 : Obj := ⟨(.type "list_iterator"), none, (.fields (Array.mk [(.ref 108), (.int 3 0)])), (Array.mk [])⟩
noncomputable def hb13x1x4x0 (b : Bool) : Obj := (setO [(917536, 397), (917505, 391), (917538, 399), (917537, 398)] 4 7 [0, 1, 2, 7] 0 b)
noncomputable def hb13x1x4x1 : Obj := ⟨(.type "list_iterator"), none, (.fields (Array.mk [(.ref 108), (.int 4 0)])), (Array.mk [])⟩
noncomputable def hb13x1x5x0 (b : Bool) : Obj := (setO [(917536, 397), (917505, 391), (917538, 399), (917539, 400), (917537, 398)] 6 31 [0, 1, 2, 3, 4] 1 b)
noncomputable def hb13x1x5x1 : Obj := ⟨(.type "list_iterator"), none, (.fields (Array.mk [(.ref 108), (.int 5 0)])), (Array.mk [])⟩
noncomputable def hb13x1x6x0 (b : Bool) : Obj := (setO [(917536, 397), (917505, 391), (917538, 399), (917539, 400), (917537, 398), (917540, 401)] 7 31 [0, 1, 2, 3, 4, 5] 1 b)
noncomputable def hb13x1x6x1 : Obj := ⟨(.type "list_iterator"), none, (.fields (Array.mk [(.ref 108), (.int 6 0)])), (Array.mk [])⟩
noncomputable def hb13x1x7x0 (b : Bool) : Obj := (setO [(917536, 397), (917505, 391), (917538, 399), (917539, 400), (917537, 398), (917540, 401), (917541, 402)] 8 31 [0, 1, 2, 3, 4, 5, 6] 1 b)
noncomputable def hb13x1x7x1 : Obj := ⟨(.type "list_iterator"), none, (.fields (Array.mk [(.ref 108), (.int 7 0)])), (Array.mk [])⟩
noncomputable def hb13x1x8x0 (b : Bool) : Obj := (setO [(917536, 397), (917505, 391), (917538, 399), (917539, 400), (917537, 398), (917540, 401), (917541, 402), (917542, 403)] 9 31 [0, 1, 2, 3, 4, 5, 6, 7] 1 b)
noncomputable def hb13x1x8x1 : Obj := ⟨(.type "list_iterator"), none, (.fields (Array.mk [(.ref 108), (.int 8 0)])), (Array.mk [])⟩
noncomputable def hb13x1x9x0 (b : Bool) : Obj := (setO [(917536, 397), (917505, 391), (917538, 399), (917539, 400), (917537, 398), (917540, 401), (917541, 402), (917542, 403), (917543, 404)] 10 31 [0, 1, 2, 3, 4, 5, 6, 7, 8] 1 b)
noncomputable def hb13x1x9x1 : Obj := ⟨(.type "list_iterator"), none, (.fields (Array.mk [(.ref 108), (.int 9 0)])), (Array.mk [])⟩
noncomputable def hb13x1x10x0 (b : Bool) : Obj := (setO [(917536, 397), (917505, 391), (917538, 399), (917539, 400), (917537, 398), (917540, 401), (917541, 402), (917542, 403), (917543, 404), (917544, 405)] 11 31 [0, 1, 2, 3, 4, 5, 6, 7, 8, 9] 1 b)
noncomputable def hb13x1x10x1 : Obj := ⟨(.type "list_iterator"), none, (.fields (Array.mk [(.ref 108), (.int 10 0)])), (Array.mk [])⟩
noncomputable def hb13x1x11x0 (b : Bool) : Obj := (setO [(917536, 397), (917505, 391), (917538, 399), (917539, 400), (917537, 398), (917540, 401), (917541, 402), (917542, 403), (917543, 404), (917544, 405), (917545, 406)] 12 31 [0, 1, 2, 3, 4, 5, 6, 7, 8, 9, 10] 1 b)
noncomputable def hb13x1x11x1 : Obj := ⟨(.type "list_iterator"), none, (.fields (Array.mk [(.ref 108), (.int 11 0)])), (Array.mk [])⟩
noncomputable def hb13x1x12x0 (b : Bool) : Obj := (setO [(917536, 397), (917505, 391), (917538, 399), (917539, 400), (917537, 398), (917540, 401), (917541, 402), (917542, 403), (917543, 404), (917544, 405), (917545, 406), (917546, 407)] 13 31 [0, 1, 2, 3, 4, 5, 6, 7, 8, 9, 10, 11] 1 b)
noncomputable def hb13x1x12x1 : Obj := ⟨(.type "list_iterator"), none, (.fields (Array.mk [(.ref 108), (.int 12 0)])), (Array.mk [])⟩
noncomputable def hb13x1x13x0 (b : Bool) : Obj := (setO [(917536, 397), (917505, 391), (917538, 399), (917539, 400), (917537, 398), (917540, 401), (917541, 402), (917542, 403), (917543, 404), (917544, 405), (917545, 406), (917546, 407), (917547, 408)] 14 31 [0, 1, 2, 3, 4, 5, 6, 7, 8, 9, 10, 11, 12] 1 b)
noncomputable def hb13x1x13x1 : Obj := ⟨(.type "list_iterator"), none, (.fields (Array.mk [(.ref 108), (.int 13 0)])), (Array.mk [])⟩
noncomputable def hb13x1x14x0 (b : Bool) : Obj := (setO [(917536, 397), (917505, 391), (917538, 399), (917539, 400), (917537, 398), (917540, 401), (917541, 402), (917542, 403), (917543, 404), (917544, 405), (917545, 406), (917546, 407), (917547, 408), (917548, 409)] 15 31 [0, 1, 2, 3, 4, 5, 6, 7, 8, 9, 10, 11, 12, 13] 1 b)
noncomputable def hb13x1x14x1 : Obj := ⟨(.type "list_iterator"), none, (.fields (Array.mk [(.ref 108), (.int 14 0)])), (Array.mk [])⟩
noncomputable def hb13x1x15x0 (b : Bool) : Obj := (setO [(917536, 397), (917505, 391), (917538, 399), (917539, 400), (917537, 398), (917540, 401), (917541, 402), (917542, 403), (917543, 404), (917544, 405), (917545, 406), (917546, 407), (917547, 408), (917548, 409), (917549, 410)] 16 31 [0, 1, 2, 3, 4, 5, 6, 7, 8, 9, 10, 11, 12, 13, 14] 1 b)
noncomputable def hb13x1x15x1 : Obj := ⟨(.type "list_iterator"), none, (.fields (Array.mk [(.ref 108), (.int 15 0)])), (Array.mk [])⟩
noncomputable def hb13x1x16x0 (b : Bool) : Obj := (setO [(917536, 397), (917505, 391), (917538, 399), (917539, 400), (917537, 398), (917540, 401), (917541, 402), (917542, 403), (917543, 404), (917544, 405), (917545, 406), (917546, 407), (917547, 408), (917548, 409), (917549, 410), (917550, 411)] 17 31 [0, 1, 2, 3, 4, 5, 6, 7, 8, 9, 10, 11, 12, 13, 14, 15] 1 b)
noncomputable def hb13x1x16x1 : Obj := ⟨(.type "list_iterator"), none, (.fields (Array.mk [(.ref 108), (.int 16 0)])), (Array.mk [])⟩
noncomputable def hb13x1x17x0 (b : Bool) : Obj := (setO [(917536, 397), (917505, 391), (917538, 399), (917539, 400), (917537, 398), (917540, 401), (917541, 402), (917542, 403), (917543, 404), (917544, 405), (917545, 406), (917546, 407), (917547, 408), (917548, 409), (917549, 410), (917550, 411), (917551, 412)] 18 31 [0, 1, 2, 3, 4, 5, 6, 7, 8, 9, 10, 11, 12, 13, 14, 15, 16] 1 b)
noncomputable def hb13x1x17x1 : Obj := ⟨(.type "list_iterator"), none, (.fields (Array.mk [(.ref 108), (.int 17 0)])), (Array.mk [])⟩
noncomputable def hb13x1x18x0 (b : Bool) : Obj := (setO [(917536, 397), (917505, 391), (917538, 399), (917539, 400), (917537, 398), (917540, 401), (917541, 402), (917542, 403), (917543, 404), (917544, 405), (917545, 406), (917546, 407), (917547, 408), (917548, 409), (917549, 410), (917550, 411), (917551, 412), (917552, 413)] 19 31 [0, 1, 2, 3, 4, 5, 6, 7, 8, 9, 10, 11, 12, 13, 14, 15, 16, 17] 1 b)
noncomputable def hb13x1x18x1 : Obj := ⟨(.type "list_iterator"), none, (.fields (Array.mk [(.ref 108), (.int 18 0)])), (Array.mk [])⟩
noncomputable def hb13x1x19x0 (b : Bool) : Obj := (setO [(917505, 391), (917536, 397), (917537, 398), (917538, 399), (917539, 400), (917540, 401), (917541, 402), (917542, 403), (917543, 404), (917544, 405), (917545, 406), (917546, 407), (917547, 408), (917548, 409), (917549, 410), (917550, 411), (917551, 412), (917552, 413), (917553, 414)] 21 127 [1, 32, 33, 34, 35, 36, 37, 38, 39, 40, 41, 42, 43, 44, 45, 46, 47, 48, 49] 2 b)
noncomputable def hb13x1x19x1 : Obj := ⟨(.type "list_iterator"), none, (.fields (Array.mk [(.ref 108), (.int 19 0)])), (Array.mk [])⟩
noncomputable def hb13x1x20x0 (b : Bool) : Obj := (setO [(917505, 391), (917536, 397), (917537, 398), (917538, 399), (917539, 400), (917540, 401), (917541, 402), (917542, 403), (917543, 404), (917544, 405), (917545, 406), (917546, 407), (917547, 408), (917548, 409), (917549, 410), (917550, 411), (917551, 412), (917552, 413), (917553, 414), (917554, 415)] 22 127 [1, 32, 33, 34, 35, 36, 37, 38, 39, 40, 41, 42, 43, 44, 45, 46, 47, 48, 49, 50] 2 b)
noncomputable def hb13x1x20x1 : Obj := ⟨(.type "list_iterator"), none, (.fields (Array.mk [(.ref 108), (.int 20 0)])), (Array.mk [])⟩
noncomputable def hb13x1x21x0 (b : Bool) : Obj := (setO [(917505, 391), (917536, 397), (917537, 398), (917538, 399), (917539, 400), (917540, 401), (917541, 402), (917542, 403), (917543, 404), (917544, 405), (917545, 406), (917546, 407), (917547, 408), (917548, 409), (917549, 410), (917550, 411), (917551, 412), (917552, 413), (917553, 414), (917554, 415), (917555, 416)] 23 127 [1, 32, 33, 34, 35, 36, 37, 38, 39, 40, 41, 42, 43, 44, 45, 46, 47, 48, 49, 50, 51] 2 b)
noncomputable def hb13x1x21x1 : Obj := ⟨(.type "list_iterator"), none, (.fields (Array.mk [(.ref 108), (.int 21 0)])), (Array.mk [])⟩
noncomputable def hb13x1x22x0 (b : Bool) : Obj := (setO [(917505, 391), (917536, 397), (917537, 398), (917538, 399), (917539, 400), (917540, 401), (917541, 402), (917542, 403), (917543, 404), (917544, 405), (917545, 406), (917546, 407), (917547, 408), (917548, 409), (917549, 410), (917550, 411), (917551, 412), (917552, 413), (917553, 414), (917554, 415), (917555, 416), (917556, 417)] 24 127 [1, 32, 33, 34, 35, 36, 37, 38, 39, 40, 41, 42, 43, 44, 45, 46, 47, 48, 49, 50, 51, 52] 2 b)
noncomputable def hb13x1x22x1 : Obj := ⟨(.type "list_iterator"), none, (.fields (Array.mk [(.ref 108), (.int 22 0)])), (Array.mk [])⟩
noncomputable def hb13x1x23x0 (b : Bool) : Obj := (setO [(917505, 391), (917536, 397), (917537, 398), (917538, 399), (917539, 400), (917540, 401), (917541, 402), (917542, 403), (917543, 404), (917544, 405), (917545, 406), (917546, 407), (917547, 408), (917548, 409), (917549, 410), (917550, 411), (917551, 412), (917552, 413), (917553, 414), (917554, 415), (917555, 416), (917556, 417), (917557, 418)] 25 127 [1, 32, 33, 34, 35, 36, 37, 38, 39, 40, 41, 42, 43, 44, 45, 46, 47, 48, 49, 50, 51, 52, 53] 2 b)
noncomputable def hb13x1x23x1 : Obj := ⟨(.type "list_iterator"), none, (.fields (Array.mk [(.ref 108), (.int 23 0)])), (Array.mk [])⟩
noncomputable def hb13x1x24x0 (b : Bool) : Obj := (setO [(917505, 391), (917536, 397), (917537, 398), (917538, 399), (917539, 400), (917540, 401), (917541, 402), (917542, 403), (917543, 404), (917544, 405), (917545, 406), (917546, 407), (917547, 408), (917548, 409), (917549, 410), (917550, 411), (917551, 412), (917552, 413), (917553, 414), (917554, 415), (917555, 416), (917556, 417), (917557, 418), (917558, 419)] 26 127 [1, 32, 33, 34, 35, 36, 37, 38, 39, 40, 41, 42, 43, 44, 45, 46, 47, 48, 49, 50, 51, 52, 53, 54] 2 b)
noncomputable def hb13x1x24x1 : Obj := ⟨(.type "list_iterator"), none, (.fields (Array.mk [(.ref 108), (.int 24 0)])), (Array.mk [])⟩
noncomputable def hb13x1x25x0 (b : Bool) : Obj := (setO [(917505, 391), (917536, 397), (917537, 398), (917538, 399), (917539, 400), (917540, 401), (917541, 402), (917542, 403), (917543, 404), (917544, 405), (917545, 406), (917546, 407), (917547, 408), (917548, 409), (917549, 410), (917550, 411), (917551, 412), (917552, 413), (917553, 414), (917554, 415), (917555, 416), (917556, 417), (917557, 418), (917558, 419), (917559, 420)] 27 127 [1, 32, 33, 34, 35, 36, 37, 38, 39, 40, 41, 42, 43, 44, 45, 46, 47, 48, 49, 50, 51, 52, 53, 54, 55] 2 b)
noncomputable def hb13x1x25x1 : Obj := ⟨(.type "list_iterator"), none, (.fields (Array.mk [(.ref 108), (.int 25 0)])), (Array.mk [])⟩
noncomputable def hb13x1x26x0 (b : Bool) : Obj := (setO [(917505, 391), (917536, 397), (917537, 398), (917538, 399), (917539, 400), (917540, 401), (917541, 402), (917542, 403), (917543, 404), (917544, 405), (917545, 406), (917546, 407), (917547, 408), (917548, 409), (917549, 410), (917550, 411), (917551, 412), (917552, 413), (917553, 414), (917554, 415), (917555, 416), (917556, 417), (917557, 418), (917558, 419), (917559, 420), (917560, 421)] 28 127 [1, 32, 33, 34, 35, 36, 37, 38, 39, 40, 41, 42, 43, 44, 45, 46, 47, 48, 49, 50, 51, 52, 53, 54, 55, 56] 2 b)
noncomputable def hb13x1x26x1 : Obj := ⟨(.type "list_iterator"), none, (.fields (Array.mk [(.ref 108), (.int 26 0)])), (Array.mk [])⟩
noncomputable def hb13x1x27x0 (b : Bool) : Obj := (setO [(917505, 391), (917536, 397), (917537, 398), (917538, 399), (917539, 400), (917540, 401), (917541, 402), (917542, 403), (917543, 404), (917544, 405), (917545, 406), (917546, 407), (917547, 408), (917548, 409), (917549, 410), (917550, 411), (917551, 412), (917552, 413), (917553, 414), (917554, 415), (917555, 416), (917556, 417), (917557, 418), (917558, 419), (917559, 420), (917560, 421), (917561, 422)] 29 127 [1, 32, 33, 34, 35, 36, 37, 38, 39, 40, 41, 42, 43, 44, 45, 46, 47, 48, 49, 50, 51, 52, 53, 54, 55, 56, 57] 2 b)
noncomputable def hb13x1x27x1 : Obj := ⟨(.type "list_iterator"), none, (.fields (Array.mk [(.ref 108), (.int 27 0)])), (Array.mk [])⟩
noncomputable def hb13x1x28x0 (b : Bool) : Obj := (setO [(917505, 391), (917536, 397), (917537, 398), (917538, 399), (917539, 400), (917540, 401), (917541, 402), (917542, 403), (917543, 404), (917544, 405), (917545, 406), (917546, 407), (917547, 408), (917548, 409), (917549, 410), (917550, 411), (917551, 412), (917552, 413), (917553, 414), (917554, 415), (917555, 416), (917556, 417), (917557, 418), (917558, 419), (917559, 420), (917560, 421), (917561, 422), (917562, 423)] 30 127 [1, 32, 33, 34, 35, 36, 37, 38, 39, 40, 41, 42, 43, 44, 45, 46, 47, 48, 49, 50, 51, 52, 53, 54, 55, 56, 57, 58] 2 b)
noncomputable def hb13x1x28x1 : Obj := ⟨(.type "list_iterator"), none, (.fields (Array.mk [(.ref 108), (.int 28 0)])), (Array.mk [])⟩
noncomputable def hb13x1x29x0 (b : Bool) : Obj := (setO [(917505, 391), (917536, 397), (917537, 398), (917538, 399), (917539, 400), (917540, 401), (917541, 402), (917542, 403), (917543, 404), (917544, 405), (917545, 406), (917546, 407), (917547, 408), (917548, 409), (917549, 410), (917550, 411), (917551, 412), (917552, 413), (917553, 414), (917554, 415), (917555, 416), (917556, 417), (917557, 418), (917558, 419), (917559, 420), (917560, 421), (917561, 422), (917562, 423), (917563, 424)] 31 127 [1, 32, 33, 34, 35, 36, 37, 38, 39, 40, 41, 42, 43, 44, 45, 46, 47, 48, 49, 50, 51, 52, 53, 54, 55, 56, 57, 58, 59] 2 b)
noncomputable def hb13x1x29x1 : Obj := ⟨(.type "list_iterator"), none, (.fields (Array.mk [(.ref 108), (.int 29 0)])), (Array.mk [])⟩
noncomputable def hb13x1x30x0 (b : Bool) : Obj := (setO [(917505, 391), (917536, 397), (917537, 398), (917538, 399), (917539, 400), (917540, 401), (917541, 402), (917542, 403), (917543, 404), (917544, 405), (917545, 406), (917546, 407), (917547, 408), (917548, 409), (917549, 410), (917550, 411), (917551, 412), (917552, 413), (917553, 414), (917554, 415), (917555, 416), (917556, 417), (917557, 418), (917558, 419), (917559, 420), (917560, 421), (917561, 422), (917562, 423), (917563, 424), (917564, 425)] 32 127 [1, 32, 33, 34, 35, 36, 37, 38, 39, 40, 41, 42, 43, 44, 45, 46, 47, 48, 49, 50, 51, 52, 53, 54, 55, 56, 57, 58, 59, 60] 2 b)
noncomputable def hb13x1x30x1 : Obj := ⟨(.type "list_iterator"), none, (.fields (Array.mk [(.ref 108), (.int 30 0)])), (Array.mk [])⟩
noncomputable def hb13x1x31x0 (b : Bool) : Obj := (setO [(917505, 391), (917536, 397), (917537, 398), (917538, 399), (917539, 400), (917540, 401), (917541, 402), (917542, 403), (917543, 404), (917544, 405), (917545, 406), (917546, 407), (917547, 408), (917548, 409), (917549, 410), (917550, 411), (917551, 412), (917552, 413), (917553, 414), (917554, 415), (917555, 416), (917556, 417), (917557, 418), (917558, 419), (917559, 420), (917560, 421), (917561, 422), (917562, 423), (917563, 424), (917564, 425), (917565, 426)] 33 127 [1, 32, 33, 34, 35, 36, 37, 38, 39, 40, 41, 42, 43, 44, 45, 46, 47, 48, 49, 50, 51, 52, 53, 54, 55, 56, 57, 58, 59, 60, 61] 2 b)
noncomputable def hb13x1x31x1 : Obj := ⟨(.type "list_iterator"), none, (.fields (Array.mk [(.ref 108), (.int 31 0)])), (Array.mk [])⟩
noncomputable def hb13x1x32x0 (b : Bool) : Obj := (setO [(917505, 391), (917536, 397), (917537, 398), (917538, 399), (917539, 400), (917540, 401), (917541, 402), (917542, 403), (917543, 404), (917544, 405), (917545, 406), (917546, 407), (917547, 408), (917548, 409), (917549, 410), (917550, 411), (917551, 412), (917552, 413), (917553, 414), (917554, 415), (917555, 416), (917556, 417), (917557, 418), (917558, 419), (917559, 420), (917560, 421), (917561, 422), (917562, 423), (917563, 424), (917564, 425), (917565, 426), (917566, 427)] 34 127 [1, 32, 33, 34, 35, 36, 37, 38, 39, 40, 41, 42, 43, 44, 45, 46, 47, 48, 49, 50, 51, 52, 53, 54, 55, 56, 57, 58, 59, 60, 61, 62] 2 b)
noncomputable def hb13x1x32x1 : Obj := ⟨(.type "list_iterator"), none, (.fields (Array.mk [(.ref 108), (.int 32 0)])), (Array.mk [])⟩
noncomputable def hb13x1x33x0 (b : Bool) : Obj := (setO [(917505, 391), (917536, 397), (917537, 398), (917538, 399), (917539, 400), (917540, 401), (917541, 402), (917542, 403), (917543, 404), (917544, 405), (917545, 406), (917546, 407), (917547, 408), (917548, 409), (917549, 410), (917550, 411), (917551, 412), (917552, 413), (917553, 414), (917554, 415), (917555, 416), (917556, 417), (917557, 418), (917558, 419), (917559, 420), (917560, 421), (917561, 422), (917562, 423), (917563, 424), (917564, 425), (917565, 426), (917566, 427), (917567, 428)] 35 127 [1, 32, 33, 34, 35, 36, 37, 38, 39, 40, 41, 42, 43, 44, 45, 46, 47, 48, 49, 50, 51, 52, 53, 54, 55, 56, 57, 58, 59, 60, 61, 62, 63] 2 b)
noncomputable def hb13x1x33x1 : Obj := ⟨(.type "list_iterator"), none, (.fields (Array.mk [(.ref 108), (.int 33 0)])), (Array.mk [])⟩
noncomputable def hb13x1x34x0 (b : Bool) : Obj := (setO [(917505, 391), (917536, 397), (917537, 398), (917538, 399), (917539, 400), (917540, 401), (917541, 402), (917542, 403), (917543, 404), (917544, 405), (917545, 406), (917546, 407), (917547, 408), (917548, 409), (917549, 410), (917550, 411), (917551, 412), (917552, 413), (917553, 414), (917554, 415), (917555, 416), (917556, 417), (917557, 418), (917558, 419), (917559, 420), (917560, 421), (917561, 422), (917562, 423), (917563, 424), (917564, 425), (917565, 426), (917566, 427), (917567, 428), (917568, 429)] 36 127 [1, 32, 33, 34, 35, 36, 37, 38, 39, 40, 41, 42, 43, 44, 45, 46, 47, 48, 49, 50, 51, 52, 53, 54, 55, 56, 57, 58, 59, 60, 61, 62, 63, 64] 2 b)
noncomputable def hb13x1x34x1 : Obj := ⟨(.type "list_iterator"), none, (.fields (Array.mk [(.ref 108), (.int 34 0)])), (Array.mk [])⟩
noncomputable def hb13x1x35x0 (b : Bool) : Obj := (setO [(917505, 391), (917536, 397), (917537, 398), (917538, 399), (917539, 400), (917540, 401), (917541, 402), (917542, 403), (917543, 404), (917544, 405), (917545, 406), (917546, 407), (917547, 408), (917548, 409), (917549, 410), (917550, 411), (917551, 412), (917552, 413), (917553, 414), (917554, 415), (917555, 416), (917556, 417), (917557, 418), (917558, 419), (917559, 420), (917560, 421), (917561, 422), (917562, 423), (917563, 424), (917564, 425), (917565, 426), (917566, 427), (917567, 428), (917568, 429), (917569, 430)] 37 127 [1, 32, 33, 34, 35, 36, 37, 38, 39, 40, 41, 42, 43, 44, 45, 46, 47, 48, 49, 50, 51, 52, 53, 54, 55, 56, 57, 58, 59, 60, 61, 62, 63, 64, 65] 2 b)
noncomputable def hb13x1x35x1 : Obj := ⟨(.type "list_iterator"), none, (.fields (Array.mk [(.ref 108), (.int 35 0)])), (Array.mk [])⟩
noncomputable def hb13x1x36x0 (b : Bool) : Obj := (setO [(917505, 391), (917536, 397), (917537, 398), (917538, 399), (917539, 400), (917540, 401), (917541, 402), (917542, 403), (917543, 404), (917544, 405), (917545, 406), (917546, 407), (917547, 408), (917548, 409), (917549, 410), (917550, 411), (917551, 412), (917552, 413), (917553, 414), (917554, 415), (917555, 416), (917556, 417), (917557, 418), (917558, 419), (917559, 420), (917560, 421), (917561, 422), (917562, 423), (917563, 424), (917564, 425), (917565, 426), (917566, 427), (917567, 428), (917568, 429), (917569, 430), (917570, 431)] 38 127 [1, 32, 33, 34, 35, 36, 37, 38, 39, 40, 41, 42, 43, 44, 45, 46, 47, 48, 49, 50, 51, 52, 53, 54, 55, 56, 57, 58, 59, 60, 61, 62, 63, 64, 65, 66] 2 b)
noncomputable def hb13x1x36x1 : Obj := ⟨(.type "list_iterator"), none, (.fields (Array.mk [(.ref 108), (.int 36 0)])), (Array.mk [])⟩
noncomputable def hb13x1x37x0 (b : Bool) : Obj := (setO [(917505, 391), (917536, 397), (917537, 398), (917538, 399), (917539, 400), (917540, 401), (917541, 402), (917542, 403), (917543, 404), (917544, 405), (917545, 406), (917546, 407), (917547, 408), (917548, 409), (917549, 410), (917550, 411), (917551, 412), (917552, 413), (917553, 414), (917554, 415), (917555, 416), (917556, 417), (917557, 418), (917558, 419), (917559, 420), (917560, 421), (917561, 422), (917562, 423), (917563, 424), (917564, 425), (917565, 426), (917566, 427), (917567, 428), (917568, 429), (917569, 430), (917570, 431), (917571, 432)] 39 127 [1, 32, 33, 34, 35, 36, 37, 38, 39, 40, 41, 42, 43, 44, 45, 46, 47, 48, 49, 50, 51, 52, 53, 54, 55, 56, 57, 58, 59, 60, 61, 62, 63, 64, 65, 66, 67] 2 b)
noncomputable def hb13x1x37x1 : Obj := ⟨(.type "list_iterator"), none, (.fields (Array.mk [(.ref 108), (.int 37 0)])), (Array.mk [])⟩
noncomputable def hb13x1x38x0 (b : Bool) : Obj := (setO [(917505, 391), (917536, 397), (917537, 398), (917538, 399), (917539, 400), (917540, 401), (917541, 402), (917542, 403), (917543, 404), (917544, 405), (917545, 406), (917546, 407), (917547, 408), (917548, 409), (917549, 410), (917550, 411), (917551, 412), (917552, 413), (917553, 414), (917554, 415), (917555, 416), (917556, 417), (917557, 418), (917558, 419), (917559, 420), (917560, 421), (917561, 422), (917562, 423), (917563, 424), (917564, 425), (917565, 426), (917566, 427), (917567, 428), (917568, 429), (917569, 430), (917570, 431), (917571, 432), (917572, 433)] 40 127 [1, 32, 33, 34, 35, 36, 37, 38, 39, 40, 41, 42, 43, 44, 45, 46, 47, 48, 49, 50, 51, 52, 53, 54, 55, 56, 57, 58, 59, 60, 61, 62, 63, 64, 65, 66, 67, 68] 2 b)
noncomputable def hb13x1x38x1 : Obj := ⟨(.type "list_iterator"), none, (.fields (Array.mk [(.ref 108), (.int 38 0)])), (Array.mk [])⟩
noncomputable def hb13x1x39x0 (b : Bool) : Obj := (setO [(917505, 391), (917536, 397), (917537, 398), (917538, 399), (917539, 400), (917540, 401), (917541, 402), (917542, 403), (917543, 404), (917544, 405), (917545, 406), (917546, 407), (917547, 408), (917548, 409), (917549, 410), (917550, 411), (917551, 412), (917552, 413), (917553, 414), (917554, 415), (917555, 416), (917556, 417), (917557, 418), (917558, 419), (917559, 420), (917560, 421), (917561, 422), (917562, 423), (917563, 424), (917564, 425), (917565, 426), (917566, 427), (917567, 428), (917568, 429), (917569, 430), (917570, 431), (917571, 432), (917572, 433), (917573, 434)] 41 127 [1, 32, 33, 34, 35, 36, 37, 38, 39, 40, 41, 42, 43, 44, 45, 46, 47, 48, 49, 50, 51, 52, 53, 54, 55, 56, 57, 58, 59, 60, 61, 62, 63, 64, 65, 66, 67, 68, 69] 2 b)
noncomputable def hb13x1x39x1 : Obj := ⟨(.type "list_iterator"), none, (.fields (Array.mk [(.ref 108), (.int 39 0)])), (Array.mk [])⟩
noncomputable def hb13x1x40x0 (b : Bool) : Obj := (setO [(917505, 391), (917536, 397), (917537, 398), (917538, 399), (917539, 400), (917540, 401), (917541, 402), (917542, 403), (917543, 404), (917544, 405), (917545, 406), (917546, 407), (917547, 408), (917548, 409), (917549, 410), (917550, 411), (917551, 412), (917552, 413), (917553, 414), (917554, 415), (917555, 416), (917556, 417), (917557, 418), (917558, 419), (917559, 420), (917560, 421), (917561, 422), (917562, 423), (917563, 424), (917564, 425), (917565, 426), (917566, 427), (917567, 428), (917568, 429), (917569, 430), (917570, 431), (917571, 432), (917572, 433), (917573, 434), (917574, 435)] 42 127 [1, 32, 33, 34, 35, 36, 37, 38, 39, 40, 41, 42, 43, 44, 45, 46, 47, 48, 49, 50, 51, 52, 53, 54, 55, 56, 57, 58, 59, 60, 61, 62, 63, 64, 65, 66, 67, 68, 69, 70] 2 b)
noncomputable def hb13x1x40x1 : Obj := ⟨(.type "list_iterator"), none, (.fields (Array.mk [(.ref 108), (.int 40 0)])), (Array.mk [])⟩
noncomputable def hb13x1x41x0 (b : Bool) : Obj := (setO [(917505, 391), (917536, 397), (917537, 398), (917538, 399), (917539, 400), (917540, 401), (917541, 402), (917542, 403), (917543, 404), (917544, 405), (917545, 406), (917546, 407), (917547, 408), (917548, 409), (917549, 410), (917550, 411), (917551, 412), (917552, 413), (917553, 414), (917554, 415), (917555, 416), (917556, 417), (917557, 418), (917558, 419), (917559, 420), (917560, 421), (917561, 422), (917562, 423), (917563, 424), (917564, 425), (917565, 426), (917566, 427), (917567, 428), (917568, 429), (917569, 430), (917570, 431), (917571, 432), (917572, 433), (917573, 434), (917574, 435), (917575, 436)] 43 127 [1, 32, 33, 34, 35, 36, 37, 38, 39, 40, 41, 42, 43, 44, 45, 46, 47, 48, 49, 50, 51, 52, 53, 54, 55, 56, 57, 58, 59, 60, 61, 62, 63, 64, 65, 66, 67, 68, 69, 70, 71] 2 b)
noncomputable def hb13x1x41x1 : Obj := ⟨(.type "list_iterator"), none, (.fields (Array.mk [(.ref 108), (.int 41 0)])), (Array.mk [])⟩
noncomputable def hb13x1x42x0 (b : Bool) : Obj := (setO [(917505, 391), (917536, 397), (917537, 398), (917538, 399), (917539, 400), (917540, 401), (917541, 402), (917542, 403), (917543, 404), (917544, 405), (917545, 406), (917546, 407), (917547, 408), (917548, 409), (917549, 410), (917550, 411), (917551, 412), (917552, 413), (917553, 414), (917554, 415), (917555, 416), (917556, 417), (917557, 418), (917558, 419), (917559, 420), (917560, 421), (917561, 422), (917562, 423), (917563, 424), (917564, 425), (917565, 426), (917566, 427), (917567, 428), (917568, 429), (917569, 430), (917570, 431), (917571, 432), (917572, 433), (917573, 434), (917574, 435), (917575, 436), (917576, 437)] 44 127 [1, 32, 33, 34, 35, 36, 37, 38, 39, 40, 41, 42, 43, 44, 45, 46, 47, 48, 49, 50, 51, 52, 53, 54, 55, 56, 57, 58, 59, 60, 61, 62, 63, 64, 65, 66, 67, 68, 69, 70, 71, 72] 2 b)
noncomputable def hb13x1x42x1 : Obj := ⟨(.type "list_iterator"), none, (.fields (Array.mk [(.ref 108), (.int 42 0)])), (Array.mk [])⟩
noncomputable def hb13x1x43x0 (b : Bool) : Obj := (setO [(917505, 391), (917536, 397), (917537, 398), (917538, 399), (917539, 400), (917540, 401), (917541, 402), (917542, 403), (917543, 404), (917544, 405), (917545, 406), (917546, 407), (917547, 408), (917548, 409), (917549, 410), (917550, 411), (917551, 412), (917552, 413), (917553, 414), (917554, 415), (917555, 416), (917556, 417), (917557, 418), (917558, 419), (917559, 420), (917560, 421), (917561, 422), (917562, 423), (917563, 424), (917564, 425), (917565, 426), (917566, 427), (917567, 428), (917568, 429), (917569, 430), (917570, 431), (917571, 432), (917572, 433), (917573, 434), (917574, 435), (917575, 436), (917576, 437), (917577, 438)] 45 127 [1, 32, 33, 34, 35, 36, 37, 38, 39, 40, 41, 42, 43, 44, 45, 46, 47, 48, 49, 50, 51, 52, 53, 54, 55, 56, 57, 58, 59, 60, 61, 62, 63, 64, 65, 66, 67, 68, 69, 70, 71, 72, 73] 2 b)
noncomputable def hb13x1x43x1 : Obj := ⟨(.type "list_iterator"), none, (.fields (Array.mk [(.ref 108), (.int 43 0)])), (Array.mk [])⟩
noncomputable def hb13x1x44x0 (b : Bool) : Obj := (setO [(917505, 391), (917536, 397), (917537, 398), (917538, 399), (917539, 400), (917540, 401), (917541, 402), (917542, 403), (917543, 404), (917544, 405), (917545, 406), (917546, 407), (917547, 408), (917548, 409), (917549, 410), (917550, 411), (917551, 412), (917552, 413), (917553, 414), (917554, 415), (917555, 416), (917556, 417), (917557, 418), (917558, 419), (917559, 420), (917560, 421), (917561, 422), (917562, 423), (917563, 424), (917564, 425), (917565, 426), (917566, 427), (917567, 428), (917568, 429), (917569, 430), (917570, 431), (917571, 432), (917572, 433), (917573, 434), (917574, 435), (917575, 436), (917576, 437), (917577, 438), (917578, 439)] 46 127 [1, 32, 33, 34, 35, 36, 37, 38, 39, 40, 41, 42, 43, 44, 45, 46, 47, 48, 49, 50, 51, 52, 53, 54, 55, 56, 57, 58, 59, 60, 61, 62, 63, 64, 65, 66, 67, 68, 69, 70, 71, 72, 73, 74] 2 b)
noncomputable def hb13x1x44x1 : Obj := ⟨(.type "list_iterator"), none, (.fields (Array.mk [(.ref 108), (.int 44 0)])), (Array.mk [])⟩
noncomputable def hb13x1x45x0 (b : Bool) : Obj := (setO [(917505, 391), (917536, 397), (917537, 398), (917538, 399), (917539, 400), (917540, 401), (917541, 402), (917542, 403), (917543, 404), (917544, 405), (917545, 406), (917546, 407), (917547, 408), (917548, 409), (917549, 410), (917550, 411), (917551, 412), (917552, 413), (917553, 414), (917554, 415), (917555, 416), (917556, 417), (917557, 418), (917558, 419), (917559, 420), (917560, 421), (917561, 422), (917562, 423), (917563, 424), (917564, 425), (917565, 426), (917566, 427), (917567, 428), (917568, 429), (917569, 430), (917570, 431), (917571, 432), (917572, 433), (917573, 434), (917574, 435), (917575, 436), (917576, 437), (917577, 438), (917578, 439), (917579, 440)] 47 127 [1, 32, 33, 34, 35, 36, 37, 38, 39, 40, 41, 42, 43, 44, 45, 46, 47, 48, 49, 50, 51, 52, 53, 54, 55, 56, 57, 58, 59, 60, 61, 62, 63, 64, 65, 66, 67, 68, 69, 70, 71, 72, 73, 74, 75] 2 b)
noncomputable def hb13x1x45x1 : Obj := ⟨(.type "list_iterator"), none, (.fields (Array.mk [(.ref 108), (.int 45 0)])), (Array.mk [])⟩
noncomputable def hb13x1x46x0 (b : Bool) : Obj := (setO [(917505, 391), (917536, 397), (917537, 398), (917538, 399), (917539, 400), (917540, 401), (917541, 402), (917542, 403), (917543, 404), (917544, 405), (917545, 406), (917546, 407), (917547, 408), (917548, 409), (917549, 410), (917550, 411), (917551, 412), (917552, 413), (917553, 414), (917554, 415), (917555, 416), (917556, 417), (917557, 418), (917558, 419), (917559, 420), (917560, 421), (917561, 422), (917562, 423), (917563, 424), (917564, 425), (917565, 426), (917566, 427), (917567, 428), (917568, 429), (917569, 430), (917570, 431), (917571, 432), (917572, 433), (917573, 434), (917574, 435), (917575, 436), (917576, 437), (917577, 438), (917578, 439), (917579, 440), (917580, 441)] 48 127 [1, 32, 33, 34, 35, 36, 37, 38, 39, 40, 41, 42, 43, 44, 45, 46, 47, 48, 49, 50, 51, 52, 53, 54, 55, 56, 57, 58, 59, 60, 61, 62, 63, 64, 65, 66, 67, 68, 69, 70, 71, 72, 73, 74, 75, 76] 2 b)
noncomputable def hb13x1x46x1 : Obj := ⟨(.type "list_iterator"), none, (.fields (Array.mk [(.ref 108), (.int 46 0)])), (Array.mk [])⟩
noncomputable def hb13x1x47x0 (b : Bool) : Obj := (setO [(917505, 391), (917536, 397), (917537, 398), (917538, 399), (917539, 400), (917540, 401), (917541, 402), (917542, 403), (917543, 404), (917544, 405), (917545, 406), (917546, 407), (917547, 408), (917548, 409), (917549, 410), (917550, 411), (917551, 412), (917552, 413), (917553, 414), (917554, 415), (917555, 416), (917556, 417), (917557, 418), (917558, 419), (917559, 420), (917560, 421), (917561, 422), (917562, 423), (917563, 424), (917564, 425), (917565, 426), (917566, 427), (917567, 428), (917568, 429), (917569, 430), (917570, 431), (917571, 432), (917572, 433), (917573, 434), (917574, 435), (917575, 436), (917576, 437), (917577, 438), (917578, 439), (917579, 440), (917580, 441), (917581, 442)] 49 127 [1, 32, 33, 34, 35, 36, 37, 38, 39, 40, 41, 42, 43, 44, 45, 46, 47, 48, 49, 50, 51, 52, 53, 54, 55, 56, 57, 58, 59, 60, 61, 62, 63, 64, 65, 66, 67, 68, 69, 70, 71, 72, 73, 74, 75, 76, 77] 2 b)
noncomputable def hb13x1x47x1 : Obj := ⟨(.type "list_iterator"), none, (.fields (Array.mk [(.ref 108), (.int 47 0)])), (Array.mk [])⟩
noncomputable def hb13x1x48x0 (b : Bool) : Obj := (setO [(917505, 391), (917536, 397), (917537, 398), (917538, 399), (917539, 400), (917540, 401), (917541, 402), (917542, 403), (917543, 404), (917544, 405), (917545, 406), (917546, 407), (917547, 408), (917548, 409), (917549, 410), (917550, 411), (917551, 412), (917552, 413), (917553, 414), (917554, 415), (917555, 416), (917556, 417), (917557, 418), (917558, 419), (917559, 420), (917560, 421), (917561, 422), (917562, 423), (917563, 424), (917564, 425), (917565, 426), (917566, 427), (917567, 428), (917568, 429), (917569, 430), (917570, 431), (917571, 432), (917572, 433), (917573, 434), (917574, 435), (917575, 436), (917576, 437), (917577, 438), (917578, 439), (917579, 440), (917580, 441), (917581, 442), (917582, 443)] 50 127 [1, 32, 33, 34, 35, 36, 37, 38, 39, 40, 41, 42, 43, 44, 45, 46, 47, 48, 49, 50, 51, 52, 53, 54, 55, 56, 57, 58, 59, 60, 61, 62, 63, 64, 65, 66, 67, 68, 69, 70, 71, 72, 73, 74, 75, 76, 77, 78] 2 b)
noncomputable def hb13x1x48x1 : Obj := ⟨(.type "list_iterator"), none, (.fields (Array.mk [(.ref 108), (.int 48 0)])), (Array.mk [])⟩
noncomputable def hb13x1x49x0 (b : Bool) : Obj := (setO [(917505, 391), (917536, 397), (917537, 398), (917538, 399), (917539, 400), (917540, 401), (917541, 402), (917542, 403), (917543, 404), (917544, 405), (917545, 406), (917546, 407), (917547, 408), (917548, 409), (917549, 410), (917550, 411), (917551, 412), (917552, 413), (917553, 414), (917554, 415), (917555, 416), (917556, 417), (917557, 418), (917558, 419), (917559, 420), (917560, 421), (917561, 422), (917562, 423), (917563, 424), (917564, 425), (917565, 426), (917566, 427), (917567, 428), (917568, 429), (917569, 430), (917570, 431), (917571, 432), (917572, 433), (917573, 434), (917574, 435), (917575, 436), (917576, 437), (917577, 438), (917578, 439), (917579, 440), (917580, 441), (917581, 442), (917582, 443), (917583, 444)] 51 127 [1, 32, 33, 34, 35, 36, 37, 38, 39, 40, 41, 42, 43, 44, 45, 46, 47, 48, 49, 50, 51, 52, 53, 54, 55, 56, 57, 58, 59, 60, 61, 62, 63, 64, 65, 66, 67, 68, 69, 70, 71, 72, 73, 74, 75, 76, 77, 78, 79] 2 b)
noncomputable def hb13x1x49x1 : Obj := ⟨(.type "list_iterator"), none, (.fields (Array.mk [(.ref 108), (.int 49 0)])), (Array.mk [])⟩
noncomputable def hb13x1x50x0 (b : Bool) : Obj := (setO [(917505, 391), (917536, 397), (917537, 398), (917538, 399), (917539, 400), (917540, 401), (917541, 402), (917542, 403), (917543, 404), (917544, 405), (917545, 406), (917546, 407), (917547, 408), (917548, 409), (917549, 410), (917550, 411), (917551, 412), (917552, 413), (917553, 414), (917554, 415), (917555, 416), (917556, 417), (917557, 418), (917558, 419), (917559, 420), (917560, 421), (917561, 422), (917562, 423), (917563, 424), (917564, 425), (917565, 426), (917566, 427), (917567, 428), (917568, 429), (917569, 430), (917570, 431), (917571, 432), (917572, 433), (917573, 434), (917574, 435), (917575, 436), (917576, 437), (917577, 438), (917578, 439), (917579, 440), (917580, 441), (917581, 442), (917582, 443), (917583, 444), (917584, 445)] 52 127 [1, 32, 33, 34, 35, 36, 37, 38, 39, 40, 41, 42, 43, 44, 45, 46, 47, 48, 49, 50, 51, 52, 53, 54, 55, 56, 57, 58, 59, 60, 61, 62, 63, 64, 65, 66, 67, 68, 69, 70, 71, 72, 73, 74, 75, 76, 77, 78, 79, 80] 2 b)
noncomputable def hb13x1x50x1 : Obj := ⟨(.type "list_iterator"), none, (.fields (Array.mk [(.ref 108), (.int 50 0)])), (Array.mk [])⟩
noncomputable def hb13x1x51x0 (b : Bool) : Obj := (setO [(917505, 391), (917536, 397), (917537, 398), (917538, 399), (917539, 400), (917540, 401), (917541, 402), (917542, 403), (917543, 404), (917544, 405), (917545, 406), (917546, 407), (917547, 408), (917548, 409), (917549, 410), (917550, 411), (917551, 412), (917552, 413), (917553, 414), (917554, 415), (917555, 416), (917556, 417), (917557, 418), (917558, 419), (917559, 420), (917560, 421), (917561, 422), (917562, 423), (917563, 424), (917564, 425), (917565, 426), (917566, 427), (917567, 428), (917568, 429), (917569, 430), (917570, 431), (917571, 432), (917572, 433), (917573, 434), (917574, 435), (917575, 436), (917576, 437), (917577, 438), (917578, 439), (917579, 440), (917580, 441), (917581, 442), (917582, 443), (917583, 444), (917584, 445), (917585, 446)] 53 127 [1, 32, 33, 34, 35, 36, 37, 38, 39, 40, 41, 42, 43, 44, 45, 46, 47, 48, 49, 50, 51, 52, 53, 54, 55, 56, 57, 58, 59, 60, 61, 62, 63, 64, 65, 66, 67, 68, 69, 70, 71, 72, 73, 74, 75, 76, 77, 78, 79, 80, 81] 2 b)
noncomputable def hb13x1x51x1 : Obj := ⟨(.type "list_iterator"), none, (.fields (Array.mk [(.ref 108), (.int 51 0)])), (Array.mk [])⟩
noncomputable def hb13x1x52x0 (b : Bool) : Obj := (setO [(917505, 391), (917536, 397), (917537, 398), (917538, 399), (917539, 400), (917540, 401), (917541, 402), (917542, 403), (917543, 404), (917544, 405), (917545, 406), (917546, 407), (917547, 408), (917548, 409), (917549, 410), (917550, 411), (917551, 412), (917552, 413), (917553, 414), (917554, 415), (917555, 416), (917556, 417), (917557, 418), (917558, 419), (917559, 420), (917560, 421), (917561, 422), (917562, 423), (917563, 424), (917564, 425), (917565, 426), (917566, 427), (917567, 428), (917568, 429), (917569, 430), (917570, 431), (917571, 432), (917572, 433), (917573, 434), (917574, 435), (917575, 436), (917576, 437), (917577, 438), (917578, 439), (917579, 440), (917580, 441), (917581, 442), (917582, 443), (917583, 444), (917584, 445), (917585, 446), (917586, 447)] 54 127 [1, 32, 33, 34, 35, 36, 37, 38, 39, 40, 41, 42, 43, 44, 45, 46, 47, 48, 49, 50, 51, 52, 53, 54, 55, 56, 57, 58, 59, 60, 61, 62, 63, 64, 65, 66, 67, 68, 69, 70, 71, 72, 73, 74, 75, 76, 77, 78, 79, 80, 81, 82] 2 b)
noncomputable def hb13x1x52x1 : Obj := ⟨(.type "list_iterator"), none, (.fields (Array.mk [(.ref 108), (.int 52 0)])), (Array.mk [])⟩
noncomputable def hb13x1x53x0 (b : Bool) : Obj := (setO [(917505, 391), (917536, 397), (917537, 398), (917538, 399), (917539, 400), (917540, 401), (917541, 402), (917542, 403), (917543, 404), (917544, 405), (917545, 406), (917546, 407), (917547, 408), (917548, 409), (917549, 410), (917550, 411), (917551, 412), (917552, 413), (917553, 414), (917554, 415), (917555, 416), (917556, 417), (917557, 418), (917558, 419), (917559, 420), (917560, 421), (917561, 422), (917562, 423), (917563, 424), (917564, 425), (917565, 426), (917566, 427), (917567, 428), (917568, 429), (917569, 430), (917570, 431), (917571, 432), (917572, 433), (917573, 434), (917574, 435), (917575, 436), (917576, 437), (917577, 438), (917578, 439), (917579, 440), (917580, 441), (917581, 442), (917582, 443), (917583, 444), (917584, 445), (917585, 446), (917586, 447), (917587, 448)] 55 127 [1, 32, 33, 34, 35, 36, 37, 38, 39, 40, 41, 42, 43, 44, 45, 46, 47, 48, 49, 50, 51, 52, 53, 54, 55, 56, 57, 58, 59, 60, 61, 62, 63, 64, 65, 66, 67, 68, 69, 70, 71, 72, 73, 74, 75, 76, 77, 78, 79, 80, 81, 82, 83] 2 b)
noncomputable def hb13x1x53x1 : Obj := ⟨(.type "list_iterator"), none, (.fields (Array.mk [(.ref 108), (.int 53 0)])), (Array.mk [])⟩
noncomputable def hb13x1x54x0 (b : Bool) : Obj := (setO [(917505, 391), (917536, 397), (917537, 398), (917538, 399), (917539, 400), (917540, 401), (917541, 402), (917542, 403), (917543, 404), (917544, 405), (917545, 406), (917546, 407), (917547, 408), (917548, 409), (917549, 410), (917550, 411), (917551, 412), (917552, 413), (917553, 414), (917554, 415), (917555, 416), (917556, 417), (917557, 418), (917558, 419), (917559, 420), (917560, 421), (917561, 422), (917562, 423), (917563, 424), (917564, 425), (917565, 426), (917566, 427), (917567, 428), (917568, 429), (917569, 430), (917570, 431), (917571, 432), (917572, 433), (917573, 434), (917574, 435), (917575, 436), (917576, 437), (917577, 438), (917578, 439), (917579, 440), (917580, 441), (917581, 442), (917582, 443), (917583, 444), (917584, 445), (917585, 446), (917586, 447), (917587, 448), (917588, 449)] 56 127 [1, 32, 33, 34, 35, 36, 37, 38, 39, 40, 41, 42, 43, 44, 45, 46, 47, 48, 49, 50, 51, 52, 53, 54, 55, 56, 57, 58, 59, 60, 61, 62, 63, 64, 65, 66, 67, 68, 69, 70, 71, 72, 73, 74, 75, 76, 77, 78, 79, 80, 81, 82, 83, 84] 2 b)
noncomputable def hb13x1x54x1 : Obj := ⟨(.type "list_iterator"), none, (.fields (Array.mk [(.ref 108), (.int 54 0)])), (Array.mk [])⟩
noncomputable def hb13x1x55x0 (b : Bool) : Obj := (setO [(917505, 391), (917536, 397), (917537, 398), (917538, 399), (917539, 400), (917540, 401), (917541, 402), (917542, 403), (917543, 404), (917544, 405), (917545, 406), (917546, 407), (917547, 408), (917548, 409), (917549, 410), (917550, 411), (917551, 412), (917552, 413), (917553, 414), (917554, 415), (917555, 416), (917556, 417), (917557, 418), (917558, 419), (917559, 420), (917560, 421), (917561, 422), (917562, 423), (917563, 424), (917564, 425), (917565, 426), (917566, 427), (917567, 428), (917568, 429), (917569, 430), (917570, 431), (917571, 432), (917572, 433), (917573, 434), (917574, 435), (917575, 436), (917576, 437), (917577, 438), (917578, 439), (917579, 440), (917580, 441), (917581, 442), (917582, 443), (917583, 444), (917584, 445), (917585, 446), (917586, 447), (917587, 448), (917588, 449), (917589, 450)] 57 127 [1, 32, 33, 34, 35, 36, 37, 38, 39, 40, 41, 42, 43, 44, 45, 46, 47, 48, 49, 50, 51, 52, 53, 54, 55, 56, 57, 58, 59, 60, 61, 62, 63, 64, 65, 66, 67, 68, 69, 70, 71, 72, 73, 74, 75, 76, 77, 78, 79, 80, 81, 82, 83, 84, 85] 2 b)
noncomputable def hb13x1x55x1 : Obj := ⟨(.type "list_iterator"), none, (.fields (Array.mk [(.ref 108), (.int 55 0)])), (Array.mk [])⟩
noncomputable def hb13x1x56x0 (b : Bool) : Obj := (setO [(917505, 391), (917536, 397), (917537, 398), (917538, 399), (917539, 400), (917540, 401), (917541, 402), (917542, 403), (917543, 404), (917544, 405), (917545, 406), (917546, 407), (917547, 408), (917548, 409), (917549, 410), (917550, 411), (917551, 412), (917552, 413), (917553, 414), (917554, 415), (917555, 416), (917556, 417), (917557, 418), (917558, 419), (917559, 420), (917560, 421), (917561, 422), (917562, 423), (917563, 424), (917564, 425), (917565, 426), (917566, 427), (917567, 428), (917568, 429), (917569, 430), (917570, 431), (917571, 432), (917572, 433), (917573, 434), (917574, 435), (917575, 436), (917576, 437), (917577, 438), (917578, 439), (917579, 440), (917580, 441), (917581, 442), (917582, 443), (917583, 444), (917584, 445), (917585, 446), (917586, 447), (917587, 448), (917588, 449), (917589, 450), (917590, 451)] 58 127 [1, 32, 33, 34, 35, 36, 37, 38, 39, 40, 41, 42, 43, 44, 45, 46, 47, 48, 49, 50, 51, 52, 53, 54, 55, 56, 57, 58, 59, 60, 61, 62, 63, 64, 65, 66, 67, 68, 69, 70, 71, 72, 73, 74, 75, 76, 77, 78, 79, 80, 81, 82, 83, 84, 85, 86] 2 b)
noncomputable def hb13x1x56x1 : Obj := ⟨(.type "list_iterator"), none, (.fields (Array.mk [(.ref 108), (.int 56 0)])), (Array.mk [])⟩
noncomputable def hb13x1x57x0 (b : Bool) : Obj := (setO [(917505, 391), (917536, 397), (917537, 398), (917538, 399), (917539, 400), (917540, 401), (917541, 402), (917542, 403), (917543, 404), (917544, 405), (917545, 406), (917546, 407), (917547, 408), (917548, 409), (917549, 410), (917550, 411), (917551, 412), (917552, 413), (917553, 414), (917554, 415), (917555, 416), (917556, 417), (917557, 418), (917558, 419), (917559, 420), (917560, 421), (917561, 422), (917562, 423), (917563, 424), (917564, 425), (917565, 426), (917566, 427), (917567, 428), (917568, 429), (917569, 430), (917570, 431), (917571, 432), (917572, 433), (917573, 434), (917574, 435), (917575, 436), (917576, 437), (917577, 438), (917578, 439), (917579, 440), (917580, 441), (917581, 442), (917582, 443), (917583, 444), (917584, 445), (917585, 446), (917586, 447), (917587, 448), (917588, 449), (917589, 450), (917590, 451), (917591, 452)] 59 127 [1, 32, 33, 34, 35, 36, 37, 38, 39, 40, 41, 42, 43, 44, 45, 46, 47, 48, 49, 50, 51, 52, 53, 54, 55, 56, 57, 58, 59, 60, 61, 62, 63, 64, 65, 66, 67, 68, 69, 70, 71, 72, 73, 74, 75, 76, 77, 78, 79, 80, 81, 82, 83, 84, 85, 86, 87] 2 b)
noncomputable def hb13x1x57x1 : Obj := ⟨(.type "list_iterator"), none, (.fields (Array.mk [(.ref 108), (.int 57 0)])), (Array.mk [])⟩
noncomputable def hb13x1x58x0 (b : Bool) : Obj := (setO [(917505, 391), (917536, 397), (917537, 398), (917538, 399), (917539, 400), (917540, 401), (917541, 402), (917542, 403), (917543, 404), (917544, 405), (917545, 406), (917546, 407), (917547, 408), (917548, 409), (917549, 410), (917550, 411), (917551, 412), (917552, 413), (917553, 414), (917554, 415), (917555, 416), (917556, 417), (917557, 418), (917558, 419), (917559, 420), (917560, 421), (917561, 422), (917562, 423), (917563, 424), (917564, 425), (917565, 426), (917566, 427), (917567, 428), (917568, 429), (917569, 430), (917570, 431), (917571, 432), (917572, 433), (917573, 434), (917574, 435), (917575, 436), (917576, 437), (917577, 438), (917578, 439), (917579, 440), (917580, 441), (917581, 442), (917582, 443), (917583, 444), (917584, 445), (917585, 446), (917586, 447), (917587, 448), (917588, 449), (917589, 450), (917590, 451), (917591, 452), (917592, 453)] 60 127 [1, 32, 33, 34, 35, 36, 37, 38, 39, 40, 41, 42, 43, 44, 45, 46, 47, 48, 49, 50, 51, 52, 53, 54, 55, 56, 57, 58, 59, 60, 61, 62, 63, 64, 65, 66, 67, 68, 69, 70, 71, 72, 73, 74, 75, 76, 77, 78, 79, 80, 81, 82, 83, 84, 85, 86, 87, 88] 2 b)
noncomputable def hb13x1x58x1 : Obj := ⟨(.type "list_iterator"), none, (.fields (Array.mk [(.ref 108), (.int 58 0)])), (Array.mk [])⟩
noncomputable def hb13x1x59x0 (b : Bool) : Obj := (setO [(917505, 391), (917536, 397), (917537, 398), (917538, 399), (917539, 400), (917540, 401), (917541, 402), (917542, 403), (917543, 404), (917544, 405), (917545, 406), (917546, 407), (917547, 408), (917548, 409), (917549, 410), (917550, 411), (917551, 412), (917552, 413), (917553, 414), (917554, 415), (917555, 416), (917556, 417), (917557, 418), (917558, 419), (917559, 420), (917560, 421), (917561, 422), (917562, 423), (917563, 424), (917564, 425), (917565, 426), (917566, 427), (917567, 428), (917568, 429), (917569, 430), (917570, 431), (917571, 432), (917572, 433), (917573, 434), (917574, 435), (917575, 436), (917576, 437), (917577, 438), (917578, 439), (917579, 440), (917580, 441), (917581, 442), (917582, 443), (917583, 444), (917584, 445), (917585, 446), (917586, 447), (917587, 448), (917588, 449), (917589, 450), (917590, 451), (917591, 452), (917592, 453), (917593, 454)] 61 127 [1, 32, 33, 34, 35, 36, 37, 38, 39, 40, 41, 42, 43, 44, 45, 46, 47, 48, 49, 50, 51, 52, 53, 54, 55, 56, 57, 58, 59, 60, 61, 62, 63, 64, 65, 66, 67, 68, 69, 70, 71, 72, 73, 74, 75, 76, 77, 78, 79, 80, 81, 82, 83, 84, 85, 86, 87, 88, 89] 2 b)
noncomputable def hb13x1x59x1 : Obj := ⟨(.type "list_iterator"), none, (.fields (Array.mk [(.ref 108), (.int 59 0)])), (Array.mk [])⟩
noncomputable def hb13x1x60x0 (b : Bool) : Obj := (setO [(917505, 391), (917536, 397), (917537, 398), (917538, 399), (917539, 400), (917540, 401), (917541, 402), (917542, 403), (917543, 404), (917544, 405), (917545, 406), (917546, 407), (917547, 408), (917548, 409), (917549, 410), (917550, 411), (917551, 412), (917552, 413), (917553, 414), (917554, 415), (917555, 416), (917556, 417), (917557, 418), (917558, 419), (917559, 420), (917560, 421), (917561, 422), (917562, 423), (917563, 424), (917564, 425), (917565, 426), (917566, 427), (917567, 428), (917568, 429), (917569, 430), (917570, 431), (917571, 432), (917572, 433), (917573, 434), (917574, 435), (917575, 436), (917576, 437), (917577, 438), (917578, 439), (917579, 440), (917580, 441), (917581, 442), (917582, 443), (917583, 444), (917584, 445), (917585, 446), (917586, 447), (917587, 448), (917588, 449), (917589, 450), (917590, 451), (917591, 452), (917592, 453), (917593, 454), (917594, 455)] 62 127 [1, 32, 33, 34, 35, 36, 37, 38, 39, 40, 41, 42, 43, 44, 45, 46, 47, 48, 49, 50, 51, 52, 53, 54, 55, 56, 57, 58, 59, 60, 61, 62, 63, 64, 65, 66, 67, 68, 69, 70, 71, 72, 73, 74, 75, 76, 77, 78, 79, 80, 81, 82, 83, 84, 85, 86, 87, 88, 89, 90] 2 b)
noncomputable def hb13x1x60x1 : Obj := ⟨(.type "list_iterator"), none, (.fields (Array.mk [(.ref 108), (.int 60 0)])), (Array.mk [])⟩
noncomputable def hb13x1x61x0 (b : Bool) : Obj := (setO [(917505, 391), (917536, 397), (917537, 398), (917538, 399), (917539, 400), (917540, 401), (917541, 402), (917542, 403), (917543, 404), (917544, 405), (917545, 406), (917546, 407), (917547, 408), (917548, 409), (917549, 410), (917550, 411), (917551, 412), (917552, 413), (917553, 414), (917554, 415), (917555, 416), (917556, 417), (917557, 418), (917558, 419), (917559, 420), (917560, 421), (917561, 422), (917562, 423), (917563, 424), (917564, 425), (917565, 426), (917566, 427), (917567, 428), (917568, 429), (917569, 430), (917570, 431), (917571, 432), (917572, 433), (917573, 434), (917574, 435), (917575, 436), (917576, 437), (917577, 438), (917578, 439), (917579, 440), (917580, 441), (917581, 442), (917582, 443), (917583, 444), (917584, 445), (917585, 446), (917586, 447), (917587, 448), (917588, 449), (917589, 450), (917590, 451), (917591, 452), (917592, 453), (917593, 454), (917594, 455), (917595, 456)] 63 127 [1, 32, 33, 34, 35, 36, 37, 38, 39, 40, 41, 42, 43, 44, 45, 46, 47, 48, 49, 50, 51, 52, 53, 54, 55, 56, 57, 58, 59, 60, 61, 62, 63, 64, 65, 66, 67, 68, 69, 70, 71, 72, 73, 74, 75, 76, 77, 78, 79, 80, 81, 82, 83, 84, 85, 86, 87, 88, 89, 90, 91] 2 b)
noncomputable def hb13x1x61x1 : Obj := ⟨(.type "list_iterator"), none, (.fields (Array.mk [(.ref 108), (.int 61 0)])), (Array.mk [])⟩
noncomputable def hb13x1x62x0 (b : Bool) : Obj := (setO [(917505, 391), (917536, 397), (917537, 398), (917538, 399), (917539, 400), (917540, 401), (917541, 402), (917542, 403), (917543, 404), (917544, 405), (917545, 406), (917546, 407), (917547, 408), (917548, 409), (917549, 410), (917550, 411), (917551, 412), (917552, 413), (917553, 414), (917554, 415), (917555, 416), (917556, 417), (917557, 418), (917558, 419), (917559, 420), (917560, 421), (917561, 422), (917562, 423), (917563, 424), (917564, 425), (917565, 426), (917566, 427), (917567, 428), (917568, 429), (917569, 430), (917570, 431), (917571, 432), (917572, 433), (917573, 434), (917574, 435), (917575, 436), (917576, 437), (917577, 438), (917578, 439), (917579, 440), (917580, 441), (917581, 442), (917582, 443), (917583, 444), (917584, 445), (917585, 446), (917586, 447), (917587, 448), (917588, 449), (917589, 450), (917590, 451), (917591, 452), (917592, 453), (917593, 454), (917594, 455), (917595, 456), (917596, 457)] 64 127 [1, 32, 33, 34, 35, 36, 37, 38, 39, 40, 41, 42, 43, 44, 45, 46, 47, 48, 49, 50, 51, 52, 53, 54, 55, 56, 57, 58, 59, 60, 61, 62, 63, 64, 65, 66, 67, 68, 69, 70, 71, 72, 73, 74, 75, 76, 77, 78, 79, 80, 81, 82, 83, 84, 85, 86, 87, 88, 89, 90, 91, 92] 2 b)
noncomputable def hb13x1x62x1 : Obj := ⟨(.type "list_iterator"), none, (.fields (Array.mk [(.ref 108), (.int 62 0)])), (Array.mk [])⟩
noncomputable def hb13x1x63x0 (b : Bool) : Obj := (setO [(917505, 391), (917536, 397), (917537, 398), (917538, 399), (917539, 400), (917540, 401), (917541, 402), (917542, 403), (917543, 404), (917544, 405), (917545, 406), (917546, 407), (917547, 408), (917548, 409), (917549, 410), (917550, 411), (917551, 412), (917552, 413), (917553, 414), (917554, 415), (917555, 416), (917556, 417), (917557, 418), (917558, 419), (917559, 420), (917560, 421), (917561, 422), (917562, 423), (917563, 424), (917564, 425), (917565, 426), (917566, 427), (917567, 428), (917568, 429), (917569, 430), (917570, 431), (917571, 432), (917572, 433), (917573, 434), (917574, 435), (917575, 436), (917576, 437), (917577, 438), (917578, 439), (917579, 440), (917580, 441), (917581, 442), (917582, 443), (917583, 444), (917584, 445), (917585, 446), (917586, 447), (917587, 448), (917588, 449), (917589, 450), (917590, 451), (917591, 452), (917592, 453), (917593, 454), (917594, 455), (917595, 456), (917596, 457), (917597, 458)] 65 127 [1, 32, 33, 34, 35, 36, 37, 38, 39, 40, 41, 42, 43, 44, 45, 46, 47, 48, 49, 50, 51, 52, 53, 54, 55, 56, 57, 58, 59, 60, 61, 62, 63, 64, 65, 66, 67, 68, 69, 70, 71, 72, 73, 74, 75, 76, 77, 78, 79, 80, 81, 82, 83, 84, 85, 86, 87, 88, 89, 90, 91, 92, 93] 2 b)
noncomputable def hb13x1x63x1 : Obj := ⟨(.type "list_iterator"), none, (.fields (Array.mk [(.ref 108), (.int 63 0)])), (Array.mk [])⟩
noncomputable def hb13x1x64x0 (b : Bool) : Obj := (setO [(917505, 391), (917536, 397), (917537, 398), (917538, 399), (917539, 400), (917540, 401), (917541, 402), (917542, 403), (917543, 404), (917544, 405), (917545, 406), (917546, 407), (917547, 408), (917548, 409), (917549, 410), (917550, 411), (917551, 412), (917552, 413), (917553, 414), (917554, 415), (917555, 416), (917556, 417), (917557, 418), (917558, 419), (917559, 420), (917560, 421), (917561, 422), (917562, 423), (917563, 424), (917564, 425), (917565, 426), (917566, 427), (917567, 428), (917568, 429), (917569, 430), (917570, 431), (917571, 432), (917572, 433), (917573, 434), (917574, 435), (917575, 436), (917576, 437), (917577, 438), (917578, 439), (917579, 440), (917580, 441), (917581, 442), (917582, 443), (917583, 444), (917584, 445), (917585, 446), (917586, 447), (917587, 448), (917588, 449), (917589, 450), (917590, 451), (917591, 452), (917592, 453), (917593, 454), (917594, 455), (917595, 456), (917596, 457), (917597, 458), (917598, 459)] 66 127 [1, 32, 33, 34, 35, 36, 37, 38, 39, 40, 41, 42, 43, 44, 45, 46, 47, 48, 49, 50, 51, 52, 53, 54, 55, 56, 57, 58, 59, 60, 61, 62, 63, 64, 65, 66, 67, 68, 69, 70, 71, 72, 73, 74, 75, 76, 77, 78, 79, 80, 81, 82, 83, 84, 85, 86, 87, 88, 89, 90, 91, 92, 93, 94] 2 b)
noncomputable def hb13x1x64x1 : Obj := ⟨(.type "list_iterator"), none, (.fields (Array.mk [(.ref 108), (.int 64 0)])), (Array.mk [])⟩
noncomputable def hb13x1x65x0 (b : Bool) : Obj := (setO [(917505, 391), (917536, 397), (917537, 398), (917538, 399), (917539, 400), (917540, 401), (917541, 402), (917542, 403), (917543, 404), (917544, 405), (917545, 406), (917546, 407), (917547, 408), (917548, 409), (917549, 410), (917550, 411), (917551, 412), (917552, 413), (917553, 414), (917554, 415), (917555, 416), (917556, 417), (917557, 418), (917558, 419), (917559, 420), (917560, 421), (917561, 422), (917562, 423), (917563, 424), (917564, 425), (917565, 426), (917566, 427), (917567, 428), (917568, 429), (917569, 430), (917570, 431), (917571, 432), (917572, 433), (917573, 434), (917574, 435), (917575, 436), (917576, 437), (917577, 438), (917578, 439), (917579, 440), (917580, 441), (917581, 442), (917582, 443), (917583, 444), (917584, 445), (917585, 446), (917586, 447), (917587, 448), (917588, 449), (917589, 450), (917590, 451), (917591, 452), (917592, 453), (917593, 454), (917594, 455), (917595, 456), (917596, 457), (917597, 458), (917598, 459), (917599, 460)] 67 127 [1, 32, 33, 34, 35, 36, 37, 38, 39, 40, 41, 42, 43, 44, 45, 46, 47, 48, 49, 50, 51, 52, 53, 54, 55, 56, 57, 58, 59, 60, 61, 62, 63, 64, 65, 66, 67, 68, 69, 70, 71, 72, 73, 74, 75, 76, 77, 78, 79, 80, 81, 82, 83, 84, 85, 86, 87, 88, 89, 90, 91, 92, 93, 94, 95] 2 b)
noncomputable def hb13x1x65x1 : Obj := ⟨(.type "list_iterator"), none, (.fields (Array.mk [(.ref 108), (.int 65 0)])), (Array.mk [])⟩
noncomputable def hb13x1x66x0 (b : Bool) : Obj := (setO [(917505, 391), (917536, 397), (917537, 398), (917538, 399), (917539, 400), (917540, 401), (917541, 402), (917542, 403), (917543, 404), (917544, 405), (917545, 406), (917546, 407), (917547, 408), (917548, 409), (917549, 410), (917550, 411), (917551, 412), (917552, 413), (917553, 414), (917554, 415), (917555, 416), (917556, 417), (917557, 418), (917558, 419), (917559, 420), (917560, 421), (917561, 422), (917562, 423), (917563, 424), (917564, 425), (917565, 426), (917566, 427), (917567, 428), (917568, 429), (917569, 430), (917570, 431), (917571, 432), (917572, 433), (917573, 434), (917574, 435), (917575, 436), (917576, 437), (917577, 438), (917578, 439), (917579, 440), (917580, 441), (917581, 442), (917582, 443), (917583, 444), (917584, 445), (917585, 446), (917586, 447), (917587, 448), (917588, 449), (917589, 450), (917590, 451), (917591, 452), (917592, 453), (917593, 454), (917594, 455), (917595, 456), (917596, 457), (917597, 458), (917598, 459), (917599, 460), (917600, 461)] 68 127 [1, 32, 33, 34, 35, 36, 37, 38, 39, 40, 41, 42, 43, 44, 45, 46, 47, 48, 49, 50, 51, 52, 53, 54, 55, 56, 57, 58, 59, 60, 61, 62, 63, 64, 65, 66, 67, 68, 69, 70, 71, 72, 73, 74, 75, 76, 77, 78, 79, 80, 81, 82, 83, 84, 85, 86, 87, 88, 89, 90, 91, 92, 93, 94, 95, 96] 2 b)
noncomputable def hb13x1x66x1 : Obj := ⟨(.type "list_iterator"), none, (.fields (Array.mk [(.ref 108), (.int 66 0)])), (Array.mk [])⟩
noncomputable def hb13x1x67x0 (b : Bool) : Obj := (setO [(917505, 391), (917536, 397), (917537, 398), (917538, 399), (917539, 400), (917540, 401), (917541, 402), (917542, 403), (917543, 404), (917544, 405), (917545, 406), (917546, 407), (917547, 408), (917548, 409), (917549, 410), (917550, 411), (917551, 412), (917552, 413), (917553, 414), (917554, 415), (917555, 416), (917556, 417), (917557, 418), (917558, 419), (917559, 420), (917560, 421), (917561, 422), (917562, 423), (917563, 424), (917564, 425), (917565, 426), (917566, 427), (917567, 428), (917568, 429), (917569, 430), (917570, 431), (917571, 432), (917572, 433), (917573, 434), (917574, 435), (917575, 436), (917576, 437), (917577, 438), (917578, 439), (917579, 440), (917580, 441), (917581, 442), (917582, 443), (917583, 444), (917584, 445), (917585, 446), (917586, 447), (917587, 448), (917588, 449), (917589, 450), (917590, 451), (917591, 452), (917592, 453), (917593, 454), (917594, 455), (917595, 456), (917596, 457), (917597, 458), (917598, 459), (917599, 460), (917600, 461), (917601, 462)] 69 127 [1, 32, 33, 34, 35, 36, 37, 38, 39, 40, 41, 42, 43, 44, 45, 46, 47, 48, 49, 50, 51, 52, 53, 54, 55, 56, 57, 58, 59, 60, 61, 62, 63, 64, 65, 66, 67, 68, 69, 70, 71, 72, 73, 74, 75, 76, 77, 78, 79, 80, 81, 82, 83, 84, 85, 86, 87, 88, 89, 90, 91, 92, 93, 94, 95, 96, 97] 2 b)
noncomputable def hb13x1x67x1 : Obj := ⟨(.type "list_iterator"), none, (.fields (Array.mk [(.ref 108), (.int 67 0)])), (Array.mk [])⟩
noncomputable def hb13x1x68x0 (b : Bool) : Obj := (setO [(917505, 391), (917536, 397), (917537, 398), (917538, 399), (917539, 400), (917540, 401), (917541, 402), (917542, 403), (917543, 404), (917544, 405), (917545, 406), (917546, 407), (917547, 408), (917548, 409), (917549, 410), (917550, 411), (917551, 412), (917552, 413), (917553, 414), (917554, 415), (917555, 416), (917556, 417), (917557, 418), (917558, 419), (917559, 420), (917560, 421), (917561, 422), (917562, 423), (917563, 424), (917564, 425), (917565, 426), (917566, 427), (917567, 428), (917568, 429), (917569, 430), (917570, 431), (917571, 432), (917572, 433), (917573, 434), (917574, 435), (917575, 436), (917576, 437), (917577, 438), (917578, 439), (917579, 440), (917580, 441), (917581, 442), (917582, 443), (917583, 444), (917584, 445), (917585, 446), (917586, 447), (917587, 448), (917588, 449), (917589, 450), (917590, 451), (917591, 452), (917592, 453), (917593, 454), (917594, 455), (917595, 456), (917596, 457), (917597, 458), (917598, 459), (917599, 460), (917600, 461), (917601, 462), (917602, 463)] 70 127 [1, 32, 33, 34, 35, 36, 37, 38, 39, 40, 41, 42, 43, 44, 45, 46, 47, 48, 49, 50, 51, 52, 53, 54, 55, 56, 57, 58, 59, 60, 61, 62, 63, 64, 65, 66, 67, 68, 69, 70, 71, 72, 73, 74, 75, 76, 77, 78, 79, 80, 81, 82, 83, 84, 85, 86, 87, 88, 89, 90, 91, 92, 93, 94, 95, 96, 97, 98] 2 b)
noncomputable def hb13x1x68x1 : Obj := ⟨(.type "list_iterator"), none, (.fields (Array.mk [(.ref 108), (.int 68 0)])), (Array.mk [])⟩
noncomputable def hb13x1x69x0 (b : Bool) : Obj := (setO [(917505, 391), (917536, 397), (917537, 398), (917538, 399), (917539, 400), (917540, 401), (917541, 402), (917542, 403), (917543, 404), (917544, 405), (917545, 406), (917546, 407), (917547, 408), (917548, 409), (917549, 410), (917550, 411), (917551, 412), (917552, 413), (917553, 414), (917554, 415), (917555, 416), (917556, 417), (917557, 418), (917558, 419), (917559, 420), (917560, 421), (917561, 422), (917562, 423), (917563, 424), (917564, 425), (917565, 426), (917566, 427), (917567, 428), (917568, 429), (917569, 430), (917570, 431), (917571, 432), (917572, 433), (917573, 434), (917574, 435), (917575, 436), (917576, 437), (917577, 438), (917578, 439), (917579, 440), (917580, 441), (917581, 442), (917582, 443), (917583, 444), (917584, 445), (917585, 446), (917586, 447), (917587, 448), (917588, 449), (917589, 450), (917590, 451), (917591, 452), (917592, 453), (917593, 454), (917594, 455), (917595, 456), (917596, 457), (917597, 458), (917598, 459), (917599, 460), (917600, 461), (917601, 462), (917602, 463), (917603, 464)] 71 127 [1, 32, 33, 34, 35, 36, 37, 38, 39, 40, 41, 42, 43, 44, 45, 46, 47, 48, 49, 50, 51, 52, 53, 54, 55, 56, 57, 58, 59, 60, 61, 62, 63, 64, 65, 66, 67, 68, 69, 70, 71, 72, 73, 74, 75, 76, 77, 78, 79, 80, 81, 82, 83, 84, 85, 86, 87, 88, 89, 90, 91, 92, 93, 94, 95, 96, 97, 98, 99] 2 b)
noncomputable def hb13x1x69x1 : Obj := ⟨(.type "list_iterator"), none, (.fields (Array.mk [(.ref 108), (.int 69 0)])), (Array.mk [])⟩
noncomputable def hb13x1x70x0 (b : Bool) : Obj := (setO [(917505, 391), (917536, 397), (917537, 398), (917538, 399), (917539, 400), (917540, 401), (917541, 402), (917542, 403), (917543, 404), (917544, 405), (917545, 406), (917546, 407), (917547, 408), (917548, 409), (917549, 410), (917550, 411), (917551, 412), (917552, 413), (917553, 414), (917554, 415), (917555, 416), (917556, 417), (917557, 418), (917558, 419), (917559, 420), (917560, 421), (917561, 422), (917562, 423), (917563, 424), (917564, 425), (917565, 426), (917566, 427), (917567, 428), (917568, 429), (917569, 430), (917570, 431), (917571, 432), (917572, 433), (917573, 434), (917574, 435), (917575, 436), (917576, 437), (917577, 438), (917578, 439), (917579, 440), (917580, 441), (917581, 442), (917582, 443), (917583, 444), (917584, 445), (917585, 446), (917586, 447), (917587, 448), (917588, 449), (917589, 450), (917590, 451), (917591, 452), (917592, 453), (917593, 454), (917594, 455), (917595, 456), (917596, 457), (917597, 458), (917598, 459), (917599, 460), (917600, 461), (917601, 462), (917602, 463), (917603, 464), (917604, 465)] 72 127 [1, 32, 33, 34, 35, 36, 37, 38, 39, 40, 41, 42, 43, 44, 45, 46, 47, 48, 49, 50, 51, 52, 53, 54, 55, 56, 57, 58, 59, 60, 61, 62, 63, 64, 65, 66, 67, 68, 69, 70, 71, 72, 73, 74, 75, 76, 77, 78, 79, 80, 81, 82, 83, 84, 85, 86, 87, 88, 89, 90, 91, 92, 93, 94, 95, 96, 97, 98, 99, 100] 2 b)
noncomputable def hb13x1x70x1 : Obj := ⟨(.type "list_iterator"), none, (.fields (Array.mk [(.ref 108), (.int 70 0)])), (Array.mk [])⟩
noncomputable def hb13x1x71x0 (b : Bool) : Obj := (setO [(917505, 391), (917536, 397), (917537, 398), (917538, 399), (917539, 400), (917540, 401), (917541, 402), (917542, 403), (917543, 404), (917544, 405), (917545, 406), (917546, 407), (917547, 408), (917548, 409), (917549, 410), (917550, 411), (917551, 412), (917552, 413), (917553, 414), (917554, 415), (917555, 416), (917556, 417), (917557, 418), (917558, 419), (917559, 420), (917560, 421), (917561, 422), (917562, 423), (917563, 424), (917564, 425), (917565, 426), (917566, 427), (917567, 428), (917568, 429), (917569, 430), (917570, 431), (917571, 432), (917572, 433), (917573, 434), (917574, 435), (917575, 436), (917576, 437), (917577, 438), (917578, 439), (917579, 440), (917580, 441), (917581, 442), (917582, 443), (917583, 444), (917584, 445), (917585, 446), (917586, 447), (917587, 448), (917588, 449), (917589, 450), (917590, 451), (917591, 452), (917592, 453), (917593, 454), (917594, 455), (917595, 456), (917596, 457), (917597, 458), (917598, 459), (917599, 460), (917600, 461), (917601, 462), (917602, 463), (917603, 464), (917604, 465), (917605, 466)] 73 127 [1, 32, 33, 34, 35, 36, 37, 38, 39, 40, 41, 42, 43, 44, 45, 46, 47, 48, 49, 50, 51, 52, 53, 54, 55, 56, 57, 58, 59, 60, 61, 62, 63, 64, 65, 66, 67, 68, 69, 70, 71, 72, 73, 74, 75, 76, 77, 78, 79, 80, 81, 82, 83, 84, 85, 86, 87, 88, 89, 90, 91, 92, 93, 94, 95, 96, 97, 98, 99, 100, 101] 2 b)
noncomputable def hb13x1x71x1 : Obj := ⟨(.type "list_iterator"), none, (.fields (Array.mk [(.ref 108), (.int 71 0)])), (Array.mk [])⟩
noncomputable def hb13x1x72x0 (b : Bool) : Obj := (setO [(917505, 391), (917536, 397), (917537, 398), (917538, 399), (917539, 400), (917540, 401), (917541, 402), (917542, 403), (917543, 404), (917544, 405), (917545, 406), (917546, 407), (917547, 408), (917548, 409), (917549, 410), (917550, 411), (917551, 412), (917552, 413), (917553, 414), (917554, 415), (917555, 416), (917556, 417), (917557, 418), (917558, 419), (917559, 420), (917560, 421), (917561, 422), (917562, 423), (917563, 424), (917564, 425), (917565, 426), (917566, 427), (917567, 428), (917568, 429), (917569, 430), (917570, 431), (917571, 432), (917572, 433), (917573, 434), (917574, 435), (917575, 436), (917576, 437), (917577, 438), (917578, 439), (917579, 440), (917580, 441), (917581, 442), (917582, 443), (917583, 444), (917584, 445), (917585, 446), (917586, 447), (917587, 448), (917588, 449), (917589, 450), (917590, 451), (917591, 452), (917592, 453), (917593, 454), (917594, 455), (917595, 456), (917596, 457), (917597, 458), (917598, 459), (917599, 460), (917600, 461), (917601, 462), (917602, 463), (917603, 464), (917604, 465), (917605, 466), (917606, 467)] 74 127 [1, 32, 33, 34, 35, 36, 37, 38, 39, 40, 41, 42, 43, 44, 45, 46, 47, 48, 49, 50, 51, 52, 53, 54, 55, 56, 57, 58, 59, 60, 61, 62, 63, 64, 65, 66, 67, 68, 69, 70, 71, 72, 73, 74, 75, 76, 77, 78, 79, 80, 81, 82, 83, 84, 85, 86, 87, 88, 89, 90, 91, 92, 93, 94, 95, 96, 97, 98, 99, 100, 101, 102] 2 b)
noncomputable def hb13x1x72x1 : Obj := ⟨(.type "list_iterator"), none, (.fields (Array.mk [(.ref 108), (.int 72 0)])), (Array.mk [])⟩
noncomputable def hb13x1x73x0 (b : Bool) : Obj := (setO [(917505, 391), (917536, 397), (917537, 398), (917538, 399), (917539, 400), (917540, 401), (917541, 402), (917542, 403), (917543, 404), (917544, 405), (917545, 406), (917546, 407), (917547, 408), (917548, 409), (917549, 410), (917550, 411), (917551, 412), (917552, 413), (917553, 414), (917554, 415), (917555, 416), (917556, 417), (917557, 418), (917558, 419), (917559, 420), (917560, 421), (917561, 422), (917562, 423), (917563, 424), (917564, 425), (917565, 426), (917566, 427), (917567, 428), (917568, 429), (917569, 430), (917570, 431), (917571, 432), (917572, 433), (917573, 434), (917574, 435), (917575, 436), (917576, 437), (917577, 438), (917578, 439), (917579, 440), (917580, 441), (917581, 442), (917582, 443), (917583, 444), (917584, 445), (917585, 446), (917586, 447), (917587, 448), (917588, 449), (917589, 450), (917590, 451), (917591, 452), (917592, 453), (917593, 454), (917594, 455), (917595, 456), (917596, 457), (917597, 458), (917598, 459), (917599, 460), (917600, 461), (917601, 462), (917602, 463), (917603, 464), (917604, 465), (917605, 466), (917606, 467), (917607, 468)] 75 127 [1, 32, 33, 34, 35, 36, 37, 38, 39, 40, 41, 42, 43, 44, 45, 46, 47, 48, 49, 50, 51, 52, 53, 54, 55, 56, 57, 58, 59, 60, 61, 62, 63, 64, 65, 66, 67, 68, 69, 70, 71, 72, 73, 74, 75, 76, 77, 78, 79, 80, 81, 82, 83, 84, 85, 86, 87, 88, 89, 90, 91, 92, 93, 94, 95, 96, 97, 98, 99, 100, 101, 102, 103] 2 b)
noncomputable def hb13x1x73x1 : Obj := ⟨(.type "list_iterator"), none, (.fields (Array.mk [(.ref 108), (.int 73 0)])), (Array.mk [])⟩
noncomputable def hb13x1x74x0 (b : Bool) : Obj := (setO [(917505, 391), (917536, 397), (917537, 398), (917538, 399), (917539, 400), (917540, 401), (917541, 402), (917542, 403), (917543, 404), (917544, 405), (917545, 406), (917546, 407), (917547, 408), (917548, 409), (917549, 410), (917550, 411), (917551, 412), (917552, 413), (917553, 414), (917554, 415), (917555, 416), (917556, 417), (917557, 418), (917558, 419), (917559, 420), (917560, 421), (917561, 422), (917562, 423), (917563, 424), (917564, 425), (917565, 426), (917566, 427), (917567, 428), (917568, 429), (917569, 430), (917570, 431), (917571, 432), (917572, 433), (917573, 434), (917574, 435), (917575, 436), (917576, 437), (917577, 438), (917578, 439), (917579, 440), (917580, 441), (917581, 442), (917582, 443), (917583, 444), (917584, 445), (917585, 446), (917586, 447), (917587, 448), (917588, 449), (917589, 450), (917590, 451), (917591, 452), (917592, 453), (917593, 454), (917594, 455), (917595, 456), (917596, 457), (917597, 458), (917598, 459), (917599, 460), (917600, 461), (917601, 462), (917602, 463), (917603, 464), (917604, 465), (917605, 466), (917606, 467), (917607, 468), (917608, 469)] 76 127 [1, 32, 33, 34, 35, 36, 37, 38, 39, 40, 41, 42, 43, 44, 45, 46, 47, 48, 49, 50, 51, 52, 53, 54, 55, 56, 57, 58, 59, 60, 61, 62, 63, 64, 65, 66, 67, 68, 69, 70, 71, 72, 73, 74, 75, 76, 77, 78, 79, 80, 81, 82, 83, 84, 85, 86, 87, 88, 89, 90, 91, 92, 93, 94, 95, 96, 97, 98, 99, 100, 101, 102, 103, 104] 2 b)
noncomputable def hb13x1x74x1 : Obj := ⟨(.type "list_iterator"), none, (.fields (Array.mk [(.ref 108), (.int 74 0)])), (Array.mk [])⟩
noncomputable def hb13x1x75x0 (b : Bool) : Obj := (setO [(917505, 391), (917536, 397), (917537, 398), (917538, 399), (917539, 400), (917540, 401), (917541, 402), (917542, 403), (917543, 404), (917544, 405), (917545, 406), (917546, 407), (917547, 408), (917548, 409), (917549, 410), (917550, 411), (917551, 412), (917552, 413), (917553, 414), (917554, 415), (917555, 416), (917556, 417), (917557, 418), (917558, 419), (917559, 420), (917560, 421), (917561, 422), (917562, 423), (917563, 424), (917564, 425), (917565, 426), (917566, 427), (917567, 428), (917568, 429), (917569, 430), (917570, 431), (917571, 432), (917572, 433), (917573, 434), (917574, 435), (917575, 436), (917576, 437), (917577, 438), (917578, 439), (917579, 440), (917580, 441), (917581, 442), (917582, 443), (917583, 444), (917584, 445), (917585, 446), (917586, 447), (917587, 448), (917588, 449), (917589, 450), (917590, 451), (917591, 452), (917592, 453), (917593, 454), (917594, 455), (917595, 456), (917596, 457), (917597, 458), (917598, 459), (917599, 460), (917600, 461), (917601, 462), (917602, 463), (917603, 464), (917604, 465), (917605, 466), (917606, 467), (917607, 468), (917608, 469), (917609, 470)] 77 127 [1, 32, 33, 34, 35, 36, 37, 38, 39, 40, 41, 42, 43, 44, 45, 46, 47, 48, 49, 50, 51, 52, 53, 54, 55, 56, 57, 58, 59, 60, 61, 62, 63, 64, 65, 66, 67, 68, 69, 70, 71, 72, 73, 74, 75, 76, 77, 78, 79, 80, 81, 82, 83, 84, 85, 86, 87, 88, 89, 90, 91, 92, 93, 94, 95, 96, 97, 98, 99, 100, 101, 102, 103, 104, 105] 2 b)
noncomputable def hb13x1x75x1 : Obj := ⟨(.type "list_iterator"), none, (.fields (Array.mk [(.ref 108), (.int 75 0)])), (Array.mk [])⟩
noncomputable def hb13x1x76x0 (b : Bool) : Obj := (setO [(917505, 391), (917536, 397), (917537, 398), (917538, 399), (917539, 400), (917540, 401), (917541, 402), (917542, 403), (917543, 404), (917544, 405), (917545, 406), (917546, 407), (917547, 408), (917548, 409), (917549, 410), (917550, 411), (917551, 412), (917552, 413), (917553, 414), (917554, 415), (917555, 416), (917556, 417), (917557, 418), (917558, 419), (917559, 420), (917560, 421), (917561, 422), (917562, 423), (917563, 424), (917564, 425), (917565, 426), (917566, 427), (917567, 428), (917568, 429), (917569, 430), (917570, 431), (917571, 432), (917572, 433), (917573, 434), (917574, 435), (917575, 436), (917576, 437), (917577, 438), (917578, 439), (917579, 440), (917580, 441), (917581, 442), (917582, 443), (917583, 444), (917584, 445), (917585, 446), (917586, 447), (917587, 448), (917588, 449), (917589, 450), (917590, 451), (917591, 452), (917592, 453), (917593, 454), (917594, 455), (917595, 456), (917596, 457), (917597, 458), (917598, 459), (917599, 460), (917600, 461), (917601, 462), (917602, 463), (917603, 464), (917604, 465), (917605, 466), (917606, 467), (917607, 468), (917608, 469), (917609, 470), (917610, 471)] 78 127 [1, 32, 33, 34, 35, 36, 37, 38, 39, 40, 41, 42, 43, 44, 45, 46, 47, 48, 49, 50, 51, 52, 53, 54, 55, 56, 57, 58, 59, 60, 61, 62, 63, 64, 65, 66, 67, 68, 69, 70, 71, 72, 73, 74, 75, 76, 77, 78, 79, 80, 81, 82, 83, 84, 85, 86, 87, 88, 89, 90, 91, 92, 93, 94, 95, 96, 97, 98, 99, 100, 101, 102, 103, 104, 105, 106] 2 b)
noncomputable def hb13x1x76x1 : Obj := ⟨(.type "list_iterator"), none, (.fields (Array.mk [(.ref 108), (.int 76 0)])), (Array.mk [])⟩
noncomputable def hb13x1x77x0 (b : Bool) : Obj := (setO [(917505, 391), (917536, 397), (917537, 398), (917538, 399), (917539, 400), (917540, 401), (917541, 402), (917542, 403), (917543, 404), (917544, 405), (917545, 406), (917546, 407), (917547, 408), (917548, 409), (917549, 410), (917550, 411), (917551, 412), (917552, 413), (917553, 414), (917554, 415), (917555, 416), (917556, 417), (917557, 418), (917558, 419), (917559, 420), (917560, 421), (917561, 422), (917562, 423), (917563, 424), (917564, 425), (917565, 426), (917566, 427), (917567, 428), (917568, 429), (917569, 430), (917570, 431), (917571, 432), (917572, 433), (917573, 434), (917574, 435), (917575, 436), (917576, 437), (917577, 438), (917578, 439), (917579, 440), (917580, 441), (917581, 442), (917582, 443), (917583, 444), (917584, 445), (917585, 446), (917586, 447), (917587, 448), (917588, 449), (917589, 450), (917590, 451), (917591, 452), (917592, 453), (917593, 454), (917594, 455), (917595, 456), (917596, 457), (917597, 458), (917598, 459), (917599, 460), (917600, 461), (917601, 462), (917602, 463), (917603, 464), (917604, 465), (917605, 466), (917606, 467), (917607, 468), (917608, 469), (917609, 470), (917610, 471), (917611, 472)] 80 511 [1, 32, 33, 34, 35, 36, 37, 38, 39, 40, 41, 42, 43, 44, 45, 46, 47, 48, 49, 50, 51, 52, 53, 54, 55, 56, 57, 58, 59, 60, 61, 62, 63, 64, 65, 66, 67, 68, 69, 70, 71, 72, 73, 74, 75, 76, 77, 78, 79, 80, 81, 82, 83, 84, 85, 86, 87, 88, 89, 90, 91, 92, 93, 94, 95, 96, 97, 98, 99, 100, 101, 102, 103, 104, 105, 106, 107] 3 b)
noncomputable def hb13x1x77x1 : Obj := ⟨(.type "list_iterator"), none, (.fields (Array.mk [(.ref 108), (.int 77 0)])), (Array.mk [])⟩
noncomputable def hb13x1x78x0 (b : Bool) : Obj := (setO [(917505, 391), (917536, 397), (917537, 398), (917538, 399), (917539, 400), (917540, 401), (917541, 402), (917542, 403), (917543, 404), (917544, 405), (917545, 406), (917546, 407), (917547, 408), (917548, 409), (917549, 410), (917550, 411), (917551, 412), (917552, 413), (917553, 414), (917554, 415), (917555, 416), (917556, 417), (917557, 418), (917558, 419), (917559, 420), (917560, 421), (917561, 422), (917562, 423), (917563, 424), (917564, 425), (917565, 426), (917566, 427), (917567, 428), (917568, 429), (917569, 430), (917570, 431), (917571, 432), (917572, 433), (917573, 434), (917574, 435), (917575, 436), (917576, 437), (917577, 438), (917578, 439), (917579, 440), (917580, 441), (917581, 442), (917582, 443), (917583, 444), (917584, 445), (917585, 446), (917586, 447), (917587, 448), (917588, 449), (917589, 450), (917590, 451), (917591, 452), (917592, 453), (917593, 454), (917594, 455), (917595, 456), (917596, 457), (917597, 458), (917598, 459), (917599, 460), (917600, 461), (917601, 462), (917602, 463), (917603, 464), (917604, 465), (917605, 466), (917606, 467), (917607, 468), (917608, 469), (917609, 470), (917610, 471), (917611, 472), (917612, 473)] 81 511 [1, 32, 33, 34, 35, 36, 37, 38, 39, 40, 41, 42, 43, 44, 45, 46, 47, 48, 49, 50, 51, 52, 53, 54, 55, 56, 57, 58, 59, 60, 61, 62, 63, 64, 65, 66, 67, 68, 69, 70, 71, 72, 73, 74, 75, 76, 77, 78, 79, 80, 81, 82, 83, 84, 85, 86, 87, 88, 89, 90, 91, 92, 93, 94, 95, 96, 97, 98, 99, 100, 101, 102, 103, 104, 105, 106, 107, 108] 3 b)
noncomputable def hb13x1x78x1 : Obj := ⟨(.type "list_iterator"), none, (.fields (Array.mk [(.ref 108), (.int 78 0)])), (Array.mk [])⟩
noncomputable def hb13x1x79x0 (b : Bool) : Obj := (setO [(917505, 391), (917536, 397), (917537, 398), (917538, 399), (917539, 400), (917540, 401), (917541, 402), (917542, 403), (917543, 404), (917544, 405), (917545, 406), (917546, 407), (917547, 408), (917548, 409), (917549, 410), (917550, 411), (917551, 412), (917552, 413), (917553, 414), (917554, 415), (917555, 416), (917556, 417), (917557, 418), (917558, 419), (917559, 420), (917560, 421), (917561, 422), (917562, 423), (917563, 424), (917564, 425), (917565, 426), (917566, 427), (917567, 428), (917568, 429), (917569, 430), (917570, 431), (917571, 432), (917572, 433), (917573, 434), (917574, 435), (917575, 436), (917576, 437), (917577, 438), (917578, 439), (917579, 440), (917580, 441), (917581, 442), (917582, 443), (917583, 444), (917584, 445), (917585, 446), (917586, 447), (917587, 448), (917588, 449), (917589, 450), (917590, 451), (917591, 452), (917592, 453), (917593, 454), (917594, 455), (917595, 456), (917596, 457), (917597, 458), (917598, 459), (917599, 460), (917600, 461), (917601, 462), (917602, 463), (917603, 464), (917604, 465), (917605, 466), (917606, 467), (917607, 468), (917608, 469), (917609, 470), (917610, 471), (917611, 472), (917612, 473), (917613, 474)] 82 511 [1, 32, 33, 34, 35, 36, 37, 38, 39, 40, 41, 42, 43, 44, 45, 46, 47, 48, 49, 50, 51, 52, 53, 54, 55, 56, 57, 58, 59, 60, 61, 62, 63, 64, 65, 66, 67, 68, 69, 70, 71, 72, 73, 74, 75, 76, 77, 78, 79, 80, 81, 82, 83, 84, 85, 86, 87, 88, 89, 90, 91, 92, 93, 94, 95, 96, 97, 98, 99, 100, 101, 102, 103, 104, 105, 106, 107, 108, 109] 3 b)
noncomputable def hb13x1x79x1 : Obj := ⟨(.type "list_iterator"), none, (.fields (Array.mk [(.ref 108), (.int 79 0)])), (Array.mk [])⟩
noncomputable def hb13x1x80x0 (b : Bool) : Obj := (setO [(917505, 391), (917536, 397), (917537, 398), (917538, 399), (917539, 400), (917540, 401), (917541, 402), (917542, 403), (917543, 404), (917544, 405), (917545, 406), (917546, 407), (917547, 408), (917548, 409), (917549, 410), (917550, 411), (917551, 412), (917552, 413), (917553, 414), (917554, 415), (917555, 416), (917556, 417), (917557, 418), (917558, 419), (917559, 420), (917560, 421), (917561, 422), (917562, 423), (917563, 424), (917564, 425), (917565, 426), (917566, 427), (917567, 428), (917568, 429), (917569, 430), (917570, 431), (917571, 432), (917572, 433), (917573, 434), (917574, 435), (917575, 436), (917576, 437), (917577, 438), (917578, 439), (917579, 440), (917580, 441), (917581, 442), (917582, 443), (917583, 444), (917584, 445), (917585, 446), (917586, 447), (917587, 448), (917588, 449), (917589, 450), (917590, 451), (917591, 452), (917592, 453), (917593, 454), (917594, 455), (917595, 456), (917596, 457), (917597, 458), (917598, 459), (917599, 460), (917600, 461), (917601, 462), (917602, 463), (917603, 464), (917604, 465), (917605, 466), (917606, 467), (917607, 468), (917608, 469), (917609, 470), (917610, 471), (917611, 472), (917612, 473), (917613, 474), (917614, 475)] 83 511 [1, 32, 33, 34, 35, 36, 37, 38, 39, 40, 41, 42, 43, 44, 45, 46, 47, 48, 49, 50, 51, 52, 53, 54, 55, 56, 57, 58, 59, 60, 61, 62, 63, 64, 65, 66, 67, 68, 69, 70, 71, 72, 73, 74, 75, 76, 77, 78, 79, 80, 81, 82, 83, 84, 85, 86, 87, 88, 89, 90, 91, 92, 93, 94, 95, 96, 97, 98, 99, 100, 101, 102, 103, 104, 105, 106, 107, 108, 109, 110] 3 b)
noncomputable def hb13x1x80x1 : Obj := ⟨(.type "list_iterator"), none, (.fields (Array.mk [(.ref 108), (.int 80 0)])), (Array.mk [])⟩
noncomputable def hb13x1x81x0 (b : Bool) : Obj := (setO [(917505, 391), (917536, 397), (917537, 398), (917538, 399), (917539, 400), (917540, 401), (917541, 402), (917542, 403), (917543, 404), (917544, 405), (917545, 406), (917546, 407), (917547, 408), (917548, 409), (917549, 410), (917550, 411), (917551, 412), (917552, 413), (917553, 414), (917554, 415), (917555, 416), (917556, 417), (917557, 418), (917558, 419), (917559, 420), (917560, 421), (917561, 422), (917562, 423), (917563, 424), (917564, 425), (917565, 426), (917566, 427), (917567, 428), (917568, 429), (917569, 430), (917570, 431), (917571, 432), (917572, 433), (917573, 434), (917574, 435), (917575, 436), (917576, 437), (917577, 438), (917578, 439), (917579, 440), (917580, 441), (917581, 442), (917582, 443), (917583, 444), (917584, 445), (917585, 446), (917586, 447), (917587, 448), (917588, 449), (917589, 450), (917590, 451), (917591, 452), (917592, 453), (917593, 454), (917594, 455), (917595, 456), (917596, 457), (917597, 458), (917598, 459), (917599, 460), (917600, 461), (917601, 462), (917602, 463), (917603, 464), (917604, 465), (917605, 466), (917606, 467), (917607, 468), (917608, 469), (917609, 470), (917610, 471), (917611, 472), (917612, 473), (917613, 474), (917614, 475), (917615, 476)] 84 511 [1, 32, 33, 34, 35, 36, 37, 38, 39, 40, 41, 42, 43, 44, 45, 46, 47, 48, 49, 50, 51, 52, 53, 54, 55, 56, 57, 58, 59, 60, 61, 62, 63, 64, 65, 66, 67, 68, 69, 70, 71, 72, 73, 74, 75, 76, 77, 78, 79, 80, 81, 82, 83, 84, 85, 86, 87, 88, 89, 90, 91, 92, 93, 94, 95, 96, 97, 98, 99, 100, 101, 102, 103, 104, 105, 106, 107, 108, 109, 110, 111] 3 b)
noncomputable def hb13x1x81x1 : Obj := ⟨(.type "list_iterator"), none, (.fields (Array.mk [(.ref 108), (.int 81 0)])), (Array.mk [])⟩
noncomputable def hb13x1x82x0 (b : Bool) : Obj := (setO [(917505, 391), (917536, 397), (917537, 398), (917538, 399), (917539, 400), (917540, 401), (917541, 402), (917542, 403), (917543, 404), (917544, 405), (917545, 406), (917546, 407), (917547, 408), (917548, 409), (917549, 410), (917550, 411), (917551, 412), (917552, 413), (917553, 414), (917554, 415), (917555, 416), (917556, 417), (917557, 418), (917558, 419), (917559, 420), (917560, 421), (917561, 422), (917562, 423), (917563, 424), (917564, 425), (917565, 426), (917566, 427), (917567, 428), (917568, 429), (917569, 430), (917570, 431), (917571, 432), (917572, 433), (917573, 434), (917574, 435), (917575, 436), (917576, 437), (917577, 438), (917578, 439), (917579, 440), (917580, 441), (917581, 442), (917582, 443), (917583, 444), (917584, 445), (917585, 446), (917586, 447), (917587, 448), (917588, 449), (917589, 450), (917590, 451), (917591, 452), (917592, 453), (917593, 454), (917594, 455), (917595, 456), (917596, 457), (917597, 458), (917598, 459), (917599, 460), (917600, 461), (917601, 462), (917602, 463), (917603, 464), (917604, 465), (917605, 466), (917606, 467), (917607, 468), (917608, 469), (917609, 470), (917610, 471), (917611, 472), (917612, 473), (917613, 474), (917614, 475), (917615, 476), (917616, 477)] 85 511 [1, 32, 33, 34, 35, 36, 37, 38, 39, 40, 41, 42, 43, 44, 45, 46, 47, 48, 49, 50, 51, 52, 53, 54, 55, 56, 57, 58, 59, 60, 61, 62, 63, 64, 65, 66, 67, 68, 69, 70, 71, 72, 73, 74, 75, 76, 77, 78, 79, 80, 81, 82, 83, 84, 85, 86, 87, 88, 89, 90, 91, 92, 93, 94, 95, 96, 97, 98, 99, 100, 101, 102, 103, 104, 105, 106, 107, 108, 109, 110, 111, 112] 3 b)
noncomputable def hb13x1x82x1 : Obj := ⟨(.type "list_iterator"), none, (.fields (Array.mk [(.ref 108), (.int 82 0)])), (Array.mk [])⟩
noncomputable def hb13x1x83x0 (b : Bool) : Obj := (setO [(917505, 391), (917536, 397), (917537, 398), (917538, 399), (917539, 400), (917540, 401), (917541, 402), (917542, 403), (917543, 404), (917544, 405), (917545, 406), (917546, 407), (917547, 408), (917548, 409), (917549, 410), (917550, 411), (917551, 412), (917552, 413), (917553, 414), (917554, 415), (917555, 416), (917556, 417), (917557, 418), (917558, 419), (917559, 420), (917560, 421), (917561, 422), (917562, 423), (917563, 424), (917564, 425), (917565, 426), (917566, 427), (917567, 428), (917568, 429), (917569, 430), (917570, 431), (917571, 432), (917572, 433), (917573, 434), (917574, 435), (917575, 436), (917576, 437), (917577, 438), (917578, 439), (917579, 440), (917580, 441), (917581, 442), (917582, 443), (917583, 444), (917584, 445), (917585, 446), (917586, 447), (917587, 448), (917588, 449), (917589, 450), (917590, 451), (917591, 452), (917592, 453), (917593, 454), (917594, 455), (917595, 456), (917596, 457), (917597, 458), (917598, 459), (917599, 460), (917600, 461), (917601, 462), (917602, 463), (917603, 464), (917604, 465), (917605, 466), (917606, 467), (917607, 468), (917608, 469), (917609, 470), (917610, 471), (917611, 472), (917612, 473), (917613, 474), (917614, 475), (917615, 476), (917616, 477), (917617, 478)] 86 511 [1, 32, 33, 34, 35, 36, 37, 38, 39, 40, 41, 42, 43, 44, 45, 46, 47, 48, 49, 50, 51, 52, 53, 54, 55, 56, 57, 58, 59, 60, 61, 62, 63, 64, 65, 66, 67, 68, 69, 70, 71, 72, 73, 74, 75, 76, 77, 78, 79, 80, 81, 82, 83, 84, 85, 86, 87, 88, 89, 90, 91, 92, 93, 94, 95, 96, 97, 98, 99, 100, 101, 102, 103, 104, 105, 106, 107, 108, 109, 110, 111, 112, 113] 3 b)
noncomputable def hb13x1x83x1 : Obj := ⟨(.type "list_iterator"), none, (.fields (Array.mk [(.ref 108), (.int 83 0)])), (Array.mk [])⟩
noncomputable def hb13x1x84x0 (b : Bool) : Obj := (setO [(917505, 391), (917536, 397), (917537, 398), (917538, 399), (917539, 400), (917540, 401), (917541, 402), (917542, 403), (917543, 404), (917544, 405), (917545, 406), (917546, 407), (917547, 408), (917548, 409), (917549, 410), (917550, 411), (917551, 412), (917552, 413), (917553, 414), (917554, 415), (917555, 416), (917556, 417), (917557, 418), (917558, 419), (917559, 420), (917560, 421), (917561, 422), (917562, 423), (917563, 424), (917564, 425), (917565, 426), (917566, 427), (917567, 428), (917568, 429), (917569, 430), (917570, 431), (917571, 432), (917572, 433), (917573, 434), (917574, 435), (917575, 436), (917576, 437), (917577, 438), (917578, 439), (917579, 440), (917580, 441), (917581, 442), (917582, 443), (917583, 444), (917584, 445), (917585, 446), (917586, 447), (917587, 448), (917588, 449), (917589, 450), (917590, 451), (917591, 452), (917592, 453), (917593, 454), (917594, 455), (917595, 456), (917596, 457), (917597, 458), (917598, 459), (917599, 460), (917600, 461), (917601, 462), (917602, 463), (917603, 464), (917604, 465), (917605, 466), (917606, 467), (917607, 468), (917608, 469), (917609, 470), (917610, 471), (917611, 472), (917612, 473), (917613, 474), (917614, 475), (917615, 476), (917616, 477), (917617, 478), (917618, 479)] 87 511 [1, 32, 33, 34, 35, 36, 37, 38, 39, 40, 41, 42, 43, 44, 45, 46, 47, 48, 49, 50, 51, 52, 53, 54, 55, 56, 57, 58, 59, 60, 61, 62, 63, 64, 65, 66, 67, 68, 69, 70, 71, 72, 73, 74, 75, 76, 77, 78, 79, 80, 81, 82, 83, 84, 85, 86, 87, 88, 89, 90, 91, 92, 93, 94, 95, 96, 97, 98, 99, 100, 101, 102, 103, 104, 105, 106, 107, 108, 109, 110, 111, 112, 113, 114] 3 b)
noncomputable def hb13x1x84x1 : Obj := ⟨(.type "list_iterator"), none, (.fields (Array.mk [(.ref 108), (.int 84 0)])), (Array.mk [])⟩
noncomputable def hb13x1x85x0 (b : Bool) : Obj := (setO [(917505, 391), (917536, 397), (917537, 398), (917538, 399), (917539, 400), (917540, 401), (917541, 402), (917542, 403), (917543, 404), (917544, 405), (917545, 406), (917546, 407), (917547, 408), (917548, 409), (917549, 410), (917550, 411), (917551, 412), (917552, 413), (917553, 414), (917554, 415), (917555, 416), (917556, 417), (917557, 418), (917558, 419), (917559, 420), (917560, 421), (917561, 422), (917562, 423), (917563, 424), (917564, 425), (917565, 426), (917566, 427), (917567, 428), (917568, 429), (917569, 430), (917570, 431), (917571, 432), (917572, 433), (917573, 434), (917574, 435), (917575, 436), (917576, 437), (917577, 438), (917578, 439), (917579, 440), (917580, 441), (917581, 442), (917582, 443), (917583, 444), (917584, 445), (917585, 446), (917586, 447), (917587, 448), (917588, 449), (917589, 450), (917590, 451), (917591, 452), (917592, 453), (917593, 454), (917594, 455), (917595, 456), (917596, 457), (917597, 458), (917598, 459), (917599, 460), (917600, 461), (917601, 462), (917602, 463), (917603, 464), (917604, 465), (917605, 466), (917606, 467), (917607, 468), (917608, 469), (917609, 470), (917610, 471), (917611, 472), (917612, 473), (917613, 474), (917614, 475), (917615, 476), (917616, 477), (917617, 478), (917618, 479), (917619, 480)] 88 511 [1, 32, 33, 34, 35, 36, 37, 38, 39, 40, 41, 42, 43, 44, 45, 46, 47, 48, 49, 50, 51, 52, 53, 54, 55, 56, 57, 58, 59, 60, 61, 62, 63, 64, 65, 66, 67, 68, 69, 70, 71, 72, 73, 74, 75, 76, 77, 78, 79, 80, 81, 82, 83, 84, 85, 86, 87, 88, 89, 90, 91, 92, 93, 94, 95, 96, 97, 98, 99, 100, 101, 102, 103, 104, 105, 106, 107, 108, 109, 110, 111, 112, 113, 114, 115] 3 b)
noncomputable def hb13x1x85x1 : Obj := ⟨(.type "list_iterator"), none, (.fields (Array.mk [(.ref 108), (.int 85 0)])), (Array.mk [])⟩
noncomputable def hb13x1x86x0 (b : Bool) : Obj := (setO [(917505, 391), (917536, 397), (917537, 398), (917538, 399), (917539, 400), (917540, 401), (917541, 402), (917542, 403), (917543, 404), (917544, 405), (917545, 406), (917546, 407), (917547, 408), (917548, 409), (917549, 410), (917550, 411), (917551, 412), (917552, 413), (917553, 414), (917554, 415), (917555, 416), (917556, 417), (917557, 418), (917558, 419), (917559, 420), (917560, 421), (917561, 422), (917562, 423), (917563, 424), (917564, 425), (917565, 426), (917566, 427), (917567, 428), (917568, 429), (917569, 430), (917570, 431), (917571, 432), (917572, 433), (917573, 434), (917574, 435), (917575, 436), (917576, 437), (917577, 438), (917578, 439), (917579, 440), (917580, 441), (917581, 442), (917582, 443), (917583, 444), (917584, 445), (917585, 446), (917586, 447), (917587, 448), (917588, 449), (917589, 450), (917590, 451), (917591, 452), (917592, 453), (917593, 454), (917594, 455), (917595, 456), (917596, 457), (917597, 458), (917598, 459), (917599, 460), (917600, 461), (917601, 462), (917602, 463), (917603, 464), (917604, 465), (917605, 466), (917606, 467), (917607, 468), (917608, 469), (917609, 470), (917610, 471), (917611, 472), (917612, 473), (917613, 474), (917614, 475), (917615, 476), (917616, 477), (917617, 478), (917618, 479), (917619, 480), (917620, 481)] 89 511 [1, 32, 33, 34, 35, 36, 37, 38, 39, 40, 41, 42, 43, 44, 45, 46, 47, 48, 49, 50, 51, 52, 53, 54, 55, 56, 57, 58, 59, 60, 61, 62, 63, 64, 65, 66, 67, 68, 69, 70, 71, 72, 73, 74, 75, 76, 77, 78, 79, 80, 81, 82, 83, 84, 85, 86, 87, 88, 89, 90, 91, 92, 93, 94, 95, 96, 97, 98, 99, 100, 101, 102, 103, 104, 105, 106, 107, 108, 109, 110, 111, 112, 113, 114, 115, 116] 3 b)
noncomputable def hb13x1x86x1 : Obj := ⟨(.type "list_iterator"), none, (.fields (Array.mk [(.ref 108), (.int 86 0)])), (Array.mk [])⟩
noncomputable def hb13x1x87x0 (b : Bool) : Obj := (setO [(917505, 391), (917536, 397), (917537, 398), (917538, 399), (917539, 400), (917540, 401), (917541, 402), (917542, 403), (917543, 404), (917544, 405), (917545, 406), (917546, 407), (917547, 408), (917548, 409), (917549, 410), (917550, 411), (917551, 412), (917552, 413), (917553, 414), (917554, 415), (917555, 416), (917556, 417), (917557, 418), (917558, 419), (917559, 420), (917560, 421), (917561, 422), (917562, 423), (917563, 424), (917564, 425), (917565, 426), (917566, 427), (917567, 428), (917568, 429), (917569, 430), (917570, 431), (917571, 432), (917572, 433), (917573, 434), (917574, 435), (917575, 436), (917576, 437), (917577, 438), (917578, 439), (917579, 440), (917580, 441), (917581, 442), (917582, 443), (917583, 444), (917584, 445), (917585, 446), (917586, 447), (917587, 448), (917588, 449), (917589, 450), (917590, 451), (917591, 452), (917592, 453), (917593, 454), (917594, 455), (917595, 456), (917596, 457), (917597, 458), (917598, 459), (917599, 460), (917600, 461), (917601, 462), (917602, 463), (917603, 464), (917604, 465), (917605, 466), (917606, 467), (917607, 468), (917608, 469), (917609, 470), (917610, 471), (917611, 472), (917612, 473), (917613, 474), (917614, 475), (917615, 476), (917616, 477), (917617, 478), (917618, 479), (917619, 480), (917620, 481), (917621, 482)] 90 511 [1, 32, 33, 34, 35, 36, 37, 38, 39, 40, 41, 42, 43, 44, 45, 46, 47, 48, 49, 50, 51, 52, 53, 54, 55, 56, 57, 58, 59, 60, 61, 62, 63, 64, 65, 66, 67, 68, 69, 70, 71, 72, 73, 74, 75, 76, 77, 78, 79, 80, 81, 82, 83, 84, 85, 86, 87, 88, 89, 90, 91, 92, 93, 94, 95, 96, 97, 98, 99, 100, 101, 102, 103, 104, 105, 106, 107, 108, 109, 110, 111, 112, 113, 114, 115, 116, 117] 3 b)
noncomputable def hb13x1x87x1 : Obj := ⟨(.type "list_iterator"), none, (.fields (Array.mk [(.ref 108), (.int 87 0)])), (Array.mk [])⟩
noncomputable def hb13x1x88x0 (b : Bool) : Obj := (setO [(917505, 391), (917536, 397), (917537, 398), (917538, 399), (917539, 400), (917540, 401), (917541, 402), (917542, 403), (917543, 404), (917544, 405), (917545, 406), (917546, 407), (917547, 408), (917548, 409), (917549, 410), (917550, 411), (917551, 412), (917552, 413), (917553, 414), (917554, 415), (917555, 416), (917556, 417), (917557, 418), (917558, 419), (917559, 420), (917560, 421), (917561, 422), (917562, 423), (917563, 424), (917564, 425), (917565, 426), (917566, 427), (917567, 428), (917568, 429), (917569, 430), (917570, 431), (917571, 432), (917572, 433), (917573, 434), (917574, 435), (917575, 436), (917576, 437), (917577, 438), (917578, 439), (917579, 440), (917580, 441), (917581, 442), (917582, 443), (917583, 444), (917584, 445), (917585, 446), (917586, 447), (917587, 448), (917588, 449), (917589, 450), (917590, 451), (917591, 452), (917592, 453), (917593, 454), (917594, 455), (917595, 456), (917596, 457), (917597, 458), (917598, 459), (917599, 460), (917600, 461), (917601, 462), (917602, 463), (917603, 464), (917604, 465), (917605, 466), (917606, 467), (917607, 468), (917608, 469), (917609, 470), (917610, 471), (917611, 472), (917612, 473), (917613, 474), (917614, 475), (917615, 476), (917616, 477), (917617, 478), (917618, 479), (917619, 480), (917620, 481), (917621, 482), (917622, 483)] 91 511 [1, 32, 33, 34, 35, 36, 37, 38, 39, 40, 41, 42, 43, 44, 45, 46, 47, 48, 49, 50, 51, 52, 53, 54, 55, 56, 57, 58, 59, 60, 61, 62, 63, 64, 65, 66, 67, 68, 69, 70, 71, 72, 73, 74, 75, 76, 77, 78, 79, 80, 81, 82, 83, 84, 85, 86, 87, 88, 89, 90, 91, 92, 93, 94, 95, 96, 97, 98, 99, 100, 101, 102, 103, 104, 105, 106, 107, 108, 109, 110, 111, 112, 113, 114, 115, 116, 117, 118] 3 b)
noncomputable def hb13x1x88x1 : Obj := ⟨(.type "list_iterator"), none, (.fields (Array.mk [(.ref 108), (.int 88 0)])), (Array.mk [])⟩
noncomputable def hb13x1x89x0 (b : Bool) : Obj := (setO [(917505, 391), (917536, 397), (917537, 398), (917538, 399), (917539, 400), (917540, 401), (917541, 402), (917542, 403), (917543, 404), (917544, 405), (917545, 406), (917546, 407), (917547, 408), (917548, 409), (917549, 410), (917550, 411), (917551, 412), (917552, 413), (917553, 414), (917554, 415), (917555, 416), (917556, 417), (917557, 418), (917558, 419), (917559, 420), (917560, 421), (917561, 422), (917562, 423), (917563, 424), (917564, 425), (917565, 426), (917566, 427), (917567, 428), (917568, 429), (917569, 430), (917570, 431), (917571, 432), (917572, 433), (917573, 434), (917574, 435), (917575, 436), (917576, 437), (917577, 438), (917578, 439), (917579, 440), (917580, 441), (917581, 442), (917582, 443), (917583, 444), (917584, 445), (917585, 446), (917586, 447), (917587, 448), (917588, 449), (917589, 450), (917590, 451), (917591, 452), (917592, 453), (917593, 454), (917594, 455), (917595, 456), (917596, 457), (917597, 458), (917598, 459), (917599, 460), (917600, 461), (917601, 462), (917602, 463), (917603, 464), (917604, 465), (917605, 466), (917606, 467), (917607, 468), (917608, 469), (917609, 470), (917610, 471), (917611, 472), (917612, 473), (917613, 474), (917614, 475), (917615, 476), (917616, 477), (917617, 478), (917618, 479), (917619, 480), (917620, 481), (917621, 482), (917622, 483), (917623, 484)] 92 511 [1, 32, 33, 34, 35, 36, 37, 38, 39, 40, 41, 42, 43, 44, 45, 46, 47, 48, 49, 50, 51, 52, 53, 54, 55, 56, 57, 58, 59, 60, 61, 62, 63, 64, 65, 66, 67, 68, 69, 70, 71, 72, 73, 74, 75, 76, 77, 78, 79, 80, 81, 82, 83, 84, 85, 86, 87, 88, 89, 90, 91, 92, 93, 94, 95, 96, 97, 98, 99, 100, 101, 102, 103, 104, 105, 106, 107, 108, 109, 110, 111, 112, 113, 114, 115, 116, 117, 118, 119] 3 b)
noncomputable def hb13x1x89x1 : Obj := ⟨(.type "list_iterator"), none, (.fields (Array.mk [(.ref 108), (.int 89 0)])), (Array.mk [])⟩
noncomputable def hb13x1x90x0 (b : Bool) : Obj := (setO [(917505, 391), (917536, 397), (917537, 398), (917538, 399), (917539, 400), (917540, 401), (917541, 402), (917542, 403), (917543, 404), (917544, 405), (917545, 406), (917546, 407), (917547, 408), (917548, 409), (917549, 410), (917550, 411), (917551, 412), (917552, 413), (917553, 414), (917554, 415), (917555, 416), (917556, 417), (917557, 418), (917558, 419), (917559, 420), (917560, 421), (917561, 422), (917562, 423), (917563, 424), (917564, 425), (917565, 426), (917566, 427), (917567, 428), (917568, 429), (917569, 430), (917570, 431), (917571, 432), (917572, 433), (917573, 434), (917574, 435), (917575, 436), (917576, 437), (917577, 438), (917578, 439), (917579, 440), (917580, 441), (917581, 442), (917582, 443), (917583, 444), (917584, 445), (917585, 446), (917586, 447), (917587, 448), (917588, 449), (917589, 450), (917590, 451), (917591, 452), (917592, 453), (917593, 454), (917594, 455), (917595, 456), (917596, 457), (917597, 458), (917598, 459), (917599, 460), (917600, 461), (917601, 462), (917602, 463), (917603, 464), (917604, 465), (917605, 466), (917606, 467), (917607, 468), (917608, 469), (917609, 470), (917610, 471), (917611, 472), (917612, 473), (917613, 474), (917614, 475), (917615, 476), (917616, 477), (917617, 478), (917618, 479), (917619, 480), (917620, 481), (917621, 482), (917622, 483), (917623, 484), (917624, 485)] 93 511 [1, 32, 33, 34, 35, 36, 37, 38, 39, 40, 41, 42, 43, 44, 45, 46, 47, 48, 49, 50, 51, 52, 53, 54, 55, 56, 57, 58, 59, 60, 61, 62, 63, 64, 65, 66, 67, 68, 69, 70, 71, 72, 73, 74, 75, 76, 77, 78, 79, 80, 81, 82, 83, 84, 85, 86, 87, 88, 89, 90, 91, 92, 93, 94, 95, 96, 97, 98, 99, 100, 101, 102, 103, 104, 105, 106, 107, 108, 109, 110, 111, 112, 113, 114, 115, 116, 117, 118, 119, 120] 3 b)
noncomputable def hb13x1x90x1 : Obj := ⟨(.type "list_iterator"), none, (.fields (Array.mk [(.ref 108), (.int 90 0)])), (Array.mk [])⟩
noncomputable def hb13x1x91x0 (b : Bool) : Obj := (setO [(917505, 391), (917536, 397), (917537, 398), (917538, 399), (917539, 400), (917540, 401), (917541, 402), (917542, 403), (917543, 404), (917544, 405), (917545, 406), (917546, 407), (917547, 408), (917548, 409), (917549, 410), (917550, 411), (917551, 412), (917552, 413), (917553, 414), (917554, 415), (917555, 416), (917556, 417), (917557, 418), (917558, 419), (917559, 420), (917560, 421), (917561, 422), (917562, 423), (917563, 424), (917564, 425), (917565, 426), (917566, 427), (917567, 428), (917568, 429), (917569, 430), (917570, 431), (917571, 432), (917572, 433), (917573, 434), (917574, 435), (917575, 436), (917576, 437), (917577, 438), (917578, 439), (917579, 440), (917580, 441), (917581, 442), (917582, 443), (917583, 444), (917584, 445), (917585, 446), (917586, 447), (917587, 448), (917588, 449), (917589, 450), (917590, 451), (917591, 452), (917592, 453), (917593, 454), (917594, 455), (917595, 456), (917596, 457), (917597, 458), (917598, 459), (917599, 460), (917600, 461), (917601, 462), (917602, 463), (917603, 464), (917604, 465), (917605, 466), (917606, 467), (917607, 468), (917608, 469), (917609, 470), (917610, 471), (917611, 472), (917612, 473), (917613, 474), (917614, 475), (917615, 476), (917616, 477), (917617, 478), (917618, 479), (917619, 480), (917620, 481), (917621, 482), (917622, 483), (917623, 484), (917624, 485), (917625, 486)] 94 511 [1, 32, 33, 34, 35, 36, 37, 38, 39, 40, 41, 42, 43, 44, 45, 46, 47, 48, 49, 50, 51, 52, 53, 54, 55, 56, 57, 58, 59, 60, 61, 62, 63, 64, 65, 66, 67, 68, 69, 70, 71, 72, 73, 74, 75, 76, 77, 78, 79, 80, 81, 82, 83, 84, 85, 86, 87, 88, 89, 90, 91, 92, 93, 94, 95, 96, 97, 98, 99, 100, 101, 102, 103, 104, 105, 106, 107, 108, 109, 110, 111, 112, 113, 114, 115, 116, 117, 118, 119, 120, 121] 3 b)
noncomputable def hb13x1x91x1 : Obj := ⟨(.type "list_iterator"), none, (.fields (Array.mk [(.ref 108), (.int 91 0)])), (Array.mk [])⟩
noncomputable def hb13x1x92x0 (b : Bool) : Obj := (setO [(917505, 391), (917536, 397), (917537, 398), (917538, 399), (917539, 400), (917540, 401), (917541, 402), (917542, 403), (917543, 404), (917544, 405), (917545, 406), (917546, 407), (917547, 408), (917548, 409), (917549, 410), (917550, 411), (917551, 412), (917552, 413), (917553, 414), (917554, 415), (917555, 416), (917556, 417), (917557, 418), (917558, 419), (917559, 420), (917560, 421), (917561, 422), (917562, 423), (917563, 424), (917564, 425), (917565, 426), (917566, 427), (917567, 428), (917568, 429), (917569, 430), (917570, 431), (917571, 432), (917572, 433), (917573, 434), (917574, 435), (917575, 436), (917576, 437), (917577, 438), (917578, 439), (917579, 440), (917580, 441), (917581, 442), (917582, 443), (917583, 444), (917584, 445), (917585, 446), (917586, 447), (917587, 448), (917588, 449), (917589, 450), (917590, 451), (917591, 452), (917592, 453), (917593, 454), (917594, 455), (917595, 456), (917596, 457), (917597, 458), (917598, 459), (917599, 460), (917600, 461), (917601, 462), (917602, 463), (917603, 464), (917604, 465), (917605, 466), (917606, 467), (917607, 468), (917608, 469), (917609, 470), (917610, 471), (917611, 472), (917612, 473), (917613, 474), (917614, 475), (917615, 476), (917616, 477), (917617, 478), (917618, 479), (917619, 480), (917620, 481), (917621, 482), (917622, 483), (917623, 484), (917624, 485), (917625, 486), (917626, 487)] 95 511 [1, 32, 33, 34, 35, 36, 37, 38, 39, 40, 41, 42, 43, 44, 45, 46, 47, 48, 49, 50, 51, 52, 53, 54, 55, 56, 57, 58, 59, 60, 61, 62, 63, 64, 65, 66, 67, 68, 69, 70, 71, 72, 73, 74, 75, 76, 77, 78, 79, 80, 81, 82, 83, 84, 85, 86, 87, 88, 89, 90, 91, 92, 93, 94, 95, 96, 97, 98, 99, 100, 101, 102, 103, 104, 105, 106, 107, 108, 109, 110, 111, 112, 113, 114, 115, 116, 117, 118, 119, 120, 121, 122] 3 b)
noncomputable def hb13x1x92x1 : Obj := ⟨(.type "list_iterator"), none, (.fields (Array.mk [(.ref 108), (.int 92 0)])), (Array.mk [])⟩
noncomputable def hb13x1x93x0 (b : Bool) : Obj := (setO [(917505, 391), (917536, 397), (917537, 398), (917538, 399), (917539, 400), (917540, 401), (917541, 402), (917542, 403), (917543, 404), (917544, 405), (917545, 406), (917546, 407), (917547, 408), (917548, 409), (917549, 410), (917550, 411), (917551, 412), (917552, 413), (917553, 414), (917554, 415), (917555, 416), (917556, 417), (917557, 418), (917558, 419), (917559, 420), (917560, 421), (917561, 422), (917562, 423), (917563, 424), (917564, 425), (917565, 426), (917566, 427), (917567, 428), (917568, 429), (917569, 430), (917570, 431), (917571, 432), (917572, 433), (917573, 434), (917574, 435), (917575, 436), (917576, 437), (917577, 438), (917578, 439), (917579, 440), (917580, 441), (917581, 442), (917582, 443), (917583, 444), (917584, 445), (917585, 446), (917586, 447), (917587, 448), (917588, 449), (917589, 450), (917590, 451), (917591, 452), (917592, 453), (917593, 454), (917594, 455), (917595, 456), (917596, 457), (917597, 458), (917598, 459), (917599, 460), (917600, 461), (917601, 462), (917602, 463), (917603, 464), (917604, 465), (917605, 466), (917606, 467), (917607, 468), (917608, 469), (917609, 470), (917610, 471), (917611, 472), (917612, 473), (917613, 474), (917614, 475), (917615, 476), (917616, 477), (917617, 478), (917618, 479), (917619, 480), (917620, 481), (917621, 482), (917622, 483), (917623, 484), (917624, 485), (917625, 486), (917626, 487), (917627, 488)] 96 511 [1, 32, 33, 34, 35, 36, 37, 38, 39, 40, 41, 42, 43, 44, 45, 46, 47, 48, 49, 50, 51, 52, 53, 54, 55, 56, 57, 58, 59, 60, 61, 62, 63, 64, 65, 66, 67, 68, 69, 70, 71, 72, 73, 74, 75, 76, 77, 78, 79, 80, 81, 82, 83, 84, 85, 86, 87, 88, 89, 90, 91, 92, 93, 94, 95, 96, 97, 98, 99, 100, 101, 102, 103, 104, 105, 106, 107, 108, 109, 110, 111, 112, 113, 114, 115, 116, 117, 118, 119, 120, 121, 122, 123] 3 b)
noncomputable def hb13x1x93x1 : Obj := ⟨(.type "list_iterator"), none, (.fields (Array.mk [(.ref 108), (.int 93 0)])), (Array.mk [])⟩
noncomputable def hb13x1x94x0 (b : Bool) : Obj := (setO [(917505, 391), (917536, 397), (917537, 398), (917538, 399), (917539, 400), (917540, 401), (917541, 402), (917542, 403), (917543, 404), (917544, 405), (917545, 406), (917546, 407), (917547, 408), (917548, 409), (917549, 410), (917550, 411), (917551, 412), (917552, 413), (917553, 414), (917554, 415), (917555, 416), (917556, 417), (917557, 418), (917558, 419), (917559, 420), (917560, 421), (917561, 422), (917562, 423), (917563, 424), (917564, 425), (917565, 426), (917566, 427), (917567, 428), (917568, 429), (917569, 430), (917570, 431), (917571, 432), (917572, 433), (917573, 434), (917574, 435), (917575, 436), (917576, 437), (917577, 438), (917578, 439), (917579, 440), (917580, 441), (917581, 442), (917582, 443), (917583, 444), (917584, 445), (917585, 446), (917586, 447), (917587, 448), (917588, 449), (917589, 450), (917590, 451), (917591, 452), (917592, 453), (917593, 454), (917594, 455), (917595, 456), (917596, 457), (917597, 458), (917598, 459), (917599, 460), (917600, 461), (917601, 462), (917602, 463), (917603, 464), (917604, 465), (917605, 466), (917606, 467), (917607, 468), (917608, 469), (917609, 470), (917610, 471), (917611, 472), (917612, 473), (917613, 474), (917614, 475), (917615, 476), (917616, 477), (917617, 478), (917618, 479), (917619, 480), (917620, 481), (917621, 482), (917622, 483), (917623, 484), (917624, 485), (917625, 486), (917626, 487), (917627, 488), (917628, 489)] 97 511 [1, 32, 33, 34, 35, 36, 37, 38, 39, 40, 41, 42, 43, 44, 45, 46, 47, 48, 49, 50, 51, 52, 53, 54, 55, 56, 57, 58, 59, 60, 61, 62, 63, 64, 65, 66, 67, 68, 69, 70, 71, 72, 73, 74, 75, 76, 77, 78, 79, 80, 81, 82, 83, 84, 85, 86, 87, 88, 89, 90, 91, 92, 93, 94, 95, 96, 97, 98, 99, 100, 101, 102, 103, 104, 105, 106, 107, 108, 109, 110, 111, 112, 113, 114, 115, 116, 117, 118, 119, 120, 121, 122, 123, 124] 3 b)
noncomputable def hb13x1x94x1 : Obj := ⟨(.type "list_iterator"), none, (.fields (Array.mk [(.ref 108), (.int 94 0)])), (Array.mk [])⟩
noncomputable def hb13x1x95x0 (b : Bool) : Obj := (setO [(917505, 391), (917536, 397), (917537, 398), (917538, 399), (917539, 400), (917540, 401), (917541, 402), (917542, 403), (917543, 404), (917544, 405), (917545, 406), (917546, 407), (917547, 408), (917548, 409), (917549, 410), (917550, 411), (917551, 412), (917552, 413), (917553, 414), (917554, 415), (917555, 416), (917556, 417), (917557, 418), (917558, 419), (917559, 420), (917560, 421), (917561, 422), (917562, 423), (917563, 424), (917564, 425), (917565, 426), (917566, 427), (917567, 428), (917568, 429), (917569, 430), (917570, 431), (917571, 432), (917572, 433), (917573, 434), (917574, 435), (917575, 436), (917576, 437), (917577, 438), (917578, 439), (917579, 440), (917580, 441), (917581, 442), (917582, 443), (917583, 444), (917584, 445), (917585, 446), (917586, 447), (917587, 448), (917588, 449), (917589, 450), (917590, 451), (917591, 452), (917592, 453), (917593, 454), (917594, 455), (917595, 456), (917596, 457), (917597, 458), (917598, 459), (917599, 460), (917600, 461), (917601, 462), (917602, 463), (917603, 464), (917604, 465), (917605, 466), (917606, 467), (917607, 468), (917608, 469), (917609, 470), (917610, 471), (917611, 472), (917612, 473), (917613, 474), (917614, 475), (917615, 476), (917616, 477), (917617, 478), (917618, 479), (917619, 480), (917620, 481), (917621, 482), (917622, 483), (917623, 484), (917624, 485), (917625, 486), (917626, 487), (917627, 488), (917628, 489), (917629, 490)] 98 511 [1, 32, 33, 34, 35, 36, 37, 38, 39, 40, 41, 42, 43, 44, 45, 46, 47, 48, 49, 50, 51, 52, 53, 54, 55, 56, 57, 58, 59, 60, 61, 62, 63, 64, 65, 66, 67, 68, 69, 70, 71, 72, 73, 74, 75, 76, 77, 78, 79, 80, 81, 82, 83, 84, 85, 86, 87, 88, 89, 90, 91, 92, 93, 94, 95, 96, 97, 98, 99, 100, 101, 102, 103, 104, 105, 106, 107, 108, 109, 110, 111, 112, 113, 114, 115, 116, 117, 118, 119, 120, 121, 122, 123, 124, 125] 3 b)
noncomputable def hb13x1x95x1 : Obj := ⟨(.type "list_iterator"), none, (.fields (Array.mk [(.ref 108), (.int 95 0)])), (Array.mk [])⟩
noncomputable def hb13x1x96x0 (b : Bool) : Obj := (setO [(917505, 391), (917536, 397), (917537, 398), (917538, 399), (917539, 400), (917540, 401), (917541, 402), (917542, 403), (917543, 404), (917544, 405), (917545, 406), (917546, 407), (917547, 408), (917548, 409), (917549, 410), (917550, 411), (917551, 412), (917552, 413), (917553, 414), (917554, 415), (917555, 416), (917556, 417), (917557, 418), (917558, 419), (917559, 420), (917560, 421), (917561, 422), (917562, 423), (917563, 424), (917564, 425), (917565, 426), (917566, 427), (917567, 428), (917568, 429), (917569, 430), (917570, 431), (917571, 432), (917572, 433), (917573, 434), (917574, 435), (917575, 436), (917576, 437), (917577, 438), (917578, 439), (917579, 440), (917580, 441), (917581, 442), (917582, 443), (917583, 444), (917584, 445), (917585, 446), (917586, 447), (917587, 448), (917588, 449), (917589, 450), (917590, 451), (917591, 452), (917592, 453), (917593, 454), (917594, 455), (917595, 456), (917596, 457), (917597, 458), (917598, 459), (917599, 460), (917600, 461), (917601, 462), (917602, 463), (917603, 464), (917604, 465), (917605, 466), (917606, 467), (917607, 468), (917608, 469), (917609, 470), (917610, 471), (917611, 472), (917612, 473), (917613, 474), (917614, 475), (917615, 476), (917616, 477), (917617, 478), (917618, 479), (917619, 480), (917620, 481), (917621, 482), (917622, 483), (917623, 484), (917624, 485), (917625, 486), (917626, 487), (917627, 488), (917628, 489), (917629, 490), (917630, 491)] 99 511 [1, 32, 33, 34, 35, 36, 37, 38, 39, 40, 41, 42, 43, 44, 45, 46, 47, 48, 49, 50, 51, 52, 53, 54, 55, 56, 57, 58, 59, 60, 61, 62, 63, 64, 65, 66, 67, 68, 69, 70, 71, 72, 73, 74, 75, 76, 77, 78, 79, 80, 81, 82, 83, 84, 85, 86, 87, 88, 89, 90, 91, 92, 93, 94, 95, 96, 97, 98, 99, 100, 101, 102, 103, 104, 105, 106, 107, 108, 109, 110, 111, 112, 113, 114, 115, 116, 117, 118, 119, 120, 121, 122, 123, 124, 125, 126] 3 b)
noncomputable def hb13x1x96x1 : Obj := ⟨(.type "list_iterator"), none, (.fields (Array.mk [(.ref 108), (.int 96 0)])), (Array.mk [])⟩
noncomputable def hb13x1x97x0 (b : Bool) : Obj := (setO [(917505, 391), (917536, 397), (917537, 398), (917538, 399), (917539, 400), (917540, 401), (917541, 402), (917542, 403), (917543, 404), (917544, 405), (917545, 406), (917546, 407), (917547, 408), (917548, 409), (917549, 410), (917550, 411), (917551, 412), (917552, 413), (917553, 414), (917554, 415), (917555, 416), (917556, 417), (917557, 418), (917558, 419), (917559, 420), (917560, 421), (917561, 422), (917562, 423), (917563, 424), (917564, 425), (917565, 426), (917566, 427), (917567, 428), (917568, 429), (917569, 430), (917570, 431), (917571, 432), (917572, 433), (917573, 434), (917574, 435), (917575, 436), (917576, 437), (917577, 438), (917578, 439), (917579, 440), (917580, 441), (917581, 442), (917582, 443), (917583, 444), (917584, 445), (917585, 446), (917586, 447), (917587, 448), (917588, 449), (917589, 450), (917590, 451), (917591, 452), (917592, 453), (917593, 454), (917594, 455), (917595, 456), (917596, 457), (917597, 458), (917598, 459), (917599, 460), (917600, 461), (917601, 462), (917602, 463), (917603, 464), (917604, 465), (917605, 466), (917606, 467), (917607, 468), (917608, 469), (917609, 470), (917610, 471), (917611, 472), (917612, 473), (917613, 474), (917614, 475), (917615, 476), (917616, 477), (917617, 478), (917618, 479), (917619, 480), (917620, 481), (917621, 482), (917622, 483), (917623, 484), (917624, 485), (917625, 486), (917626, 487), (917627, 488), (917628, 489), (917629, 490), (917630, 491), (917631, 492)] 100 511 [1, 32, 33, 34, 35, 36, 37, 38, 39, 40, 41, 42, 43, 44, 45, 46, 47, 48, 49, 50, 51, 52, 53, 54, 55, 56, 57, 58, 59, 60, 61, 62, 63, 64, 65, 66, 67, 68, 69, 70, 71, 72, 73, 74, 75, 76, 77, 78, 79, 80, 81, 82, 83, 84, 85, 86, 87, 88, 89, 90, 91, 92, 93, 94, 95, 96, 97, 98, 99, 100, 101, 102, 103, 104, 105, 106, 107, 108, 109, 110, 111, 112, 113, 114, 115, 116, 117, 118, 119, 120, 121, 122, 123, 124, 125, 126, 127] 3 b)
noncomputable def hb13x1x97x1 : Obj := ⟨(.type "list_iterator"), none, (.fields (Array.mk [(.ref 108), (.int 97 0)])), (Array.mk [])⟩
noncomputable def stk13x1 (sg : SG) (dn : DN) (tb : String → Option Builtin) (p : Program) (w : World) (os : OsState) : List Frame := stkOf (sg tb p w 11 ann 1 59 (SharedT.mk (TL13x0 p w.params hb13x0x96x0 hb13x0x96x1) 106 lf (Array.mk []) dr 493 os) ⟨dn tb cd13x0, cd13x0, ⟨56, 24, 56, 51⟩, stk13x0 sg dn tb p w os⟩)
theorem segA13x1 : ∀ (w : World) (os : OsState), goT w 59 (SharedT.mk (TL13x0 PySem.Challenge.pw_mq0100_01 w.params hb13x0x96x0 hb13x0x96x1) 106 lf (Array.mk []) dr 493 os) ⟨denote treeTable cd13x0, cd13x0, ⟨56, 24, 56, 51⟩, stk13x0 @segGoT @denote treeTable PySem.Challenge.pw_mq0100_01 w os⟩ = some ((SharedT.mk (TL13x1 PySem.Challenge.pw_mq0100_01 w.params (hb13x1x0x0 (not (w.params.followText "set-order"))) hb13x1x0x1) 111 lf (Array.mk []) dr 493 os), ⟨denote treeTable cd13x1, cd13x1, ⟨56, 9, 56, 52⟩, stk13x1 @segGoT @denote treeTable PySem.Challenge.pw_mq0100_01 w os⟩) := by
  refine byRow2 "special-get-raises" ?_ ?_ <;> (intro w os; unfold goT; rewrite [PySem.W.Fast.te10295753902157049106, PySem.W.Fast.te11892475500146522536, PySem.W.Fast.te14364793385576792824, PySem.W.Fast.te7261500446525621778]; kernel_rfl)
theorem okA13x1 : ∀ (w : World) (os : OsState), okStk (stk13x1 @segGoT @denote treeTable PySem.Challenge.pw_mq0100_01 w os) = true := by
  refine byRow2 "special-get-raises" ?_ ?_ <;> (intro w os; rewrite [PySem.W.Fast.te10295753902157049106, PySem.W.Fast.te11892475500146522536, PySem.W.Fast.te14364793385576792824, PySem.W.Fast.te7261500446525621778]; kernel_rfl)
theorem it13x1x0 (b : Bool) : Turn TL13x1 111 cd13x1 ⟨56, 9, 56, 52⟩ 20 (hb13x1x0x0 b) hb13x1x0x1 493 (hb13x1x1x0 b) hb13x1x1x1 494 := by cases b <;> exact turn_row (by intros; kernel_rfl) (by intros; kernel_rfl)
theorem it13x1x1 (b : Bool) : Turn TL13x1 111 cd13x1 ⟨56, 9, 56, 52⟩ 20 (hb13x1x1x0 b) hb13x1x1x1 494 (hb13x1x2x0 b) hb13x1x2x1 495 := by cases b <;> exact turn_row (by intros; kernel_rfl) (by intros; kernel_rfl)
theorem it13x1x2 (b : Bool) : Turn TL13x1 111 cd13x1 ⟨56, 9, 56, 52⟩ 20 (hb13x1x2x0 b) hb13x1x2x1 495 (hb13x1x3x0 b) hb13x1x3x1 496 := by cases b <;> exact turn_row (by intros; kernel_rfl) (by intros; kernel_rfl)
theorem it13x1x3 (b : Bool) : Turn TL13x1 111 cd13x1 ⟨56, 9, 56, 52⟩ 20 (hb13x1x3x0 b) hb13x1x3x1 496 (hb13x1x4x0 b) hb13x1x4x1 497 := by cases b <;> exact turn_row (by intros; kernel_rfl) (by intros; kernel_rfl)
theorem it13x1x4 (b : Bool) : Turn TL13x1 111 cd13x1 ⟨56, 9, 56, 52⟩ 22 (hb13x1x4x0 b) hb13x1x4x1 497 (hb13x1x5x0 b) hb13x1x5x1 498 := by cases b <;> exact turn_row (by intros; kernel_rfl) (by intros; kernel_rfl)
theorem it13x1x5 (b : Bool) : Turn TL13x1 111 cd13x1 ⟨56, 9, 56, 52⟩ 20 (hb13x1x5x0 b) hb13x1x5x1 498 (hb13x1x6x0 b) hb13x1x6x1 499 := by cases b <;> exact turn_row (by intros; kernel_rfl) (by intros; kernel_rfl)
theorem it13x1x6 (b : Bool) : Turn TL13x1 111 cd13x1 ⟨56, 9, 56, 52⟩ 20 (hb13x1x6x0 b) hb13x1x6x1 499 (hb13x1x7x0 b) hb13x1x7x1 500 := by cases b <;> exact turn_row (by intros; kernel_rfl) (by intros; kernel_rfl)
theorem it13x1x7 (b : Bool) : Turn TL13x1 111 cd13x1 ⟨56, 9, 56, 52⟩ 20 (hb13x1x7x0 b) hb13x1x7x1 500 (hb13x1x8x0 b) hb13x1x8x1 501 := by cases b <;> exact turn_row (by intros; kernel_rfl) (by intros; kernel_rfl)
theorem it13x1x8 (b : Bool) : Turn TL13x1 111 cd13x1 ⟨56, 9, 56, 52⟩ 20 (hb13x1x8x0 b) hb13x1x8x1 501 (hb13x1x9x0 b) hb13x1x9x1 502 := by cases b <;> exact turn_row (by intros; kernel_rfl) (by intros; kernel_rfl)
theorem it13x1x9 (b : Bool) : Turn TL13x1 111 cd13x1 ⟨56, 9, 56, 52⟩ 20 (hb13x1x9x0 b) hb13x1x9x1 502 (hb13x1x10x0 b) hb13x1x10x1 503 := by cases b <;> exact turn_row (by intros; kernel_rfl) (by intros; kernel_rfl)
theorem it13x1x10 (b : Bool) : Turn TL13x1 111 cd13x1 ⟨56, 9, 56, 52⟩ 20 (hb13x1x10x0 b) hb13x1x10x1 503 (hb13x1x11x0 b) hb13x1x11x1 504 := by cases b <;> exact turn_row (by intros; kernel_rfl) (by intros; kernel_rfl)
theorem it13x1x11 (b : Bool) : Turn TL13x1 111 cd13x1 ⟨56, 9, 56, 52⟩ 20 (hb13x1x11x0 b) hb13x1x11x1 504 (hb13x1x12x0 b) hb13x1x12x1 505 := by cases b <;> exact turn_row (by intros; kernel_rfl) (by intros; kernel_rfl)
theorem it13x1x12 (b : Bool) : Turn TL13x1 111 cd13x1 ⟨56, 9, 56, 52⟩ 20 (hb13x1x12x0 b) hb13x1x12x1 505 (hb13x1x13x0 b) hb13x1x13x1 506 := by cases b <;> exact turn_row (by intros; kernel_rfl) (by intros; kernel_rfl)
theorem it13x1x13 (b : Bool) : Turn TL13x1 111 cd13x1 ⟨56, 9, 56, 52⟩ 20 (hb13x1x13x0 b) hb13x1x13x1 506 (hb13x1x14x0 b) hb13x1x14x1 507 := by cases b <;> exact turn_row (by intros; kernel_rfl) (by intros; kernel_rfl)
theorem it13x1x14 (b : Bool) : Turn TL13x1 111 cd13x1 ⟨56, 9, 56, 52⟩ 20 (hb13x1x14x0 b) hb13x1x14x1 507 (hb13x1x15x0 b) hb13x1x15x1 508 := by cases b <;> exact turn_row (by intros; kernel_rfl) (by intros; kernel_rfl)
theorem it13x1x15 (b : Bool) : Turn TL13x1 111 cd13x1 ⟨56, 9, 56, 52⟩ 20 (hb13x1x15x0 b) hb13x1x15x1 508 (hb13x1x16x0 b) hb13x1x16x1 509 := by cases b <;> exact turn_row (by intros; kernel_rfl) (by intros; kernel_rfl)
theorem it13x1x16 (b : Bool) : Turn TL13x1 111 cd13x1 ⟨56, 9, 56, 52⟩ 20 (hb13x1x16x0 b) hb13x1x16x1 509 (hb13x1x17x0 b) hb13x1x17x1 510 := by cases b <;> exact turn_row (by intros; kernel_rfl) (by intros; kernel_rfl)
theorem it13x1x17 (b : Bool) : Turn TL13x1 111 cd13x1 ⟨56, 9, 56, 52⟩ 20 (hb13x1x17x0 b) hb13x1x17x1 510 (hb13x1x18x0 b) hb13x1x18x1 511 := by cases b <;> exact turn_row (by intros; kernel_rfl) (by intros; kernel_rfl)
theorem it13x1x18 (b : Bool) : Turn TL13x1 111 cd13x1 ⟨56, 9, 56, 52⟩ 22 (hb13x1x18x0 b) hb13x1x18x1 511 (hb13x1x19x0 b) hb13x1x19x1 512 := by cases b <;> exact turn_row (by intros; kernel_rfl) (by intros; kernel_rfl)
theorem it13x1x19 (b : Bool) : Turn TL13x1 111 cd13x1 ⟨56, 9, 56, 52⟩ 20 (hb13x1x19x0 b) hb13x1x19x1 512 (hb13x1x20x0 b) hb13x1x20x1 513 := by cases b <;> exact turn_row (by intros; kernel_rfl) (by intros; kernel_rfl)
theorem it13x1x20 (b : Bool) : Turn TL13x1 111 cd13x1 ⟨56, 9, 56, 52⟩ 20 (hb13x1x20x0 b) hb13x1x20x1 513 (hb13x1x21x0 b) hb13x1x21x1 514 := by cases b <;> exact turn_row (by intros; kernel_rfl) (by intros; kernel_rfl)
theorem it13x1x21 (b : Bool) : Turn TL13x1 111 cd13x1 ⟨56, 9, 56, 52⟩ 20 (hb13x1x21x0 b) hb13x1x21x1 514 (hb13x1x22x0 b) hb13x1x22x1 515 := by cases b <;> exact turn_row (by intros; kernel_rfl) (by intros; kernel_rfl)
theorem it13x1x22 (b : Bool) : Turn TL13x1 111 cd13x1 ⟨56, 9, 56, 52⟩ 20 (hb13x1x22x0 b) hb13x1x22x1 515 (hb13x1x23x0 b) hb13x1x23x1 516 := by cases b <;> exact turn_row (by intros; kernel_rfl) (by intros; kernel_rfl)
theorem it13x1x23 (b : Bool) : Turn TL13x1 111 cd13x1 ⟨56, 9, 56, 52⟩ 20 (hb13x1x23x0 b) hb13x1x23x1 516 (hb13x1x24x0 b) hb13x1x24x1 517 := by cases b <;> exact turn_row (by intros; kernel_rfl) (by intros; kernel_rfl)
theorem it13x1x24 (b : Bool) : Turn TL13x1 111 cd13x1 ⟨56, 9, 56, 52⟩ 20 (hb13x1x24x0 b) hb13x1x24x1 517 (hb13x1x25x0 b) hb13x1x25x1 518 := by cases b <;> exact turn_row (by intros; kernel_rfl) (by intros; kernel_rfl)
theorem it13x1x25 (b : Bool) : Turn TL13x1 111 cd13x1 ⟨56, 9, 56, 52⟩ 20 (hb13x1x25x0 b) hb13x1x25x1 518 (hb13x1x26x0 b) hb13x1x26x1 519 := by cases b <;> exact turn_row (by intros; kernel_rfl) (by intros; kernel_rfl)
theorem it13x1x26 (b : Bool) : Turn TL13x1 111 cd13x1 ⟨56, 9, 56, 52⟩ 20 (hb13x1x26x0 b) hb13x1x26x1 519 (hb13x1x27x0 b) hb13x1x27x1 520 := by cases b <;> exact turn_row (by intros; kernel_rfl) (by intros; kernel_rfl)
theorem it13x1x27 (b : Bool) : Turn TL13x1 111 cd13x1 ⟨56, 9, 56, 52⟩ 20 (hb13x1x27x0 b) hb13x1x27x1 520 (hb13x1x28x0 b) hb13x1x28x1 521 := by cases b <;> exact turn_row (by intros; kernel_rfl) (by intros; kernel_rfl)
theorem it13x1x28 (b : Bool) : Turn TL13x1 111 cd13x1 ⟨56, 9, 56, 52⟩ 20 (hb13x1x28x0 b) hb13x1x28x1 521 (hb13x1x29x0 b) hb13x1x29x1 522 := by cases b <;> exact turn_row (by intros; kernel_rfl) (by intros; kernel_rfl)
theorem it13x1x29 (b : Bool) : Turn TL13x1 111 cd13x1 ⟨56, 9, 56, 52⟩ 20 (hb13x1x29x0 b) hb13x1x29x1 522 (hb13x1x30x0 b) hb13x1x30x1 523 := by cases b <;> exact turn_row (by intros; kernel_rfl) (by intros; kernel_rfl)
theorem it13x1x30 (b : Bool) : Turn TL13x1 111 cd13x1 ⟨56, 9, 56, 52⟩ 20 (hb13x1x30x0 b) hb13x1x30x1 523 (hb13x1x31x0 b) hb13x1x31x1 524 := by cases b <;> exact turn_row (by intros; kernel_rfl) (by intros; kernel_rfl)
theorem it13x1x31 (b : Bool) : Turn TL13x1 111 cd13x1 ⟨56, 9, 56, 52⟩ 20 (hb13x1x31x0 b) hb13x1x31x1 524 (hb13x1x32x0 b) hb13x1x32x1 525 := by cases b <;> exact turn_row (by intros; kernel_rfl) (by intros; kernel_rfl)
theorem it13x1x32 (b : Bool) : Turn TL13x1 111 cd13x1 ⟨56, 9, 56, 52⟩ 20 (hb13x1x32x0 b) hb13x1x32x1 525 (hb13x1x33x0 b) hb13x1x33x1 526 := by cases b <;> exact turn_row (by intros; kernel_rfl) (by intros; kernel_rfl)
theorem it13x1x33 (b : Bool) : Turn TL13x1 111 cd13x1 ⟨56, 9, 56, 52⟩ 20 (hb13x1x33x0 b) hb13x1x33x1 526 (hb13x1x34x0 b) hb13x1x34x1 527 := by cases b <;> exact turn_row (by intros; kernel_rfl) (by intros; kernel_rfl)
theorem it13x1x34 (b : Bool) : Turn TL13x1 111 cd13x1 ⟨56, 9, 56, 52⟩ 20 (hb13x1x34x0 b) hb13x1x34x1 527 (hb13x1x35x0 b) hb13x1x35x1 528 := by cases b <;> exact turn_row (by intros; kernel_rfl) (by intros; kernel_rfl)
theorem it13x1x35 (b : Bool) : Turn TL13x1 111 cd13x1 ⟨56, 9, 56, 52⟩ 20 (hb13x1x35x0 b) hb13x1x35x1 528 (hb13x1x36x0 b) hb13x1x36x1 529 := by cases b <;> exact turn_row (by intros; kernel_rfl) (by intros; kernel_rfl)
theorem it13x1x36 (b : Bool) : Turn TL13x1 111 cd13x1 ⟨56, 9, 56, 52⟩ 20 (hb13x1x36x0 b) hb13x1x36x1 529 (hb13x1x37x0 b) hb13x1x37x1 530 := by cases b <;> exact turn_row (by intros; kernel_rfl) (by intros; kernel_rfl)
theorem it13x1x37 (b : Bool) : Turn TL13x1 111 cd13x1 ⟨56, 9, 56, 52⟩ 20 (hb13x1x37x0 b) hb13x1x37x1 530 (hb13x1x38x0 b) hb13x1x38x1 531 := by cases b <;> exact turn_row (by intros; kernel_rfl) (by intros; kernel_rfl)
theorem it13x1x38 (b : Bool) : Turn TL13x1 111 cd13x1 ⟨56, 9, 56, 52⟩ 20 (hb13x1x38x0 b) hb13x1x38x1 531 (hb13x1x39x0 b) hb13x1x39x1 532 := by cases b <;> exact turn_row (by intros; kernel_rfl) (by intros; kernel_rfl)
theorem it13x1x39 (b : Bool) : Turn TL13x1 111 cd13x1 ⟨56, 9, 56, 52⟩ 20 (hb13x1x39x0 b) hb13x1x39x1 532 (hb13x1x40x0 b) hb13x1x40x1 533 := by cases b <;> exact turn_row (by intros; kernel_rfl) (by intros; kernel_rfl)
theorem it13x1x40 (b : Bool) : Turn TL13x1 111 cd13x1 ⟨56, 9, 56, 52⟩ 20 (hb13x1x40x0 b) hb13x1x40x1 533 (hb13x1x41x0 b) hb13x1x41x1 534 := by cases b <;> exact turn_row (by intros; kernel_rfl) (by intros; kernel_rfl)
theorem it13x1x41 (b : Bool) : Turn TL13x1 111 cd13x1 ⟨56, 9, 56, 52⟩ 20 (hb13x1x41x0 b) hb13x1x41x1 534 (hb13x1x42x0 b) hb13x1x42x1 535 := by cases b <;> exact turn_row (by intros; kernel_rfl) (by intros; kernel_rfl)
theorem it13x1x42 (b : Bool) : Turn TL13x1 111 cd13x1 ⟨56, 9, 56, 52⟩ 20 (hb13x1x42x0 b) hb13x1x42x1 535 (hb13x1x43x0 b) hb13x1x43x1 536 := by cases b <;> exact turn_row (by intros; kernel_rfl) (by intros; kernel_rfl)
theorem it13x1x43 (b : Bool) : Turn TL13x1 111 cd13x1 ⟨56, 9, 56, 52⟩ 20 (hb13x1x43x0 b) hb13x1x43x1 536 (hb13x1x44x0 b) hb13x1x44x1 537 := by cases b <;> exact turn_row (by intros; kernel_rfl) (by intros; kernel_rfl)
theorem it13x1x44 (b : Bool) : Turn TL13x1 111 cd13x1 ⟨56, 9, 56, 52⟩ 20 (hb13x1x44x0 b) hb13x1x44x1 537 (hb13x1x45x0 b) hb13x1x45x1 538 := by cases b <;> exact turn_row (by intros; kernel_rfl) (by intros; kernel_rfl)
theorem it13x1x45 (b : Bool) : Turn TL13x1 111 cd13x1 ⟨56, 9, 56, 52⟩ 20 (hb13x1x45x0 b) hb13x1x45x1 538 (hb13x1x46x0 b) hb13x1x46x1 539 := by cases b <;> exact turn_row (by intros; kernel_rfl) (by intros; kernel_rfl)
theorem it13x1x46 (b : Bool) : Turn TL13x1 111 cd13x1 ⟨56, 9, 56, 52⟩ 20 (hb13x1x46x0 b) hb13x1x46x1 539 (hb13x1x47x0 b) hb13x1x47x1 540 := by cases b <;> exact turn_row (by intros; kernel_rfl) (by intros; kernel_rfl)
theorem it13x1x47 (b : Bool) : Turn TL13x1 111 cd13x1 ⟨56, 9, 56, 52⟩ 20 (hb13x1x47x0 b) hb13x1x47x1 540 (hb13x1x48x0 b) hb13x1x48x1 541 := by cases b <;> exact turn_row (by intros; kernel_rfl) (by intros; kernel_rfl)
theorem it13x1x48 (b : Bool) : Turn TL13x1 111 cd13x1 ⟨56, 9, 56, 52⟩ 20 (hb13x1x48x0 b) hb13x1x48x1 541 (hb13x1x49x0 b) hb13x1x49x1 542 := by cases b <;> exact turn_row (by intros; kernel_rfl) (by intros; kernel_rfl)
theorem it13x1x49 (b : Bool) : Turn TL13x1 111 cd13x1 ⟨56, 9, 56, 52⟩ 20 (hb13x1x49x0 b) hb13x1x49x1 542 (hb13x1x50x0 b) hb13x1x50x1 543 := by cases b <;> exact turn_row (by intros; kernel_rfl) (by intros; kernel_rfl)
theorem it13x1x50 (b : Bool) : Turn TL13x1 111 cd13x1 ⟨56, 9, 56, 52⟩ 20 (hb13x1x50x0 b) hb13x1x50x1 543 (hb13x1x51x0 b) hb13x1x51x1 544 := by cases b <;> exact turn_row (by intros; kernel_rfl) (by intros; kernel_rfl)
theorem it13x1x51 (b : Bool) : Turn TL13x1 111 cd13x1 ⟨56, 9, 56, 52⟩ 20 (hb13x1x51x0 b) hb13x1x51x1 544 (hb13x1x52x0 b) hb13x1x52x1 545 := by cases b <;> exact turn_row (by intros; kernel_rfl) (by intros; kernel_rfl)
theorem it13x1x52 (b : Bool) : Turn TL13x1 111 cd13x1 ⟨56, 9, 56, 52⟩ 20 (hb13x1x52x0 b) hb13x1x52x1 545 (hb13x1x53x0 b) hb13x1x53x1 546 := by cases b <;> exact turn_row (by intros; kernel_rfl) (by intros; kernel_rfl)
theorem it13x1x53 (b : Bool) : Turn TL13x1 111 cd13x1 ⟨56, 9, 56, 52⟩ 20 (hb13x1x53x0 b) hb13x1x53x1 546 (hb13x1x54x0 b) hb13x1x54x1 547 := by cases b <;> exact turn_row (by intros; kernel_rfl) (by intros; kernel_rfl)
theorem it13x1x54 (b : Bool) : Turn TL13x1 111 cd13x1 ⟨56, 9, 56, 52⟩ 20 (hb13x1x54x0 b) hb13x1x54x1 547 (hb13x1x55x0 b) hb13x1x55x1 548 := by cases b <;> exact turn_row (by intros; kernel_rfl) (by intros; kernel_rfl)
theorem it13x1x55 (b : Bool) : Turn TL13x1 111 cd13x1 ⟨56, 9, 56, 52⟩ 20 (hb13x1x55x0 b) hb13x1x55x1 548 (hb13x1x56x0 b) hb13x1x56x1 549 := by cases b <;> exact turn_row (by intros; kernel_rfl) (by intros; kernel_rfl)
theorem it13x1x56 (b : Bool) : Turn TL13x1 111 cd13x1 ⟨56, 9, 56, 52⟩ 20 (hb13x1x56x0 b) hb13x1x56x1 549 (hb13x1x57x0 b) hb13x1x57x1 550 := by cases b <;> exact turn_row (by intros; kernel_rfl) (by intros; kernel_rfl)
theorem it13x1x57 (b : Bool) : Turn TL13x1 111 cd13x1 ⟨56, 9, 56, 52⟩ 20 (hb13x1x57x0 b) hb13x1x57x1 550 (hb13x1x58x0 b) hb13x1x58x1 551 := by cases b <;> exact turn_row (by intros; kernel_rfl) (by intros; kernel_rfl)
theorem it13x1x58 (b : Bool) : Turn TL13x1 111 cd13x1 ⟨56, 9, 56, 52⟩ 20 (hb13x1x58x0 b) hb13x1x58x1 551 (hb13x1x59x0 b) hb13x1x59x1 552 := by cases b <;> exact turn_row (by intros; kernel_rfl) (by intros; kernel_rfl)
theorem it13x1x59 (b : Bool) : Turn TL13x1 111 cd13x1 ⟨56, 9, 56, 52⟩ 20 (hb13x1x59x0 b) hb13x1x59x1 552 (hb13x1x60x0 b) hb13x1x60x1 553 := by cases b <;> exact turn_row (by intros; kernel_rfl) (by intros; kernel_rfl)
theorem it13x1x60 (b : Bool) : Turn TL13x1 111 cd13x1 ⟨56, 9, 56, 52⟩ 20 (hb13x1x60x0 b) hb13x1x60x1 553 (hb13x1x61x0 b) hb13x1x61x1 554 := by cases b <;> exact turn_row (by intros; kernel_rfl) (by intros; kernel_rfl)
theorem it13x1x61 (b : Bool) : Turn TL13x1 111 cd13x1 ⟨56, 9, 56, 52⟩ 20 (hb13x1x61x0 b) hb13x1x61x1 554 (hb13x1x62x0 b) hb13x1x62x1 555 := by cases b <;> exact turn_row (by intros; kernel_rfl) (by intros; kernel_rfl)
theorem it13x1x62 (b : Bool) : Turn TL13x1 111 cd13x1 ⟨56, 9, 56, 52⟩ 20 (hb13x1x62x0 b) hb13x1x62x1 555 (hb13x1x63x0 b) hb13x1x63x1 556 := by cases b <;> exact turn_row (by intros; kernel_rfl) (by intros; kernel_rfl)
theorem it13x1x63 (b : Bool) : Turn TL13x1 111 cd13x1 ⟨56, 9, 56, 52⟩ 20 (hb13x1x63x0 b) hb13x1x63x1 556 (hb13x1x64x0 b) hb13x1x64x1 557 := by cases b <;> exact turn_row (by intros; kernel_rfl) (by intros; kernel_rfl)
theorem it13x1x64 (b : Bool) : Turn TL13x1 111 cd13x1 ⟨56, 9, 56, 52⟩ 20 (hb13x1x64x0 b) hb13x1x64x1 557 (hb13x1x65x0 b) hb13x1x65x1 558 := by cases b <;> exact turn_row (by intros; kernel_rfl) (by intros; kernel_rfl)
theorem it13x1x65 (b : Bool) : Turn TL13x1 111 cd13x1 ⟨56, 9, 56, 52⟩ 20 (hb13x1x65x0 b) hb13x1x65x1 558 (hb13x1x66x0 b) hb13x1x66x1 559 := by cases b <;> exact turn_row (by intros; kernel_rfl) (by intros; kernel_rfl)
theorem it13x1x66 (b : Bool) : Turn TL13x1 111 cd13x1 ⟨56, 9, 56, 52⟩ 20 (hb13x1x66x0 b) hb13x1x66x1 559 (hb13x1x67x0 b) hb13x1x67x1 560 := by cases b <;> exact turn_row (by intros; kernel_rfl) (by intros; kernel_rfl)
theorem it13x1x67 (b : Bool) : Turn TL13x1 111 cd13x1 ⟨56, 9, 56, 52⟩ 20 (hb13x1x67x0 b) hb13x1x67x1 560 (hb13x1x68x0 b) hb13x1x68x1 561 := by cases b <;> exact turn_row (by intros; kernel_rfl) (by intros; kernel_rfl)
theorem it13x1x68 (b : Bool) : Turn TL13x1 111 cd13x1 ⟨56, 9, 56, 52⟩ 20 (hb13x1x68x0 b) hb13x1x68x1 561 (hb13x1x69x0 b) hb13x1x69x1 562 := by cases b <;> exact turn_row (by intros; kernel_rfl) (by intros; kernel_rfl)
theorem it13x1x69 (b : Bool) : Turn TL13x1 111 cd13x1 ⟨56, 9, 56, 52⟩ 20 (hb13x1x69x0 b) hb13x1x69x1 562 (hb13x1x70x0 b) hb13x1x70x1 563 := by cases b <;> exact turn_row (by intros; kernel_rfl) (by intros; kernel_rfl)
theorem it13x1x70 (b : Bool) : Turn TL13x1 111 cd13x1 ⟨56, 9, 56, 52⟩ 20 (hb13x1x70x0 b) hb13x1x70x1 563 (hb13x1x71x0 b) hb13x1x71x1 564 := by cases b <;> exact turn_row (by intros; kernel_rfl) (by intros; kernel_rfl)
theorem it13x1x71 (b : Bool) : Turn TL13x1 111 cd13x1 ⟨56, 9, 56, 52⟩ 20 (hb13x1x71x0 b) hb13x1x71x1 564 (hb13x1x72x0 b) hb13x1x72x1 565 := by cases b <;> exact turn_row (by intros; kernel_rfl) (by intros; kernel_rfl)
theorem it13x1x72 (b : Bool) : Turn TL13x1 111 cd13x1 ⟨56, 9, 56, 52⟩ 20 (hb13x1x72x0 b) hb13x1x72x1 565 (hb13x1x73x0 b) hb13x1x73x1 566 := by cases b <;> exact turn_row (by intros; kernel_rfl) (by intros; kernel_rfl)
theorem it13x1x73 (b : Bool) : Turn TL13x1 111 cd13x1 ⟨56, 9, 56, 52⟩ 20 (hb13x1x73x0 b) hb13x1x73x1 566 (hb13x1x74x0 b) hb13x1x74x1 567 := by cases b <;> exact turn_row (by intros; kernel_rfl) (by intros; kernel_rfl)
theorem it13x1x74 (b : Bool) : Turn TL13x1 111 cd13x1 ⟨56, 9, 56, 52⟩ 20 (hb13x1x74x0 b) hb13x1x74x1 567 (hb13x1x75x0 b) hb13x1x75x1 568 := by cases b <;> exact turn_row (by intros; kernel_rfl) (by intros; kernel_rfl)
theorem it13x1x75 (b : Bool) : Turn TL13x1 111 cd13x1 ⟨56, 9, 56, 52⟩ 20 (hb13x1x75x0 b) hb13x1x75x1 568 (hb13x1x76x0 b) hb13x1x76x1 569 := by cases b <;> exact turn_row (by intros; kernel_rfl) (by intros; kernel_rfl)
theorem it13x1x76f : Turn TL13x1 111 cd13x1 ⟨56, 9, 56, 52⟩ 22 (hb13x1x76x0 false) hb13x1x76x1 569 (hb13x1x77x0 false) hb13x1x77x1 570 := by exact turn_row (by intros; kernel_rfl) (by intros; kernel_rfl)
theorem it13x1x76t : Turn TL13x1 111 cd13x1 ⟨56, 9, 56, 52⟩ 22 (hb13x1x76x0 true) hb13x1x76x1 569 (hb13x1x77x0 true) hb13x1x77x1 570 := by exact turn_row (by intros; kernel_rfl) (by intros; kernel_rfl)
theorem it13x1x76 (b : Bool) : Turn TL13x1 111 cd13x1 ⟨56, 9, 56, 52⟩ 22 (hb13x1x76x0 b) hb13x1x76x1 569 (hb13x1x77x0 b) hb13x1x77x1 570 := by cases b; exact it13x1x76f; exact it13x1x76t
theorem it13x1x77 (b : Bool) : Turn TL13x1 111 cd13x1 ⟨56, 9, 56, 52⟩ 20 (hb13x1x77x0 b) hb13x1x77x1 570 (hb13x1x78x0 b) hb13x1x78x1 571 := by cases b <;> exact turn_row (by intros; kernel_rfl) (by intros; kernel_rfl)
theorem it13x1x78 (b : Bool) : Turn TL13x1 111 cd13x1 ⟨56, 9, 56, 52⟩ 20 (hb13x1x78x0 b) hb13x1x78x1 571 (hb13x1x79x0 b) hb13x1x79x1 572 := by cases b <;> exact turn_row (by intros; kernel_rfl) (by intros; kernel_rfl)
theorem it13x1x79 (b : Bool) : Turn TL13x1 111 cd13x1 ⟨56, 9, 56, 52⟩ 20 (hb13x1x79x0 b) hb13x1x79x1 572 (hb13x1x80x0 b) hb13x1x80x1 573 := by cases b <;> exact turn_row (by intros; kernel_rfl) (by intros; kernel_rfl)
theorem it13x1x80 (b : Bool) : Turn TL13x1 111 cd13x1 ⟨56, 9, 56, 52⟩ 20 (hb13x1x80x0 b) hb13x1x80x1 573 (hb13x1x81x0 b) hb13x1x81x1 574 := by cases b <;> exact turn_row (by intros; kernel_rfl) (by intros; kernel_rfl)
theorem it13x1x81 (b : Bool) : Turn TL13x1 111 cd13x1 ⟨56, 9, 56, 52⟩ 20 (hb13x1x81x0 b) hb13x1x81x1 574 (hb13x1x82x0 b) hb13x1x82x1 575 := by cases b <;> exact turn_row (by intros; kernel_rfl) (by intros; kernel_rfl)
theorem it13x1x82 (b : Bool) : Turn TL13x1 111 cd13x1 ⟨56, 9, 56, 52⟩ 20 (hb13x1x82x0 b) hb13x1x82x1 575 (hb13x1x83x0 b) hb13x1x83x1 576 := by cases b <;> exact turn_row (by intros; kernel_rfl) (by intros; kernel_rfl)
theorem it13x1x83 (b : Bool) : Turn TL13x1 111 cd13x1 ⟨56, 9, 56, 52⟩ 20 (hb13x1x83x0 b) hb13x1x83x1 576 (hb13x1x84x0 b) hb13x1x84x1 577 := by cases b <;> exact turn_row (by intros; kernel_rfl) (by intros; kernel_rfl)
theorem it13x1x84 (b : Bool) : Turn TL13x1 111 cd13x1 ⟨56, 9, 56, 52⟩ 20 (hb13x1x84x0 b) hb13x1x84x1 577 (hb13x1x85x0 b) hb13x1x85x1 578 := by cases b <;> exact turn_row (by intros; kernel_rfl) (by intros; kernel_rfl)
theorem it13x1x85 (b : Bool) : Turn TL13x1 111 cd13x1 ⟨56, 9, 56, 52⟩ 20 (hb13x1x85x0 b) hb13x1x85x1 578 (hb13x1x86x0 b) hb13x1x86x1 579 := by cases b <;> exact turn_row (by intros; kernel_rfl) (by intros; kernel_rfl)
theorem it13x1x86 (b : Bool) : Turn TL13x1 111 cd13x1 ⟨56, 9, 56, 52⟩ 20 (hb13x1x86x0 b) hb13x1x86x1 579 (hb13x1x87x0 b) hb13x1x87x1 580 := by cases b <;> exact turn_row (by intros; kernel_rfl) (by intros; kernel_rfl)
theorem it13x1x87 (b : Bool) : Turn TL13x1 111 cd13x1 ⟨56, 9, 56, 52⟩ 20 (hb13x1x87x0 b) hb13x1x87x1 580 (hb13x1x88x0 b) hb13x1x88x1 581 := by cases b <;> exact turn_row (by intros; kernel_rfl) (by intros; kernel_rfl)
theorem it13x1x88 (b : Bool) : Turn TL13x1 111 cd13x1 ⟨56, 9, 56, 52⟩ 20 (hb13x1x88x0 b) hb13x1x88x1 581 (hb13x1x89x0 b) hb13x1x89x1 582 := by cases b <;> exact turn_row (by intros; kernel_rfl) (by intros; kernel_rfl)
theorem it13x1x89 (b : Bool) : Turn TL13x1 111 cd13x1 ⟨56, 9, 56, 52⟩ 20 (hb13x1x89x0 b) hb13x1x89x1 582 (hb13x1x90x0 b) hb13x1x90x1 583 := by cases b <;> exact turn_row (by intros; kernel_rfl) (by intros; kernel_rfl)
theorem it13x1x90 (b : Bool) : Turn TL13x1 111 cd13x1 ⟨56, 9, 56, 52⟩ 20 (hb13x1x90x0 b) hb13x1x90x1 583 (hb13x1x91x0 b) hb13x1x91x1 584 := by cases b <;> exact turn_row (by intros; kernel_rfl) (by intros; kernel_rfl)
theorem it13x1x91 (b : Bool) : Turn TL13x1 111 cd13x1 ⟨56, 9, 56, 52⟩ 20 (hb13x1x91x0 b) hb13x1x91x1 584 (hb13x1x92x0 b) hb13x1x92x1 585 := by cases b <;> exact turn_row (by intros; kernel_rfl) (by intros; kernel_rfl)
theorem it13x1x92 (b : Bool) : Turn TL13x1 111 cd13x1 ⟨56, 9, 56, 52⟩ 20 (hb13x1x92x0 b) hb13x1x92x1 585 (hb13x1x93x0 b) hb13x1x93x1 586 := by cases b <;> exact turn_row (by intros; kernel_rfl) (by intros; kernel_rfl)
theorem it13x1x93 (b : Bool) : Turn TL13x1 111 cd13x1 ⟨56, 9, 56, 52⟩ 20 (hb13x1x93x0 b) hb13x1x93x1 586 (hb13x1x94x0 b) hb13x1x94x1 587 := by cases b <;> exact turn_row (by intros; kernel_rfl) (by intros; kernel_rfl)
theorem it13x1x94 (b : Bool) : Turn TL13x1 111 cd13x1 ⟨56, 9, 56, 52⟩ 20 (hb13x1x94x0 b) hb13x1x94x1 587 (hb13x1x95x0 b) hb13x1x95x1 588 := by cases b <;> exact turn_row (by intros; kernel_rfl) (by intros; kernel_rfl)
theorem it13x1x95 (b : Bool) : Turn TL13x1 111 cd13x1 ⟨56, 9, 56, 52⟩ 20 (hb13x1x95x0 b) hb13x1x95x1 588 (hb13x1x96x0 b) hb13x1x96x1 589 := by cases b <;> exact turn_row (by intros; kernel_rfl) (by intros; kernel_rfl)
theorem it13x1x96 (b : Bool) : Turn TL13x1 111 cd13x1 ⟨56, 9, 56, 52⟩ 20 (hb13x1x96x0 b) hb13x1x96x1 589 (hb13x1x97x0 b) hb13x1x97x1 590 := by cases b <;> exact turn_row (by intros; kernel_rfl) (by intros; kernel_rfl)
theorem loop13x1 (b : Bool) : Turn TL13x1 111 cd13x1 ⟨56, 9, 56, 52⟩ 1946 (hb13x1x0x0 b) hb13x1x0x1 493 (hb13x1x97x0 b) hb13x1x97x1 590 := (it13x1x0 b).trans ((it13x1x1 b).trans ((it13x1x2 b).trans ((it13x1x3 b).trans ((it13x1x4 b).trans ((it13x1x5 b).trans ((it13x1x6 b).trans ((it13x1x7 b).trans ((it13x1x8 b).trans ((it13x1x9 b).trans ((it13x1x10 b).trans ((it13x1x11 b).trans ((it13x1x12 b).trans ((it13x1x13 b).trans ((it13x1x14 b).trans ((it13x1x15 b).trans ((it13x1x16 b).trans ((it13x1x17 b).trans ((it13x1x18 b).trans ((it13x1x19 b).trans ((it13x1x20 b).trans ((it13x1x21 b).trans ((it13x1x22 b).trans ((it13x1x23 b).trans ((it13x1x24 b).trans ((it13x1x25 b).trans ((it13x1x26 b).trans ((it13x1x27 b).trans ((it13x1x28 b).trans ((it13x1x29 b).trans ((it13x1x30 b).trans ((it13x1x31 b).trans ((it13x1x32 b).trans ((it13x1x33 b).trans ((it13x1x34 b).trans ((it13x1x35 b).trans ((it13x1x36 b).trans ((it13x1x37 b).trans ((it13x1x38 b).trans ((it13x1x39 b).trans ((it13x1x40 b).trans ((it13x1x41 b).trans ((it13x1x42 b).trans ((it13x1x43 b).trans ((it13x1x44 b).trans ((it13x1x45 b).trans ((it13x1x46 b).trans ((it13x1x47 b).trans ((it13x1x48 b).trans ((it13x1x49 b).trans ((it13x1x50 b).trans ((it13x1x51 b).trans ((it13x1x52 b).trans ((it13x1x53 b).trans ((it13x1x54 b).trans ((it13x1x55 b).trans ((it13x1x56 b).trans ((it13x1x57 b).trans ((it13x1x58 b).trans ((it13x1x59 b).trans ((it13x1x60 b).trans ((it13x1x61 b).trans ((it13x1x62 b).trans ((it13x1x63 b).trans ((it13x1x64 b).trans ((it13x1x65 b).trans ((it13x1x66 b).trans ((it13x1x67 b).trans ((it13x1x68 b).trans ((it13x1x69 b).trans ((it13x1x70 b).trans ((it13x1x71 b).trans ((it13x1x72 b).trans ((it13x1x73 b).trans ((it13x1x74 b).trans ((it13x1x75 b).trans ((it13x1x76 b).trans ((it13x1x77 b).trans ((it13x1x78 b).trans ((it13x1x79 b).trans ((it13x1x80 b).trans ((it13x1x81 b).trans ((it13x1x82 b).trans ((it13x1x83 b).trans ((it13x1x84 b).trans ((it13x1x85 b).trans ((it13x1x86 b).trans ((it13x1x87 b).trans ((it13x1x88 b).trans ((it13x1x89 b).trans ((it13x1x90 b).trans ((it13x1x91 b).trans ((it13x1x92 b).trans ((it13x1x93 b).trans ((it13x1x94 b).trans ((it13x1x95 b).trans (it13x1x96 b))))))))))))))))))))))))))))))))))))))))))))))))))))))))))))))))))))))))))))))))))))))))))))))))
noncomputable def ob3v112 (p : Program) (P : Params) : Obj := ⟨(.type "dict"), none, (.dict (Array.mk [(e0 P), (e1 P), (e2 P), (e3 P), (e4 P), (e5 P), (e6 P), (e7 P), (e8 P), (e9 P), (e10 P), (e11 P), (e12 P), (e13 P), (e14 P), (e15 P), (e16 P), (e17 P), (e18 P), (e19 P), (e20 P)]) 21), (Array.mk [])⟩
noncomputable def ob109v113 (p : Program) (P : Params) : Obj := (setO [(917505, 391), (917536, 397), (917537, 398), (917538, 399), (917539, 400), (917540, 401), (917541, 402), (917542, 403), (917543, 404), (917544, 405), (917545, 406), (917546, 407), (917547, 408), (917548, 409), (917549, 410), (917550, 411), (917551, 412), (917552, 413), (917553, 414), (917554, 415), (917555, 416), (917556, 417), (917557, 418), (917558, 419), (917559, 420), (917560, 421), (917561, 422), (917562, 423), (917563, 424), (917564, 425), (917565, 426), (917566, 427), (917567, 428), (917568, 429), (917569, 430), (917570, 431), (917571, 432), (917572, 433), (917573, 434), (917574, 435), (917575, 436), (917576, 437), (917577, 438), (917578, 439), (917579, 440), (917580, 441), (917581, 442), (917582, 443), (917583, 444), (917584, 445), (917585, 446), (917586, 447), (917587, 448), (917588, 449), (917589, 450), (917590, 451), (917591, 452), (917592, 453), (917593, 454), (917594, 455), (917595, 456), (917596, 457), (917597, 458), (917598, 459), (917599, 460), (917600, 461), (917601, 462), (917602, 463), (917603, 464), (917604, 465), (917605, 466), (917606, 467), (917607, 468), (917608, 469), (917609, 470), (917610, 471), (917611, 472), (917612, 473), (917613, 474), (917614, 475), (917615, 476), (917616, 477), (917617, 478), (917618, 479), (917619, 480), (917620, 481), (917621, 482), (917622, 483), (917623, 484), (917624, 485), (917625, 486), (917626, 487), (917627, 488), (917628, 489), (917629, 490), (917630, 491), (917631, 492)] 100 511 [1, 32, 33, 34, 35, 36, 37, 38, 39, 40, 41, 42, 43, 44, 45, 46, 47, 48, 49, 50, 51, 52, 53, 54, 55, 56, 57, 58, 59, 60, 61, 62, 63, 64, 65, 66, 67, 68, 69, 70, 71, 72, 73, 74, 75, 76, 77, 78, 79, 80, 81, 82, 83, 84, 85, 86, 87, 88, 89, 90, 91, 92, 93, 94, 95, 96, 97, 98, 99, 100, 101, 102, 103, 104, 105, 106, 107, 108, 109, 110, 111, 112, 113, 114, 115, 116, 117, 118, 119, 120, 121, 122, 123, 124, 125, 126, 127] 3 (not (P.followText "set-order")))
noncomputable def ob110v114 (p : Program) (P : Params) : Obj := ⟨(.type "list_iterator"), none, (.fields (Array.mk [.none, (.int 97 0)])), (Array.mk [])⟩
noncomputable def ob111v115 (p : Program) (P : Params) : Obj := ⟨(.type "tuple"), none, (.seq (Array.mk []) 0), (Array.mk [])⟩
noncomputable def ob112v116 (p : Program) (P : Params) : Obj := ⟨(.type "StopIteration"), none, (.fields (Array.mk [(.ref 111), .none, .none, .none, (.bool false), .none])), (Array.mk [])⟩
noncomputable def T14 (p : Program) (P : Params) : BT := (.node (boot_o_0 P) (.node (boot_o_1 P) (.node (ob3v112 p P) (.node (boot_o_7 P) (.node (ob15v6 p P) (.node (ob31v23 p P) (.node (ob63v60 p P) .nil .nil) (.node (ob95v98 p P) .nil .nil)) (.node (ob47v41 p P) (.node (ob79v79 p P) .nil .nil) (.node (ob111v115 p P) .nil .nil))) (.node (ob23v14 p P) (.node (ob39v33 p P) (.node (ob71v71 p P) .nil .nil) (.node (ob103v106 p P) .nil .nil)) (.node (ob55v50 p P) (.node (ob87v87 p P) .nil .nil) .nil))) (.node (ob11v0 p P) (.node (ob19v10 p P) (.node (ob35v29 p P) (.node (ob67v65 p P) .nil .nil) (.node (ob99v102 p P) .nil .nil)) (.node (ob51v45 p P) (.node (ob83v83 p P) .nil .nil) .nil)) (.node (ob27v18 p P) (.node (ob43v37 p P) (.node (ob75v75 p P) .nil .nil) (.node (ob107v110 p P) .nil .nil)) (.node (ob59v56 p P) (.node (ob91v92 p P) .nil .nil) .nil)))) (.node (boot_o_5 P) (.node (boot_o_9 P) (.node (ob17v8 p P) (.node (ob33v27 p P) (.node (ob65v62 p P) .nil .nil) (.node (ob97v100 p P) .nil .nil)) (.node (ob49v43 p P) (.node (ob81v81 p P) .nil .nil) .nil)) (.node (ob25v16 p P) (.node (ob41v35 p P) (.node (ob73v73 p P) .nil .nil) (.node (ob105v108 p P) .nil .nil)) (.node (ob57v52 p P) (.node (ob89v89 p P) .nil .nil) .nil))) (.node (ob13v2 p P) (.node (ob21v12 p P) (.node (ob37v31 p P) (.node (ob69v67 p P) .nil .nil) (.node (ob101v104 p P) .nil .nil)) (.node (ob53v47 p P) (.node (ob85v85 p P) .nil .nil) .nil)) (.node (ob29v21 p P) (.node (ob45v39 p P) (.node (ob77v77 p P) .nil .nil) (.node (ob109v113 p P) .nil .nil)) (.node (ob61v58 p P) (.node (ob93v94 p P) .nil .nil) .nil))))) (.node (boot_o_2 P) (.node (boot_o_4 P) (.node (boot_o_8 P) (.node (ob16v7 p P) (.node (ob32v24 p P) (.node (ob64v61 p P) .nil .nil) (.node (ob96v99 p P) .nil .nil)) (.node (ob48v42 p P) (.node (ob80v80 p P) .nil .nil) (.node (ob112v116 p P) .nil .nil))) (.node (ob24v15 p P) (.node (ob40v34 p P) (.node (ob72v72 p P) .nil .nil) (.node (ob104v107 p P) .nil .nil)) (.node (ob56v51 p P) (.node (ob88v88 p P) .nil .nil) .nil))) (.node (ob12v97 p P) (.node (ob20v11 p P) (.node (ob36v30 p P) (.node (ob68v66 p P) .nil .nil) (.node (ob100v103 p P) .nil .nil)) (.node (ob52v46 p P) (.node (ob84v84 p P) .nil .nil) .nil)) (.node (ob28v19 p P) (.node (ob44v38 p P) (.node (ob76v76 p P) .nil .nil) (.node (ob108v111 p P) .nil .nil)) (.node (ob60v57 p P) (.node (ob92v93 p P) .nil .nil) .nil)))) (.node (boot_o_6 P) (.node (boot_o_10 P) (.node (ob18v9 p P) (.node (ob34v28 p P) (.node (ob66v63 p P) .nil .nil) (.node (ob98v101 p P) .nil .nil)) (.node (ob50v44 p P) (.node (ob82v82 p P) .nil .nil) .nil)) (.node (ob26v17 p P) (.node (ob42v36 p P) (.node (ob74v74 p P) .nil .nil) (.node (ob106v109 p P) .nil .nil)) (.node (ob58v53 p P) (.node (ob90v90 p P) .nil .nil) .nil))) (.node (ob14v3 p P) (.node (ob22v13 p P) (.node (ob38v32 p P) (.node (ob70v68 p P) .nil .nil) (.node (ob102v105 p P) .nil .nil)) (.node (ob54v48 p P) (.node (ob86v86 p P) .nil .nil) .nil)) (.node (ob30v22 p P) (.node (ob46v40 p P) (.node (ob78v78 p P) .nil .nil) (.node (ob110v114 p P) .nil .nil)) (.node (ob62v59 p P) (.node (ob94v95 p P) .nil .nil) .nil))))))
theorem segE13 : ∀ (w : World) (os : OsState), runT w 27 (SharedT.mk (TL13x1 PySem.Challenge.pw_mq0100_01 w.params (hb13x1x97x0 (not (w.params.followText "set-order"))) hb13x1x97x1) 111 lf (Array.mk []) dr 590 os) ⟨denote treeTable cd13x1, cd13x1, ⟨56, 9, 56, 52⟩, stk13x1 @segGoT @denote treeTable PySem.Challenge.pw_mq0100_01 w os⟩ = some (.next, (SharedT.mk (T14 PySem.Challenge.pw_mq0100_01 w.params) 113 lf (Array.mk []) dr 591 os), cE PySem.Challenge.pw_mq0100_01, ⟨56, 0, 56, 6⟩) := by
  refine byRow2 "special-get-raises" ?_ ?_ <;> (intro w os; unfold runT; rewrite [PySem.W.Fast.te10110043849684766642, PySem.W.Fast.te11892475500146522536, PySem.W.Fast.te10295753902157049106, PySem.W.Fast.te14364793385576792824, PySem.W.Fast.te7261500446525621778]; kernel_rfl)
theorem seg13 : ∀ (w : World) (os : OsState), segRun treeTable PySem.Challenge.pw_mq0100_01 w 11 ann 1 (87 + (1632 + (59 + (1946 + 27)))) (SharedT.abs (SharedT.mk (T13 PySem.Challenge.pw_mq0100_01 w.params) 102 lf (Array.mk []) dr 391 os)) (piecesOf [stm PySem.Challenge.pw_mq0100_01 13] (env PySem.Challenge.pw_mq0100_01) (cE PySem.Challenge.pw_mq0100_01) ⟨54, 0, 55, 30⟩ B0) = some (.next, SharedT.abs (SharedT.mk (T14 PySem.Challenge.pw_mq0100_01 w.params) 113 lf (Array.mk []) dr 591 os), cE PySem.Challenge.pw_mq0100_01, ⟨56, 0, 56, 6⟩) := fun w os => join (segA13x0 w os) (okA13x0 w os) loop13x0 (join (segA13x1 w os) (okA13x1 w os) (loop13x1 (not (w.params.followText "set-order"))) (segRun_of (segE13 w os)))
end
end Mine
end
-- part HD
section
open PySem PySem.W PyProof.Rows
set_option linter.unusedVariables false
set_option maxRecDepth 100000
set_option maxHeartbeats 0
namespace Mine
noncomputable section
noncomputable def ob3v117 (p : Program) (P : Params) : Obj := ⟨(.type "dict"), none, (.dict (Array.mk [(e21 P), (e1 P), (e2 P), (e3 P), (e4 P), (e5 P), (e6 P), (e7 P), (e8 P), (e9 P), (e10 P), (e11 P), (e12 P), (e13 P), (e14 P), (e15 P), (e16 P), (e17 P), (e18 P), (e19 P), (e20 P), (e22 P), (e23 P), (e24 P)]) 24), (Array.mk [])⟩
noncomputable def ob12v118 (p : Program) (P : Params) : Obj := ⟨.none, none, (.fields (Array.mk [(.int 2 0), (.int 0 0), (.ref 20), (.int 36 0), (.int 0 0), (.ref 38), (.int 38 0), (.int 0 0), (.ref 45), (.int 40 0), (.int 0 0), (.ref 52), (.int 48 0), (.int 0 0), (.ref 64), (.int 51 0), (.int 0 0), (.ref 76), (.int 54 0), (.int 0 0), (.ref 100), (.int 57 0), (.int 0 0), (.ref 118), (.int 60 0), (.int 0 0), (.ref 123), (.int 62 0), (.int 0 0), (.ref 128)])), (Array.mk [])⟩
noncomputable def ob113v119 (p : Program) (P : Params) : Obj := ⟨(.type "tuple"), none, (.seq (Array.mk []) 0), (Array.mk [])⟩
noncomputable def ob114v120 (p : Program) (P : Params) : Obj := ⟨.none, none, (.fields (Array.mk [])), (Array.mk [])⟩
noncomputable def ob115v121 (p : Program) (P : Params) : Obj := ⟨(.type "tuple"), none, (.seq (Array.mk [(.str s27 594)]) 0), (Array.mk [])⟩
noncomputable def ob116v122 (p : Program) (P : Params) : Obj := ⟨(.type "tuple"), none, (.seq (Array.mk []) 0), (Array.mk [])⟩
noncomputable def ob117v123 (p : Program) (P : Params) : Obj := ⟨.none, none, (.func { name := s37, qualname := s37, params := fnA p 14, body := .stmts (fnB p 14), scope := fnS p 14, globals := 0, closure := [], defaults := .none, kwdefaults := .none, doc := .none, pyModule := .none, annotations := none, code := .none, closureTuple := .none, builtins := 0 : FuncData }), (Array.mk [])⟩
noncomputable def ob118v124 (p : Program) (P : Params) : Obj := ⟨(.type "code"), none, (.fields (Array.mk [(.str s37 591), (.str s37 592), (.str s1 593), (.int 57 0), (.int 1 0), (.int 0 0), (.int 0 0), (.int 3 0), (.ref 113), (.bool true), (.int 181 0), (.ref 114), .none, (.ref 115), (.ref 116), (.ref 117), (.int 595 0), (.int 57 0), (.str s1 596)])), (Array.mk [])⟩
noncomputable def ob119v125 (p : Program) (P : Params) : Obj := ⟨(.type "function"), none, (.func { name := s37, qualname := s37, params := fnA p 14, body := .stmts (fnB p 14), scope := fnS p 14, globals := 3, closure := [], defaults := .none, kwdefaults := .none, doc := .none, pyModule := (.str s4 203), annotations := none, code := (.ref 118), closureTuple := .none, builtins := 0 : FuncData }), (Array.mk [])⟩
noncomputable def ob120v126 (p : Program) (P : Params) : Obj := ⟨(.type "tuple"), none, (.seq (Array.mk []) 0), (Array.mk [])⟩
noncomputable def ob121v127 (p : Program) (P : Params) : Obj := ⟨.none, none, (.fields (Array.mk [])), (Array.mk [])⟩
noncomputable def ob122v128 (p : Program) (P : Params) : Obj := ⟨.none, none, (.func { name := s38, qualname := s38, params := fnA p 16, body := .stmts (fnB p 16), scope := fnS p 16, globals := 0, closure := [], defaults := .none, kwdefaults := .none, doc := .none, pyModule := .none, annotations := none, code := .none, closureTuple := .none, builtins := 0 : FuncData }), (Array.mk [])⟩
noncomputable def ob123v129 (p : Program) (P : Params) : Obj := ⟨(.type "code"), none, (.fields (Array.mk [(.str s38 600), (.str s38 601), (.str s1 602), (.int 60 0), (.int 0 0), (.int 0 0), (.int 0 0), (.int 3 0), (.ref 120), (.bool true), (.int 181 0), (.ref 121), .none, .none, .none, (.ref 122), (.int 603 0), (.int 60 0), (.str s1 604)])), (Array.mk [])⟩
noncomputable def ob124v130 (p : Program) (P : Params) : Obj := ⟨(.type "function"), none, (.func { name := s38, qualname := s38, params := fnA p 16, body := .stmts (fnB p 16), scope := fnS p 16, globals := 3, closure := [], defaults := .none, kwdefaults := .none, doc := .none, pyModule := (.str s36 598), annotations := none, code := (.ref 123), closureTuple := .none, builtins := 0 : FuncData }), (Array.mk [])⟩
noncomputable def ob125v131 (p : Program) (P : Params) : Obj := ⟨(.type "tuple"), none, (.seq (Array.mk []) 0), (Array.mk [])⟩
noncomputable def ob126v132 (p : Program) (P : Params) : Obj := ⟨.none, none, (.fields (Array.mk [])), (Array.mk [])⟩
noncomputable def ob127v133 (p : Program) (P : Params) : Obj := ⟨.none, none, (.func { name := s39, qualname := s39, params := fnA p 17, body := .stmts (fnB p 17), scope := fnS p 17, globals := 0, closure := [], defaults := .none, kwdefaults := .none, doc := .none, pyModule := .none, annotations := none, code := .none, closureTuple := .none, builtins := 0 : FuncData }), (Array.mk [])⟩
noncomputable def ob128v134 (p : Program) (P : Params) : Obj := ⟨(.type "code"), none, (.fields (Array.mk [(.str s39 606), (.str s39 607), (.str s1 608), (.int 62 0), (.int 1 0), (.int 0 0), (.int 0 0), (.int 3 0), (.ref 125), (.bool true), (.int 181 0), (.ref 126), .none, .none, .none, (.ref 127), (.int 609 0), (.int 62 0), (.str s1 610)])), (Array.mk [])⟩
noncomputable def ob129v135 (p : Program) (P : Params) : Obj := ⟨(.type "function"), none, (.func { name := s39, qualname := s39, params := fnA p 17, body := .stmts (fnB p 17), scope := fnS p 17, globals := 3, closure := [], defaults := .none, kwdefaults := .none, doc := .none, pyModule := (.str s36 598), annotations := none, code := (.ref 128), closureTuple := .none, builtins := 0 : FuncData }), (Array.mk [])⟩
noncomputable def T18 (p : Program) (P : Params) : BT := (.node (boot_o_0 P) (.node (boot_o_1 P) (.node (ob3v117 p P) (.node (boot_o_7 P) (.node (ob15v6 p P) (.node (ob31v23 p P) (.node (ob63v60 p P) (.node (ob127v133 p P) .nil .nil) .nil) (.node (ob95v98 p P) .nil .nil)) (.node (ob47v41 p P) (.node (ob79v79 p P) .nil .nil) (.node (ob111v115 p P) .nil .nil))) (.node (ob23v14 p P) (.node (ob39v33 p P) (.node (ob71v71 p P) .nil .nil) (.node (ob103v106 p P) .nil .nil)) (.node (ob55v50 p P) (.node (ob87v87 p P) .nil .nil) (.node (ob119v125 p P) .nil .nil)))) (.node (ob11v0 p P) (.node (ob19v10 p P) (.node (ob35v29 p P) (.node (ob67v65 p P) .nil .nil) (.node (ob99v102 p P) .nil .nil)) (.node (ob51v45 p P) (.node (ob83v83 p P) .nil .nil) (.node (ob115v121 p P) .nil .nil))) (.node (ob27v18 p P) (.node (ob43v37 p P) (.node (ob75v75 p P) .nil .nil) (.node (ob107v110 p P) .nil .nil)) (.node (ob59v56 p P) (.node (ob91v92 p P) .nil .nil) (.node (ob123v129 p P) .nil .nil))))) (.node (boot_o_5 P) (.node (boot_o_9 P) (.node (ob17v8 p P) (.node (ob33v27 p P) (.node (ob65v62 p P) (.node (ob129v135 p P) .nil .nil) .nil) (.node (ob97v100 p P) .nil .nil)) (.node (ob49v43 p P) (.node (ob81v81 p P) .nil .nil) (.node (ob113v119 p P) .nil .nil))) (.node (ob25v16 p P) (.node (ob41v35 p P) (.node (ob73v73 p P) .nil .nil) (.node (ob105v108 p P) .nil .nil)) (.node (ob57v52 p P) (.node (ob89v89 p P) .nil .nil) (.node (ob121v127 p P) .nil .nil)))) (.node (ob13v2 p P) (.node (ob21v12 p P) (.node (ob37v31 p P) (.node (ob69v67 p P) .nil .nil) (.node (ob101v104 p P) .nil .nil)) (.node (ob53v47 p P) (.node (ob85v85 p P) .nil .nil) (.node (ob117v123 p P) .nil .nil))) (.node (ob29v21 p P) (.node (ob45v39 p P) (.node (ob77v77 p P) .nil .nil) (.node (ob109v113 p P) .nil .nil)) (.node (ob61v58 p P) (.node (ob93v94 p P) .nil .nil) (.node (ob125v131 p P) .nil .nil)))))) (.node (boot_o_2 P) (.node (boot_o_4 P) (.node (boot_o_8 P) (.node (ob16v7 p P) (.node (ob32v24 p P) (.node (ob64v61 p P) (.node (ob128v134 p P) .nil .nil) .nil) (.node (ob96v99 p P) .nil .nil)) (.node (ob48v42 p P) (.node (ob80v80 p P) .nil .nil) (.node (ob112v116 p P) .nil .nil))) (.node (ob24v15 p P) (.node (ob40v34 p P) (.node (ob72v72 p P) .nil .nil) (.node (ob104v107 p P) .nil .nil)) (.node (ob56v51 p P) (.node (ob88v88 p P) .nil .nil) (.node (ob120v126 p P) .nil .nil)))) (.node (ob12v118 p P) (.node (ob20v11 p P) (.node (ob36v30 p P) (.node (ob68v66 p P) .nil .nil) (.node (ob100v103 p P) .nil .nil)) (.node (ob52v46 p P) (.node (ob84v84 p P) .nil .nil) (.node (ob116v122 p P) .nil .nil))) (.node (ob28v19 p P) (.node (ob44v38 p P) (.node (ob76v76 p P) .nil .nil) (.node (ob108v111 p P) .nil .nil)) (.node (ob60v57 p P) (.node (ob92v93 p P) .nil .nil) (.node (ob124v130 p P) .nil .nil))))) (.node (boot_o_6 P) (.node (boot_o_10 P) (.node (ob18v9 p P) (.node (ob34v28 p P) (.node (ob66v63 p P) .nil .nil) (.node (ob98v101 p P) .nil .nil)) (.node (ob50v44 p P) (.node (ob82v82 p P) .nil .nil) (.node (ob114v120 p P) .nil .nil))) (.node (ob26v17 p P) (.node (ob42v36 p P) (.node (ob74v74 p P) .nil .nil) (.node (ob106v109 p P) .nil .nil)) (.node (ob58v53 p P) (.node (ob90v90 p P) .nil .nil) (.node (ob122v128 p P) .nil .nil)))) (.node (ob14v3 p P) (.node (ob22v13 p P) (.node (ob38v32 p P) (.node (ob70v68 p P) .nil .nil) (.node (ob102v105 p P) .nil .nil)) (.node (ob54v48 p P) (.node (ob86v86 p P) .nil .nil) (.node (ob118v124 p P) .nil .nil))) (.node (ob30v22 p P) (.node (ob46v40 p P) (.node (ob78v78 p P) .nil .nil) (.node (ob110v114 p P) .nil .nil)) (.node (ob62v59 p P) (.node (ob94v95 p P) .nil .nil) (.node (ob126v132 p P) .nil .nil)))))))
theorem seg14 : ∀ (w : World) (os : OsState), runT w 91 (SharedT.mk (T14 PySem.Challenge.pw_mq0100_01 w.params) 113 lf (Array.mk []) dr 591 os) (piecesOf [stm PySem.Challenge.pw_mq0100_01 14, stm PySem.Challenge.pw_mq0100_01 15, stm PySem.Challenge.pw_mq0100_01 16, stm PySem.Challenge.pw_mq0100_01 17] (env PySem.Challenge.pw_mq0100_01) (cE PySem.Challenge.pw_mq0100_01) ⟨56, 0, 56, 6⟩ B0) = some (.next, (SharedT.mk (T18 PySem.Challenge.pw_mq0100_01 w.params) 130 lf (Array.mk []) dr 612 os), cE PySem.Challenge.pw_mq0100_01, ⟨62, 0, 65, 39⟩) := by
  intro w os; unfold runT; rewrite [PySem.W.Fast.te10110043849684766642, PySem.W.Fast.te14364793385576792824, PySem.W.Fast.te7261500446525621778]; kernel_rfl
noncomputable def ob3v136 (p : Program) (P : Params) : Obj := ⟨(.type "dict"), none, (.dict (Array.mk [(e21 P), (e1 P), (e2 P), (e3 P), (e4 P), (e5 P), (e6 P), (e7 P), (e8 P), (e9 P), (e10 P), (e11 P), (e12 P), (e13 P), (e14 P), (e15 P), (e16 P), (e17 P), (e18 P), (e19 P), (e20 P), (e22 P), (e23 P), (e24 P), (e25 P), (e26 P), (e27 P), (e28 P), (e29 P)]) 29), (Array.mk [])⟩
noncomputable def ob12v137 (p : Program) (P : Params) : Obj := ⟨.none, none, (.fields (Array.mk [(.int 2 0), (.int 0 0), (.ref 20), (.int 36 0), (.int 0 0), (.ref 38), (.int 38 0), (.int 0 0), (.ref 45), (.int 40 0), (.int 0 0), (.ref 52), (.int 48 0), (.int 0 0), (.ref 64), (.int 51 0), (.int 0 0), (.ref 76), (.int 54 0), (.int 0 0), (.ref 100), (.int 57 0), (.int 0 0), (.ref 118), (.int 60 0), (.int 0 0), (.ref 123), (.int 62 0), (.int 0 0), (.ref 128), (.int 66 0), (.int 0 0), (.ref 133), (.int 70 0), (.int 0 0), (.ref 140), (.int 78 0), (.int 0 0), (.ref 145), (.int 85 0), (.int 0 0), (.ref 150), (.int 87 0), (.int 0 0), (.ref 155)])), (Array.mk [])⟩
noncomputable def ob130v138 (p : Program) (P : Params) : Obj := ⟨(.type "tuple"), none, (.seq (Array.mk []) 0), (Array.mk [])⟩
noncomputable def ob131v139 (p : Program) (P : Params) : Obj := ⟨.none, none, (.fields (Array.mk [])), (Array.mk [])⟩
noncomputable def ob132v140 (p : Program) (P : Params) : Obj := ⟨.none, none, (.func { name := s40, qualname := s40, params := fnA p 18, body := .stmts (fnB p 18), scope := fnS p 18, globals := 0, closure := [], defaults := .none, kwdefaults := .none, doc := .none, pyModule := .none, annotations := none, code := .none, closureTuple := .none, builtins := 0 : FuncData }), (Array.mk [])⟩
noncomputable def ob133v141 (p : Program) (P : Params) : Obj := ⟨(.type "code"), none, (.fields (Array.mk [(.str s40 612), (.str s40 613), (.str s1 614), (.int 66 0), (.int 2 0), (.int 0 0), (.int 0 0), (.int 3 0), (.ref 130), (.bool true), (.int 181 0), (.ref 131), .none, .none, .none, (.ref 132), (.int 615 0), (.int 66 0), (.str s1 616)])), (Array.mk [])⟩
noncomputable def ob134v142 (p : Program) (P : Params) : Obj := ⟨(.type "function"), none, (.func { name := s40, qualname := s40, params := fnA p 18, body := .stmts (fnB p 18), scope := fnS p 18, globals := 3, closure := [], defaults := .none, kwdefaults := .none, doc := .none, pyModule := (.str s36 598), annotations := none, code := (.ref 133), closureTuple := .none, builtins := 0 : FuncData }), (Array.mk [])⟩
noncomputable def ob135v143 (p : Program) (P : Params) : Obj := ⟨(.type "tuple"), none, (.seq (Array.mk []) 0), (Array.mk [])⟩
noncomputable def ob136v144 (p : Program) (P : Params) : Obj := ⟨.none, none, (.fields (Array.mk [])), (Array.mk [])⟩
noncomputable def ob137v145 (p : Program) (P : Params) : Obj := ⟨(.type "tuple"), none, (.seq (Array.mk [(.str s45 621), (.str s46 622), (.str s47 623), (.str s48 624), (.str s49 625), (.str s50 626), (.str s51 627), (.str s52 628)]) 0), (Array.mk [])⟩
noncomputable def ob138v146 (p : Program) (P : Params) : Obj := ⟨(.type "tuple"), none, (.seq (Array.mk []) 0), (Array.mk [])⟩
noncomputable def ob139v147 (p : Program) (P : Params) : Obj := ⟨.none, none, (.func { name := s41, qualname := s41, params := fnA p 19, body := .stmts (fnB p 19), scope := fnS p 19, globals := 0, closure := [], defaults := .none, kwdefaults := .none, doc := .none, pyModule := .none, annotations := none, code := .none, closureTuple := .none, builtins := 0 : FuncData }), (Array.mk [])⟩
noncomputable def ob140v148 (p : Program) (P : Params) : Obj := ⟨(.type "code"), none, (.fields (Array.mk [(.str s41 618), (.str s41 619), (.str s1 620), (.int 70 0), (.int 2 0), (.int 0 0), (.int 0 0), (.int 3 0), (.ref 135), (.bool true), (.int 181 0), (.ref 136), .none, (.ref 137), (.ref 138), (.ref 139), (.int 629 0), (.int 70 0), (.str s1 630)])), (Array.mk [])⟩
noncomputable def ob141v149 (p : Program) (P : Params) : Obj := ⟨(.type "function"), none, (.func { name := s41, qualname := s41, params := fnA p 19, body := .stmts (fnB p 19), scope := fnS p 19, globals := 3, closure := [], defaults := .none, kwdefaults := .none, doc := .none, pyModule := (.str s36 598), annotations := none, code := (.ref 140), closureTuple := .none, builtins := 0 : FuncData }), (Array.mk [])⟩
noncomputable def ob142v150 (p : Program) (P : Params) : Obj := ⟨(.type "tuple"), none, (.seq (Array.mk []) 0), (Array.mk [])⟩
noncomputable def ob143v151 (p : Program) (P : Params) : Obj := ⟨.none, none, (.fields (Array.mk [])), (Array.mk [])⟩
noncomputable def ob144v152 (p : Program) (P : Params) : Obj := ⟨.none, none, (.func { name := s42, qualname := s42, params := fnA p 20, body := .stmts (fnB p 20), scope := fnS p 20, globals := 0, closure := [], defaults := .none, kwdefaults := .none, doc := .none, pyModule := .none, annotations := none, code := .none, closureTuple := .none, builtins := 0 : FuncData }), (Array.mk [])⟩
noncomputable def ob145v153 (p : Program) (P : Params) : Obj := ⟨(.type "code"), none, (.fields (Array.mk [(.str s42 632), (.str s42 633), (.str s1 634), (.int 78 0), (.int 2 0), (.int 0 0), (.int 0 0), (.int 3 0), (.ref 142), (.bool true), (.int 181 0), (.ref 143), .none, .none, .none, (.ref 144), (.int 635 0), (.int 78 0), (.str s1 636)])), (Array.mk [])⟩
noncomputable def ob146v154 (p : Program) (P : Params) : Obj := ⟨(.type "function"), none, (.func { name := s42, qualname := s42, params := fnA p 20, body := .stmts (fnB p 20), scope := fnS p 20, globals := 3, closure := [], defaults := .none, kwdefaults := .none, doc := .none, pyModule := (.str s36 598), annotations := none, code := (.ref 145), closureTuple := .none, builtins := 0 : FuncData }), (Array.mk [])⟩
noncomputable def ob147v155 (p : Program) (P : Params) : Obj := ⟨(.type "tuple"), none, (.seq (Array.mk []) 0), (Array.mk [])⟩
noncomputable def ob148v156 (p : Program) (P : Params) : Obj := ⟨.none, none, (.fields (Array.mk [])), (Array.mk [])⟩
noncomputable def ob149v157 (p : Program) (P : Params) : Obj := ⟨.none, none, (.func { name := s43, qualname := s43, params := fnA p 21, body := .stmts (fnB p 21), scope := fnS p 21, globals := 0, closure := [], defaults := .none, kwdefaults := .none, doc := .none, pyModule := .none, annotations := none, code := .none, closureTuple := .none, builtins := 0 : FuncData }), (Array.mk [])⟩
noncomputable def ob150v158 (p : Program) (P : Params) : Obj := ⟨(.type "code"), none, (.fields (Array.mk [(.str s43 638), (.str s43 639), (.str s1 640), (.int 85 0), (.int 2 0), (.int 0 0), (.int 0 0), (.int 3 0), (.ref 147), (.bool true), (.int 181 0), (.ref 148), .none, .none, .none, (.ref 149), (.int 641 0), (.int 85 0), (.str s1 642)])), (Array.mk [])⟩
noncomputable def ob151v159 (p : Program) (P : Params) : Obj := ⟨(.type "function"), none, (.func { name := s43, qualname := s43, params := fnA p 21, body := .stmts (fnB p 21), scope := fnS p 21, globals := 3, closure := [], defaults := .none, kwdefaults := .none, doc := .none, pyModule := (.str s36 598), annotations := none, code := (.ref 150), closureTuple := .none, builtins := 0 : FuncData }), (Array.mk [])⟩
noncomputable def ob152v160 (p : Program) (P : Params) : Obj := ⟨(.type "tuple"), none, (.seq (Array.mk []) 0), (Array.mk [])⟩
noncomputable def ob153v161 (p : Program) (P : Params) : Obj := ⟨.none, none, (.fields (Array.mk [])), (Array.mk [])⟩
noncomputable def ob154v162 (p : Program) (P : Params) : Obj := ⟨.none, none, (.func { name := s44, qualname := s44, params := fnA p 22, body := .stmts (fnB p 22), scope := fnS p 22, globals := 0, closure := [], defaults := .none, kwdefaults := .none, doc := .none, pyModule := .none, annotations := none, code := .none, closureTuple := .none, builtins := 0 : FuncData }), (Array.mk [])⟩
noncomputable def ob155v163 (p : Program) (P : Params) : Obj := ⟨(.type "code"), none, (.fields (Array.mk [(.str s44 644), (.str s44 645), (.str s1 646), (.int 87 0), (.int 1 0), (.int 0 0), (.int 0 0), (.int 3 0), (.ref 152), (.bool true), (.int 181 0), (.ref 153), .none, .none, .none, (.ref 154), (.int 647 0), (.int 87 0), (.str s1 648)])), (Array.mk [])⟩
noncomputable def ob156v164 (p : Program) (P : Params) : Obj := ⟨(.type "function"), none, (.func { name := s44, qualname := s44, params := fnA p 22, body := .stmts (fnB p 22), scope := fnS p 22, globals := 3, closure := [], defaults := .none, kwdefaults := .none, doc := .none, pyModule := (.str s36 598), annotations := none, code := (.ref 155), closureTuple := .none, builtins := 0 : FuncData }), (Array.mk [])⟩
noncomputable def T23 (p : Program) (P : Params) : BT := (.node (boot_o_0 P) (.node (boot_o_1 P) (.node (ob3v136 p P) (.node (boot_o_7 P) (.node (ob15v6 p P) (.node (ob31v23 p P) (.node (ob63v60 p P) (.node (ob127v133 p P) .nil .nil) .nil) (.node (ob95v98 p P) .nil .nil)) (.node (ob47v41 p P) (.node (ob79v79 p P) (.node (ob143v151 p P) .nil .nil) .nil) (.node (ob111v115 p P) .nil .nil))) (.node (ob23v14 p P) (.node (ob39v33 p P) (.node (ob71v71 p P) (.node (ob135v143 p P) .nil .nil) .nil) (.node (ob103v106 p P) .nil .nil)) (.node (ob55v50 p P) (.node (ob87v87 p P) (.node (ob151v159 p P) .nil .nil) .nil) (.node (ob119v125 p P) .nil .nil)))) (.node (ob11v0 p P) (.node (ob19v10 p P) (.node (ob35v29 p P) (.node (ob67v65 p P) (.node (ob131v139 p P) .nil .nil) .nil) (.node (ob99v102 p P) .nil .nil)) (.node (ob51v45 p P) (.node (ob83v83 p P) (.node (ob147v155 p P) .nil .nil) .nil) (.node (ob115v121 p P) .nil .nil))) (.node (ob27v18 p P) (.node (ob43v37 p P) (.node (ob75v75 p P) (.node (ob139v147 p P) .nil .nil) .nil) (.node (ob107v110 p P) .nil .nil)) (.node (ob59v56 p P) (.node (ob91v92 p P) (.node (ob155v163 p P) .nil .nil) .nil) (.node (ob123v129 p P) .nil .nil))))) (.node (boot_o_5 P) (.node (boot_o_9 P) (.node (ob17v8 p P) (.node (ob33v27 p P) (.node (ob65v62 p P) (.node (ob129v135 p P) .nil .nil) .nil) (.node (ob97v100 p P) .nil .nil)) (.node (ob49v43 p P) (.node (ob81v81 p P) (.node (ob145v153 p P) .nil .nil) .nil) (.node (ob113v119 p P) .nil .nil))) (.node (ob25v16 p P) (.node (ob41v35 p P) (.node (ob73v73 p P) (.node (ob137v145 p P) .nil .nil) .nil) (.node (ob105v108 p P) .nil .nil)) (.node (ob57v52 p P) (.node (ob89v89 p P) (.node (ob153v161 p P) .nil .nil) .nil) (.node (ob121v127 p P) .nil .nil)))) (.node (ob13v2 p P) (.node (ob21v12 p P) (.node (ob37v31 p P) (.node (ob69v67 p P) (.node (ob133v141 p P) .nil .nil) .nil) (.node (ob101v104 p P) .nil .nil)) (.node (ob53v47 p P) (.node (ob85v85 p P) (.node (ob149v157 p P) .nil .nil) .nil) (.node (ob117v123 p P) .nil .nil))) (.node (ob29v21 p P) (.node (ob45v39 p P) (.node (ob77v77 p P) (.node (ob141v149 p P) .nil .nil) .nil) (.node (ob109v113 p P) .nil .nil)) (.node (ob61v58 p P) (.node (ob93v94 p P) .nil .nil) (.node (ob125v131 p P) .nil .nil)))))) (.node (boot_o_2 P) (.node (boot_o_4 P) (.node (boot_o_8 P) (.node (ob16v7 p P) (.node (ob32v24 p P) (.node (ob64v61 p P) (.node (ob128v134 p P) .nil .nil) .nil) (.node (ob96v99 p P) .nil .nil)) (.node (ob48v42 p P) (.node (ob80v80 p P) (.node (ob144v152 p P) .nil .nil) .nil) (.node (ob112v116 p P) .nil .nil))) (.node (ob24v15 p P) (.node (ob40v34 p P) (.node (ob72v72 p P) (.node (ob136v144 p P) .nil .nil) .nil) (.node (ob104v107 p P) .nil .nil)) (.node (ob56v51 p P) (.node (ob88v88 p P) (.node (ob152v160 p P) .nil .nil) .nil) (.node (ob120v126 p P) .nil .nil)))) (.node (ob12v137 p P) (.node (ob20v11 p P) (.node (ob36v30 p P) (.node (ob68v66 p P) (.node (ob132v140 p P) .nil .nil) .nil) (.node (ob100v103 p P) .nil .nil)) (.node (ob52v46 p P) (.node (ob84v84 p P) (.node (ob148v156 p P) .nil .nil) .nil) (.node (ob116v122 p P) .nil .nil))) (.node (ob28v19 p P) (.node (ob44v38 p P) (.node (ob76v76 p P) (.node (ob140v148 p P) .nil .nil) .nil) (.node (ob108v111 p P) .nil .nil)) (.node (ob60v57 p P) (.node (ob92v93 p P) (.node (ob156v164 p P) .nil .nil) .nil) (.node (ob124v130 p P) .nil .nil))))) (.node (boot_o_6 P) (.node (boot_o_10 P) (.node (ob18v9 p P) (.node (ob34v28 p P) (.node (ob66v63 p P) (.node (ob130v138 p P) .nil .nil) .nil) (.node (ob98v101 p P) .nil .nil)) (.node (ob50v44 p P) (.node (ob82v82 p P) (.node (ob146v154 p P) .nil .nil) .nil) (.node (ob114v120 p P) .nil .nil))) (.node (ob26v17 p P) (.node (ob42v36 p P) (.node (ob74v74 p P) (.node (ob138v146 p P) .nil .nil) .nil) (.node (ob106v109 p P) .nil .nil)) (.node (ob58v53 p P) (.node (ob90v90 p P) (.node (ob154v162 p P) .nil .nil) .nil) (.node (ob122v128 p P) .nil .nil)))) (.node (ob14v3 p P) (.node (ob22v13 p P) (.node (ob38v32 p P) (.node (ob70v68 p P) (.node (ob134v142 p P) .nil .nil) .nil) (.node (ob102v105 p P) .nil .nil)) (.node (ob54v48 p P) (.node (ob86v86 p P) (.node (ob150v158 p P) .nil .nil) .nil) (.node (ob118v124 p P) .nil .nil))) (.node (ob30v22 p P) (.node (ob46v40 p P) (.node (ob78v78 p P) (.node (ob142v150 p P) .nil .nil) .nil) (.node (ob110v114 p P) .nil .nil)) (.node (ob62v59 p P) (.node (ob94v95 p P) .nil .nil) (.node (ob126v132 p P) .nil .nil)))))))
theorem seg18 : ∀ (w : World) (os : OsState), runT w 141 (SharedT.mk (T18 PySem.Challenge.pw_mq0100_01 w.params) 130 lf (Array.mk []) dr 612 os) (piecesOf [stm PySem.Challenge.pw_mq0100_01 18, stm PySem.Challenge.pw_mq0100_01 19, stm PySem.Challenge.pw_mq0100_01 20, stm PySem.Challenge.pw_mq0100_01 21, stm PySem.Challenge.pw_mq0100_01 22] (env PySem.Challenge.pw_mq0100_01) (cE PySem.Challenge.pw_mq0100_01) ⟨62, 0, 65, 39⟩ B0) = some (.next, (SharedT.mk (T23 PySem.Challenge.pw_mq0100_01 w.params) 157 lf (Array.mk []) dr 650 os), cE PySem.Challenge.pw_mq0100_01, ⟨87, 0, 105, 15⟩) := by
  intro w os; unfold runT; rewrite [PySem.W.Fast.te10110043849684766642, PySem.W.Fast.te14364793385576792824, PySem.W.Fast.te7261500446525621778]; kernel_rfl
end
end Mine
end
-- part HE
section
open PySem PySem.W PyProof.Rows
set_option linter.unusedVariables false
set_option maxRecDepth 100000
set_option maxHeartbeats 0
namespace Mine
noncomputable section
noncomputable def H1 (p : Program) (P : Params) : Heap := ⟨Array.mk [(boot_o_0 P), (boot_o_1 P), (boot_o_2 P), (ob3v136 p P), (boot_o_4 P), (boot_o_5 P), (boot_o_6 P), (boot_o_7 P), (boot_o_8 P), (boot_o_9 P), (boot_o_10 P), (ob11v0 p P), (ob12v137 p P), (ob13v2 p P), (ob14v3 p P), (ob15v6 p P), (ob16v7 p P), (ob17v8 p P), (ob18v9 p P), (ob19v10 p P), (ob20v11 p P), (ob21v12 p P), (ob22v13 p P), (ob23v14 p P), (ob24v15 p P), (ob25v16 p P), (ob26v17 p P), (ob27v18 p P), (ob28v19 p P), (ob29v21 p P), (ob30v22 p P), (ob31v23 p P), (ob32v24 p P), (ob33v27 p P), (ob34v28 p P), (ob35v29 p P), (ob36v30 p P), (ob37v31 p P), (ob38v32 p P), (ob39v33 p P), (ob40v34 p P), (ob41v35 p P), (ob42v36 p P), (ob43v37 p P), (ob44v38 p P), (ob45v39 p P), (ob46v40 p P), (ob47v41 p P), (ob48v42 p P), (ob49v43 p P), (ob50v44 p P), (ob51v45 p P), (ob52v46 p P), (ob53v47 p P), (ob54v48 p P), (ob55v50 p P), (ob56v51 p P), (ob57v52 p P), (ob58v53 p P), (ob59v56 p P), (ob60v57 p P), (ob61v58 p P), (ob62v59 p P), (ob63v60 p P), (ob64v61 p P), (ob65v62 p P), (ob66v63 p P), (ob67v65 p P), (ob68v66 p P), (ob69v67 p P), (ob70v68 p P), (ob71v71 p P), (ob72v72 p P), (ob73v73 p P), (ob74v74 p P), (ob75v75 p P), (ob76v76 p P), (ob77v77 p P), (ob78v78 p P), (ob79v79 p P), (ob80v80 p P), (ob81v81 p P), (ob82v82 p P), (ob83v83 p P), (ob84v84 p P), (ob85v85 p P), (ob86v86 p P), (ob87v87 p P), (ob88v88 p P), (ob89v89 p P), (ob90v90 p P), (ob91v92 p P), (ob92v93 p P), (ob93v94 p P), (ob94v95 p P), (ob95v98 p P), (ob96v99 p P), (ob97v100 p P), (ob98v101 p P), (ob99v102 p P), (ob100v103 p P), (ob101v104 p P), (ob102v105 p P), (ob103v106 p P), (ob104v107 p P), (ob105v108 p P), (ob106v109 p P), (ob107v110 p P), (ob108v111 p P), (ob109v113 p P), (ob110v114 p P), (ob111v115 p P), (ob112v116 p P), (ob113v119 p P), (ob114v120 p P), (ob115v121 p P), (ob116v122 p P), (ob117v123 p P), (ob118v124 p P), (ob119v125 p P), (ob120v126 p P), (ob121v127 p P), (ob122v128 p P), (ob123v129 p P), (ob124v130 p P), (ob125v131 p P), (ob126v132 p P), (ob127v133 p P), (ob128v134 p P), (ob129v135 p P), (ob130v138 p P), (ob131v139 p P), (ob132v140 p P), (ob133v141 p P), (ob134v142 p P), (ob135v143 p P), (ob136v144 p P), (ob137v145 p P), (ob138v146 p P), (ob139v147 p P), (ob140v148 p P), (ob141v149 p P), (ob142v150 p P), (ob143v151 p P), (ob144v152 p P), (ob145v153 p P), (ob146v154 p P), (ob147v155 p P), (ob148v156 p P), (ob149v157 p P), (ob150v158 p P), (ob151v159 p P), (ob152v160 p P), (ob153v161 p P), (ob154v162 p P), (ob155v163 p P), (ob156v164 p P)], lf⟩
theorem fin : ∀ (w : World) (os : OsState), topRun treeTable PySem.Challenge.pw_mq0100_01 w 11 ann 2 (SharedT.abs (SharedT.mk (T23 PySem.Challenge.pw_mq0100_01 w.params) 157 lf (Array.mk []) dr 650 os)) ⟨doneF .next, cE PySem.Challenge.pw_mq0100_01, ⟨87, 0, 105, 15⟩, B0⟩ = some ⟨H1 PySem.Challenge.pw_mq0100_01 w.params, Array.mk [], dr, 650, os⟩ := by
  intro w os; rewrite [PySem.W.Fast.te14082659384304107361, PySem.W.Fast.te14364793385576792824, PySem.W.Fast.te7261500446525621778]; kernel_rfl
theorem pre : ∀ (w : World) (os : OsState), topGo treeTable PySem.Challenge.pw_mq0100_01 w 11 ann 12 ⟨boot_heap w.params, Array.mk [], boot_drawn, boot_toks, os⟩ (topStub PySem.Challenge.pw_mq0100_01) = some (SharedT.abs (SharedT.mk (T0 PySem.Challenge.pw_mq0100_01 w.params) 15 lf (Array.mk []) dr 187 os), ⟨denote treeTable (cE PySem.Challenge.pw_mq0100_01), cE PySem.Challenge.pw_mq0100_01, ⟨0, 0, 0, 0⟩, B0⟩) := by
  intro w os; rewrite [PySem.W.Fast.te15667345088766844465, PySem.W.Fast.te11892475500146522536, PySem.W.Fast.te14364793385576792824, PySem.W.Fast.te7261500446525621778]; kernel_rfl
theorem block : ∀ (w : World) (os : OsState), segRun treeTable PySem.Challenge.pw_mq0100_01 w 11 ann 1 1 (SharedT.abs (SharedT.mk (T0 PySem.Challenge.pw_mq0100_01 w.params) 15 lf (Array.mk []) dr 187 os)) (blockOf (behindTheImports PySem.Challenge.pw_mq0100_01) (env PySem.Challenge.pw_mq0100_01) (cE PySem.Challenge.pw_mq0100_01) ⟨0, 0, 0, 0⟩ B0) = some (.next, SharedT.abs (SharedT.mk (T0 PySem.Challenge.pw_mq0100_01 w.params) 15 lf (Array.mk []) dr 187 os), cE PySem.Challenge.pw_mq0100_01, ⟨0, 0, 0, 0⟩) := by
  intro w os; rewrite [PySem.W.Fast.te14374325043358763698, PySem.W.Fast.te14364793385576792824, PySem.W.Fast.te7261500446525621778]; kernel_rfl
noncomputable def kob2 (P : Params) : Obj := ⟨.none, none, (.dict (Array.mk []) 0), (Array.mk [])⟩
noncomputable def kob3 (P : Params) : Obj := ⟨(.type "dict"), none, (.dict (Array.mk [⟨PyData.keyHash P (Str.ofString "__name__"), (.str (Str.ofString "__name__") 165), (.str (Str.ofString "law_mq0100_01") 598)⟩, ⟨PyData.keyHash P (Str.ofString "__doc__"), (.str (Str.ofString "__doc__") 166), .none⟩, ⟨PyData.keyHash P (Str.ofString "__package__"), (.str (Str.ofString "__package__") 167), .none⟩, ⟨PyData.keyHash P (Str.ofString "__loader__"), (.str (Str.ofString "__loader__") 168), (.builtin "__main__.__loader__#opaque")⟩, ⟨PyData.keyHash P (Str.ofString "__spec__"), (.str (Str.ofString "__spec__") 169), .none⟩, ⟨PyData.keyHash P (Str.ofString "__annotations__"), (.str (Str.ofString "__annotations__") 170), (.ref 6)⟩, ⟨PyData.keyHash P (Str.ofString "__builtins__"), (.str (Str.ofString "__builtins__") 171), (.ref 4)⟩, ⟨PyData.keyHash P (Str.ofString "__file__"), (.str (Str.ofString "__file__") 173), (.str (Str.ofString "/claim/cut.py") 172)⟩, ⟨PyData.keyHash P (Str.ofString "__cached__"), (.str (Str.ofString "__cached__") 174), .none⟩, ⟨PyData.keyHash P (Str.ofString "sorted_list_difference"), (.str (Str.ofString "sorted_list_difference") 202), (.ref 21)⟩, ⟨PyData.keyHash P (Str.ofString "b1_set"), (.str (Str.ofString "b1_set") 264), (.ref 29)⟩, ⟨PyData.keyHash P (Str.ofString "in_table_b1"), (.str (Str.ofString "in_table_b1") 271), (.ref 39)⟩, ⟨PyData.keyHash P (Str.ofString "in_table_c11"), (.str (Str.ofString "in_table_c11") 278), (.ref 46)⟩, ⟨PyData.keyHash P (Str.ofString "in_table_c4"), (.str (Str.ofString "in_table_c4") 286), (.ref 53)⟩, ⟨PyData.keyHash P (Str.ofString "c6_set"), (.str (Str.ofString "c6_set") 300), (.ref 55)⟩, ⟨PyData.keyHash P (Str.ofString "in_table_c6"), (.str (Str.ofString "in_table_c6") 307), (.ref 65)⟩, ⟨PyData.keyHash P (Str.ofString "c7_set"), (.str (Str.ofString "c7_set") 335), (.ref 67)⟩, ⟨PyData.keyHash P (Str.ofString "in_table_c7"), (.str (Str.ofString "in_table_c7") 342), (.ref 77)⟩, ⟨PyData.keyHash P (Str.ofString "c8_set"), (.str (Str.ofString "c8_set") 383), (.ref 91)⟩, ⟨PyData.keyHash P (Str.ofString "in_table_c8"), (.str (Str.ofString "in_table_c8") 390), (.ref 101)⟩, ⟨PyData.keyHash P (Str.ofString "c9_set"), (.str (Str.ofString "c9_set") 590), (.ref 109)⟩, ⟨PyData.keyHash P (Str.ofString "in_table_c9"), (.str (Str.ofString "in_table_c9") 597), (.ref 119)⟩, ⟨PyData.keyHash P (Str.ofString "_law_tables"), (.str (Str.ofString "_law_tables") 605), (.ref 124)⟩, ⟨PyData.keyHash P (Str.ofString "_law_left"), (.str (Str.ofString "_law_left") 611), (.ref 129)⟩, ⟨PyData.keyHash P (Str.ofString "_law_said"), (.str (Str.ofString "_law_said") 617), (.ref 134)⟩, ⟨PyData.keyHash P (Str.ofString "_law_marks"), (.str (Str.ofString "_law_marks") 631), (.ref 141)⟩, ⟨PyData.keyHash P (Str.ofString "_law_odd"), (.str (Str.ofString "_law_odd") 637), (.ref 146)⟩, ⟨PyData.keyHash P (Str.ofString "_law_moved"), (.str (Str.ofString "_law_moved") 643), (.ref 151)⟩, ⟨PyData.keyHash P (Str.ofString "law"), (.str (Str.ofString "law") 649), (.ref 156)⟩]) 29), (Array.mk [])⟩
noncomputable def kob6 (P : Params) : Obj := ⟨(.type "dict"), none, (.dict (Array.mk []) 0), (Array.mk [])⟩
noncomputable def kob15 (P : Params) : Obj := ⟨(.type "tuple"), none, (.seq (Array.mk []) 0), (Array.mk [])⟩
noncomputable def kob17 (P : Params) : Obj := ⟨(.type "tuple"), none, (.seq (Array.mk [(.str (Str.ofString "expected") 192), (.str (Str.ofString "actual") 193), (.str (Str.ofString "i") 194), (.str (Str.ofString "j") 195), (.str (Str.ofString "missing") 196), (.str (Str.ofString "unexpected") 197), (.str (Str.ofString "e") 198), (.str (Str.ofString "a") 199)]) 0), (Array.mk [])⟩
noncomputable def kob18 (P : Params) : Obj := ⟨(.type "tuple"), none, (.seq (Array.mk []) 0), (Array.mk [])⟩
noncomputable def kob20 (P : Params) : Obj := ⟨(.type "code"), none, (.fields (Array.mk [(.str (Str.ofString "sorted_list_difference") 189), (.str (Str.ofString "sorted_list_difference") 190), (.str (Str.ofString "/claim/cut.py") 191), (.int 2 0), (.int 2 0), (.int 0 0), (.int 0 0), (.int 3 0), (.ref 15), (.bool true), (.int 181 0), (.ref 16), .none, (.ref 17), (.ref 18), (.ref 19), (.int 200 0), (.int 2 0), (.str (Str.ofString "/claim/cut.py") 201)])), (Array.mk [])⟩
noncomputable def kob21 (P : Params) : Obj := kfn (p := PySem.Challenge.pw_mq0100_01) (i := 1) rfl (Str.ofString "sorted_list_difference") (.str (Str.ofString "cpy313.unittest.util") 187) (.ref 20)
noncomputable def kob29 (P : Params) : Obj := (setO [(65024, 221), (65025, 222), (65026, 223), (65027, 224), (65028, 225), (65029, 226), (6150, 207), (65030, 227), (65031, 228), (65032, 229), (65033, 230), (6155, 208), (6156, 209), (6157, 210), (8203, 211), (8204, 212), (8205, 213), (65034, 231), (65035, 232), (65036, 233), (65037, 234), (65038, 235), (65039, 236), (173, 205), (847, 206), (8288, 214), (65279, 215)] 29 127 [0, 1, 2, 3, 4, 5, 6, 7, 8, 9, 10, 11, 12, 13, 14, 15, 16, 17, 18, 19, 20, 21, 22, 45, 79, 96, 127] 2 (not (P.followText "set-order")))
noncomputable def kob33 (P : Params) : Obj := ⟨(.type "tuple"), none, (.seq (Array.mk []) 0), (Array.mk [])⟩
noncomputable def kob35 (P : Params) : Obj := ⟨(.type "tuple"), none, (.seq (Array.mk [(.str (Str.ofString "code") 268)]) 0), (Array.mk [])⟩
noncomputable def kob36 (P : Params) : Obj := ⟨(.type "tuple"), none, (.seq (Array.mk []) 0), (Array.mk [])⟩
noncomputable def kob38 (P : Params) : Obj := ⟨(.type "code"), none, (.fields (Array.mk [(.str (Str.ofString "in_table_b1") 265), (.str (Str.ofString "in_table_b1") 266), (.str (Str.ofString "/claim/cut.py") 267), (.int 36 0), (.int 1 0), (.int 0 0), (.int 0 0), (.int 3 0), (.ref 33), (.bool true), (.int 181 0), (.ref 34), .none, (.ref 35), (.ref 36), (.ref 37), (.int 269 0), (.int 36 0), (.str (Str.ofString "/claim/cut.py") 270)])), (Array.mk [])⟩
noncomputable def kob39 (P : Params) : Obj := kfn (p := PySem.Challenge.pw_mq0100_01) (i := 4) rfl (Str.ofString "in_table_b1") (.str (Str.ofString "cpy313.stringprep") 203) (.ref 38)
noncomputable def kob40 (P : Params) : Obj := ⟨(.type "tuple"), none, (.seq (Array.mk []) 0), (Array.mk [])⟩
noncomputable def kob42 (P : Params) : Obj := ⟨(.type "tuple"), none, (.seq (Array.mk [(.str (Str.ofString "code") 275)]) 0), (Array.mk [])⟩
noncomputable def kob43 (P : Params) : Obj := ⟨(.type "tuple"), none, (.seq (Array.mk []) 0), (Array.mk [])⟩
noncomputable def kob45 (P : Params) : Obj := ⟨(.type "code"), none, (.fields (Array.mk [(.str (Str.ofString "in_table_c11") 272), (.str (Str.ofString "in_table_c11") 273), (.str (Str.ofString "/claim/cut.py") 274), (.int 38 0), (.int 1 0), (.int 0 0), (.int 0 0), (.int 3 0), (.ref 40), (.bool true), (.int 181 0), (.ref 41), .none, (.ref 42), (.ref 43), (.ref 44), (.int 276 0), (.int 38 0), (.str (Str.ofString "/claim/cut.py") 277)])), (Array.mk [])⟩
noncomputable def kob46 (P : Params) : Obj := kfn (p := PySem.Challenge.pw_mq0100_01) (i := 5) rfl (Str.ofString "in_table_c11") (.str (Str.ofString "cpy313.stringprep") 203) (.ref 45)
noncomputable def kob47 (P : Params) : Obj := ⟨(.type "tuple"), none, (.seq (Array.mk []) 0), (Array.mk [])⟩
noncomputable def kob49 (P : Params) : Obj := ⟨(.type "tuple"), none, (.seq (Array.mk [(.str (Str.ofString "code") 282), (.str (Str.ofString "c") 283)]) 0), (Array.mk [])⟩
noncomputable def kob50 (P : Params) : Obj := ⟨(.type "tuple"), none, (.seq (Array.mk []) 0), (Array.mk [])⟩
noncomputable def kob52 (P : Params) : Obj := ⟨(.type "code"), none, (.fields (Array.mk [(.str (Str.ofString "in_table_c4") 279), (.str (Str.ofString "in_table_c4") 280), (.str (Str.ofString "/claim/cut.py") 281), (.int 40 0), (.int 1 0), (.int 0 0), (.int 0 0), (.int 3 0), (.ref 47), (.bool true), (.int 181 0), (.ref 48), .none, (.ref 49), (.ref 50), (.ref 51), (.int 284 0), (.int 40 0), (.str (Str.ofString "/claim/cut.py") 285)])), (Array.mk [])⟩
noncomputable def kob53 (P : Params) : Obj := kfn (p := PySem.Challenge.pw_mq0100_01) (i := 6) rfl (Str.ofString "in_table_c4") (.str (Str.ofString "cpy313.stringprep") 203) (.ref 52)
noncomputable def kob55 (P : Params) : Obj := (setO [(65529, 290), (65530, 292), (65531, 294), (65532, 296), (65533, 298)] 6 31 [25, 26, 27, 28, 29] 1 (not (P.followText "set-order")))
noncomputable def kob59 (P : Params) : Obj := ⟨(.type "tuple"), none, (.seq (Array.mk []) 0), (Array.mk [])⟩
noncomputable def kob61 (P : Params) : Obj := ⟨(.type "tuple"), none, (.seq (Array.mk [(.str (Str.ofString "code") 304)]) 0), (Array.mk [])⟩
noncomputable def kob62 (P : Params) : Obj := ⟨(.type "tuple"), none, (.seq (Array.mk []) 0), (Array.mk [])⟩
noncomputable def kob64 (P : Params) : Obj := ⟨(.type "code"), none, (.fields (Array.mk [(.str (Str.ofString "in_table_c6") 301), (.str (Str.ofString "in_table_c6") 302), (.str (Str.ofString "/claim/cut.py") 303), (.int 48 0), (.int 1 0), (.int 0 0), (.int 0 0), (.int 3 0), (.ref 59), (.bool true), (.int 181 0), (.ref 60), .none, (.ref 61), (.ref 62), (.ref 63), (.int 305 0), (.int 48 0), (.str (Str.ofString "/claim/cut.py") 306)])), (Array.mk [])⟩
noncomputable def kob65 (P : Params) : Obj := kfn (p := PySem.Challenge.pw_mq0100_01) (i := 8) rfl (Str.ofString "in_table_c6") (.str (Str.ofString "cpy313.stringprep") 203) (.ref 64)
noncomputable def kob67 (P : Params) : Obj := (setO [(12272, 311), (12273, 313), (12274, 315), (12275, 317), (12276, 319), (12277, 321), (12278, 323), (12279, 325), (12280, 327), (12281, 329), (12282, 331), (12283, 333)] 13 31 [16, 17, 18, 19, 20, 21, 22, 23, 24, 25, 26, 27] 1 (not (P.followText "set-order")))
noncomputable def kob71 (P : Params) : Obj := ⟨(.type "tuple"), none, (.seq (Array.mk []) 0), (Array.mk [])⟩
noncomputable def kob73 (P : Params) : Obj := ⟨(.type "tuple"), none, (.seq (Array.mk [(.str (Str.ofString "code") 339)]) 0), (Array.mk [])⟩
noncomputable def kob74 (P : Params) : Obj := ⟨(.type "tuple"), none, (.seq (Array.mk []) 0), (Array.mk [])⟩
noncomputable def kob76 (P : Params) : Obj := ⟨(.type "code"), none, (.fields (Array.mk [(.str (Str.ofString "in_table_c7") 336), (.str (Str.ofString "in_table_c7") 337), (.str (Str.ofString "/claim/cut.py") 338), (.int 51 0), (.int 1 0), (.int 0 0), (.int 0 0), (.int 3 0), (.ref 71), (.bool true), (.int 181 0), (.ref 72), .none, (.ref 73), (.ref 74), (.ref 75), (.int 340 0), (.int 51 0), (.str (Str.ofString "/claim/cut.py") 341)])), (Array.mk [])⟩
noncomputable def kob77 (P : Params) : Obj := kfn (p := PySem.Challenge.pw_mq0100_01) (i := 10) rfl (Str.ofString "in_table_c7") (.str (Str.ofString "cpy313.stringprep") 203) (.ref 76)
noncomputable def kob91 (P : Params) : Obj := (setO [(832, 343), (833, 344), (8234, 352), (8235, 353), (8236, 354), (8237, 355), (8206, 345), (8207, 346), (8238, 356), (8298, 362), (8299, 363), (8300, 364), (8301, 365), (8302, 366), (8303, 367)] 16 31 [0, 1, 10, 11, 12, 13, 14, 15, 16, 17, 18, 19, 20, 21, 22] 1 (not (P.followText "set-order")))
noncomputable def kob95 (P : Params) : Obj := ⟨(.type "tuple"), none, (.seq (Array.mk []) 0), (Array.mk [])⟩
noncomputable def kob97 (P : Params) : Obj := ⟨(.type "tuple"), none, (.seq (Array.mk [(.str (Str.ofString "code") 387)]) 0), (Array.mk [])⟩
noncomputable def kob98 (P : Params) : Obj := ⟨(.type "tuple"), none, (.seq (Array.mk []) 0), (Array.mk [])⟩
noncomputable def kob100 (P : Params) : Obj := ⟨(.type "code"), none, (.fields (Array.mk [(.str (Str.ofString "in_table_c8") 384), (.str (Str.ofString "in_table_c8") 385), (.str (Str.ofString "/claim/cut.py") 386), (.int 54 0), (.int 1 0), (.int 0 0), (.int 0 0), (.int 3 0), (.ref 95), (.bool true), (.int 181 0), (.ref 96), .none, (.ref 97), (.ref 98), (.ref 99), (.int 388 0), (.int 54 0), (.str (Str.ofString "/claim/cut.py") 389)])), (Array.mk [])⟩
noncomputable def kob101 (P : Params) : Obj := kfn (p := PySem.Challenge.pw_mq0100_01) (i := 12) rfl (Str.ofString "in_table_c8") (.str (Str.ofString "cpy313.stringprep") 203) (.ref 100)
noncomputable def kob109 (P : Params) : Obj := (setO [(917505, 391), (917536, 397), (917537, 398), (917538, 399), (917539, 400), (917540, 401), (917541, 402), (917542, 403), (917543, 404), (917544, 405), (917545, 406), (917546, 407), (917547, 408), (917548, 409), (917549, 410), (917550, 411), (917551, 412), (917552, 413), (917553, 414), (917554, 415), (917555, 416), (917556, 417), (917557, 418), (917558, 419), (917559, 420), (917560, 421), (917561, 422), (917562, 423), (917563, 424), (917564, 425), (917565, 426), (917566, 427), (917567, 428), (917568, 429), (917569, 430), (917570, 431), (917571, 432), (917572, 433), (917573, 434), (917574, 435), (917575, 436), (917576, 437), (917577, 438), (917578, 439), (917579, 440), (917580, 441), (917581, 442), (917582, 443), (917583, 444), (917584, 445), (917585, 446), (917586, 447), (917587, 448), (917588, 449), (917589, 450), (917590, 451), (917591, 452), (917592, 453), (917593, 454), (917594, 455), (917595, 456), (917596, 457), (917597, 458), (917598, 459), (917599, 460), (917600, 461), (917601, 462), (917602, 463), (917603, 464), (917604, 465), (917605, 466), (917606, 467), (917607, 468), (917608, 469), (917609, 470), (917610, 471), (917611, 472), (917612, 473), (917613, 474), (917614, 475), (917615, 476), (917616, 477), (917617, 478), (917618, 479), (917619, 480), (917620, 481), (917621, 482), (917622, 483), (917623, 484), (917624, 485), (917625, 486), (917626, 487), (917627, 488), (917628, 489), (917629, 490), (917630, 491), (917631, 492)] 100 511 [1, 32, 33, 34, 35, 36, 37, 38, 39, 40, 41, 42, 43, 44, 45, 46, 47, 48, 49, 50, 51, 52, 53, 54, 55, 56, 57, 58, 59, 60, 61, 62, 63, 64, 65, 66, 67, 68, 69, 70, 71, 72, 73, 74, 75, 76, 77, 78, 79, 80, 81, 82, 83, 84, 85, 86, 87, 88, 89, 90, 91, 92, 93, 94, 95, 96, 97, 98, 99, 100, 101, 102, 103, 104, 105, 106, 107, 108, 109, 110, 111, 112, 113, 114, 115, 116, 117, 118, 119, 120, 121, 122, 123, 124, 125, 126, 127] 3 (not (P.followText "set-order")))
noncomputable def kob113 (P : Params) : Obj := ⟨(.type "tuple"), none, (.seq (Array.mk []) 0), (Array.mk [])⟩
noncomputable def kob115 (P : Params) : Obj := ⟨(.type "tuple"), none, (.seq (Array.mk [(.str (Str.ofString "code") 594)]) 0), (Array.mk [])⟩
noncomputable def kob116 (P : Params) : Obj := ⟨(.type "tuple"), none, (.seq (Array.mk []) 0), (Array.mk [])⟩
noncomputable def kob118 (P : Params) : Obj := ⟨(.type "code"), none, (.fields (Array.mk [(.str (Str.ofString "in_table_c9") 591), (.str (Str.ofString "in_table_c9") 592), (.str (Str.ofString "/claim/cut.py") 593), (.int 57 0), (.int 1 0), (.int 0 0), (.int 0 0), (.int 3 0), (.ref 113), (.bool true), (.int 181 0), (.ref 114), .none, (.ref 115), (.ref 116), (.ref 117), (.int 595 0), (.int 57 0), (.str (Str.ofString "/claim/cut.py") 596)])), (Array.mk [])⟩
noncomputable def kob119 (P : Params) : Obj := kfn (p := PySem.Challenge.pw_mq0100_01) (i := 14) rfl (Str.ofString "in_table_c9") (.str (Str.ofString "cpy313.stringprep") 203) (.ref 118)
noncomputable def kob120 (P : Params) : Obj := ⟨(.type "tuple"), none, (.seq (Array.mk []) 0), (Array.mk [])⟩
noncomputable def kob123 (P : Params) : Obj := ⟨(.type "code"), none, (.fields (Array.mk [(.str (Str.ofString "_law_tables") 600), (.str (Str.ofString "_law_tables") 601), (.str (Str.ofString "/claim/cut.py") 602), (.int 60 0), (.int 0 0), (.int 0 0), (.int 0 0), (.int 3 0), (.ref 120), (.bool true), (.int 181 0), (.ref 121), .none, .none, .none, (.ref 122), (.int 603 0), (.int 60 0), (.str (Str.ofString "/claim/cut.py") 604)])), (Array.mk [])⟩
noncomputable def kob124 (P : Params) : Obj := kfn (p := PySem.Challenge.pw_mq0100_01) (i := 16) rfl (Str.ofString "_law_tables") (.str (Str.ofString "law_mq0100_01") 598) (.ref 123)
noncomputable def kob125 (P : Params) : Obj := ⟨(.type "tuple"), none, (.seq (Array.mk []) 0), (Array.mk [])⟩
noncomputable def kob128 (P : Params) : Obj := ⟨(.type "code"), none, (.fields (Array.mk [(.str (Str.ofString "_law_left") 606), (.str (Str.ofString "_law_left") 607), (.str (Str.ofString "/claim/cut.py") 608), (.int 62 0), (.int 1 0), (.int 0 0), (.int 0 0), (.int 3 0), (.ref 125), (.bool true), (.int 181 0), (.ref 126), .none, .none, .none, (.ref 127), (.int 609 0), (.int 62 0), (.str (Str.ofString "/claim/cut.py") 610)])), (Array.mk [])⟩
noncomputable def kob129 (P : Params) : Obj := kfn (p := PySem.Challenge.pw_mq0100_01) (i := 17) rfl (Str.ofString "_law_left") (.str (Str.ofString "law_mq0100_01") 598) (.ref 128)
noncomputable def kob130 (P : Params) : Obj := ⟨(.type "tuple"), none, (.seq (Array.mk []) 0), (Array.mk [])⟩
noncomputable def kob133 (P : Params) : Obj := ⟨(.type "code"), none, (.fields (Array.mk [(.str (Str.ofString "_law_said") 612), (.str (Str.ofString "_law_said") 613), (.str (Str.ofString "/claim/cut.py") 614), (.int 66 0), (.int 2 0), (.int 0 0), (.int 0 0), (.int 3 0), (.ref 130), (.bool true), (.int 181 0), (.ref 131), .none, .none, .none, (.ref 132), (.int 615 0), (.int 66 0), (.str (Str.ofString "/claim/cut.py") 616)])), (Array.mk [])⟩
noncomputable def kob134 (P : Params) : Obj := kfn (p := PySem.Challenge.pw_mq0100_01) (i := 18) rfl (Str.ofString "_law_said") (.str (Str.ofString "law_mq0100_01") 598) (.ref 133)
noncomputable def kob135 (P : Params) : Obj := ⟨(.type "tuple"), none, (.seq (Array.mk []) 0), (Array.mk [])⟩
noncomputable def kob137 (P : Params) : Obj := ⟨(.type "tuple"), none, (.seq (Array.mk [(.str (Str.ofString "left") 621), (.str (Str.ofString "spared") 622), (.str (Str.ofString "marks") 623), (.str (Str.ofString "k") 624), (.str (Str.ofString "ranges") 625), (.str (Str.ofString "first") 626), (.str (Str.ofString "last") 627), (.str (Str.ofString "place") 628)]) 0), (Array.mk [])⟩
noncomputable def kob138 (P : Params) : Obj := ⟨(.type "tuple"), none, (.seq (Array.mk []) 0), (Array.mk [])⟩
noncomputable def kob140 (P : Params) : Obj := ⟨(.type "code"), none, (.fields (Array.mk [(.str (Str.ofString "_law_marks") 618), (.str (Str.ofString "_law_marks") 619), (.str (Str.ofString "/claim/cut.py") 620), (.int 70 0), (.int 2 0), (.int 0 0), (.int 0 0), (.int 3 0), (.ref 135), (.bool true), (.int 181 0), (.ref 136), .none, (.ref 137), (.ref 138), (.ref 139), (.int 629 0), (.int 70 0), (.str (Str.ofString "/claim/cut.py") 630)])), (Array.mk [])⟩
noncomputable def kob141 (P : Params) : Obj := kfn (p := PySem.Challenge.pw_mq0100_01) (i := 19) rfl (Str.ofString "_law_marks") (.str (Str.ofString "law_mq0100_01") 598) (.ref 140)
noncomputable def kob142 (P : Params) : Obj := ⟨(.type "tuple"), none, (.seq (Array.mk []) 0), (Array.mk [])⟩
noncomputable def kob145 (P : Params) : Obj := ⟨(.type "code"), none, (.fields (Array.mk [(.str (Str.ofString "_law_odd") 632), (.str (Str.ofString "_law_odd") 633), (.str (Str.ofString "/claim/cut.py") 634), (.int 78 0), (.int 2 0), (.int 0 0), (.int 0 0), (.int 3 0), (.ref 142), (.bool true), (.int 181 0), (.ref 143), .none, .none, .none, (.ref 144), (.int 635 0), (.int 78 0), (.str (Str.ofString "/claim/cut.py") 636)])), (Array.mk [])⟩
noncomputable def kob146 (P : Params) : Obj := kfn (p := PySem.Challenge.pw_mq0100_01) (i := 20) rfl (Str.ofString "_law_odd") (.str (Str.ofString "law_mq0100_01") 598) (.ref 145)
noncomputable def kob147 (P : Params) : Obj := ⟨(.type "tuple"), none, (.seq (Array.mk []) 0), (Array.mk [])⟩
noncomputable def kob150 (P : Params) : Obj := ⟨(.type "code"), none, (.fields (Array.mk [(.str (Str.ofString "_law_moved") 638), (.str (Str.ofString "_law_moved") 639), (.str (Str.ofString "/claim/cut.py") 640), (.int 85 0), (.int 2 0), (.int 0 0), (.int 0 0), (.int 3 0), (.ref 147), (.bool true), (.int 181 0), (.ref 148), .none, .none, .none, (.ref 149), (.int 641 0), (.int 85 0), (.str (Str.ofString "/claim/cut.py") 642)])), (Array.mk [])⟩
noncomputable def kob151 (P : Params) : Obj := kfn (p := PySem.Challenge.pw_mq0100_01) (i := 21) rfl (Str.ofString "_law_moved") (.str (Str.ofString "law_mq0100_01") 598) (.ref 150)
noncomputable def kob152 (P : Params) : Obj := ⟨(.type "tuple"), none, (.seq (Array.mk []) 0), (Array.mk [])⟩
noncomputable def kob155 (P : Params) : Obj := ⟨(.type "code"), none, (.fields (Array.mk [(.str (Str.ofString "law") 644), (.str (Str.ofString "law") 645), (.str (Str.ofString "/claim/cut.py") 646), (.int 87 0), (.int 1 0), (.int 0 0), (.int 0 0), (.int 3 0), (.ref 152), (.bool true), (.int 181 0), (.ref 153), .none, .none, .none, (.ref 154), (.int 647 0), (.int 87 0), (.str (Str.ofString "/claim/cut.py") 648)])), (Array.mk [])⟩
noncomputable def kob156 (P : Params) : Obj := kfn (p := PySem.Challenge.pw_mq0100_01) (i := 22) rfl (Str.ofString "law") (.str (Str.ofString "law_mq0100_01") 598) (.ref 155)
noncomputable def KF (P : Params) : Frag := (nat_lit 2, kob2 P) :: (nat_lit 3, kob3 P) :: (nat_lit 6, kob6 P) :: (nat_lit 15, kob15 P) :: (nat_lit 17, kob17 P) :: (nat_lit 18, kob18 P) :: (nat_lit 20, kob20 P) :: (nat_lit 21, kob21 P) :: (nat_lit 29, kob29 P) :: (nat_lit 33, kob33 P) :: (nat_lit 35, kob35 P) :: (nat_lit 36, kob36 P) :: (nat_lit 38, kob38 P) :: (nat_lit 39, kob39 P) :: (nat_lit 40, kob40 P) :: (nat_lit 42, kob42 P) :: (nat_lit 43, kob43 P) :: (nat_lit 45, kob45 P) :: (nat_lit 46, kob46 P) :: (nat_lit 47, kob47 P) :: (nat_lit 49, kob49 P) :: (nat_lit 50, kob50 P) :: (nat_lit 52, kob52 P) :: (nat_lit 53, kob53 P) :: (nat_lit 55, kob55 P) :: (nat_lit 59, kob59 P) :: (nat_lit 61, kob61 P) :: (nat_lit 62, kob62 P) :: (nat_lit 64, kob64 P) :: (nat_lit 65, kob65 P) :: (nat_lit 67, kob67 P) :: (nat_lit 71, kob71 P) :: (nat_lit 73, kob73 P) :: (nat_lit 74, kob74 P) :: (nat_lit 76, kob76 P) :: (nat_lit 77, kob77 P) :: (nat_lit 91, kob91 P) :: (nat_lit 95, kob95 P) :: (nat_lit 97, kob97 P) :: (nat_lit 98, kob98 P) :: (nat_lit 100, kob100 P) :: (nat_lit 101, kob101 P) :: (nat_lit 109, kob109 P) :: (nat_lit 113, kob113 P) :: (nat_lit 115, kob115 P) :: (nat_lit 116, kob116 P) :: (nat_lit 118, kob118 P) :: (nat_lit 119, kob119 P) :: (nat_lit 120, kob120 P) :: (nat_lit 123, kob123 P) :: (nat_lit 124, kob124 P) :: (nat_lit 125, kob125 P) :: (nat_lit 128, kob128 P) :: (nat_lit 129, kob129 P) :: (nat_lit 130, kob130 P) :: (nat_lit 133, kob133 P) :: (nat_lit 134, kob134 P) :: (nat_lit 135, kob135 P) :: (nat_lit 137, kob137 P) :: (nat_lit 138, kob138 P) :: (nat_lit 140, kob140 P) :: (nat_lit 141, kob141 P) :: (nat_lit 142, kob142 P) :: (nat_lit 145, kob145 P) :: (nat_lit 146, kob146 P) :: (nat_lit 147, kob147 P) :: (nat_lit 150, kob150 P) :: (nat_lit 151, kob151 P) :: (nat_lit 152, kob152 P) :: (nat_lit 155, kob155 P) :: (nat_lit 156, kob156 P) :: []
abbrev kAs : List Addr := [2, 3, 6, 15, 17, 18, 20, 21, 29, 33, 35, 36, 38, 39, 40, 42, 43, 45, 46, 47, 49, 50, 52, 53, 55, 59, 61, 62, 64, 65, 67, 71, 73, 74, 76, 77, 91, 95, 97, 98, 100, 101, 109, 113, 115, 116, 118, 119, 120, 123, 124, 125, 128, 129, 130, 133, 134, 135, 137, 138, 140, 141, 142, 145, 146, 147, 150, 151, 152, 155, 156]
end
end Mine
end
-- part HF
section
open PySem PySem.W PyProof.Rows
set_option linter.unusedVariables false
set_option maxRecDepth 100000
set_option maxHeartbeats 0
namespace Mine
noncomputable section
theorem body_parts : behindTheImports PySem.Challenge.pw_mq0100_01 =
    [stm PySem.Challenge.pw_mq0100_01 0, stm PySem.Challenge.pw_mq0100_01 1, stm PySem.Challenge.pw_mq0100_01 2] ++ ([stm PySem.Challenge.pw_mq0100_01 3] ++ ([stm PySem.Challenge.pw_mq0100_01 4, stm PySem.Challenge.pw_mq0100_01 5, stm PySem.Challenge.pw_mq0100_01 6] ++ ([stm PySem.Challenge.pw_mq0100_01 7] ++ ([stm PySem.Challenge.pw_mq0100_01 8] ++ ([stm PySem.Challenge.pw_mq0100_01 9] ++ ([stm PySem.Challenge.pw_mq0100_01 10] ++ ([stm PySem.Challenge.pw_mq0100_01 11] ++ ([stm PySem.Challenge.pw_mq0100_01 12] ++ ([stm PySem.Challenge.pw_mq0100_01 13] ++ ([stm PySem.Challenge.pw_mq0100_01 14, stm PySem.Challenge.pw_mq0100_01 15, stm PySem.Challenge.pw_mq0100_01 16, stm PySem.Challenge.pw_mq0100_01 17] ++ ([stm PySem.Challenge.pw_mq0100_01 18, stm PySem.Challenge.pw_mq0100_01 19, stm PySem.Challenge.pw_mq0100_01 20, stm PySem.Challenge.pw_mq0100_01 21, stm PySem.Challenge.pw_mq0100_01 22] ++ []))))))))))) := by
  kernel_rfl
abbrev runM : Nat := (12 + (1 + (55 + ((97 + (272 + (59 + (544 + 27)))) + (89 + ((58 + (117 + 25)) + (30 + ((58 + (278 + 25)) + (30 + ((90 + (85 + (110 + (102 + (59 + (302 + 27)))))) + (30 + ((87 + (1632 + (59 + (1946 + 27)))) + (91 + (141 + 2))))))))))))))
theorem run_top : ∀ (w : World) (os : OsState), topRun treeTable PySem.Challenge.pw_mq0100_01 w 11 ann runM ⟨boot_heap w.params, Array.mk [], boot_drawn, boot_toks, os⟩ (topStub PySem.Challenge.pw_mq0100_01) = some ⟨H1 PySem.Challenge.pw_mq0100_01 w.params, Array.mk [], dr, 650, os⟩ := by
  intro w os
  refine go_top (pre w os) (piece_block (block w os) ?_)
  rw [body_parts]
  exact piece_app (segRun_of (seg0 w os)) (piece_app (seg3 w os) (piece_app (segRun_of (seg4 w os)) (piece_app (seg7 w os) (piece_app (segRun_of (seg8 w os)) (piece_app (seg9 w os) (piece_app (segRun_of (seg10 w os)) (piece_app (seg11 w os) (piece_app (segRun_of (seg12 w os)) (piece_app (seg13 w os) (piece_app (segRun_of (seg14 w os)) (piece_app (segRun_of (seg18 w os)) (piece_nil (fin w os)))))))))))))
theorem runM_le : Nat.ble runM 13206 = true := by decide +kernel
end
end Mine
end
-- part HG
section
open PySem PySem.W PyProof.Rows
set_option linter.unusedVariables false
set_option maxRecDepth 100000
set_option maxHeartbeats 0
namespace Mine
noncomputable section
abbrev vKeep : List Nat := [1, 3, 4, 5, 6, 7, 8, 9, 10, 11, 12, 13, 14, 16, 17, 18, 19, 20, 21, 22]
noncomputable def qv : Program := view PySem.Challenge.pw_mq0100_01 vKeep
abbrev looseN : List Str := [Str.ofString "b1_set", Str.ofString "c6_set", Str.ofString "c7_set", Str.ofString "c8_set", Str.ofString "c9_set"]
abbrev XtF : Shared → Bool := fun s => xlAt qv [] s && recOk [] s
abbrev S1 (w : World) (os : OsState) : Shared := ⟨H1 PySem.Challenge.pw_mq0100_01 w.params, Array.mk [], dr, 650, os⟩
theorem opens : ∀ w : World, (fencedOpening treeTable PySem.Challenge.pw_mq0100_01 w 13206).map (fun s => (s.heap, s.gens, s.drawn, s.toks)) = some (boot_heap w.params, Array.mk [], boot_drawn, boot_toks) :=
  boot_open (by kernel_rfl) (by decide +kernel) (fun s => by kernel_rfl)
theorem sized : ∀ w : World, ((boot_heap w.params).isNs mainGlobals && (Array.mk [] : Array GenState).size == 0, (boot_heap w.params).objs.size, (boot_heap w.params).nsMap mainGlobals "__annotations__") = (true, 11, ann) := by
  intro w; kernel_rfl
theorem look1 : ∀ (w : World) (os : OsState), (staticsOk (importedModules PySem.Challenge.pw_mq0100_01.main.body) (boot_heap w.params) (H1 PySem.Challenge.pw_mq0100_01 w.params) && namesBound PySem.Challenge.pw_mq0100_01 (H1 PySem.Challenge.pw_mq0100_01 w.params) && gensDone (S1 w os) && laidKept (boot_heap w.params) (H1 PySem.Challenge.pw_mq0100_01 w.params)) = true := by
  intro w os; rewrite [PySem.W.Fast.te7261500446525621778]; kernel_rfl
theorem look3 : ∀ (w : World) (os : OsState), kAs.map (S1 w os).heap.get? = (KF w.params).map fun p => some p.2 := by
  intro w os; kernel_rfl
end
end Mine
end
-- part HG2
section
open PySem PySem.W PyProof.Rows
set_option linter.unusedVariables false
set_option maxRecDepth 100000
set_option maxHeartbeats 0
namespace Mine
noncomputable section
theorem look2 : ∀ (w : World) (os : OsState), openSeen qv looseN (importedModules PySem.Challenge.pw_mq0100_01.main.body) XtF true (S1 w os) = openGood qv looseN := by
  intro w os
  unfold XtF qv
  rewrite [PySem.W.Fast.te4187177175401517315, PySem.W.Fast.te7261500446525621778]
  kernel_rfl
theorem leftP : LeftO PySem.Challenge.pw_mq0100_01 qv looseN XtF (Hook.obs (kHook KF kAs (fun _ => by kernel_rfl))) (Hook.val (kHook KF kAs (fun _ => by kernel_rfl))) 13206 :=
  LeftO.of_pieces opens sized run_top runM_le (fun w => funext fun os => looks_pair (look1 w os) (looks_pair (look2 w os) (look3 w os)))
end
end Mine
end
-- part WA
section
open PySem PySem.W PyProof.Rows
set_option linter.unusedVariables false
set_option maxRecDepth 100000
set_option maxHeartbeats 4000000
namespace Mine
section
variable {w : World} {mean : ExcName → Option Value} {mg mb : Str → Option Value} {dp un : Nat} {gd : Option (List Code)} {cn : Str} {cs : Scope} {a : Addr} {ccd : Value} {cl : List (Str × Addr)} {outer : List Env} {A₀ : Around} {base h₀ : Heap} {L : Addr} {m : Str → Option Value} {news : List (Addr × Obj)} {s : Shared} {Q E : Value → Shared → Prop}
theorem moved_spec {l : Addr} {n : Nat} {vs : List Value} {ns : List Int} {far : Int} {t : Tok} (B : Below A₀ base outer h₀) (F : Fr h₀ L s.heap m) (X : (KF w.params).In h₀) (N : News h₀ L s.heap news)
    (T : Top qv (looseW qv looseN) mean mg mb h₀) (hk : cs.kind = .function) (hl : (l, listOf vs.toArray n) ∈ news) (hi : IntsAre vs ns) (hn : ns.length ≤ 64) (hd : dp + 4 < recursionLimit) (hu : un + 40 < cLine)
    (ret : ∀ a vs' n' h' tk', Fr h₀ L h' m → News h₀ L h' ((a, listOf vs'.toArray n') :: news) → LCg.Off1 a news → IntsAre vs' (ns.map (· + far)) → Q (.ref a) { s with heap := h', toks := tk' }) :
    wpAny (model PySem.Challenge.rw_mq0100_01.row.prog w) (ktrTop dp un gd cn cs L a ccd cl outer) (call (.ref 151) [.ref l, .int far t]) Q E s := by
  revert X
  k_fill
  intro X
  refine wpAny_call (code_defC (binds := [(Str.ofString "row", .ref l), (Str.ofString "far", .int far t)]) B F X N T rfl rfl hk (by k_is) (by k_is) (by ktr_room) (BindsTo.of_eq rfl) rfl (by decide +kernel) ?_ rfl rfl rfl)
  intro g L' h₁ tk cells FG F1 N1 Y B1 X1 T1 lt
  obtain ⟨oc, rfl, hoc⟩ := CellsAre.one Y
  replace F1 : Fr g L' h₁ (fun y => if y = Str.ofString "row" then some (.ref l) else none) := F1
  replace hoc : oc.data = .cell (some (.int far t)) := hoc
  clear Y
  replace N1 : News g L' h₁ ((L' + 1, oc) :: news) := N1
  k_steps
  refine LCg.CompSrc.ledger (by rfl) (by k_asm) (by k_asm) (List.mem_cons_of_mem _ hl) (by first | kcf_size | fail "size") ?_
  intro g2
  refine kcf_list (fun k => k + far) hi (fun k t' I oI C oC D m₂ ys h tk' E' hk' hC hx F2 N2 off ne mk => ?_) ?_
  · k_steps
    exact LCg.CompEnd.intro F2 N2 ((L' + 1, oc) :: news) (fun p hp => hp) off (Or.inr ⟨_, List.mem_cons_of_mem _ hl, rfl, _, rfl⟩) ⟨rfl, _, rfl⟩
  · unfold KPfDone
    intro ys hys
    k_steps
    rename_i o1 kF kN _ _
    exact ret _ ys ys.length _ _ kF (cb_drop kN fun p hp => by
      rcases List.mem_cons.mp hp with rfl | hp
      · exact List.mem_cons_self
      · exact .tail _ (.tail _ hp)) o1.2 hys
end
end Mine
end
-- part WC
section
open PySem PySem.W PyProof.Rows
set_option linter.unusedVariables false
set_option maxRecDepth 100000
set_option maxHeartbeats 4000000
namespace Mine
noncomputable def setOk (l : List (Nat × Nat)) (mask : Nat) (pl : List Nat) : Bool := l.all (fun q => hashInt (Int.ofNat q.1) == Int.ofNat q.1) && Nat.blt l.length 4096 && pl.length == l.length && Nat.ble pl.length mask
theorem setO_of {prog : Program} {w : World} {h : Heap} {a : Addr} {l : List (Nat × Nat)} {n mask : Nat} {pl : List Nat} {mv : Nat} {b : Bool} (hg : h.get? a = some (setO l n mask pl mv b)) (ok : setOk l mask pl = true) :
    h.SetOf (intKind prog w) a (fun k => l.any fun q => decide (k = Int.ofNat q.1)) l.length := by
  simp only [setOk, Bool.and_eq_true, List.all_eq_true, beq_iff_eq, Nat.blt_eq, Nat.ble_eq] at ok
  obtain ⟨⟨⟨h1, h2⟩, h3⟩, h4⟩ := ok
  refine ⟨_, _, _, _, hg, ⟨rfl, rfl, rfl⟩, rfl, ?_, ?_, ?_, ?_, ?_⟩
  · intro e he
    simp only [ents, List.mem_map] at he
    obtain ⟨q, hq, rfl⟩ := he
    exact ⟨⟨Int.ofNat q.1, by simp [intKind, Value.isInt], (h1 q hq).symm⟩, rfl⟩
  · intro k
    simp only [List.any_eq_true, decide_eq_true_eq, ents, List.mem_map]
    constructor
    · rintro ⟨q, hq, rfl⟩
      exact ⟨_, ⟨q, hq, rfl⟩, by simp [intKind, Value.isInt]⟩
    · rintro ⟨e, ⟨q, hq, rfl⟩, hk⟩
      refine ⟨q, hq, ?_⟩
      simp [intKind, Value.isInt] at hk
      exact hk.symm
  · show (ents l).length < scanBound
    simp only [ents, List.length_map]
    exact h2
  · simp only [SetTable.fits, SetTable.fill, Bool.and_eq_true, beq_iff_eq, decide_eq_true_eq]
    simp [ents, h3]
    omega
  · simp [ents]
noncomputable def inT (rs : List (Nat × Nat)) (x : Nat) : Bool := rs.any fun r => decide (r.1 ≤ x) && decide (x ≤ r.2)

theorem any_ranges (l : List (Nat × Nat)) (rs : List (Nat × Nat)) (h1 : l.all (fun q => inT rs q.1) = true) (h2 : rs.all (fun r => (List.range' r.1 (r.2 + 1 - r.1)).all fun y => l.any fun q => q.1 == y) = true) (x : Nat) :
    (l.any fun q => decide ((x : Int) = Int.ofNat q.1)) = inT rs x := by
  rw [Bool.eq_iff_iff]
  constructor
  · intro h
    obtain ⟨q, hq, e⟩ := List.any_eq_true.mp h
    have e' : x = q.1 := by have := of_decide_eq_true e; exact Int.ofNat.inj this
    rw [e']
    exact List.all_eq_true.mp h1 q hq
  · intro h
    obtain ⟨r, hr, e⟩ := List.any_eq_true.mp h
    simp only [Bool.and_eq_true, decide_eq_true_eq] at e
    have := List.all_eq_true.mp (List.all_eq_true.mp h2 r hr) x (by rw [List.mem_range'_1]; omega)
    obtain ⟨q, hq, e'⟩ := List.any_eq_true.mp this
    refine List.any_eq_true.mpr ⟨q, hq, ?_⟩
    have e'' : q.1 = x := by simpa using e'
    rw [e'']
    simp
noncomputable def tab0 : List (Nat × Nat) := [(173, 173), (847, 847), (6150, 6150), (6155, 6157), (8203, 8205), (8288, 8288), (65024, 65039), (65279, 65279)]
noncomputable def tab1 : List (Nat × Nat) := [(32, 32)]
noncomputable def tab2 : List (Nat × Nat) := (64976, 65007) :: (List.range 17).map fun k => (65536 * k + 65534, 65536 * k + 65535)
noncomputable def tab3 : List (Nat × Nat) := [(65529, 65533)]
noncomputable def tab4 : List (Nat × Nat) := [(12272, 12283)]
noncomputable def tab5 : List (Nat × Nat) := [(832, 833), (8206, 8207), (8234, 8238), (8298, 8303)]
noncomputable def tab6 : List (Nat × Nat) := [(917505, 917505), (917536, 917631)]
section
variable {w : World} {mean : ExcName → Option Value} {mg mb : Str → Option Value} {dp un : Nat} {gd : Option (List Code)} {cn : Str} {cs : Scope} {a : Addr} {ccd : Value} {cl : List (Str × Addr)} {outer : List Env} {A₀ : Around} {base h₀ : Heap} {L : Addr} {m : Str → Option Value} {news : List (Addr × Obj)} {s : Shared} {Q E : Value → Shared → Prop}
theorem b1_spec {x : Nat} {t : Tok} (B : Below A₀ base outer h₀) (F : Fr h₀ L s.heap m) (X : (KF w.params).In h₀) (N : News h₀ L s.heap news)
    (T : Top qv (looseW qv looseN) mean mg mb h₀) (hk : cs.kind = .function) (hd : dp + 4 < recursionLimit) (hu : un + 40 < cLine)
    (ret : ∀ h' tk', Fr h₀ L h' m → News h₀ L h' news → Q (.bool (inT tab0 x)) { s with heap := h', toks := tk' }) :
    wpAny (model PySem.Challenge.rw_mq0100_01.row.prog w) (ktrTop dp un gd cn cs L a ccd cl outer) (call (.ref 39) [.str ⟨#[x]⟩ t]) Q E s := by
  revert X
  k_fill
  intro X
  refine wpAny_call (code_def (binds := [(Str.ofString "code", .str ⟨#[x]⟩ t)]) B F X N T rfl rfl hk (by k_is) (by k_is) (by ktr_room) (BindsTo.of_eq rfl) (locs rfl) ?_ rfl rfl rfl (by decide))
  intro g L' h₁ FG F1 N1 B1 X1 T1
  k_steps
  refine wpAny_inSet_of (knd := intKind _ _) (k := (x : Int)) (intKind_is _ _ _ _) rfl (setO_of (X1.keeps F1.keep _ _ (by k_is)) (by decide +kernel)) ?_
  rw [any_ranges _ tab0 (by decide +kernel) (by decide +kernel)]
  k_steps
  rename_i kF kN _ _
  exact ret _ _ kF kN
theorem c6_spec {x : Nat} {t : Tok} (B : Below A₀ base outer h₀) (F : Fr h₀ L s.heap m) (X : (KF w.params).In h₀) (N : News h₀ L s.heap news)
    (T : Top qv (looseW qv looseN) mean mg mb h₀) (hk : cs.kind = .function) (hd : dp + 4 < recursionLimit) (hu : un + 40 < cLine)
    (ret : ∀ h' tk', Fr h₀ L h' m → News h₀ L h' news → Q (.bool (inT tab3 x)) { s with heap := h', toks := tk' }) :
    wpAny (model PySem.Challenge.rw_mq0100_01.row.prog w) (ktrTop dp un gd cn cs L a ccd cl outer) (call (.ref 65) [.str ⟨#[x]⟩ t]) Q E s := by
  revert X
  k_fill
  intro X
  refine wpAny_call (code_def (binds := [(Str.ofString "code", .str ⟨#[x]⟩ t)]) B F X N T rfl rfl hk (by k_is) (by k_is) (by ktr_room) (BindsTo.of_eq rfl) (locs rfl) ?_ rfl rfl rfl (by decide))
  intro g L' h₁ FG F1 N1 B1 X1 T1
  k_steps
  refine wpAny_inSet_of (knd := intKind _ _) (k := (x : Int)) (intKind_is _ _ _ _) rfl (setO_of (X1.keeps F1.keep _ _ (by k_is)) (by decide +kernel)) ?_
  rw [any_ranges _ tab3 (by decide +kernel) (by decide +kernel)]
  k_steps
  rename_i kF kN _ _
  exact ret _ _ kF kN
theorem c7_spec {x : Nat} {t : Tok} (B : Below A₀ base outer h₀) (F : Fr h₀ L s.heap m) (X : (KF w.params).In h₀) (N : News h₀ L s.heap news)
    (T : Top qv (looseW qv looseN) mean mg mb h₀) (hk : cs.kind = .function) (hd : dp + 4 < recursionLimit) (hu : un + 40 < cLine)
    (ret : ∀ h' tk', Fr h₀ L h' m → News h₀ L h' news → Q (.bool (inT tab4 x)) { s with heap := h', toks := tk' }) :
    wpAny (model PySem.Challenge.rw_mq0100_01.row.prog w) (ktrTop dp un gd cn cs L a ccd cl outer) (call (.ref 77) [.str ⟨#[x]⟩ t]) Q E s := by
  revert X
  k_fill
  intro X
  refine wpAny_call (code_def (binds := [(Str.ofString "code", .str ⟨#[x]⟩ t)]) B F X N T rfl rfl hk (by k_is) (by k_is) (by ktr_room) (BindsTo.of_eq rfl) (locs rfl) ?_ rfl rfl rfl (by decide))
  intro g L' h₁ FG F1 N1 B1 X1 T1
  k_steps
  refine wpAny_inSet_of (knd := intKind _ _) (k := (x : Int)) (intKind_is _ _ _ _) rfl (setO_of (X1.keeps F1.keep _ _ (by k_is)) (by decide +kernel)) ?_
  rw [any_ranges _ tab4 (by decide +kernel) (by decide +kernel)]
  k_steps
  rename_i kF kN _ _
  exact ret _ _ kF kN
theorem c8_spec {x : Nat} {t : Tok} (B : Below A₀ base outer h₀) (F : Fr h₀ L s.heap m) (X : (KF w.params).In h₀) (N : News h₀ L s.heap news)
    (T : Top qv (looseW qv looseN) mean mg mb h₀) (hk : cs.kind = .function) (hd : dp + 4 < recursionLimit) (hu : un + 40 < cLine)
    (ret : ∀ h' tk', Fr h₀ L h' m → News h₀ L h' news → Q (.bool (inT tab5 x)) { s with heap := h', toks := tk' }) :
    wpAny (model PySem.Challenge.rw_mq0100_01.row.prog w) (ktrTop dp un gd cn cs L a ccd cl outer) (call (.ref 101) [.str ⟨#[x]⟩ t]) Q E s := by
  revert X
  k_fill
  intro X
  refine wpAny_call (code_def (binds := [(Str.ofString "code", .str ⟨#[x]⟩ t)]) B F X N T rfl rfl hk (by k_is) (by k_is) (by ktr_room) (BindsTo.of_eq rfl) (locs rfl) ?_ rfl rfl rfl (by decide))
  intro g L' h₁ FG F1 N1 B1 X1 T1
  k_steps
  refine wpAny_inSet_of (knd := intKind _ _) (k := (x : Int)) (intKind_is _ _ _ _) rfl (setO_of (X1.keeps F1.keep _ _ (by k_is)) (by decide +kernel)) ?_
  rw [any_ranges _ tab5 (by decide +kernel) (by decide +kernel)]
  k_steps
  rename_i kF kN _ _
  exact ret _ _ kF kN
theorem c9_spec {x : Nat} {t : Tok} (B : Below A₀ base outer h₀) (F : Fr h₀ L s.heap m) (X : (KF w.params).In h₀) (N : News h₀ L s.heap news)
    (T : Top qv (looseW qv looseN) mean mg mb h₀) (hk : cs.kind = .function) (hd : dp + 4 < recursionLimit) (hu : un + 40 < cLine)
    (ret : ∀ h' tk', Fr h₀ L h' m → News h₀ L h' news → Q (.bool (inT tab6 x)) { s with heap := h', toks := tk' }) :
    wpAny (model PySem.Challenge.rw_mq0100_01.row.prog w) (ktrTop dp un gd cn cs L a ccd cl outer) (call (.ref 119) [.str ⟨#[x]⟩ t]) Q E s := by
  revert X
  k_fill
  intro X
  refine wpAny_call (code_def (binds := [(Str.ofString "code", .str ⟨#[x]⟩ t)]) B F X N T rfl rfl hk (by k_is) (by k_is) (by ktr_room) (BindsTo.of_eq rfl) (locs rfl) ?_ rfl rfl rfl (by decide))
  intro g L' h₁ FG F1 N1 B1 X1 T1
  k_steps
  refine wpAny_inSet_of (knd := intKind _ _) (k := (x : Int)) (intKind_is _ _ _ _) rfl (setO_of (X1.keeps F1.keep _ _ (by k_is)) (by decide +kernel)) ?_
  rw [any_ranges _ tab6 (by decide +kernel) (by decide +kernel)]
  k_steps
  rename_i kF kN _ _
  exact ret _ _ kF kN
end
end Mine
end
-- part WD
section
open PySem PySem.W PyProof.Rows
set_option linter.unusedVariables false
set_option maxRecDepth 100000
set_option maxHeartbeats 4000000
namespace Mine
theorem sp_eq (x : Nat) : ((⟨#[x]⟩ : Str) == Str.ofString " ") = inT tab1 x := by
  rw [show Str.ofString " " = ⟨#[32]⟩ from by decide +kernel]
  rw [Bool.eq_iff_iff]
  simp only [beq_iff_eq, inT, tab1, List.any_cons, List.any_nil, Bool.or_false, Bool.and_eq_true, decide_eq_true_eq, Str.mk.injEq]
  constructor
  · intro h
    have : x = 32 := by simpa using h
    omega
  · intro h
    have : x = 32 := by omega
    rw [this]
theorem tab2_low {x : Nat} (h : (x : Int) < 64976) : false = inT tab2 x := by
  symm
  simp only [inT, tab2, List.any_cons, List.any_map, Bool.or_eq_false_iff, Bool.and_eq_false_imp, decide_eq_true_eq, decide_eq_false_iff_not]
  refine ⟨by omega, ?_⟩
  rw [List.any_eq_false]
  intro k hk
  simp only [Function.comp, Bool.and_eq_true, decide_eq_true_eq, not_and]
  omega
theorem tab2_mid {x : Nat} (h0 : ¬ (x : Int) < 64976) (h : (x : Int) < 65008) : true = inT tab2 x := by
  symm
  simp only [inT, tab2, List.any_cons, Bool.or_eq_true, Bool.and_eq_true, decide_eq_true_eq]
  left; omega
theorem tab2_high {x : Nat} (hx : x < 1114112) (h : ¬ (x : Int) < 65008) : ([65534, 65535].any fun y => y == Builtin.bitAnd (x : Int) 65535) = inT tab2 x := by
  have hb : Builtin.bitAnd (x : Int) 65535 = ((x % 65536 : Nat) : Int) := by
    unfold Builtin.bitAnd
    rw [show decide (0 ≤ (x : Int)) = true by simp, show decide ((0 : Int) ≤ 65535) = true by decide]
    show ((((x : Int).toNat &&& (65535 : Int).toNat : Nat)) : Int) = _
    rw [show (x : Int).toNat = x by simp, show (65535 : Int).toNat = 2 ^ 16 - 1 by decide, Nat.and_two_pow_sub_one_eq_mod]
  rw [hb, Bool.eq_iff_iff]
  simp only [inT, tab2, List.any_cons, List.any_nil, List.any_map, Bool.or_false, Bool.or_eq_true, beq_iff_eq, Bool.and_eq_true, decide_eq_true_eq, List.any_eq_true, Function.comp, List.mem_range]
  constructor
  · intro h1
    right
    exact ⟨x / 65536, by omega, by omega, by omega⟩
  · rintro (h1 | ⟨k, hk, h1, h2⟩)
    · omega
    · omega
section
variable {w : World} {mean : ExcName → Option Value} {mg mb : Str → Option Value} {dp un : Nat} {gd : Option (List Code)} {cn : Str} {cs : Scope} {a : Addr} {ccd : Value} {cl : List (Str × Addr)} {outer : List Env} {A₀ : Around} {base h₀ : Heap} {L : Addr} {m : Str → Option Value} {news : List (Addr × Obj)} {s : Shared} {Q E : Value → Shared → Prop}
theorem c11_spec {x : Nat} {t : Tok} (B : Below A₀ base outer h₀) (F : Fr h₀ L s.heap m) (X : (KF w.params).In h₀) (N : News h₀ L s.heap news)
    (T : Top qv (looseW qv looseN) mean mg mb h₀) (hk : cs.kind = .function) (hd : dp + 4 < recursionLimit) (hu : un + 40 < cLine)
    (ret : ∀ h' tk', Fr h₀ L h' m → News h₀ L h' news → Q (.bool (inT tab1 x)) { s with heap := h', toks := tk' }) :
    wpAny (model PySem.Challenge.rw_mq0100_01.row.prog w) (ktrTop dp un gd cn cs L a ccd cl outer) (call (.ref 46) [.str ⟨#[x]⟩ t]) Q E s := by
  revert X
  k_fill
  intro X
  refine wpAny_call (code_def (binds := [(Str.ofString "code", .str ⟨#[x]⟩ t)]) B F X N T rfl rfl hk (by k_is) (by k_is) (by ktr_room) (BindsTo.of_eq rfl) (locs rfl) ?_ rfl rfl rfl (by decide))
  intro g L' h₁ FG F1 N1 B1 X1 T1
  k_steps
  rename_i kF kN _ _
  rw [sp_eq]
  exact ret _ _ kF kN
theorem c4_spec {x : Nat} {t : Tok} (hx : x < 1114112) (B : Below A₀ base outer h₀) (F : Fr h₀ L s.heap m) (X : (KF w.params).In h₀) (N : News h₀ L s.heap news)
    (T : Top qv (looseW qv looseN) mean mg mb h₀) (hk : cs.kind = .function) (hd : dp + 4 < recursionLimit) (hu : un + 40 < cLine)
    (ret : ∀ h' tk', Fr h₀ L h' m → News h₀ L h' news → Q (.bool (inT tab2 x)) { s with heap := h', toks := tk' }) :
    wpAny (model PySem.Challenge.rw_mq0100_01.row.prog w) (ktrTop dp un gd cn cs L a ccd cl outer) (call (.ref 53) [.str ⟨#[x]⟩ t]) Q E s := by
  revert X
  k_fill
  intro X
  refine wpAny_call (code_def (binds := [(Str.ofString "code", .str ⟨#[x]⟩ t)]) B F X N T rfl rfl hk (by k_is) (by k_is) (by ktr_room) (BindsTo.of_eq rfl) (locs rfl) ?_ rfl rfl rfl (by decide))
  intro g L' h₁ FG F1 N1 B1 X1 T1
  k_steps
  · rename_i kF kN _ _
    rw [tab2_low (x := x) (by assumption)]
    exact ret _ _ kF kN
  · rename_i kF kN _ _
    rw [tab2_mid (x := x) (by assumption) (by assumption)]
    exact ret _ _ kF kN
  · rename_i kF kN _ _
    rw [tab2_high hx (by assumption)]
    exact ret _ _ kF (cb_drop kN fun p hp => .tail _ hp)
end
end Mine
end
-- part WE
section
open PySem PySem.W PyProof.Rows
set_option linter.unusedVariables false
set_option maxRecDepth 100000
set_option maxHeartbeats 4000000
namespace Mine
theorem news_ne {news : List (Addr × Obj)} {L' d : Addr} (lt : ∀ p ∈ news, p.1 < L') (h : (L' : Nat) ≤ d) : ∀ p ∈ news, p.1 ≠ d := fun p hp e => by
  have h1 : (p.1 : Nat) < L' := lt p hp
  rw [e] at h1
  exact absurd h1 (Nat.not_lt.mpr h)
local macro_rules | `(tactic| k_all) => `(tactic| exact news_ne (by assumption) (by (try dsimp only); omega))
noncomputable def saidL (x : Nat) : List Bool := [inT tab0 x, inT tab1 x, inT tab2 x, inT tab3 x, inT tab4 x, inT tab5 x, inT tab6 x]
noncomputable def saidG (x : Nat) (sp : Int) (l : List Int) (k : Int) : List Int := if k ≠ sp ∧ (saidL x).getD k.toNat false = true then l ++ [k] else l
noncomputable def saidB (x : Nat) (sp : Int) : Bool := !decide ((rangeKs 0 7).foldl (saidG x sp) [] = [])
theorem item_list {prog : Program} {w : World} {A : Around} {E : Value → Shared → Prop} {s : Shared} {value slice : PySem.Expr} {l : Addr} {vs : Array Value} {k : Int} {u : Tok} {v : Value} {Q : Value → Shared → Prop}
    (hl : s.heap.IsList l vs) (h0 : 0 ≤ k) (hhi : k < 2 ^ 63) (hx : vs[k.toNat]? = some v) (h : Q v s)
    (hs : subscripted slice false (.ref l) (.int k u) = operate [.ref l, .int k u] (getItem (.ref l) (.int k u)) := by with_unfolding_all rfl) :
    wpAny (model prog w) A (subscriptTail value slice (.ref l) (.int k u)) Q E s :=
  tail_any hl.typeIs slot_list_getitem.lookup (wpAny_getItem_list hl h0 hhi hx h) hs
theorem bools_at (x : Nat) (k : Int) (h0 : 0 ≤ k) (h1 : k < 7) : (#[Value.bool (inT tab0 x), Value.bool (inT tab1 x), Value.bool (inT tab2 x), Value.bool (inT tab3 x), Value.bool (inT tab4 x), Value.bool (inT tab5 x), Value.bool (inT tab6 x)] : Array Value)[k.toNat]? = some (.bool ((saidL x).getD k.toNat false)) := by
  have : k = 0 ∨ k = 1 ∨ k = 2 ∨ k = 3 ∨ k = 4 ∨ k = 5 ∨ k = 6 := by omega
  rcases this with rfl | rfl | rfl | rfl | rfl | rfl | rfl <;> rfl
local macro_rules | `(tactic| ktn_open) => `(tactic| repeat' ((fail_if_success (with_reducible show wpAny _ _ (eval (PySem.Expr.ListComp _ _ _ _) _) _ _ _)); (fail_if_success (with_reducible show LCt.CompSrcT _ _ _ _ _ _ _ _ _ _ _ _ _ _ _)); (fail_if_success (with_reducible show LCg.CompSrc _ _ _ _ _ _ _ _ _ _ _ _ _ _)); (first | (k_unfold; (try dsimp only)) | (k_end; wrow_close) | walk1 | (dsimp only; walk1) | (leave1; walk_say "STEP leave1"; try dsimp only))))
section
variable {w : World} {mean : ExcName → Option Value} {mg mb : Str → Option Value} {dp un : Nat} {gd : Option (List Code)} {cn : Str} {cs : Scope} {a : Addr} {ccd : Value} {cl : List (Str × Addr)} {outer : List Env} {A₀ : Around} {base h₀ : Heap} {L : Addr} {m : Str → Option Value} {news : List (Addr × Obj)} {s : Shared} {Q E : Value → Shared → Prop}
theorem said_spec {x : Nat} {sp : Int} {t t' : Tok} (hx : x < 1114112) (hs0 : 0 ≤ sp) (hs1 : sp < 8) (B : Below A₀ base outer h₀) (F : Fr h₀ L s.heap m) (X : (KF w.params).In h₀) (N : News h₀ L s.heap news)
    (T : Top qv (looseW qv looseN) mean mg mb h₀) (hk : cs.kind = .function) (hd : dp + 8 < recursionLimit) (hu : un + 80 < cLine)
    (ret : ∀ h' tk', Fr h₀ L h' m → News h₀ L h' news → Q (.bool (saidB x sp)) { s with heap := h', toks := tk' }) :
    wpAny (model PySem.Challenge.rw_mq0100_01.row.prog w) (ktrTop dp un gd cn cs L a ccd cl outer) (call (.ref 134) [.int x t, .int sp t']) Q E s := by
  revert X
  k_fill
  intro X
  k_with_none
  k_with "call ref" => (first
    | (refine b1_spec (by k_asm) (by k_asm) (by k_asm) (by k_asm) (by k_asm) (by exact rfl) (by ktr_room) (by ktr_units) ?_; intro h9 tk9 F9 N9)
    | (refine c11_spec (by k_asm) (by k_asm) (by k_asm) (by k_asm) (by k_asm) (by exact rfl) (by ktr_room) (by ktr_units) ?_; intro h9 tk9 F9 N9)
    | (refine c4_spec hx (by k_asm) (by k_asm) (by k_asm) (by k_asm) (by k_asm) (by exact rfl) (by ktr_room) (by ktr_units) ?_; intro h9 tk9 F9 N9)
    | (refine c6_spec (by k_asm) (by k_asm) (by k_asm) (by k_asm) (by k_asm) (by exact rfl) (by ktr_room) (by ktr_units) ?_; intro h9 tk9 F9 N9)
    | (refine c7_spec (by k_asm) (by k_asm) (by k_asm) (by k_asm) (by k_asm) (by exact rfl) (by ktr_room) (by ktr_units) ?_; intro h9 tk9 F9 N9)
    | (refine c8_spec (by k_asm) (by k_asm) (by k_asm) (by k_asm) (by k_asm) (by exact rfl) (by ktr_room) (by ktr_units) ?_; intro h9 tk9 F9 N9)
    | (refine c9_spec (by k_asm) (by k_asm) (by k_asm) (by k_asm) (by k_asm) (by exact rfl) (by ktr_room) (by ktr_units) ?_; intro h9 tk9 F9 N9))
  refine wpAny_call (code_defC (binds := [(Str.ofString "code", .int x t), (Str.ofString "spared", .int sp t')]) B F X N T rfl rfl hk (by k_is) (by k_is) (by ktr_room) (BindsTo.of_eq rfl) rfl (by decide +kernel) ?_ rfl rfl rfl)
  intro g L' h₁ tk cells FG F1 N1 Y B1 X1 T1 lt
  obtain ⟨o1, o2, rfl, hc1, hc2⟩ := CellsAre.two Y
  replace F1 : Fr g L' h₁ (fun y => if y = Str.ofString "code" then some (.int x t) else none) := F1
  replace hc1 : o1.data = .cell none := hc1
  replace hc2 : o2.data = .cell (some (.int sp t')) := hc2
  replace N1 : News g L' h₁ ((L' + 1 + 1, o1) :: (L' + 1, o2) :: news) := N1
  clear Y
  k_steps
  rename_i lS hS FS NS ltS
  refine storeX_C FS NS rfl (UpdF.tail (by k_ne) (UpdF.head (List.forall_mem_cons.mpr ⟨by k_ne, news_ne lt (Nat.le_add_right _ 2)⟩))) hc1 ?_ rfl rfl
  intro h3 o3 F3 N3 hc3
  ktn_open
  refine LCt.ListComp_T (F₀ := by k_asm) (by with_unfolding_all rfl) (by decide) (by rfl) (by decide) (by rfl) ?_
  ktn_open
  refine LCt.CompSrcT.range (by rfl) (by k_asm) (by k_asm) (by assumption) (by decide) (rangeSize_nat _ _) (by first | exact Nat.le_of_ble_eq_true rfl | size_fits) ?_
  intro g4
  refine kci_range (saidG x sp) (fun k t I oI C oC D m₂ ys l h tk E' hlo hhi hy hC hx F N off ne mk => ?_) ?_ ?_
  · k_steps
    · refine item_list (News.isList N (by k_mem)) (by omega) (by omega) (bools_at x k (by omega) (by omega)) ?_
      k_steps
      · refine LCg.CompEnd.intro F N _ (fun p hp => hp) off trivial ⟨rfl, _, _, rfl, ?_⟩
        simp_all [saidG]
      · refine LCg.CompEnd.intro F N _ (fun p hp => hp) off trivial ⟨rfl, ?_⟩
        simp_all [saidG]
    · refine LCg.CompEnd.intro F N _ (fun p hp => hp) off trivial ⟨rfl, ?_⟩
      simp_all [saidG]
  · unfold KPfDone
    intro ys hys hlen
    k_steps
    rename_i kF kN _ _
    exact ret _ _ kF (cb_drop kN fun p hp => .tail _ (.tail _ (.tail _ (.tail _ (.tail _ hp)))))
  · intro l k
    unfold saidG
    split
    · simp
    · omega
end
end Mine
end
-- part WF
section
open PySem PySem.W PyProof.Rows
set_option linter.unusedVariables false
set_option maxRecDepth 100000
set_option maxHeartbeats 4000000
namespace Mine
section
variable {prog : Program} {w : World} {A : Around} {E : Value → Shared → Prop} {s : Shared} {h₀ : Heap} {L D b : Addr} {m : Str → Option Value} {news news' : List (Addr × Obj)} {its its2 : Array Value} {n n2 : Nat} {l : List Value}
theorem look_iadd : typeLookup (.type "list") (dunderI "add") = pure (some (.builtin "list.__iadd__")) := by rw [typeLookup_type, builtinLookup_eq_fast]; kernel_rfl
theorem look_add : typeLookup (.type "list") (dunder "add") = pure (some (.builtin "list.__add__")) := by rw [typeLookup_type, builtinLookup_eq_fast]; kernel_rfl
theorem look_radd : typeLookup (.type "list") (dunderR "add") = pure none := by rw [typeLookup_type, builtinLookup_eq_fast]; kernel_rfl
theorem fills_list : fillsNumberSlot (.type "list") "add" = pure false := PySem.fillsNumberSlot_seq look_add (by decide +kernel) look_radd rfl
theorem seq_iadd : seqSlot? (.type "list") (dunderI "add") = pure (some (.builtin "list.__iadd__")) := PySem.seqSlot_of look_iadd (by decide +kernel)
theorem iadd_list {Q : Value → Shared → Prop} (F : Fr h₀ L s.heap m) (N : News h₀ L s.heap news) (hb : (b, listOf its2 n2) ∈ news) (e : its.toList ++ its2.toList = l) (hne : its2.toList.length ≠ 0)
    (U : Upd D (listOf its n) (listOf l.toArray (n + 1)) news news') (hd : ¬(!its.isEmpty && Builtin.List.listTooLong (its.size + its2.size)) = true) (hz : its.toList.length ≤ sizeLine) (hz2 : its.size + its2.size ≤ sizeLine + 1)
    (h : ∀ h', Fr h₀ L h' m → News h₀ L h' news' → Q (.ref D) { s with heap := h' }) : wpAny (model prog w) A (inplaceOp .Add (.ref D) (.ref b)) Q E s := by
  obtain ⟨pre, post, rfl, rfl, a, c⟩ := U.split
  have z := N (D, listOf its n) (List.mem_append.mpr (.inr (.head _)))
  have hfi : fillsInplaceSlot (.type "list") "add" (Operator.Add == .Add) = pure false := by
    unfold fillsInplaceSlot
    show (typeLookup (.type "list") (dunderI "add") >>= fun fi => pure (fi.isSome && !isSeqSlot fi)) = pure false
    rw [look_iadd]; rfl
  unfold inplaceOp
  refine wpAny_holding ?_
  refine wpAny_bind (wpAny_typeOf (T := "list") ⟨_, z.1, rfl⟩ (wpAny_bind (wpAny_of_eq hfi ?_)))
  show wpAny _ A (if false = true then _ else _) Q E s
  rw [if_neg Bool.false_ne_true]
  refine wpAny_bind (wpAny_binaryOp1_none (T := "list") (nm := "add") ⟨_, z.1, rfl⟩ ⟨_, (N _ hb).1, rfl⟩ fills_list ?_)
  refine wpAny_bind (wpAny_of_eq seq_iadd ?_)
  refine wpAny_bind (wpAny_rule ?_)
  refine call_meets PySem.F.slot_list_iadd ⟨_, z.1, rfl⟩ PySem.F.entry_list_iadd (PySem.F.args_list_iadd_2 _ _) (PySem.AutoSeq1.list___iadd___list_list_0 D its n b its2 n2 hd (by simpa using hz) hz2) ⟨z.1, (N _ hb).1, h _ (F.change (Heap.SameBut.update ..) z.2.1 z.2.2) (kl_turn _ N a c ?_ ?_)⟩
  · subst e
    apply Array.toList_inj.mp
    simp
  · subst e
    simp at hne ⊢
    exact hne
end
section
variable {w : World} {mean : ExcName → Option Value} {mg mb : Str → Option Value} {dp un : Nat} {gd : Option (List Code)} {cn : Str} {cs : Scope} {a : Addr} {ccd : Value} {cl : List (Str × Addr)} {outer : List Env} {A₀ : Around} {base h₀ : Heap} {L : Addr} {m : Str → Option Value} {news : List (Addr × Obj)} {s : Shared} {Q E : Value → Shared → Prop}
noncomputable def spots : List Int := [32, 173, 833, 847, 6150, 8203, 8234, 8288, 12272, 12283, 64976, 65007, 65024, 65039, 65279, 65529, 917505, 917536, 917631] ++ (rangeKs 1 16).map (fun k => 65536 * k + 65535)
noncomputable def leftF (v : Int) : Int := spots.getD (v.fmod 35).toNat 0 - (v.fdiv 35).fmod 16
theorem left_spec {v : Int} {t : Tok} (hv0 : 0 ≤ v) (hv1 : v < 1000000) (B : Below A₀ base outer h₀) (F : Fr h₀ L s.heap m) (X : (KF w.params).In h₀) (N : News h₀ L s.heap news)
    (T : Top qv (looseW qv looseN) mean mg mb h₀) (hk : cs.kind = .function) (hd : dp + 8 < recursionLimit) (hu : un + 80 < cLine)
    (ret : ∀ t' h' tk', Fr h₀ L h' m → News h₀ L h' news → Q (.int (leftF v) t') { s with heap := h', toks := tk' }) :
    wpAny (model PySem.Challenge.rw_mq0100_01.row.prog w) (ktrTop dp un gd cn cs L a ccd cl outer) (call (.ref 129) [.int v t]) Q E s := by
  revert X
  k_fill
  intro X
  k_with_none
  refine wpAny_call (code_def (binds := [(Str.ofString "v", .int v t)]) B F X N T rfl rfl hk (by k_is) (by k_is) (by ktr_room) (BindsTo.of_eq rfl) (locs rfl) ?_ rfl rfl rfl (by decide))
  intro g L' h₁ FG F1 N1 B1 X1 T1
  k_steps
  rename_i ltS _ _ _ _ _ _ _ _ _ _ _ hI hL D5 h5 _ F5 N5 off5
  have hlen : ys.length = 16 := by rw [hL]; rfl
  refine iadd_list F5 N5 (.head _) rfl ?_ (Upd.tail (by k_ne) (Upd.head fun p hp => Nat.ne_of_lt (ltS p hp))) ?_ ?_ ?_ ?_
  · simp [hlen]
  · simp [hlen]
    decide
  · rw [sizeLine_eq]; simp
  · rw [sizeLine_eq]; simp [hlen]
  · intro h6 F6 N6
    k_steps
    rename_i kF kN _ _
    exact ret _ _ _ kF (cb_drop kN fun p hp => .tail _ (.tail _ hp))
end
end Mine
end
-- part PP
section
open PySem PySem.W PyProof.Rows
set_option linter.unusedVariables false
namespace Mine
theorem strict_ext : ∀ {xs ys : List Int}, xs.Pairwise (· < ·) → ys.Pairwise (· < ·) → (∀ z, z ∈ xs ↔ z ∈ ys) → xs = ys
  | [], [], _, _, _ => rfl
  | [], y :: ys, _, _, h => nomatch (h y).mpr (.head _)
  | x :: xs, [], _, _, h => nomatch (h x).mp (.head _)
  | x :: xs, y :: ys, hx, hy, h => by
    obtain ⟨h1, h2⟩ := List.pairwise_cons.mp hx
    obtain ⟨h3, h4⟩ := List.pairwise_cons.mp hy
    have e : x = y := by
      rcases List.mem_cons.mp ((h x).mp (.head _)) with e | e
      · exact e
      · rcases List.mem_cons.mp ((h y).mpr (.head _)) with e' | e'
        · exact e'.symm
        · have := h3 x e; have := h1 y e'; omega
    subst e
    rw [strict_ext h2 h4 fun z => ?_]
    constructor
    · intro hz
      rcases List.mem_cons.mp ((h z).mp (.tail _ hz)) with e | e
      · have := h1 z hz; omega
      · exact e
    · intro hz
      rcases List.mem_cons.mp ((h z).mpr (.tail _ hz)) with e | e
      · have := h3 z hz; omega
      · exact e
noncomputable def sldP : List Int → List Int → List Int × List Int
  | [], ys => ([], ys)
  | x :: xs, [] => (x :: xs, [])
  | x :: xs, y :: ys => if x < y then (x :: (sldP xs (y :: ys)).1, (sldP xs (y :: ys)).2) else if y < x then ((sldP (x :: xs) ys).1, y :: (sldP (x :: xs) ys).2) else sldP xs ys
termination_by xs ys => xs.length + ys.length
theorem notin_of_lt {x : Int} {ys : List Int} (h : ∀ y ∈ ys, x < y) : x ∉ ys := fun hx => by have := h x hx; omega
theorem filter_id {xs ys : List Int} (h : ∀ x ∈ xs, x ∉ ys) : xs.filter (fun x => decide (x ∉ ys)) = xs := List.filter_eq_self.mpr fun x hx => by simpa using h x hx
theorem filter_cong {xs : List Int} {p q : Int → Bool} (h : ∀ x ∈ xs, p x = q x) : xs.filter p = xs.filter q := List.filter_congr h
theorem sldP_eq : ∀ (xs ys : List Int), xs.Pairwise (· < ·) → ys.Pairwise (· < ·) → sldP xs ys = (xs.filter (fun x => decide (x ∉ ys)), ys.filter (fun y => decide (y ∉ xs)))
  | [], ys, _, _ => by
    rw [sldP]
    refine Prod.ext rfl ?_
    show ys = _
    exact (filter_id fun x _ => List.not_mem_nil).symm
  | x :: xs, [], _, _ => by
    rw [sldP]
    refine Prod.ext ?_ rfl
    exact (filter_id fun x _ => List.not_mem_nil).symm
  | x :: xs, y :: ys, hx, hy => by
    obtain ⟨h1, h2⟩ := List.pairwise_cons.mp hx
    obtain ⟨h3, h4⟩ := List.pairwise_cons.mp hy
    rw [sldP]
    split
    · rename_i hlt
      rw [sldP_eq xs (y :: ys) h2 hy]
      have n1 : x ∉ y :: ys := notin_of_lt fun z hz => by
        rcases List.mem_cons.mp hz with rfl | hz
        · exact hlt
        · have := h3 z hz; omega
      rw [List.filter_cons_of_pos (p := fun z => decide (z ∉ y :: ys)) (by simpa using n1)]
      refine Prod.ext rfl ?_
      dsimp only
      refine filter_cong fun z hz => ?_
      have n2 : z ≠ x := fun e => n1 (e ▸ hz)
      simp [n2]
    · split
      · rename_i hge hlt
        rw [sldP_eq (x :: xs) ys hx h4]
        have n1 : y ∉ x :: xs := notin_of_lt fun z hz => by
          rcases List.mem_cons.mp hz with rfl | hz
          · exact hlt
          · have := h1 z hz; omega
        rw [List.filter_cons_of_pos (p := fun z => decide (z ∉ x :: xs)) (by simpa using n1)]
        refine Prod.ext ?_ rfl
        dsimp only
        refine filter_cong fun z hz => ?_
        have n2 : z ≠ y := fun e => n1 (e ▸ hz)
        simp [n2]
      · rename_i hge hge2
        have e : x = y := by omega
        subst e
        rw [sldP_eq xs ys h2 h4]
        rw [List.filter_cons_of_neg (by simp), List.filter_cons_of_neg (by simp)]
        congr 1
        · refine filter_cong fun z hz => ?_
          have n2 : z ≠ x := fun e => by have := h1 z hz; omega
          simp [n2]
        · refine filter_cong fun z hz => ?_
          have n2 : z ≠ x := fun e => by have := h3 z hz; omega
          simp [n2]
termination_by xs ys => xs.length + ys.length
noncomputable def oddG (ms : List Int) (step p : Int) (l : List Int) (j : Int) : List Int := if Builtin.bitAnd j step = j ∧ 0 ≤ p - j ∧ p - j < (ms.length : Int) then l ++ [ms.getD (p - j).toNat 0] else l
noncomputable def oddT (ms : List Int) (step p : Int) : List Int := (rangeKs 0 (step + 1).toNat).foldl (oddG ms step p) []
noncomputable def oddB (ms : List Int) (step p : Int) : Bool := decide ((oddT ms step p).count 1 % 2 = 1)
noncomputable def oddF (ms : List Int) (step : Int) : List Int := (rangeKs 0 ((ms.length : Int) + step).toNat).filter (oddB ms step)
noncomputable def mk (ms : List Int) (p : Int) : Bool := decide (0 ≤ p ∧ p < (ms.length : Int) ∧ ms.getD p.toNat 0 = 1)
theorem oddT_count (ms : List Int) (step p : Int) (js : List Int) (l : List Int) : (js.foldl (oddG ms step p) l).count 1 = l.count 1 + (js.map fun j => if Builtin.bitAnd j step = j ∧ mk ms (p - j) = true then 1 else 0).sum := by
  induction js generalizing l with
  | nil => simp
  | cons j js ih =>
    rw [List.foldl_cons, ih, List.map_cons, List.sum_cons]
    unfold oddG
    by_cases h1 : Builtin.bitAnd j step = j
    · by_cases h2 : 0 ≤ p - j ∧ p - j < (ms.length : Int)
      · rw [if_pos ⟨h1, h2⟩, List.count_append]
        by_cases h3 : ms.getD (p - j).toNat 0 = 1
        · rw [if_pos ⟨h1, by simp only [mk, decide_eq_true_eq]; exact ⟨h2.1, h2.2, h3⟩⟩, h3]
          simp; omega
        · rw [if_neg (fun h => h3 (by have := h.2; simp only [mk, decide_eq_true_eq] at this; exact this.2.2)), List.count_singleton, if_neg (by simpa using h3)]
          omega
      · rw [if_neg (fun h => h2 h.2), if_neg (fun h => h2 (by have := h.2; simp only [mk, decide_eq_true_eq] at this; exact ⟨this.1, this.2.1⟩))]
        omega
    · rw [if_neg (fun h => h1 h.1), if_neg (fun h => h1 h.1)]
      omega
theorem oddB_sum (ms : List Int) (step p : Int) : oddB ms step p = decide (((rangeKs 0 (step + 1).toNat).map fun j => if Builtin.bitAnd j step = j ∧ mk ms (p - j) = true then 1 else 0).sum % 2 = 1) := by
  unfold oddB oddT
  rw [oddT_count]
  simp
theorem par_lem (a b c d e : Bool) (P0 P1 P2 P3 P4 : Prop) : True := trivial
theorem odd0 (ms : List Int) (p : Int) : oddB ms 0 p = mk ms p := by
  rw [oddB_sum]
  rw [show rangeKs 0 (0 + 1 : Int).toNat = [0] from by decide]
  simp only [List.map_cons, List.map_nil, List.sum_cons, List.sum_nil, show Builtin.bitAnd 0 0 = 0 from by decide, true_and, Int.sub_zero]
  cases mk ms p <;> simp
theorem odd1 (ms : List Int) (p : Int) : oddB ms 1 p = (mk ms p ^^ mk ms (p - 1)) := by
  rw [oddB_sum]
  rw [show rangeKs 0 (1 + 1 : Int).toNat = [0, 1] from by decide]
  simp only [List.map_cons, List.map_nil, List.sum_cons, List.sum_nil, show Builtin.bitAnd 0 1 = 0 from by decide, show Builtin.bitAnd 1 1 = 1 from by decide, true_and, Int.sub_zero]
  cases mk ms p <;> cases mk ms (p - 1) <;> simp
theorem odd2 (ms : List Int) (p : Int) : oddB ms 2 p = (mk ms p ^^ mk ms (p - 2)) := by
  rw [oddB_sum]
  rw [show rangeKs 0 (2 + 1 : Int).toNat = [0, 1, 2] from by decide]
  simp only [List.map_cons, List.map_nil, List.sum_cons, List.sum_nil, show Builtin.bitAnd 0 2 = 0 from by decide, show Builtin.bitAnd 1 2 = 0 from by decide, show Builtin.bitAnd 2 2 = 2 from by decide, true_and, Int.sub_zero, show ((0 : Int) = 1) = False from by decide, false_and, if_false]
  cases mk ms p <;> cases mk ms (p - 2) <;> simp
theorem odd3 (ms : List Int) (p : Int) : oddB ms 3 p = ((mk ms p ^^ mk ms (p - 1)) ^^ (mk ms (p - 2) ^^ mk ms (p - 3))) := by
  rw [oddB_sum]
  rw [show rangeKs 0 (3 + 1 : Int).toNat = [0, 1, 2, 3] from by decide]
  simp only [List.map_cons, List.map_nil, List.sum_cons, List.sum_nil, show Builtin.bitAnd 0 3 = 0 from by decide, show Builtin.bitAnd 1 3 = 1 from by decide, show Builtin.bitAnd 2 3 = 2 from by decide, show Builtin.bitAnd 3 3 = 3 from by decide, true_and, Int.sub_zero]
  cases mk ms p <;> cases mk ms (p - 1) <;> cases mk ms (p - 2) <;> cases mk ms (p - 3) <;> simp
theorem odd4 (ms : List Int) (p : Int) : oddB ms 4 p = (mk ms p ^^ mk ms (p - 4)) := by
  rw [oddB_sum]
  rw [show rangeKs 0 (4 + 1 : Int).toNat = [0, 1, 2, 3, 4] from by decide]
  simp only [List.map_cons, List.map_nil, List.sum_cons, List.sum_nil, show Builtin.bitAnd 0 4 = 0 from by decide, show Builtin.bitAnd 1 4 = 0 from by decide, show Builtin.bitAnd 2 4 = 0 from by decide, show Builtin.bitAnd 3 4 = 0 from by decide, show Builtin.bitAnd 4 4 = 4 from by decide, true_and, Int.sub_zero,
    show ((0 : Int) = 1) = False from by decide, show ((0 : Int) = 2) = False from by decide, show ((0 : Int) = 3) = False from by decide, false_and, if_false]
  cases mk ms p <;> cases mk ms (p - 4) <;> simp
theorem odd_next (ms : List Int) (n p : Int) (h0 : 0 ≤ n) (h1 : n < 4) : oddB ms (n + 1) p = (oddB ms n p ^^ oddB ms n (p - 1)) := by
  have : n = 0 ∨ n = 1 ∨ n = 2 ∨ n = 3 := by omega
  rcases this with rfl | rfl | rfl | rfl
  · rw [show (0 + 1 : Int) = 1 by decide, odd1, odd0, odd0]
  · rw [show (1 + 1 : Int) = 2 by decide, odd2, odd1, odd1, show p - 1 - 1 = p - 2 by omega]
    cases mk ms p <;> cases mk ms (p - 1) <;> cases mk ms (p - 2) <;> rfl
  · rw [show (2 + 1 : Int) = 3 by decide, odd3, odd2, odd2, show p - 1 - 2 = p - 3 by omega]
    cases mk ms p <;> cases mk ms (p - 1) <;> cases mk ms (p - 2) <;> cases mk ms (p - 3) <;> rfl
  · rw [show (3 + 1 : Int) = 4 by decide, odd4, odd3, odd3, show p - 1 - 1 = p - 2 by omega, show p - 1 - 2 = p - 3 by omega, show p - 1 - 3 = p - 4 by omega]
    cases mk ms p <;> cases mk ms (p - 1) <;> cases mk ms (p - 2) <;> cases mk ms (p - 3) <;> cases mk ms (p - 4) <;> rfl
theorem odd_far (ms : List Int) (n p : Int) (h : n = 1 ∨ n = 2 ∨ n = 4) : oddB ms n p = (mk ms p ^^ mk ms (p - n)) := by
  rcases h with rfl | rfl | rfl
  · exact odd1 ms p
  · exact odd2 ms p
  · exact odd4 ms p
theorem mk_bounds {ms : List Int} {p : Int} (h : mk ms p = true) : 0 ≤ p ∧ p < (ms.length : Int) := by
  simp only [mk, decide_eq_true_eq] at h
  exact ⟨h.1, h.2.1⟩
theorem odd_bounds {ms : List Int} {n p : Int} (h0 : 0 ≤ n) (h1 : n < 5) (h : oddB ms n p = true) : 0 ≤ p ∧ p < (ms.length : Int) + n := by
  have b : ∀ q : Int, mk ms q = true → 0 ≤ q ∧ q < (ms.length : Int) := fun q => mk_bounds
  have e : n = 0 ∨ n = 1 ∨ n = 2 ∨ n = 3 ∨ n = 4 := by omega
  rcases e with rfl | rfl | rfl | rfl | rfl
  · rw [odd0] at h; have := b _ h; omega
  · rw [odd1] at h
    cases x0 : mk ms p <;> cases x1 : mk ms (p - 1) <;> simp [x0, x1] at h
    · have := b _ x1; omega
    · have := b _ x0; omega
  · rw [odd2] at h
    cases x0 : mk ms p <;> cases x1 : mk ms (p - 2) <;> simp [x0, x1] at h
    · have := b _ x1; omega
    · have := b _ x0; omega
  · rw [odd3] at h
    cases x0 : mk ms p
    · cases x1 : mk ms (p - 1)
      · cases x2 : mk ms (p - 2)
        · cases x3 : mk ms (p - 3)
          · simp [x0, x1, x2, x3] at h
          · have := b _ x3; omega
        · have := b _ x2; omega
      · have := b _ x1; omega
    · have := b _ x0; omega
  · rw [odd4] at h
    cases x0 : mk ms p <;> cases x1 : mk ms (p - 4) <;> simp [x0, x1] at h
    · have := b _ x1; omega
    · have := b _ x0; omega
theorem rangeKs_mem {a k : Int} {n : Nat} : k ∈ rangeKs a n ↔ a ≤ k ∧ k < a + n := by
  refine ⟨mem_rangeKs, fun h => List.mem_map.mpr ⟨(k - a).toNat, List.mem_range.mpr (by omega), by omega⟩⟩
theorem rangeKs_lt (a : Int) (n : Nat) : (rangeKs a n).Pairwise (· < ·) := by
  unfold rangeKs
  rw [List.pairwise_map]
  exact List.pairwise_lt_range.imp fun h => by omega
theorem oddF_lt (ms : List Int) (n : Int) : (oddF ms n).Pairwise (· < ·) := (rangeKs_lt _ _).filter _
theorem oddF_mem {ms : List Int} {n p : Int} (h0 : 0 ≤ n) (h1 : n < 5) : p ∈ oddF ms n ↔ oddB ms n p = true := by
  unfold oddF
  rw [List.mem_filter, rangeKs_mem]
  constructor
  · exact fun h => h.2
  · intro h
    have := odd_bounds h0 h1 h
    exact ⟨by omega, h⟩
theorem oddF_len (ms : List Int) (n : Int) : (oddF ms n).length ≤ ((ms.length : Int) + n).toNat := by
  unfold oddF
  exact Nat.le_trans (List.length_filter_le _ _) (Nat.le_of_eq (rangeKs_length _ _))
noncomputable def dueF (ms : List Int) (left n : Int) : List Int := (oddF ms n).map (· + left)
theorem map_lt {xs : List Int} {d : Int} (h : xs.Pairwise (· < ·)) : (xs.map (· + d)).Pairwise (· < ·) := by
  rw [List.pairwise_map]
  exact h.imp fun h => by omega
theorem mem_map_add {xs : List Int} {d x : Int} : x ∈ xs.map (· + d) ↔ x - d ∈ xs := by
  rw [List.mem_map]
  constructor
  · rintro ⟨y, hy, rfl⟩
    rwa [Int.add_sub_cancel]
  · intro h
    exact ⟨x - d, h, by omega⟩
theorem dueF_lt (ms : List Int) (left n : Int) : (dueF ms left n).Pairwise (· < ·) := map_lt (oddF_lt ms n)
theorem dueF_mem {ms : List Int} {left n x : Int} (h0 : 0 ≤ n) (h1 : n < 5) : x ∈ dueF ms left n ↔ oddB ms n (x - left) = true := by
  unfold dueF
  rw [mem_map_add, oddF_mem h0 h1]
theorem dueF_len (ms : List Int) (left n : Int) : (dueF ms left n).length ≤ ((ms.length : Int) + n).toNat := by
  unfold dueF
  rw [List.length_map]
  exact oddF_len ms n
theorem sorted_two {a b row out : List Int} (ha : a.Pairwise (· < ·)) (hb : b.Pairwise (· < ·)) (hd : ∀ x ∈ a, x ∉ b) (hp : out.Perm (a ++ b)) (hs : out.Pairwise (· ≤ ·)) (hr : row.Pairwise (· < ·)) (h : ∀ x, x ∈ row ↔ (x ∈ a ∨ x ∈ b)) : out = row := by
  have nd : out.Nodup := by
    rw [hp.nodup_iff, List.nodup_append]
    refine ⟨ha.imp fun h => by omega, hb.imp fun h => by omega, fun x hx y hy e => hd x hx (e ▸ hy)⟩
  have hl : out.Pairwise (· < ·) := (hs.and nd).imp fun ⟨h1, h2⟩ => by omega
  refine strict_ext hl hr fun z => ?_
  rw [hp.mem_iff, List.mem_append, h]
theorem sld_lt1 {xs ys : List Int} (hx : xs.Pairwise (· < ·)) (hy : ys.Pairwise (· < ·)) : (sldP xs ys).1.Pairwise (· < ·) := by
  rw [sldP_eq _ _ hx hy]; exact hx.filter _
theorem sld_lt2 {xs ys : List Int} (hx : xs.Pairwise (· < ·)) (hy : ys.Pairwise (· < ·)) : (sldP xs ys).2.Pairwise (· < ·) := by
  rw [sldP_eq _ _ hx hy]; exact hy.filter _
theorem sld_mem1 {xs ys : List Int} {z : Int} (hx : xs.Pairwise (· < ·)) (hy : ys.Pairwise (· < ·)) : z ∈ (sldP xs ys).1 ↔ z ∈ xs ∧ z ∉ ys := by
  rw [sldP_eq _ _ hx hy]; simp
theorem sld_mem2 {xs ys : List Int} {z : Int} (hx : xs.Pairwise (· < ·)) (hy : ys.Pairwise (· < ·)) : z ∈ (sldP xs ys).2 ↔ z ∈ ys ∧ z ∉ xs := by
  rw [sldP_eq _ _ hx hy]; simp
theorem sld_sorted {xs ys row out : List Int} (hx : xs.Pairwise (· < ·)) (hy : ys.Pairwise (· < ·)) (hp : out.Perm ((sldP xs ys).1 ++ (sldP xs ys).2)) (hs : out.Pairwise (· ≤ ·)) (hr : row.Pairwise (· < ·))
    (h : ∀ x, x ∈ row ↔ ((x ∈ xs ∧ x ∉ ys) ∨ (x ∈ ys ∧ x ∉ xs))) : out = row :=
  sorted_two (sld_lt1 hx hy) (sld_lt2 hx hy) (fun x h1 h2 => ((sld_mem1 hx hy).mp h1).2 ((sld_mem2 hx hy).mp h2).1) hp hs hr fun x => by rw [h, sld_mem1 hx hy, sld_mem2 hx hy]
/-- the next row -/
theorem next_row {ms : List Int} {left n : Int} {out : List Int} (h0 : 0 ≤ n) (h1 : n < 4) (hp : out.Perm ((sldP (dueF ms left n) ((dueF ms left n).map (· + 1))).1 ++ (sldP (dueF ms left n) ((dueF ms left n).map (· + 1))).2)) (hs : out.Pairwise (· ≤ ·)) : out = dueF ms left (n + 1) := by
  refine sld_sorted (dueF_lt _ _ _) (map_lt (dueF_lt _ _ _)) hp hs (dueF_lt _ _ _) fun x => ?_
  rw [dueF_mem (by omega) (by omega), mem_map_add, dueF_mem h0 (by omega), dueF_mem h0 (by omega), odd_next _ _ _ h0 h1, show x - left - 1 = x - 1 - left by omega]
  cases oddB ms n (x - left) <;> cases oddB ms n (x - 1 - left) <;> simp
/-- one leap from the first row -/
theorem leap_row {ms : List Int} {left n : Int} {out : List Int} (h : n = 1 ∨ n = 2 ∨ n = 4) (hp : out.Perm ((sldP ((dueF ms left 0).map (· + n)) (dueF ms left 0)).1 ++ (sldP ((dueF ms left 0).map (· + n)) (dueF ms left 0)).2)) (hs : out.Pairwise (· ≤ ·)) : out = dueF ms left n := by
  refine sld_sorted (map_lt (dueF_lt _ _ _)) (dueF_lt _ _ _) hp hs (dueF_lt _ _ _) fun x => ?_
  rw [dueF_mem (by omega) (by omega), mem_map_add, dueF_mem (by omega) (by omega), dueF_mem (by omega) (by omega), odd_far _ _ _ h, odd0, odd0, show x - left - n = x - n - left by omega]
  cases mk ms (x - left) <;> cases mk ms (x - n - left) <;> simp
theorem begins_row {row : List Int} (h : row.Pairwise (· < ·)) : (sldP row (row.map (· + 1))).1 = row.filter (fun c => decide (c - 1 ∉ row)) := by
  rw [sldP_eq _ _ h (map_lt h)]
  exact filter_cong fun x _ => by simp only [mem_map_add]
theorem ends_row {row : List Int} (h : row.Pairwise (· < ·)) : (sldP row (row.map (· + 1))).2 = (row.filter (fun c => decide (c + 1 ∉ row))).map (· + 1) := by
  rw [sldP_eq _ _ h (map_lt h), List.filter_map]
  rfl
end Mine
end
-- part WX
section
open PySem PySem.W PyProof.Rows PySem.Calls PyProof.Rows.TI
set_option linter.unusedVariables false
set_option maxRecDepth 100000
set_option maxHeartbeats 4000000
namespace Mine
/-- an exception of the frame's own, as the ledger bears it: e its object, T its traceback's head, fl what the head's mark says -/
structure Ex (fl : Value) (e T : Addr) (oe oT : Obj) : Prop where
  cls : oe.cls = .type "IndexError"
  one : ∃ vs, oe.data = .fields vs ∧ vs[1]? = some (.ref T)
  two : ∃ ts, oT.data = .fields ts ∧ ts[3]? = some fl
structure ExApart (e T : Addr) (news : List (Addr × Obj)) : Prop where
  eT : e ≠ T
  e : ∀ p ∈ news, p.1 ≠ e
  T : ∀ p ∈ news, p.1 ≠ T
section
variable {prog : Program} {w : World} {A A₀ : Around} {E : Value → Shared → Prop} {s : Shared} {h₀ h : Heap} {L L' a e T : Addr} {m : Str → Option Value} {name : Str} {scope : Scope} {cd : Value} {env env' : Env} {new news : List (Addr × Obj)} {oL oe oT : Obj} {fl : Value}
theorem noted_ex {Q : Unit → Shared → Prop} (hfr : A₀.frames = some [env]) (Fs : Frs [env] [(L, oL)]) (hx : Heap.NewExc h s.heap e "IndexError") (F : Fr h₀ L' h m) (N : News h₀ L' h (new ++ [(L, oL)])) (hne : ∀ p ∈ new, p.1 ≠ L)
    (k : ∀ h' sl T oe oT, Frs [env] [(L, { oL with slots := sl })] → Fr h₀ L' h' m → News h₀ L' h' ((e, oe) :: (T, oT) :: (new ++ [(L, { oL with slots := sl })])) → Ex (rawInt L') e T oe oT → ExApart e T (new ++ [(L, { oL with slots := sl })]) → Q () { s with heap := h' })
    (hk : scope.kind = .function := by rfl) : wpAny (model prog w) (A₀.deeper (envOf name scope L' a cd)) (noteFrame (.ref e) (envOf name scope L' a cd)) Q E s := by
  have hA : TLg.AllNe L new := TLgL.allNe_of hne
  refine TLg.noted_new1 hfr Fs hx F N hA (fun h' sl Fs' H => ?_) hk
  have hL := H.held.ne
  obtain ⟨⟨F', ⟨ob, vs, tb, otb, tvs, he, hcls, hd, h1, htb, htd, h3, htbL, htbe, htb0⟩, hf⟩, N', hap⟩ := H
  refine k h' sl tb ob otb Fs' F' ?_ ⟨hcls, ⟨vs, hd, h1⟩, tvs, htd, h3⟩ ⟨htbe.symm, ?_, hap ob vs tb he hd h1⟩
  · intro p hp
    rcases List.mem_cons.mp hp with rfl | hp
    · exact ⟨he, hL, hf⟩
    · rcases List.mem_cons.mp hp with rfl | hp
      · exact ⟨htb, htbL, htb0⟩
      · exact N' p hp
  · have hn : ∀ p ∈ new ++ [(L, oL)], p.1 ≠ e := fun p hp q => by
      have := (N p hp).1
      rw [q, hx.new] at this
      cases this
    intro p hp
    rcases List.mem_append.mp hp with hp | hp
    · exact hn p (List.mem_append_left _ hp)
    · rw [List.mem_singleton.mp hp]
      exact hn (L, oL) (List.mem_append_right _ (.head _))
theorem again_ex {Q : Unit → Shared → Prop} (N : News h₀ L' s.heap ((e, oe) :: (T, oT) :: news)) (X : Ex (rawInt L') e T oe oT) (hf : env.frame = some L') (k : Q () s) : wpAny (model prog w) A (noteFrame (.ref e) env) Q E s := by
  obtain ⟨c, ⟨vs, h1, h2⟩, ts, h3, h4⟩ := X
  exact wpAny_noteFrame_inFlight hf (N _ (.head _)).1 h1 h2 (N _ (.tail _ (.head _))).1 h3 h4 k
theorem turn_ex {x : Value} {h' : Heap} (F : Fr h₀ L' s.heap m) (N : News h₀ L' s.heap ((e, oe) :: (T, oT) :: news)) (X : Ex fl e T oe oT) (P : ExApart e T news) (eh : h' = s.heap.update T (Obj.mapFields (·.setIfInBounds 3 x))) :
    ∃ oT', Fr h₀ L' h' m ∧ News h₀ L' h' ((e, oe) :: (T, oT') :: news) ∧ Ex x e T oe oT' := by
  subst eh
  obtain ⟨c, ⟨vs, h1, h2⟩, ts, h3, h4⟩ := X
  have z := N (T, oT) (.tail _ (.head _))
  have hsz : 3 < ts.size := (Array.getElem?_eq_some_iff.mp h4).1
  refine ⟨oT.mapFields (·.setIfInBounds 3 x), F.change (Heap.SameBut.update ..) z.2.1 z.2.2, ?_, ⟨c, ⟨vs, h1, h2⟩, ts.setIfInBounds 3 x, Obj.data_mapFields h3 _, by simp [Array.getElem?_setIfInBounds, hsz]⟩⟩
  intro p hp
  rcases List.mem_cons.mp hp with rfl | hp
  · have y := N (e, oe) (.head _)
    exact ⟨(Heap.get?_update_ne _ _ _ _ P.eT).trans y.1, y.2⟩
  · rcases List.mem_cons.mp hp with rfl | hp
    · exact ⟨Heap.get?_update_self _ z.1 (Obj.isFreed_of_fields (Obj.data_mapFields h3 _)), z.2⟩
    · have y := N p (.tail _ (.tail _ hp))
      exact ⟨(Heap.get?_update_ne _ _ _ _ (P.T p hp)).trans y.1, y.2⟩
theorem land_ex {Q : Unit → Shared → Prop} (F : Fr h₀ L' s.heap m) (N : News h₀ L' s.heap ((e, oe) :: (T, oT) :: news)) (X : Ex fl e T oe oT) (P : ExApart e T news)
    (k : ∀ h' oT', Fr h₀ L' h' m → News h₀ L' h' ((e, oe) :: (T, oT') :: news) → Ex .none e T oe oT' → Q () { s with heap := h' }) : wpAny (model prog w) A (setFlight (.ref e) none) Q E s := by
  obtain ⟨oT', F', N', X'⟩ := turn_ex (x := .none) F N X P rfl
  obtain ⟨c, ⟨vs, h1, h2⟩, ts, h3, h4⟩ := X
  exact wpAny_setFlight_none (N _ (.head _)).1 h1 h2 (N _ (.tail _ (.head _))).1 h3 (Array.getElem?_eq_some_iff.mp h4).1 (k _ oT' F' N' X')
theorem pass_ex {α : Type} {what : String} {Q : α → Shared → Prop} (F : Fr h₀ L' s.heap m) (N : News h₀ L' s.heap ((e, oe) :: (T, oT) :: news)) (X : Ex fl e T oe oT) (P : ExApart e T news) (hf : env.frame = some L')
    (k : ∀ h' oT', Fr h₀ L' h' m → News h₀ L' h' ((e, oe) :: (T, oT') :: news) → Ex (rawInt L') e T oe oT' → E (.ref e) { s with heap := h' }) : wpAny (model prog w) A (PySem.passOn what (.ref e) env : Sem α) Q E s := by
  obtain ⟨oT', F', N', X'⟩ := turn_ex (x := rawInt L') F N X P rfl
  obtain ⟨c, ⟨vs, h1, h2⟩, ts, h3, h4⟩ := X
  unfold PySem.passOn
  refine wpAny_bind (wpAny_field (N _ (.head _)).1 h1 h2 ?_)
  rw [if_neg (show ¬ (Value.ref T == Value.none) = true from by simp)]
  refine wpAny_bind ?_
  rw [hf]
  unfold setFlight
  refine wpAny_bind (wpAny_field (N _ (.head _)).1 h1 h2 ?_)
  rw [if_pos (show (Value.ref T != Value.none) = true from by simp)]
  refine wpAny_setField (N _ (.tail _ (.head _))).1 h3 (Array.getElem?_eq_some_iff.mp h4).1 ?_
  exact wpAny_throw (k _ oT' F' N' X')
theorem came_ex (F : Fr h₀ L' s.heap m) (N : News h₀ L' s.heap ((e, oe) :: (T, oT) :: news)) (X : Ex fl e T oe oT) (P : ExApart e T news) (hf : env.frame = some L')
    (k : ∀ h' oT', Fr h₀ L' h' m → News h₀ L' h' ((e, oe) :: (T, oT') :: news) → Ex (rawInt L') e T oe oT' → E (.ref e) { s with heap := h' }) : cameBackBy (model prog w) A env E (.ref e) s := by
  obtain ⟨oT', F', N', X'⟩ := turn_ex (x := rawInt L') F N X P rfl
  obtain ⟨c, ⟨vs, h1, h2⟩, ts, h3, h4⟩ := X
  unfold cameBackBy
  refine wpAny_bind (wpAny_field (N _ (.head _)).1 h1 h2 ?_)
  rw [if_neg (show ¬ (Value.ref T == Value.none) = true from by simp)]
  refine wpAny_bind ?_
  rw [hf]
  refine wpAny_field (N _ (.head _)).1 h1 h2 ?_
  rw [if_pos (show (Value.ref T != Value.none) = true from by simp)]
  exact wpAny_setField (N _ (.tail _ (.head _))).1 h3 (Array.getElem?_eq_some_iff.mp h4).1 (k _ oT' F' N' X')
theorem held_ex (F : Fr h₀ L' h m) (N : News h₀ L' h ((e, oe) :: (T, oT) :: news)) (X : Ex fl e T oe oT) (P : ExApart e T news) : TT.HeldNA h₀ L' h m e "IndexError" news fl := by
  obtain ⟨c, ⟨vs, h1, h2⟩, ts, h3, h4⟩ := X
  have ze := N (e, oe) (.head _)
  have zT := N (T, oT) (.tail _ (.head _))
  refine ⟨⟨F, ⟨oe, vs, T, oT, ts, ze.1, c, h1, h2, zT.1, h3, h4, zT.2.1, P.eT.symm, zT.2.2⟩, ze.2.2⟩, fun p hp => N p (.tail _ (.tail _ hp)), ?_⟩
  intro ob vs' tb e1 e2 e3 p hp
  rw [ze.1] at e1
  obtain rfl := Option.some.inj e1
  rw [h1] at e2
  injection e2 with e2
  subst e2
  rw [h2] at e3
  injection e3 with e3
  injection e3 with e3
  exact e3 ▸ P.T p hp
/-- a call of a def without cells, from the law's own frame; the ground stays the law's and the law's frame stands in the ledger -/
theorem enter_one {K : Frag} {p : Program} {loose : List Str} {mean : ExcName → Option Value} {mg mb : Str → Option Value}
    {R : Result → Shared → Prop} {nm qual : Str} {params : Arguments} {body : List Stmt} {sc : Scope} {dV kV doc pm cdv ct oc : Value} {an od : Option Addr} {osl : Array (Option Value)} {f : Addr} {args : Args} {binds : List (Str × Value)}
    (F : Fr h₀ L s.heap m) (X₀ : K.In h₀) (N : News h₀ L s.heap news) (T : Top p loose mean mg mb h₀) (hA : A.frames = some [env]) (hf : env.frame = some L) (hke : env.scope.kind = .function)
    (ho : K.lookup f = some ⟨oc, od, .func (fnOf nm qual params body sc dV kV doc pm an cdv ct), osl⟩) (hcd : codeIn K cdv qual = true) (hroom : A.depth < recursionLimit)
    (hbind : BindsTo s (fnOf nm qual params body sc dV kV doc pm an cdv ct) args binds) (hloc : ∀ y ∈ binds, sc.names.lookup y.1 = some .local)
    (hc : sc.isCoroutine = false) (hg : sc.isGenerator = false) (hk : sc.kind = .function) (hcell : ∀ x ∈ sc.names, x.2 ≠ .cell)
    (h : ∀ oL L' h₁ tk, TI.Caller h₀ L m oL → Frs [env] [(L, oL)] → (∀ p ∈ news, p.1 ≠ L) → (∀ p ∈ news ++ [(L, oL)], p.1 < L') → Fr h₀ L' h₁ (fun y => binds.reverse.lookup y) → News h₀ L' h₁ (news ++ [(L, oL)]) →
      wpAny (model prog w) (A.deeper (envOf qual sc L' f cdv)) (execs body (envOf qual sc L' f cdv))
        (fun fl s' => R (.ok (.ret (match fl with | .ret v => v | _ => .none))) s')
        (fun e s' => wpAny (model prog w) (A.deeper (envOf qual sc L' f cdv)) (leaving (envOf qual sc L' f cdv) e) (fun _ s'' => R (.error e) s'') (fun e' s'' => R (.error e') s'') s')
        { s with heap := h₁, toks := tk }) : codeAny (model prog w) A (.call (.ref f) args) R s := by
  have KI := X₀.keeps F.keep
  obtain ⟨oL, es, ep, hL, hd, hrest⟩ := F.ns
  have lt : L < s.heap.objs.size := Heap.lt_size hL
  have hkm : env.scope.kind ≠ .module := by rw [hke]; decide
  have lts : ∀ p ∈ news ++ [(L, oL)], p.1 < s.heap.objs.size := fun p hp => by
    rcases List.mem_append.mp hp with hp | hp
    · exact Heap.lt_size (N p hp).1
    · rw [List.mem_singleton.mp hp]; exact lt
  refine codeAny_call_def hroom (KI _ _ ho) rfl (T.nolimit.keeps F.keep) (codeRec_of KI hcd) rfl hbind hcell hloc (fun h₁ hns up => ?_) hc hg hk
  refine h oL s.heap.objs.size h₁ (s.toks + binds.length) ⟨fun h' sl e => ⟨_, es, ep, e, hd, hrest⟩, ⟨es, ep, hd⟩, F.above⟩ ⟨hkm, hf, ⟨es, ep, hd⟩, trivial⟩ (fun p hp => (N p hp).2.1) lts ⟨hns, fun b o e => up b o (F.keep b o e), Nat.le_trans F.above (Nat.le_of_lt lt)⟩ ?_
  intro p hp
  have l := lts p hp
  rcases List.mem_append.mp hp with hp | hp
  · obtain ⟨x1, x2, x3⟩ := N p hp
    exact ⟨up _ _ x1, Nat.ne_of_lt l, x3⟩
  · obtain rfl := List.mem_singleton.mp hp
    exact ⟨up _ _ hL, Nat.ne_of_lt l, Heap.get?_none_of_le F.above⟩
/-- back in the law's frame -/
theorem back_one {sl : Array (Option Value)} {h : Heap} {m' : Str → Option Value} (C : TI.Caller h₀ L m oL) (F : Fr h₀ L' h m') (N : News h₀ L' h (new ++ [(L, { oL with slots := sl })])) (hne : ∀ p ∈ new, p.1 ≠ L) : Fr h₀ L h m ∧ News h₀ L h new := by
  have z := (N _ (List.mem_append_right _ (.head _))).1
  exact ⟨⟨C.ns _ sl z, F.keep, C.above⟩, fun p hp => ⟨(N p (List.mem_append_left _ hp)).1, hne p hp, (N p (List.mem_append_left _ hp)).2.2⟩⟩
end
end Mine
end
-- part WG
section
open PySem PySem.W PyProof.Rows PyProof.Rows.TI
set_option linter.unusedVariables false
set_option maxRecDepth 100000
set_option maxHeartbeats 4000000
namespace Mine
theorem news_neG {news : List (Addr × Obj)} {L' d : Addr} (lt : ∀ p ∈ news, p.1 < L') (h : (L' : Nat) ≤ d) : ∀ p ∈ news, p.1 ≠ d := fun p hp e => by
  have h1 : (p.1 : Nat) < L' := lt p hp
  rw [e] at h1
  exact absurd h1 (Nat.not_lt.mpr h)
local macro_rules | `(tactic| k_mem) => `(tactic| (k_dflt assumption))
local macro_rules | `(tactic| k_all) => `(tactic| exact news_neG (by assumption) (by (try dsimp only); omega))
local macro_rules | `(tactic| ktn_open) => `(tactic| repeat' ((fail_if_success (with_reducible show wpAny _ _ (exec (Stmt.While _ _ _ _) _) _ _ _)); (first | (k_unfold; (try dsimp only)) | (k_end; wrow_close) | walk1 | (dsimp only; walk1) | (leave1; walk_say "STEP leave1"; try dsimp only))))
theorem item_listG {prog : Program} {w : World} {A : Around} {E : Value → Shared → Prop} {s : Shared} {value slice : PySem.Expr} {l : Addr} {vs : Array Value} {k : Int} {u : Tok} {v : Value} {Q : Value → Shared → Prop}
    (hl : s.heap.IsList l vs) (h0 : 0 ≤ k) (hhi : k < 2 ^ 63) (hx : vs[k.toNat]? = some v) (h : Q v s)
    (hs : subscripted slice false (.ref l) (.int k u) = operate [.ref l, .int k u] (getItem (.ref l) (.int k u)) := by with_unfolding_all rfl) :
    wpAny (model prog w) A (subscriptTail value slice (.ref l) (.int k u)) Q E s :=
  tail_any hl.typeIs slot_list_getitem.lookup (wpAny_getItem_list hl h0 hhi hx h) hs
theorem ints_at {vs : List Value} {ns : List Int} (h : IntsAre vs ns) {i : Nat} (hi : i < ns.length) : ∃ t, vs.toArray[(i : Int).toNat]? = some (.int (ns[i]'hi) t) := by
  have hl := h.length
  have hv : i < vs.length := by omega
  obtain ⟨k, t, hk, e⟩ := IntsAre.at h i vs[i] (by simp [hv])
  refine ⟨t, ?_⟩
  have hk' : ns[i]? = some k := e
  rw [List.getElem?_eq_getElem hi] at hk'
  have : ns[i] = k := Option.some.inj hk'
  rw [this, Int.toNat_natCast, List.getElem?_toArray, List.getElem?_eq_getElem hv, ← hk]
theorem updF_upd {d : Addr} {o o' : Obj} {l : List (Addr × Obj)} {g : Obj → List (Addr × Obj)} (U : UpdF d o l g) : Upd d o o' l (g o') := by
  induction U with
  | head h => exact .head h
  | tail h _ ih => exact .tail h ih
theorem ext_any {prog : Program} {w : World} {A : Around} {E : Value → Shared → Prop} {s : Shared} {h₀ : Heap} {L D b : Addr} {m : Str → Option Value} {news : List (Addr × Obj)} {g : Obj → List (Addr × Obj)} {vs ws : List Value} {n n2 : Nat} {Q : Value → Shared → Prop}
    (F : Fr h₀ L s.heap m) (N : News h₀ L s.heap news) (U : UpdF D (listOf vs.toArray n) news g) (hb : (b, listOf ws.toArray n2) ∈ news) (hz : vs.length ≤ 1000) (hz2 : ws.length ≤ 1000)
    (h : ∀ h' n', Fr h₀ L h' m → News h₀ L h' (g (listOf (vs ++ ws).toArray n')) → Q .none { s with heap := h' }) : wpAny (model prog w) A (call (.builtin "list.extend") [.ref D, .ref b]) Q E s := by
  have hs := sizeLine_eq
  have hd : ¬(!vs.toArray.isEmpty && Builtin.List.listTooLong (vs.toArray.size + ws.toArray.size)) = true := by
    simp only [Builtin.List.listTooLong, Bool.and_eq_true, decide_eq_true_eq, not_and, List.size_toArray]
    intro _
    omega
  cases ws with
  | nil =>
    refine kxn_extend F N hb rfl (updF_upd U) hd (by simp; omega) (by simp; omega) fun h' F' N' => h h' n F' ?_
    rw [List.append_nil]
    exact N'
  | cons w ws =>
    exact kl_extend F N hb (l := vs ++ w :: ws) (by simp) (by simp) (updF_upd U) hd (by simp; omega) (by simp at hz2 ⊢; omega) fun h' F' N' => h h' (n + 1) F' N'
structure SC where
  i : Nat
  ti : Tok
  j : Nat
  tj : Tok
  mv : List Value
  mn : Nat
  uv : List Value
  un : Nat
  mi : List Int
  ui : List Int
theorem st_lt {xs ys : List Int} {i j : Nat} (hi : i < xs.length) (hj : j < ys.length) (h : xs[i] < ys[j]) : sldP (xs.drop i) (ys.drop j) = (xs[i] :: (sldP (xs.drop (i + 1)) (ys.drop j)).1, (sldP (xs.drop (i + 1)) (ys.drop j)).2) := by
  rw [List.drop_eq_getElem_cons hi, List.drop_eq_getElem_cons hj, sldP, if_pos h]
theorem st_gt {xs ys : List Int} {i j : Nat} (hi : i < xs.length) (hj : j < ys.length) (h : ys[j] < xs[i]) : sldP (xs.drop i) (ys.drop j) = ((sldP (xs.drop i) (ys.drop (j + 1))).1, ys[j] :: (sldP (xs.drop i) (ys.drop (j + 1))).2) := by
  rw [List.drop_eq_getElem_cons hi, List.drop_eq_getElem_cons hj, sldP, if_neg (by omega), if_pos h]
theorem st_eq {xs ys : List Int} {i j : Nat} (hi : i < xs.length) (hj : j < ys.length) (h : xs[i] = ys[j]) : sldP (xs.drop i) (ys.drop j) = sldP (xs.drop (i + 1)) (ys.drop (j + 1)) := by
  rw [List.drop_eq_getElem_cons hi, List.drop_eq_getElem_cons hj, sldP, if_neg (by omega), if_neg (by omega)]
theorem sldP_nil {xs ys : List Int} (h : xs = [] ∨ ys = []) : sldP xs ys = (xs, ys) := by
  cases xs with
  | nil => rw [sldP]
  | cons x xs =>
    cases ys with
    | nil => rw [sldP]
    | cons y ys => simp at h
theorem next_ne {xs : List Int} (p : xs.Pairwise (· < ·)) {i : Nat} (hi : i + 1 < xs.length) : xs[i] < xs[i + 1] := List.pairwise_iff_getElem.mp p i (i + 1) (by omega) hi (by omega)
theorem ints_at1 {vs : List Value} {ns : List Int} (h : IntsAre vs ns) {i : Nat} (hi : i + 1 < ns.length) : ∃ t, vs.toArray[((i : Int) + 1).toNat]? = some (.int (ns[i + 1]'hi) t) := ints_at h hi
theorem while_once {prog : Program} {w : World} {A : Around} {E : Value → Shared → Prop} {s : Shared} {h₀ : Heap} {L : Addr} {m : Str → Option Value} {news : List (Addr × Obj)} {env : Env} {test : PySem.Expr} {body : List Stmt} {pos : Pos} {Q : Flow → Shared → Prop} (F : Fr h₀ L s.heap m) (N : News h₀ L s.heap news)
    (turn : ∀ h tk, Fr h₀ L h m → News h₀ L h news → wpAny (model prog w) A (isTrue test env (eval test env)) (fun b s₂ => if b = true then wpAny (model prog w) A (execs body env) (fun _ _ => False) E s₂ else Q .next s₂) E { s with heap := h, toks := tk })
    (hE : PassesOwn (model prog w) A env E := by passes_own) : wpAny (model prog w) A (exec (.While test body [] pos) env) Q E s := by
  refine While_inv2 (fun n m' nx => m' = m ∧ nx = news) (n₀ := 0) F N ⟨rfl, rfl⟩ ?_ hE
  rintro n m₁ nx h tk F₁ N₁ ⟨rfl, rfl⟩
  refine wpAny_mono (turn h tk F₁ N₁) (fun b s₂ p => ?_) fun _ _ x => x
  cases b with
  | false => simpa using p
  | true =>
    simp only [if_true] at p ⊢
    exact wpAny_mono p (fun _ _ x => x.elim) fun _ _ x => x
section
variable {w : World} {mean : ExcName → Option Value} {mg mb : Str → Option Value} {dp un : Nat} {gd : Option (List Code)} {cn : Str} {cs : Scope} {a : Addr} {ccd : Value} {cl : List (Str × Addr)} {outer : List Env} {A₀ : Around} {base h₀ : Heap} {L : Addr} {m : Str → Option Value} {news : List (Addr × Obj)} {s : Shared} {Q E : Value → Shared → Prop}
theorem sld_spec {l1 l2 : Addr} {n1 n2 : Nat} {vs ws : List Value} {xs ys : List Int} (B : Below A₀ base outer h₀) (F : Fr h₀ L s.heap m) (X : (KF w.params).In h₀) (N : News h₀ L s.heap news)
    (T : Top qv (looseW qv looseN) mean mg mb h₀) (hk : cs.kind = .function) (hl1 : (l1, listOf vs.toArray n1) ∈ news) (hl2 : (l2, listOf ws.toArray n2) ∈ news) (hi1 : IntsAre vs xs) (hi2 : IntsAre ws ys) (hn1 : xs.length ≤ 64) (hn2 : ys.length ≤ 64)
    (p1 : xs.Pairwise (· < ·)) (p2 : ys.Pairwise (· < ·)) (hlast : xs ≠ [] → xs.getLast? ≠ ys.getLast?) (hd : dp + 4 < recursionLimit) (hu : un + 40 < cLine)
    (ret : ∀ a b t vs' n' ws' n'' nt h' tk', Fr h₀ L h' m → News h₀ L h' ((t, { cls := .type "tuple", data := .seq #[.ref a, .ref b] nt }) :: (b, listOf ws'.toArray n'') :: (a, listOf vs'.toArray n') :: news) → IntsAre vs' (sldP xs ys).1 → IntsAre ws' (sldP xs ys).2 → Q (.ref t) { s with heap := h', toks := tk' }) :
    wpAny (model PySem.Challenge.rw_mq0100_01.row.prog w) (ktrTop dp un gd cn cs L a ccd cl []) (call (.ref 21) [.ref l1, .ref l2]) Q E s := by
  revert X
  k_fill
  intro X
  k_with_none
  refine wpAny_call (enter_one (binds := [(Str.ofString "expected", .ref l1), (Str.ofString "actual", .ref l2)]) F X N T rfl rfl hk (by k_is) (by k_is) (by ktr_room) (BindsTo.of_eq rfl) (locs rfl) rfl rfl rfl (by decide) ?_)
  intro oL L' h₁ tk C Fs hneL lts F1 N1
  dsimp only
  ktn_open
  rename_i D1 h4 lt1 h5 tk1 D2 h6 lt2 h7 F7 N7
  have hneD1 : ∀ p ∈ news, p.1 ≠ D1 := fun p hp => Nat.ne_of_lt (lt1 p (List.mem_append_left _ hp))
  refine ksw_while (σ := SC) (fun c => (D2, listOf c.uv.toArray c.un) :: (D1, listOf c.mv.toArray c.mn) :: (news ++ [(L, oL)]))
    (fun c => [(Str.ofString "i", .int c.i c.ti), (Str.ofString "j", .int c.j c.tj)]) (fun c => IntsAre c.mv c.mi ∧ IntsAre c.uv c.ui ∧ c.mi.length ≤ c.i ∧ c.ui.length ≤ c.j ∧ c.i ≤ xs.length ∧ c.j ≤ ys.length) [Str.ofString "e", Str.ofString "a"]
    (fun c => (sldP xs ys).1 = c.mi ++ (sldP (xs.drop c.i) (ys.drop c.j)).1 ∧ (sldP xs ys).2 = c.ui ++ (sldP (xs.drop c.i) (ys.drop c.j)).2)
    (fun c => (xs.length - c.i) + (ys.length - c.j)) ⟨0, _, 0, _, [], 0, [], 0, [], []⟩ F7 N7 ⟨.nil, .nil, Nat.le_refl _, Nat.le_refl _, Nat.zero_le _, Nat.zero_le _⟩ (by kst_all) ⟨rfl, rfl⟩ ?_
  clear N7 F7
  rintro ⟨i, ti, j, tj, mv, mn, uv, un', mi, ui⟩ u h8 tk8 ⟨hm, hu', lm, lu, li, lj⟩ ⟨q1, q2⟩ F8 N8
  dsimp only at hm hu' lm lu li lj q1 q2 F8 N8
  have hlv := hi1.length
  have hlw := hi2.length
  have hDD : D1 ≠ D2 := Nat.ne_of_lt lt2.1
  have hDL1 : D1 ≠ L := fun q => by have := lt1 (L, oL) (List.mem_append_right _ (.head _)); rw [q] at this; exact Nat.lt_irrefl _ this
  have hDL2 : D2 ≠ L := fun q => by have := lt1 (L, oL) (List.mem_append_right _ (.head _)); rw [← q] at this; exact Nat.lt_irrefl _ (Nat.lt_trans this lt2.1)
  have lt3 : ∀ (sl : Array (Option Value)), ∀ p ∈ news ++ [(L, ({ oL with slots := sl } : Obj))], p.1 < D1 := fun sl p hp => by
    rcases List.mem_append.mp hp with hp | hp
    · exact lt1 p (List.mem_append_left _ hp)
    · rw [List.mem_singleton.mp hp]; exact lt1 (L, oL) (List.mem_append_right _ (.head _))
  have neL : ∀ {d : Addr}, (D1 : Nat) < d → d ≠ L := fun {d} h q => by
    have := lt1 (L, oL) (List.mem_append_right _ (.head _))
    rw [q] at h
    exact Nat.lt_irrefl _ (Nat.lt_trans this h)
  have hneN : ∀ o1 o2, ∀ p ∈ (D2, o2) :: (D1, o1) :: news, p.1 ≠ L := fun o1 o2 => List.forall_mem_cons.mpr ⟨hDL2, List.forall_mem_cons.mpr ⟨hDL1, hneL⟩⟩
  by_cases hi : i < xs.length
  · by_cases hj : j < ys.length
    · skip
      obtain ⟨t1, g1⟩ := ints_at hi1 hi
      obtain ⟨t2, g2⟩ := ints_at hi2 hj
      have k1 := st_lt hi hj
      have k2 := st_gt hi hj
      have k3 := st_eq hi hj
      have m1 : ∀ h : i + 1 < xs.length, xs[i] < xs[i + 1] := fun h => next_ne p1 h
      have m2 : ∀ h : j + 1 < ys.length, ys[j] < ys[j + 1] := fun h => next_ne p2 h
      generalize ex : xs[i] = x at g1 k1 k2 k3 m1
      generalize ey : ys[j] = y at g2 k1 k2 k3 m2
      rcases Int.lt_trichotomy x y with hxy | hxy | hxy
      · have k := k1 hxy
        rw [k] at q1 q2
        ktn_open
        refine item_listG (News.isList N8 (.tail _ (.tail _ (List.mem_append_left _ hl1)))) (by omega) (by omega) g1 ?_
        ktn_open
        rename_i h20 F20 N20
        refine item_listG (News.isList N20 (.tail _ (.tail _ (List.mem_append_left _ hl2)))) (by omega) (by omega) g2 ?_
        ktn_open
        rename_i F21 N21

        rw [List.push_toArray] at N21
        have hm2 : IntsAre (mv ++ [Value.int x t1]) (mi ++ [x]) := IntsAre.append hm (.cons x t1 .nil)
        by_cases hi' : i + 1 < xs.length
        · obtain ⟨t3, g3⟩ := ints_at1 hi1 hi'
          have m3 := m1 hi'
          generalize xs[i + 1] = x' at g3 m3
          refine while_once F21 N21 ?_
          intro h22 tk22 F22 N22
          ktn_open
          refine item_listG (News.isList N22 (.tail _ (.tail _ (List.mem_append_left _ hl1)))) (by omega) (by omega) g3 ?_
          ktn_open
          exact ksw_end ⟨i + 1, _, j, tj, mv ++ [Value.int x t1], mn + 1, uv, un', mi ++ [x], ui⟩ F22 N22 (fun p hp => hp) ⟨hm2, hu', by simp; omega, lu, Nat.le_of_lt hi', lj⟩ (by kst_all) (by intro z h2 h3; simp only [List.forall_mem_cons, List.not_mem_nil, false_implies, implies_true, and_true, ne_eq] at h2; simp only [List.contains_cons, List.contains_nil, Bool.or_false, Bool.or_eq_false_iff, beq_eq_false_iff_ne, ne_eq] at h3; simp [kstB, h2, h3]) ⟨by simp [q1], by simp [q2]⟩ (by dsimp only; omega)
        · refine while_once F21 N21 ?_
          intro h22 tk22 F22 N22
          ktn_open
          refine item_outK rfl (News.isList N22 (.tail _ (.tail _ (List.mem_append_left _ hl1)))) (Or.inr (by simp; omega)) (by omega) (by omega) ?_
          intro h9 tk9 e9 x9
          have z := sldP_nil (xs := xs.drop (i + 1)) (ys := ys.drop j) (.inl (List.drop_eq_nil_of_le (by omega)))
          rw [z] at q1 q2
          have q1' : (sldP xs ys).1 = (mi ++ [x]) ++ xs.drop (i + 1) := by simp [q1]
          refine noted_ex (new := (D2, listOf (uv).toArray un') :: (D1, listOf (mv ++ [Value.int x t1]).toArray (mn + 1)) :: news) rfl Fs x9 F22 N22 (hneN _ _) ?_
          intro h10 sl T10 oe oT Fs' F10 N10 X10 P10
          refine land_ex F10 N10 X10 P10 ?_
          intro h11 oT' F11 N11 X11
          clear F10 N10 X10

          refine TT.clause_hitTN (held_ex F11 N11 X11 P10) T (hv := by boot_by_name) (k := ?_)
          intro h12 F12 N12
          replace N12 : News h₀ L' h12 ((D2, listOf (uv).toArray un') :: (D1, listOf (mv ++ [Value.int x t1]).toArray (mn + 1)) :: (news ++ [(L, { oL with slots := sl })])) := N12
          clear F11 N11 X11
          ktn_open
          refine kmk_slice_ints F12 N12 (News.isList N12 (.tail _ (.tail _ (List.mem_append_left _ hl1)))) (IsPart.int _ _) IsPart.none hi1 (kmk_from hi1 (by omega)) (List.length_drop ..) ?_ (by with_unfolding_all rfl) (by intro _; with_unfolding_all rfl) (by rw [sizeLine_eq]; simp; omega)
          intro D3 ws3 h13 F13 N13 l13 hI13 hC13 hL13
          have hne3 : D1 ≠ D3 := Nat.ne_of_lt (l13 _ (.tail _ (.head _)))
          have hne4 : D2 ≠ D3 := Nat.ne_of_lt (l13 _ (.head _))
          ktn_open
          refine ext_any F13 N13 (.tail hne3.symm (.tail hDD.symm (.head fun p hp => Nat.ne_of_lt (lt3 sl p hp)))) (.head _) (by rw [IntsAre.length hm2]; (try simp); omega) (by rw [hI13.length]; omega) ?_
          intro h14 n14 F14 N14
          ktn_open
          refine kmk_slice_ints F14 N14 (News.isList N14 (.tail _ (.tail _ (.tail _ (List.mem_append_left _ hl2))))) (IsPart.int _ _) IsPart.none hi2 (kmk_from hi2 (by omega)) (List.length_drop ..) ?_ (by with_unfolding_all rfl) (by intro _; with_unfolding_all rfl) (by rw [sizeLine_eq]; simp; omega)
          intro D4 ws4 h15 F15 N15 l15 hI15 hC15 hL15
          have hne5 : D2 ≠ D4 := Nat.ne_of_lt (l15 _ (.tail _ (.head _)))
          ktn_open
          refine ext_any F15 N15 (.tail hne5.symm (.tail hne4.symm (.head (List.forall_mem_cons.mpr ⟨hDD, fun p hp => Nat.ne_of_lt (Nat.lt_trans (lt3 sl p hp) lt2.1)⟩)))) (.head _) (by rw [IntsAre.length hu']; (try simp); omega) (by rw [hI15.length]; omega) ?_
          intro h16 n16 F16 N16
          ktn_open
          rename_i D5 h17 F17 N17 l17
          obtain ⟨F18, N18⟩ := back_one (new := (D5, _) :: (D4, _) :: (D3, _) :: (D2, _) :: (D1, _) :: news) C F17 N17 (List.forall_mem_cons.mpr ⟨neL l17.2.2.2.1, List.forall_mem_cons.mpr ⟨neL (l15 _ (.tail _ (.tail _ (.head _)))), List.forall_mem_cons.mpr ⟨neL (l13 _ (.tail _ (.head _))), hneN _ _⟩⟩⟩)
          exact ret D1 D2 D5 _ _ _ _ _ _ _ F18 (fun p hp => N18 p (by
            rcases List.mem_cons.mp hp with rfl | hp
            · exact .head _
            · exact .tail _ (.tail _ (.tail _ hp)))) (q1' ▸ IntsAre.append hm2 hI13) (q2 ▸ IntsAre.append hu' hI15)

      · have k := k3 hxy
        rw [k] at q1 q2
        ktn_open
        refine item_listG (News.isList N8 (.tail _ (.tail _ (List.mem_append_left _ hl1)))) (by omega) (by omega) g1 ?_
        ktn_open
        rename_i h20 F20 N20
        refine item_listG (News.isList N20 (.tail _ (.tail _ (List.mem_append_left _ hl2)))) (by omega) (by omega) g2 ?_
        ktn_open
        rename_i F21 N21

        by_cases hi' : i + 1 < xs.length
        · obtain ⟨t3, g3⟩ := ints_at1 hi1 hi'
          have m3 := m1 hi'
          generalize xs[i + 1] = x' at g3 m3
          refine while_once F21 N21 ?_
          intro h22 tk22 F22 N22
          ktn_open
          refine item_listG (News.isList N22 (.tail _ (.tail _ (List.mem_append_left _ hl1)))) (by omega) (by omega) g3 ?_
          ktn_open
          rename_i F24 N24
          by_cases hj' : j + 1 < ys.length
          · obtain ⟨t4, g4⟩ := ints_at1 hi2 hj'
            have m4 := m2 hj'
            generalize ys[j + 1] = y' at g4 m4
            refine while_once F24 N24 ?_
            intro h25 tk25 F25 N25
            ktn_open
            refine item_listG (News.isList N25 (.tail _ (.tail _ (List.mem_append_left _ hl2)))) (by omega) (by omega) g4 ?_
            ktn_open
            exact ksw_end ⟨i + 1, _, j + 1, _, mv, mn, uv, un', mi, ui⟩ F25 N25 (fun p hp => hp) ⟨hm, hu', Nat.le_succ_of_le lm, Nat.le_succ_of_le lu, Nat.le_of_lt hi', Nat.le_of_lt hj'⟩ (by kst_all) (by intro z h2 h3; simp only [List.forall_mem_cons, List.not_mem_nil, false_implies, implies_true, and_true, ne_eq] at h2; simp only [List.contains_cons, List.contains_nil, Bool.or_false, Bool.or_eq_false_iff, beq_eq_false_iff_ne, ne_eq] at h3; simp [kstB, h2, h3]) ⟨q1, q2⟩ (by dsimp only; omega)
          · refine while_once F24 N24 ?_
            intro h25 tk25 F25 N25
            ktn_open
            refine item_outK rfl (News.isList N25 (.tail _ (.tail _ (List.mem_append_left _ hl2)))) (Or.inr (by simp; omega)) (by omega) (by omega) ?_
            intro h9 tk9 e9 x9
            dsimp only at x9
            have z := sldP_nil (xs := xs.drop (i + 1)) (ys := ys.drop (j + 1)) (.inr (List.drop_eq_nil_of_le (by omega)))
            rw [z] at q1 q2
            refine noted_ex (new := (D2, listOf uv.toArray un') :: (D1, listOf mv.toArray mn) :: news) rfl Fs x9 F25 N25 (hneN _ _) ?_
            intro h10 sl T10 oe oT Fs' F10 N10 X10 P10
            refine came_ex F10 N10 X10 P10 rfl ?_
            intro h30 oT3 F30 N30 X30
            refine again_ex N30 X30 rfl ?_
            refine land_ex F30 N30 X30 P10 ?_
            intro h31 oT4 F31 N31 X31
            clear F30 N30 X30
            refine TT.clause_hitTN (held_ex F31 N31 X31 P10) T (hv := by boot_by_name) (k := ?_)
            intro h12 F12 N12
            replace N12 : News h₀ L' h12 ((D2, listOf (uv).toArray un') :: (D1, listOf (mv).toArray mn) :: (news ++ [(L, { oL with slots := sl })])) := N12
            clear F31 N31 X31
            ktn_open
            refine kmk_slice_ints F12 N12 (News.isList N12 (.tail _ (.tail _ (List.mem_append_left _ hl1)))) (IsPart.int _ _) IsPart.none hi1 (kmk_from hi1 (by omega)) (List.length_drop ..) ?_ (by with_unfolding_all rfl) (by intro _; with_unfolding_all rfl) (by rw [sizeLine_eq]; simp; omega)
            intro D3 ws3 h13 F13 N13 l13 hI13 hC13 hL13
            have hne3 : D1 ≠ D3 := Nat.ne_of_lt (l13 _ (.tail _ (.head _)))
            have hne4 : D2 ≠ D3 := Nat.ne_of_lt (l13 _ (.head _))
            ktn_open
            refine ext_any F13 N13 (.tail hne3.symm (.tail hDD.symm (.head fun p hp => Nat.ne_of_lt (lt3 sl p hp)))) (.head _) (by rw [IntsAre.length hm]; (try simp); omega) (by rw [hI13.length]; omega) ?_
            intro h14 n14 F14 N14
            ktn_open
            refine kmk_slice_ints F14 N14 (News.isList N14 (.tail _ (.tail _ (.tail _ (List.mem_append_left _ hl2))))) (IsPart.int _ _) IsPart.none hi2 (kmk_from hi2 (by omega)) (List.length_drop ..) ?_ (by with_unfolding_all rfl) (by intro _; with_unfolding_all rfl) (by rw [sizeLine_eq]; simp; omega)
            intro D4 ws4 h15 F15 N15 l15 hI15 hC15 hL15
            have hne5 : D2 ≠ D4 := Nat.ne_of_lt (l15 _ (.tail _ (.head _)))
            ktn_open
            refine ext_any F15 N15 (.tail hne5.symm (.tail hne4.symm (.head (List.forall_mem_cons.mpr ⟨hDD, fun p hp => Nat.ne_of_lt (Nat.lt_trans (lt3 sl p hp) lt2.1)⟩)))) (.head _) (by rw [IntsAre.length hu']; (try simp); omega) (by rw [hI15.length]; omega) ?_
            intro h16 n16 F16 N16
            ktn_open
            rename_i D5 h17 F17 N17 l17
            obtain ⟨F18, N18⟩ := back_one (new := (D5, _) :: (D4, _) :: (D3, _) :: (D2, _) :: (D1, _) :: news) C F17 N17 (List.forall_mem_cons.mpr ⟨neL l17.2.2.2.1, List.forall_mem_cons.mpr ⟨neL (l15 _ (.tail _ (.tail _ (.head _)))), List.forall_mem_cons.mpr ⟨neL (l13 _ (.tail _ (.head _))), hneN _ _⟩⟩⟩)
            exact ret D1 D2 D5 _ _ _ _ _ _ _ F18 (fun p hp => N18 p (by
              rcases List.mem_cons.mp hp with rfl | hp
              · exact .head _
              · exact .tail _ (.tail _ (.tail _ hp)))) (q1 ▸ IntsAre.append hm hI13) (q2 ▸ IntsAre.append hu' hI15)

        · refine while_once F21 N21 ?_
          intro h22 tk22 F22 N22
          ktn_open
          refine item_outK rfl (News.isList N22 (.tail _ (.tail _ (List.mem_append_left _ hl1)))) (Or.inr (by simp; omega)) (by omega) (by omega) ?_
          intro h9 tk9 e9 x9
          dsimp only at x9
          have z := sldP_nil (xs := xs.drop (i + 1)) (ys := ys.drop (j + 1)) (.inl (List.drop_eq_nil_of_le (by omega)))
          rw [z] at q1 q2
          have hj' : j + 1 < ys.length := by
            refine Decidable.byContradiction fun hn => hlast (by intro q; rw [q] at hi; exact Nat.not_lt_zero _ hi) ?_
            have a1 : xs.length - 1 = i := by omega
            have a2 : ys.length - 1 = j := by omega
            rw [List.getLast?_eq_getElem?, List.getLast?_eq_getElem?, a1, a2, List.getElem?_eq_getElem hi, List.getElem?_eq_getElem hj, ex, ey, hxy]
          obtain ⟨t4, g4⟩ := ints_at1 hi2 hj'
          have m4 := m2 hj'
          generalize ys[j + 1] = y' at g4 m4
          refine noted_ex (new := (D2, listOf uv.toArray un') :: (D1, listOf mv.toArray mn) :: news) rfl Fs x9 F22 N22 (hneN _ _) ?_
          intro h10 sl T10 oe oT Fs' F10 N10 X10 P10
          refine ⟨ref_ne_byPass _, ?_⟩
          refine again_ex N10 X10 rfl ?_
          refine land_ex F10 N10 X10 P10 ?_
          intro h11 oT' F11 N11 X11
          clear F10 N10 X10
          replace N11 : News h₀ L' h11 ((e9, oe) :: (T10, oT') :: (D2, listOf uv.toArray un') :: (D1, listOf mv.toArray mn) :: (news ++ [(L, { oL with slots := sl })])) := N11
          ktn_open
          rename_i F24 N24
          refine while_once F24 N24 ?_
          intro h25 tk25 F25 N25
          ktn_open
          refine item_listG (News.isList N25 (.tail _ (.tail _ (.tail _ (.tail _ (List.mem_append_left _ hl2)))))) (by omega) (by omega) g4 ?_
          ktn_open
          refine pass_ex F25 N25 X11 P10 rfl ?_
          intro h30 oT3 F30 N30 X30
          refine again_ex N30 X30 rfl ?_
          refine land_ex F30 N30 X30 P10 ?_
          intro h31 oT4 F31 N31 X31
          clear F30 N30 X30
          refine TT.clause_hitTN (held_ex F31 N31 X31 P10) T (hv := by boot_by_name) (k := ?_)
          intro h12 F12 N12
          replace N12 : News h₀ L' h12 ((D2, listOf (uv).toArray un') :: (D1, listOf (mv).toArray mn) :: (news ++ [(L, { oL with slots := sl })])) := N12
          clear F31 N31 X31
          ktn_open
          refine kmk_slice_ints F12 N12 (News.isList N12 (.tail _ (.tail _ (List.mem_append_left _ hl1)))) (IsPart.int _ _) IsPart.none hi1 (kmk_from hi1 (by omega)) (List.length_drop ..) ?_ (by with_unfolding_all rfl) (by intro _; with_unfolding_all rfl) (by rw [sizeLine_eq]; simp; omega)
          intro D3 ws3 h13 F13 N13 l13 hI13 hC13 hL13
          have hne3 : D1 ≠ D3 := Nat.ne_of_lt (l13 _ (.tail _ (.head _)))
          have hne4 : D2 ≠ D3 := Nat.ne_of_lt (l13 _ (.head _))
          ktn_open
          refine ext_any F13 N13 (.tail hne3.symm (.tail hDD.symm (.head fun p hp => Nat.ne_of_lt (lt3 sl p hp)))) (.head _) (by rw [IntsAre.length hm]; (try simp); omega) (by rw [hI13.length]; omega) ?_
          intro h14 n14 F14 N14
          ktn_open
          refine kmk_slice_ints F14 N14 (News.isList N14 (.tail _ (.tail _ (.tail _ (List.mem_append_left _ hl2))))) (IsPart.int _ _) IsPart.none hi2 (kmk_from hi2 (by omega)) (List.length_drop ..) ?_ (by with_unfolding_all rfl) (by intro _; with_unfolding_all rfl) (by rw [sizeLine_eq]; simp; omega)
          intro D4 ws4 h15 F15 N15 l15 hI15 hC15 hL15
          have hne5 : D2 ≠ D4 := Nat.ne_of_lt (l15 _ (.tail _ (.head _)))
          ktn_open
          refine ext_any F15 N15 (.tail hne5.symm (.tail hne4.symm (.head (List.forall_mem_cons.mpr ⟨hDD, fun p hp => Nat.ne_of_lt (Nat.lt_trans (lt3 sl p hp) lt2.1)⟩)))) (.head _) (by rw [IntsAre.length hu']; (try simp); omega) (by rw [hI15.length]; omega) ?_
          intro h16 n16 F16 N16
          ktn_open
          rename_i D5 h17 F17 N17 l17
          obtain ⟨F18, N18⟩ := back_one (new := (D5, _) :: (D4, _) :: (D3, _) :: (D2, _) :: (D1, _) :: news) C F17 N17 (List.forall_mem_cons.mpr ⟨neL l17.2.2.2.1, List.forall_mem_cons.mpr ⟨neL (l15 _ (.tail _ (.tail _ (.head _)))), List.forall_mem_cons.mpr ⟨neL (l13 _ (.tail _ (.head _))), hneN _ _⟩⟩⟩)
          exact ret D1 D2 D5 _ _ _ _ _ _ _ F18 (fun p hp => N18 p (by
            rcases List.mem_cons.mp hp with rfl | hp
            · exact .head _
            · exact .tail _ (.tail _ (.tail _ hp)))) (q1 ▸ IntsAre.append hm hI13) (q2 ▸ IntsAre.append hu' hI15)

      · have k := k2 hxy
        rw [k] at q1 q2
        ktn_open
        refine item_listG (News.isList N8 (.tail _ (.tail _ (List.mem_append_left _ hl1)))) (by omega) (by omega) g1 ?_
        ktn_open
        rename_i h20 F20 N20
        refine item_listG (News.isList N20 (.tail _ (.tail _ (List.mem_append_left _ hl2)))) (by omega) (by omega) g2 ?_
        ktn_open
        rename_i F21 N21

        rw [List.push_toArray] at N21
        have hu2 : IntsAre (uv ++ [Value.int y t2]) (ui ++ [y]) := IntsAre.append hu' (.cons y t2 .nil)
        by_cases hj' : j + 1 < ys.length
        · obtain ⟨t3, g3⟩ := ints_at1 hi2 hj'
          have m3 := m2 hj'
          generalize ys[j + 1] = y' at g3 m3
          refine while_once F21 N21 ?_
          intro h22 tk22 F22 N22
          ktn_open
          refine item_listG (News.isList N22 (.tail _ (.tail _ (List.mem_append_left _ hl2)))) (by omega) (by omega) g3 ?_
          ktn_open
          exact ksw_end ⟨i, ti, j + 1, _, mv, mn, uv ++ [Value.int y t2], un' + 1, mi, ui ++ [y]⟩ F22 N22 (fun p hp => hp) ⟨hm, hu2, lm, by simp; omega, li, Nat.le_of_lt hj'⟩ (by kst_all) (by intro z h2 h3; simp only [List.forall_mem_cons, List.not_mem_nil, false_implies, implies_true, and_true, ne_eq] at h2; simp only [List.contains_cons, List.contains_nil, Bool.or_false, Bool.or_eq_false_iff, beq_eq_false_iff_ne, ne_eq] at h3; simp [kstB, h2, h3]) ⟨by simp [q1], by simp [q2]⟩ (by dsimp only; omega)
        · refine while_once F21 N21 ?_
          intro h22 tk22 F22 N22
          ktn_open
          refine item_outK rfl (News.isList N22 (.tail _ (.tail _ (List.mem_append_left _ hl2)))) (Or.inr (by simp; omega)) (by omega) (by omega) ?_
          intro h9 tk9 e9 x9
          have z := sldP_nil (xs := xs.drop i) (ys := ys.drop (j + 1)) (.inr (List.drop_eq_nil_of_le (by omega)))
          rw [z] at q1 q2
          have q2' : (sldP xs ys).2 = (ui ++ [y]) ++ ys.drop (j + 1) := by simp [q2]
          refine noted_ex (new := (D2, listOf (uv ++ [Value.int y t2]).toArray (un' + 1)) :: (D1, listOf (mv).toArray mn) :: news) rfl Fs x9 F22 N22 (hneN _ _) ?_
          intro h10 sl T10 oe oT Fs' F10 N10 X10 P10
          refine land_ex F10 N10 X10 P10 ?_
          intro h11 oT' F11 N11 X11
          clear F10 N10 X10

          refine TT.clause_hitTN (held_ex F11 N11 X11 P10) T (hv := by boot_by_name) (k := ?_)
          intro h12 F12 N12
          replace N12 : News h₀ L' h12 ((D2, listOf (uv ++ [Value.int y t2]).toArray (un' + 1)) :: (D1, listOf (mv).toArray mn) :: (news ++ [(L, { oL with slots := sl })])) := N12
          clear F11 N11 X11
          ktn_open
          refine kmk_slice_ints F12 N12 (News.isList N12 (.tail _ (.tail _ (List.mem_append_left _ hl1)))) (IsPart.int _ _) IsPart.none hi1 (kmk_from hi1 (by omega)) (List.length_drop ..) ?_ (by with_unfolding_all rfl) (by intro _; with_unfolding_all rfl) (by rw [sizeLine_eq]; simp; omega)
          intro D3 ws3 h13 F13 N13 l13 hI13 hC13 hL13
          have hne3 : D1 ≠ D3 := Nat.ne_of_lt (l13 _ (.tail _ (.head _)))
          have hne4 : D2 ≠ D3 := Nat.ne_of_lt (l13 _ (.head _))
          ktn_open
          refine ext_any F13 N13 (.tail hne3.symm (.tail hDD.symm (.head fun p hp => Nat.ne_of_lt (lt3 sl p hp)))) (.head _) (by rw [IntsAre.length hm]; (try simp); omega) (by rw [hI13.length]; omega) ?_
          intro h14 n14 F14 N14
          ktn_open
          refine kmk_slice_ints F14 N14 (News.isList N14 (.tail _ (.tail _ (.tail _ (List.mem_append_left _ hl2))))) (IsPart.int _ _) IsPart.none hi2 (kmk_from hi2 (by omega)) (List.length_drop ..) ?_ (by with_unfolding_all rfl) (by intro _; with_unfolding_all rfl) (by rw [sizeLine_eq]; simp; omega)
          intro D4 ws4 h15 F15 N15 l15 hI15 hC15 hL15
          have hne5 : D2 ≠ D4 := Nat.ne_of_lt (l15 _ (.tail _ (.head _)))
          ktn_open
          refine ext_any F15 N15 (.tail hne5.symm (.tail hne4.symm (.head (List.forall_mem_cons.mpr ⟨hDD, fun p hp => Nat.ne_of_lt (Nat.lt_trans (lt3 sl p hp) lt2.1)⟩)))) (.head _) (by rw [IntsAre.length hu2]; (try simp); omega) (by rw [hI15.length]; omega) ?_
          intro h16 n16 F16 N16
          ktn_open
          rename_i D5 h17 F17 N17 l17
          obtain ⟨F18, N18⟩ := back_one (new := (D5, _) :: (D4, _) :: (D3, _) :: (D2, _) :: (D1, _) :: news) C F17 N17 (List.forall_mem_cons.mpr ⟨neL l17.2.2.2.1, List.forall_mem_cons.mpr ⟨neL (l15 _ (.tail _ (.tail _ (.head _)))), List.forall_mem_cons.mpr ⟨neL (l13 _ (.tail _ (.head _))), hneN _ _⟩⟩⟩)
          exact ret D1 D2 D5 _ _ _ _ _ _ _ F18 (fun p hp => N18 p (by
            rcases List.mem_cons.mp hp with rfl | hp
            · exact .head _
            · exact .tail _ (.tail _ (.tail _ hp)))) (q1 ▸ IntsAre.append hm hI13) (q2' ▸ IntsAre.append hu2 hI15)
    · obtain ⟨t1, g1⟩ := ints_at hi1 hi
      ktn_open
      refine item_listG (News.isList N8 (.tail _ (.tail _ (List.mem_append_left _ hl1)))) (by omega) (by omega) g1 ?_
      ktn_open
      rename_i h20 F20 N20
      refine item_outK rfl (News.isList N20 (.tail _ (.tail _ (List.mem_append_left _ hl2)))) (Or.inr (by simp; omega)) (by omega) (by omega) ?_
      intro h9 tk9 e9 x9
      have z := sldP_nil (xs := xs.drop i) (ys := ys.drop j) (.inr (List.drop_eq_nil_of_le (by omega)))
      rw [z] at q1 q2

      refine noted_ex (new := (D2, listOf (uv).toArray un') :: (D1, listOf (mv).toArray mn) :: news) rfl Fs x9 F20 N20 (hneN _ _) ?_
      intro h10 sl T10 oe oT Fs' F10 N10 X10 P10
      refine land_ex F10 N10 X10 P10 ?_
      intro h11 oT' F11 N11 X11
      clear F10 N10 X10

      refine TT.clause_hitTN (held_ex F11 N11 X11 P10) T (hv := by boot_by_name) (k := ?_)
      intro h12 F12 N12
      replace N12 : News h₀ L' h12 ((D2, listOf (uv).toArray un') :: (D1, listOf (mv).toArray mn) :: (news ++ [(L, { oL with slots := sl })])) := N12
      clear F11 N11 X11
      ktn_open
      refine kmk_slice_ints F12 N12 (News.isList N12 (.tail _ (.tail _ (List.mem_append_left _ hl1)))) (IsPart.int _ _) IsPart.none hi1 (kmk_from hi1 (by omega)) (List.length_drop ..) ?_ (by with_unfolding_all rfl) (by intro _; with_unfolding_all rfl) (by rw [sizeLine_eq]; simp; omega)
      intro D3 ws3 h13 F13 N13 l13 hI13 hC13 hL13
      have hne3 : D1 ≠ D3 := Nat.ne_of_lt (l13 _ (.tail _ (.head _)))
      have hne4 : D2 ≠ D3 := Nat.ne_of_lt (l13 _ (.head _))
      ktn_open
      refine ext_any F13 N13 (.tail hne3.symm (.tail hDD.symm (.head fun p hp => Nat.ne_of_lt (lt3 sl p hp)))) (.head _) (by rw [IntsAre.length hm]; (try simp); omega) (by rw [hI13.length]; omega) ?_
      intro h14 n14 F14 N14
      ktn_open
      refine kmk_slice_ints F14 N14 (News.isList N14 (.tail _ (.tail _ (.tail _ (List.mem_append_left _ hl2))))) (IsPart.int _ _) IsPart.none hi2 (kmk_from hi2 (by omega)) (List.length_drop ..) ?_ (by with_unfolding_all rfl) (by intro _; with_unfolding_all rfl) (by rw [sizeLine_eq]; simp; omega)
      intro D4 ws4 h15 F15 N15 l15 hI15 hC15 hL15
      have hne5 : D2 ≠ D4 := Nat.ne_of_lt (l15 _ (.tail _ (.head _)))
      ktn_open
      refine ext_any F15 N15 (.tail hne5.symm (.tail hne4.symm (.head (List.forall_mem_cons.mpr ⟨hDD, fun p hp => Nat.ne_of_lt (Nat.lt_trans (lt3 sl p hp) lt2.1)⟩)))) (.head _) (by rw [IntsAre.length hu']; (try simp); omega) (by rw [hI15.length]; omega) ?_
      intro h16 n16 F16 N16
      ktn_open
      rename_i D5 h17 F17 N17 l17
      obtain ⟨F18, N18⟩ := back_one (new := (D5, _) :: (D4, _) :: (D3, _) :: (D2, _) :: (D1, _) :: news) C F17 N17 (List.forall_mem_cons.mpr ⟨neL l17.2.2.2.1, List.forall_mem_cons.mpr ⟨neL (l15 _ (.tail _ (.tail _ (.head _)))), List.forall_mem_cons.mpr ⟨neL (l13 _ (.tail _ (.head _))), hneN _ _⟩⟩⟩)
      exact ret D1 D2 D5 _ _ _ _ _ _ _ F18 (fun p hp => N18 p (by
        rcases List.mem_cons.mp hp with rfl | hp
        · exact .head _
        · exact .tail _ (.tail _ (.tail _ hp)))) (q1 ▸ IntsAre.append hm hI13) (q2 ▸ IntsAre.append hu' hI15)
  · skip
    ktn_open
    refine item_outK rfl (News.isList N8 (.tail _ (.tail _ (List.mem_append_left _ hl1)))) (Or.inr (by simp; omega)) (by omega) (by omega) ?_
    intro h9 tk9 e9 x9
    have z := sldP_nil (xs := xs.drop i) (ys := ys.drop j) (.inl (List.drop_eq_nil_of_le (by omega)))
    rw [z] at q1 q2

    refine noted_ex (new := (D2, listOf (uv).toArray un') :: (D1, listOf (mv).toArray mn) :: news) rfl Fs x9 F8 N8 (hneN _ _) ?_
    intro h10 sl T10 oe oT Fs' F10 N10 X10 P10
    refine land_ex F10 N10 X10 P10 ?_
    intro h11 oT' F11 N11 X11
    clear F10 N10 X10

    refine TT.clause_hitTN (held_ex F11 N11 X11 P10) T (hv := by boot_by_name) (k := ?_)
    intro h12 F12 N12
    replace N12 : News h₀ L' h12 ((D2, listOf (uv).toArray un') :: (D1, listOf (mv).toArray mn) :: (news ++ [(L, { oL with slots := sl })])) := N12
    clear F11 N11 X11
    ktn_open
    refine kmk_slice_ints F12 N12 (News.isList N12 (.tail _ (.tail _ (List.mem_append_left _ hl1)))) (IsPart.int _ _) IsPart.none hi1 (kmk_from hi1 (by omega)) (List.length_drop ..) ?_ (by with_unfolding_all rfl) (by intro _; with_unfolding_all rfl) (by rw [sizeLine_eq]; simp; omega)
    intro D3 ws3 h13 F13 N13 l13 hI13 hC13 hL13
    have hne3 : D1 ≠ D3 := Nat.ne_of_lt (l13 _ (.tail _ (.head _)))
    have hne4 : D2 ≠ D3 := Nat.ne_of_lt (l13 _ (.head _))
    ktn_open
    refine ext_any F13 N13 (.tail hne3.symm (.tail hDD.symm (.head fun p hp => Nat.ne_of_lt (lt3 sl p hp)))) (.head _) (by rw [IntsAre.length hm]; (try simp); omega) (by rw [hI13.length]; omega) ?_
    intro h14 n14 F14 N14
    ktn_open
    refine kmk_slice_ints F14 N14 (News.isList N14 (.tail _ (.tail _ (.tail _ (List.mem_append_left _ hl2))))) (IsPart.int _ _) IsPart.none hi2 (kmk_from hi2 (by omega)) (List.length_drop ..) ?_ (by with_unfolding_all rfl) (by intro _; with_unfolding_all rfl) (by rw [sizeLine_eq]; simp; omega)
    intro D4 ws4 h15 F15 N15 l15 hI15 hC15 hL15
    have hne5 : D2 ≠ D4 := Nat.ne_of_lt (l15 _ (.tail _ (.head _)))
    ktn_open
    refine ext_any F15 N15 (.tail hne5.symm (.tail hne4.symm (.head (List.forall_mem_cons.mpr ⟨hDD, fun p hp => Nat.ne_of_lt (Nat.lt_trans (lt3 sl p hp) lt2.1)⟩)))) (.head _) (by rw [IntsAre.length hu']; (try simp); omega) (by rw [hI15.length]; omega) ?_
    intro h16 n16 F16 N16
    ktn_open
    rename_i D5 h17 F17 N17 l17
    obtain ⟨F18, N18⟩ := back_one (new := (D5, _) :: (D4, _) :: (D3, _) :: (D2, _) :: (D1, _) :: news) C F17 N17 (List.forall_mem_cons.mpr ⟨neL l17.2.2.2.1, List.forall_mem_cons.mpr ⟨neL (l15 _ (.tail _ (.tail _ (.head _)))), List.forall_mem_cons.mpr ⟨neL (l13 _ (.tail _ (.head _))), hneN _ _⟩⟩⟩)
    exact ret D1 D2 D5 _ _ _ _ _ _ _ F18 (fun p hp => N18 p (by
      rcases List.mem_cons.mp hp with rfl | hp
      · exact .head _
      · exact .tail _ (.tail _ (.tail _ hp)))) (q1 ▸ IntsAre.append hm hI13) (q2 ▸ IntsAre.append hu' hI15)
end
end Mine
end
-- part WY
section
open PySem PySem.W PyProof.Rows PySem.Calls
set_option linter.unusedVariables false
set_option maxRecDepth 100000
set_option maxHeartbeats 4000000
namespace Mine
section
variable {prog : Program} {w : World} {A : Around} {E : Value → Shared → Prop} {s : Shared} {h₀ h : Heap} {L L' : Addr} {m m' : Str → Option Value} {news own : List (Addr × Obj)}
/-- a call of a def without cells; the whole heap is its ground -/
theorem enter_whole {K : Frag} {p : Program} {loose : List Str} {mean : ExcName → Option Value} {mg mb : Str → Option Value}
    {R : Result → Shared → Prop} {nm qual : Str} {params : Arguments} {body : List Stmt} {sc : Scope} {dV kV doc pm cdv ct oc : Value} {an od : Option Addr} {osl : Array (Option Value)} {f : Addr} {args : Args} {binds : List (Str × Value)}
    (F : Fr h₀ L s.heap m) (X₀ : K.In h₀) (T : Top p loose mean mg mb h₀)
    (ho : K.lookup f = some ⟨oc, od, .func (fnOf nm qual params body sc dV kV doc pm an cdv ct), osl⟩) (hcd : codeIn K cdv qual = true) (hroom : A.depth < recursionLimit)
    (hbind : BindsTo s (fnOf nm qual params body sc dV kV doc pm an cdv ct) args binds) (hloc : ∀ y ∈ binds, sc.names.lookup y.1 = some .local)
    (hc : sc.isCoroutine = false) (hg : sc.isGenerator = false) (hk : sc.kind = .function) (hcell : ∀ x ∈ sc.names, x.2 ≠ .cell)
    (h : ∀ L' h₁ tk, Fr s.heap L' h₁ (fun y => binds.reverse.lookup y) → News s.heap L' h₁ [] → K.In s.heap → Top p loose mean mg mb s.heap →
      wpAny (model prog w) (A.deeper (envOf qual sc L' f cdv)) (execs body (envOf qual sc L' f cdv))
        (fun fl s' => R (.ok (.ret (match fl with | .ret v => v | _ => .none))) s')
        (fun e s' => wpAny (model prog w) (A.deeper (envOf qual sc L' f cdv)) (leaving (envOf qual sc L' f cdv) e) (fun _ s'' => R (.error e) s'') (fun e' s'' => R (.error e') s'') s')
        { s with heap := h₁, toks := tk }) : codeAny (model prog w) A (.call (.ref f) args) R s := by
  have KI := X₀.keeps F.keep
  exact codeAny_call_def hroom (KI _ _ ho) rfl (T.nolimit.keeps F.keep) (codeRec_of KI hcd) rfl hbind hcell hloc
    (fun h₁ hns up => h _ h₁ _ ⟨hns, up, Nat.le_refl _⟩ (fun _ q => nomatch q) KI (T.keeps F.keep)) hc hg hk
theorem back_whole (F : Fr h₀ L s.heap m) (N : News h₀ L s.heap news) (F' : Fr s.heap L' h m') (N' : News s.heap L' h own) : Fr h₀ L h m ∧ News h₀ L h (own ++ news) ∧ ∀ q ∈ own, ∀ p ∈ news, q.1 ≠ p.1 := by
  obtain ⟨o, a, b, c, d⟩ := F.ns
  refine ⟨⟨⟨o, a, b, F'.keep _ _ c, d⟩, fun b o e => F'.keep _ _ (F.keep b o e), F.above⟩, fun p hp => ?_, fun q hq p hp e => ?_⟩
  · rcases List.mem_append.mp hp with hp | hp
    · obtain ⟨x1, x2, x3⟩ := N' p hp
      refine ⟨x1, fun e => ?_, ?_⟩
      · rw [e, c] at x3; cases x3
      · cases z : h₀.get? p.1 with
        | none => rfl
        | some o' => have := F.keep _ _ z; rw [x3] at this; cases this
    · obtain ⟨x1, x2, x3⟩ := N p hp
      exact ⟨F'.keep _ _ x1, x2, x3⟩
  · have := (N' q hq).2.2
    rw [e, (N p hp).1] at this
    cases this
end
end Mine
end
-- part WH
section
open PySem PySem.W PyProof.Rows
set_option linter.unusedVariables false
set_option maxRecDepth 100000
set_option maxHeartbeats 4000000
namespace Mine
abbrev tupO (p : Int × Int) (t1 t2 : Tok) (n : Nat) : Obj := { cls := .type "tuple", data := .seq #[.int p.1 t1, .int p.2 t2] n }
noncomputable def TupIn (news : List (Addr × Obj)) (v : Value) (p : Int × Int) : Prop := ∃ a t1 t2 n, v = .ref a ∧ (a, tupO p t1 t2 n) ∈ news
noncomputable def Tups (news : List (Addr × Obj)) : List Value → List (Int × Int) → Prop
  | [], [] => True
  | v :: vs, p :: ps => TupIn news v p ∧ Tups news vs ps
  | _, _ => False
theorem TupIn.mono {n1 n2 : List (Addr × Obj)} {v : Value} {p : Int × Int} (h : TupIn n1 v p) (s : ∀ q ∈ n1, q ∈ n2) : TupIn n2 v p := by
  obtain ⟨a, t1, t2, n, e, hm⟩ := h
  exact ⟨a, t1, t2, n, e, s _ hm⟩
theorem Tups.mono {n1 n2 : List (Addr × Obj)} (s : ∀ q ∈ n1, q ∈ n2) : ∀ {vs : List Value} {ps : List (Int × Int)}, Tups n1 vs ps → Tups n2 vs ps
  | [], [], h => h
  | v :: vs, p :: ps, h => ⟨h.1.mono s, Tups.mono s h.2⟩
  | [], _ :: _, h => h
  | _ :: _, [], h => h
theorem Tups.snoc {nw : List (Addr × Obj)} {v : Value} {p : Int × Int} (h' : TupIn nw v p) : ∀ {vs : List Value} {ps : List (Int × Int)}, Tups nw vs ps → Tups nw (vs ++ [v]) (ps ++ [p])
  | [], [], _ => ⟨h', trivial⟩
  | w :: vs, q :: ps, h => ⟨h.1, Tups.snoc h' h.2⟩
  | [], _ :: _, h => h.elim
  | _ :: _, [], h => h.elim
theorem Tups.length {nw : List (Addr × Obj)} : ∀ {vs : List Value} {ps : List (Int × Int)}, Tups nw vs ps → vs.length = ps.length
  | [], [], _ => rfl
  | v :: vs, p :: ps, h => by rw [List.length_cons, List.length_cons, Tups.length h.2]
  | [], _ :: _, h => h.elim
  | _ :: _, [], h => h.elim
noncomputable def TabIn (nw : List (Addr × Obj)) (v : Value) (ps : List (Int × Int)) : Prop := ∃ a vs n, v = .ref a ∧ (a, listOf vs.toArray n) ∈ nw ∧ Tups nw vs ps
noncomputable def TabsIn (nw : List (Addr × Obj)) : List Value → List (List (Int × Int)) → Prop
  | [], [] => True
  | v :: vs, p :: ps => TabIn nw v p ∧ TabsIn nw vs ps
  | _, _ => False
theorem TabIn.mono {n1 n2 : List (Addr × Obj)} {v : Value} {p : List (Int × Int)} (h : TabIn n1 v p) (s : ∀ q ∈ n1, q ∈ n2) : TabIn n2 v p := by
  obtain ⟨a, vs, n, e, hm, ht⟩ := h
  exact ⟨a, vs, n, e, s _ hm, ht.mono s⟩
noncomputable def c4Z (k : Int) : Int × Int := (65536 * k + 65534, 65536 * k + 65535)
noncomputable def tablesZ : List (List (Int × Int)) := [[(173, 173), (847, 847), (6150, 6150), (6155, 6157), (8203, 8205), (8288, 8288), (65024, 65039), (65279, 65279)], [(32, 32)], (64976, 65007) :: (rangeKs 0 17).map c4Z, [(65529, 65533)], [(12272, 12283)], [(832, 833), (8206, 8207), (8234, 8238), (8298, 8303)], [(917505, 917505), (917536, 917631)]]
section
variable {prog : Program} {w : World} {A : Around} {h₀ : Heap} {L : Addr} {m : Str → Option Value} {env : Env} {elt : PySem.Expr} {x : Str} {scope : Scope} {cl : List (Str × Addr)} {s : Shared} {S : List (Addr × Obj) → Prop} {Fin : List Value → List (Addr × Obj) → Prop} {news : List (Addr × Obj)}
theorem comp_tups {n : Nat} (f : Int → Int × Int)
    (turn : ∀ k t I oI C oC D m₂ ys tl h tk (E' : Value → Shared → Prop), 0 ≤ k → k < (n : Int) → LCg.NsObj oC m₂ → m₂ x = some (.int k t) → Fr h₀ L h m → News h₀ L h ((I, oI) :: (C, oC) :: (D, LCg.lst ys) :: (tl ++ news)) → LCg.Off3 I C D (tl ++ news) → ((@Ne Nat I C) ∧ (@Ne Nat I D) ∧ (@Ne Nat C D)) →
      wpAny (model prog w) A (eval elt (compEnvC scope cl C env)) (LCg.CompEnd h₀ L m { s with heap := h, toks := tk } I oI C oC D (LCg.lst ys) S (fun y nw => ∃ T t1 t2 n, y = .ref T ∧ nw = (T, tupO (f k) t1 t2 n) :: (tl ++ news))) E' { s with heap := h, toks := tk })
    (fin : ∀ ys tl, Tups tl ys ((rangeKs 0 n).map f) → ys.length = n → Fin ys (tl ++ news)) : LCg.CompRest prog w A h₀ L m env elt x scope cl s S (fun i v => ∃ t, v = .int (0 + (i : Int)) t) Fin n 0 [] news := by
  have key : ∀ (j i : Nat) (ys : List Value) (tl : List (Addr × Obj)), i + j = n → Tups tl ys (((rangeKs 0 n).take i).map f) → LCg.CompRest prog w A h₀ L m env elt x scope cl s S (fun i v => ∃ t, v = .int (0 + (i : Int)) t) Fin j i ys (tl ++ news) := by
    intro j
    induction j with
    | zero =>
      intro i ys tl hi hy
      have e : i = (rangeKs 0 n).length := by rw [rangeKs_length]; omega
      subst e
      rw [List.take_length] at hy
      have hl := hy.length
      rw [List.length_map, rangeKs_length] at hl
      exact LCg.CompRest.zero (fin ys tl hy hl)
    | succ j ih =>
      intro i ys tl hi hy
      refine LCg.CompRest.succ ?_
      intro v I oI C oC D m₂ h tk E' hv hC hx F N off ne
      obtain ⟨t, hv'⟩ := hv
      rw [hv'] at hx
      refine wpAny_mono (turn _ t I oI C oC D m₂ ys tl h tk E' (by omega) (by omega) hC hx F N off ne) (fun y s₂ hq => ?_) fun _ _ e => e
      obtain ⟨h', tk', nw, e, F', N', off', hS, T, t1, t2, n9, hy', hn⟩ := hq
      subst hn
      refine ⟨h', tk', _, e, F', N', off', hS, ?_⟩
      rw [hy']
      refine ih (i + 1) _ ((T, tupO (f (0 + (i : Int))) t1 t2 n9) :: tl) (by omega) ?_
      have hk : (rangeKs 0 n)[i]? = some (0 + (i : Int)) := by
        have : i < n := by omega
        simp [rangeKs, this]
      rw [List.take_add_one, hk, Option.toList_some, List.map_append]
      exact Tups.snoc ⟨T, t1, t2, n9, rfl, .head _⟩ (hy.mono fun q hq => .tail _ hq)
  have := key n 0 [] [] (by omega) trivial
  simpa using this
end
theorem tup_end {h₀ h' : Heap} {L I C D T : Addr} {oI oC oD : Obj} {m : Str → Option Value} {s₁ : Shared} {all : List (Addr × Obj)} {x y : Int} {t1 t2 : Tok} {n tk : Nat} {q : Int × Int} (F : Fr h₀ L h' m)
    (N : News h₀ L h' ((T, ({ cls := .type "tuple", data := .seq [Value.int x t1, Value.int y t2].toArray n } : Obj)) :: (I, oI) :: (C, oC) :: (D, oD) :: all)) (l : AllLt T ((I, oI) :: (C, oC) :: (D, oD) :: all)) (off : LCg.Off3 I C D all) (e : (x, y) = q) :
    LCg.CompEnd h₀ L m s₁ I oI C oC D oD (fun _ => True) (fun y nw => ∃ T t1 t2 n, y = .ref T ∧ nw = (T, tupO q t1 t2 n) :: all) (.ref T) { s₁ with heap := h', toks := tk } := by
  subst e
  refine LCg.CompEnd.intro F N ((T, tupO (x, y) t1 t2 n) :: all) (fun p hp => ?_) ⟨⟨Ne.symm (Nat.ne_of_lt l.1), Ne.symm (Nat.ne_of_lt l.2.1), Ne.symm (Nat.ne_of_lt l.2.2.1)⟩, off⟩ trivial ⟨T, t1, t2, n, rfl, rfl⟩
  rcases List.mem_cons.mp hp with rfl | hp
  · exact .tail _ (.head _)
  · rcases List.mem_cons.mp hp with rfl | hp
    · exact .tail _ (.tail _ (.head _))
    · rcases List.mem_cons.mp hp with rfl | hp
      · exact .tail _ (.tail _ (.tail _ (.head _)))
      · rcases List.mem_cons.mp hp with rfl | hp
        · exact .head _
        · exact .tail _ (.tail _ (.tail _ (.tail _ hp)))
theorem all_ne_of {d : Nat} : ∀ {l : List (Addr × Obj)}, AllLt d l → ∀ p ∈ l, (@Ne Nat p.1 d)
  | [], _, _, h => nomatch h
  | q :: r, h, p, hp => by
    rcases List.mem_cons.mp hp with rfl | hp
    · exact Nat.ne_of_lt h.1
    · exact all_ne_of h.2 p hp
theorem mem_app_r {x : Addr × Obj} {as bs : List (Addr × Obj)} (h : List.Mem x bs) : List.Mem x (as ++ bs) := List.mem_append_right as h
local macro_rules | `(tactic| k_mem) => `(tactic| ((first | with_reducible refine mem_app_r ?_ | with_reducible refine List.mem_append_right _ ?_); k_mem))
local macro_rules | `(tactic| ktn_open) => `(tactic| repeat' ((fail_if_success (with_reducible show wpAny _ _ (eval (PySem.Expr.ListComp _ _ _ _) _) _ _ _)); (fail_if_success (with_reducible show LCg.CompSrc _ _ _ _ _ _ _ _ _ _ _ _ _ _)); (first | (k_unfold; (try dsimp only)) | (k_end; wrow_close) | walk1 | (dsimp only; walk1) | (leave1; walk_say "STEP leave1"; try dsimp only))))
section
variable {w : World} {mean : ExcName → Option Value} {mg mb : Str → Option Value} {dp un : Nat} {gd : Option (List Code)} {cn : Str} {cs : Scope} {a : Addr} {ccd : Value} {cl : List (Str × Addr)} {outer : List Env} {A₀ : Around} {base h₀ : Heap} {L : Addr} {m : Str → Option Value} {news : List (Addr × Obj)} {s : Shared} {Q E : Value → Shared → Prop}
theorem tables_spec (F : Fr h₀ L s.heap m) (X : (KF w.params).In h₀) (N : News h₀ L s.heap news)
    (T : Top qv (looseW qv looseN) mean mg mb h₀) (hk : cs.kind = .function) (hd : dp + 4 < recursionLimit) (hu : un + 40 < cLine)
    (ret : ∀ D own vals n h' tk', Fr h₀ L h' m → News h₀ L h' (own ++ news) → (∀ q ∈ own, ∀ p ∈ news, q.1 ≠ p.1) → (D, listOf (List.toArray vals) n) ∈ own → TabsIn own vals tablesZ → Q (.ref D) { s with heap := h', toks := tk' }) :
    wpAny (model PySem.Challenge.rw_mq0100_01.row.prog w) (ktrTop dp un gd cn cs L a ccd cl outer) (call (.ref 124) []) Q E s := by
  revert X
  k_fill
  intro X
  k_with_none
  refine wpAny_call (enter_whole (binds := []) F X T (by k_is) (by k_is) (by ktr_room) (BindsTo.of_eq rfl) (locs rfl) rfl rfl rfl (by decide) ?_)
  intro L' h₁ tk F1 N1 X1 T1
  dsimp only
  ktn_open
  refine LCg.ListComp_U (F₀ := by k_asm) (by rfl) (by decide) (by rfl) (by decide) (by rfl) ?_
  ktn_open
  refine LCg.CompSrc.range (by rfl) (by k_asm) (by k_asm) (by assumption) (by decide) (n := 17) (by decide) (by rw [sizeLine_eq]; decide) ?_
  intro g2
  refine comp_tups c4Z (fun k t I oI C oC D m₂ ys tl h tk E' h0 h1 hC hx F N off ne => ?_) ?_
  · k_steps
    rename_i T9 h9 F9 N9 l9
    exact tup_end F9 N9 l9 off rfl
  · intro ys tl hT hlen
    k_steps
    rename_i F9 N9 o9
    refine kmk_add_lit (its2 := ys.toArray) F9 N9 (News.isList N9 (.tail _ (List.mem_append_right _ (.head _)))) (News.isList N9 (.head _)) rfl ?_ (by rw [sizeLine_eq]; simp [hlen])
    intro D10 h10 F10 N10 l10
    k_steps
    rename_i D11 h11 F11 N11 l11
    obtain ⟨F18, N18, sep⟩ := back_whole F N F11 N11
    refine ret D11 _ (List.cons _ (List.cons _ (List.cons _ (List.cons _ (List.cons _ (List.cons _ (List.cons _ List.nil))))))) 0 _ _ F18 N18 sep (.head _) ?_
    refine ⟨⟨_, [_, _, _, _, _, _, _, _], 0, rfl, by k_mem, ?_⟩, ?_⟩
    · exact ⟨⟨_, _, _, _, rfl, by k_mem⟩, ⟨_, _, _, _, rfl, by k_mem⟩, ⟨_, _, _, _, rfl, by k_mem⟩, ⟨_, _, _, _, rfl, by k_mem⟩, ⟨_, _, _, _, rfl, by k_mem⟩, ⟨_, _, _, _, rfl, by k_mem⟩, ⟨_, _, _, _, rfl, by k_mem⟩, ⟨_, _, _, _, rfl, by k_mem⟩, trivial⟩
    refine ⟨⟨_, [_], 0, rfl, by k_mem, ?_⟩, ?_⟩
    · exact ⟨⟨_, _, _, _, rfl, by k_mem⟩, trivial⟩
    refine ⟨⟨_, List.cons _ ys, 0, rfl, by k_mem, ⟨⟨_, _, _, _, rfl, by k_mem⟩, hT.mono (fun q hq => ?_)⟩⟩, ?_⟩
    · repeat (first | exact List.mem_append_left _ hq | refine List.Mem.tail _ ?_)
    refine ⟨⟨_, [_], 0, rfl, by k_mem, ?_⟩, ?_⟩
    · exact ⟨⟨_, _, _, _, rfl, by k_mem⟩, trivial⟩
    refine ⟨⟨_, [_], 0, rfl, by k_mem, ?_⟩, ?_⟩
    · exact ⟨⟨_, _, _, _, rfl, by k_mem⟩, trivial⟩
    refine ⟨⟨_, [_, _, _, _], 0, rfl, by k_mem, ?_⟩, ?_⟩
    · exact ⟨⟨_, _, _, _, rfl, by k_mem⟩, ⟨_, _, _, _, rfl, by k_mem⟩, ⟨_, _, _, _, rfl, by k_mem⟩, ⟨_, _, _, _, rfl, by k_mem⟩, trivial⟩
    refine ⟨⟨_, [_, _], 0, rfl, by k_mem, ?_⟩, ?_⟩
    · exact ⟨⟨_, _, _, _, rfl, by k_mem⟩, ⟨_, _, _, _, rfl, by k_mem⟩, trivial⟩
    trivial
end
end Mine
end
-- part WI
section
open PySem PySem.W PyProof.Rows PySem.Calls
set_option linter.unusedVariables false
set_option maxRecDepth 100000
set_option maxHeartbeats 4000000
namespace Mine
section
variable {prog : Program} {w : World} {A : Around} {E : Value → Shared → Prop} {s : Shared} {env : Env} {h₀ : Heap} {target : PySem.Expr} {body : List Stmt} {Q : Flow → Shared → Prop}
theorem allObj_mono : ∀ {ws : List (Addr × String)} {k k' : List (Addr × Obj) → Prop}, (∀ its, k its → k' its) → AllObj ws k → AllObj ws k'
  | [], _, _, f, h => f _ h
  | _ :: _, _, _, f, h => fun o e => allObj_mono (fun its x => f _ x) (h o e)
/-- a loop over items by an invariant -/
theorem rest_ind {ws : List (Addr × String)} {keep : List (Addr × Obj)} {xs : List Itm} (J : Nat → (Str → Option Value) → List (Addr × Obj) → Prop)
    (step : ∀ i a m news v h tk, xs[i]? = some a → J i m news → a.Is v h → Fr h₀ env.locals h m → AllObj ws (fun its => News h₀ env.locals h (its ++ news) →
      wpAny (model prog w) A (assign target env v) (fun _ s₂ => wpAny (model prog w) A (execs body env) (UnrPostW h₀ env.locals { s with heap := h, toks := tk } its (fun m' n' => SubL keep n' ∧ J (i + 1) m' n') Q) E s₂) E { s with heap := h, toks := tk }))
    (fin : ∀ m news h tk, J xs.length m news → Fr h₀ env.locals h m → News h₀ env.locals h news → Q .next { s with heap := h, toks := tk })
    {m : Str → Option Value} {news : List (Addr × Obj)} (h0 : J 0 m news) : ItemsRest prog w A E h₀ env target body Q s ws keep xs m news := by
  have key : ∀ (ys : List Itm) (i : Nat) (m : Str → Option Value) (news : List (Addr × Obj)), i + ys.length = xs.length → xs.drop i = ys → J i m news → ItemsRest prog w A E h₀ env target body Q s ws keep ys m news := by
    intro ys
    induction ys with
    | nil =>
      intro i m news hi hd hj
      refine ItemsRest.zero fun h tk F N => ?_
      have e : i = xs.length := by simpa using hi
      subst e
      exact fin m news h tk hj F N
    | cons a ys ih =>
      intro i m news hi hd hj
      have hlt : i < xs.length := by rw [List.length_cons] at hi; omega
      rw [List.drop_eq_getElem_cons hlt] at hd
      injection hd with h1 h2
      intro v h tk hv F
      refine allObj_mono (fun its x N => ?_) (step i a m news v h tk (by rw [List.getElem?_eq_getElem hlt, h1]) hj hv F)
      refine wpAny_mono (x N) (fun _ s₂ y => wpAny_mono y (fun f s₃ z => ?_) fun _ _ e => e) fun _ _ e => e
      cases f with
      | ret v => exact z
      | brk => exact z
      | next =>
        obtain ⟨h', tk', m', n', e, F', N', off, hk, hj'⟩ := z
        exact ⟨h', tk', m', n', e, F', N', off, hk, ih (i + 1) m' n' (by rw [List.length_cons] at hi; omega) h2 hj'⟩
      | cont =>
        obtain ⟨h', tk', m', n', e, F', N', off, hk, hj'⟩ := z
        exact ⟨h', tk', m', n', e, F', N', off, hk, ih (i + 1) m' n' (by rw [List.length_cons] at hi; omega) h2 hj'⟩
  exact key xs 0 m news (by simp) rfl h0
end
section
variable {prog : Program} {w : World} {A : Around} {E : Value → Shared → Prop} {s : Shared} {env : Env} {h₀ : Heap} {x : Str} {body : List Stmt} {Q : Flow → Shared → Prop}
/-- a loop over a range by an invariant -/
theorem range_ind {r : Addr} {a₀ b₀ : Int} {t₀ u₀ v₀ : Tok} {n : Nat} {m₀ : Str → Option Value} {news : List (Addr × Obj)} (J : Nat → (Str → Option Value) → List (Addr × Obj) → Prop)
    (hh : A.handled = none) (hr : IsRange s.heap r a₀ b₀ 1 t₀ u₀ v₀) (hsmall : Builtin.Range.small a₀ b₀ 1 = true) (hsz : Builtin.Range.rangeSize a₀ b₀ 1 = (n : Int)) (F : Fr h₀ env.locals s.heap m₀) (N : News h₀ env.locals s.heap news) (hj : J 0 m₀ news)
    (turn : ∀ i t m₁ nx h tk own, i < n → OwnOff own (nx.map (·.1)) → J i m₁ nx → Fr h₀ env.locals h (fun y => if y = x then some (.int (a₀ + (i : Int)) t) else m₁ y) → News h₀ env.locals h (nx ++ own) →
      wpAny (model prog w) A (execs body env) (InvPostG h₀ env.locals (J (i + 1)) own { s with heap := h, toks := tk } Q) E { s with heap := h, toks := tk })
    (done : ∀ m₁ nx h tk, J n m₁ nx → Fr h₀ env.locals h m₁ → News h₀ env.locals h nx → Q .next { s with heap := h, toks := tk }) :
    wpAny (model prog w) A (pyIter (.ref r)) (fun it s₂ => LoopAtV prog w A h₀ env x body Q E it s₂) E s := by
  refine wpAny_pyIter_range hr hsmall ?_
  have W : Walks prog w A s.heap.objs.size [s.heap.objs.size] [s.heap.objs.size] n (fun i v => i < n ∧ ∃ t, v = .int (a₀ + i * 1) t)
      (fun i h => IsRangeIter h s.heap.objs.size (a₀ + (i : Nat) * 1) ((n : Int) - (i : Nat)) 1) := (Walks.range hh _ a₀ 1 n).bound
  have one : ∀ {b : Addr}, b ∈ [s.heap.objs.size] → b = s.heap.objs.size := fun hb => List.mem_singleton.mp hb
  refine kdr_loop J W (fun _ h => h) (fun _ h => h) ?_ ?_ ?_ ?_ (by show IsRangeIter _ _ _ _ _; rw [hsz]; simpa using Heap.get?_push_size _ rfl) (F.push _) (fun p hp => ⟨Heap.get?_push_of_some _ (N p hp).1, (N p hp).2⟩) hj ?_ ?_
  · intro i h hi b hb
    rw [one hb]
    exact ⟨_, hi⟩
  · intro hm
    exact absurd F.ns.lt (one hm ▸ Nat.lt_irrefl _)
  · intro b hb
    rw [one hb]
    exact next_is_new F
  · intro p hp hI
    exact absurd (Heap.lt_size (N p hp).1) (one hI ▸ Nat.lt_irrefl _)
  · rintro i v m₁ nx h tk own hi ⟨_, t, rfl⟩ hoff hJ F₁ N₁
    rw [show a₀ + (i : Int) * 1 = a₀ + (i : Int) by omega] at F₁
    exact turn i t m₁ nx h tk own hi hoff hJ F₁ N₁
  · exact fun m₁ nx h tk hJ F₁ N₁ => done m₁ nx h tk hJ F₁ N₁
end
theorem enum_inv : ∀ (vs : List Value) (b i : Nat) {a : Itm}, (enumItems b vs)[i]? = some a → ∃ v, vs[i]? = some v ∧ a = .pair (fun t => .int ((b + i : Nat) : Int) t) v
  | [], _, _, _, h => by simp [enumItems] at h
  | v :: vs, b, 0, a, h => ⟨v, rfl, by simpa [enumItems] using h.symm⟩
  | v :: vs, b, i + 1, a, h => by
    obtain ⟨u, h1, h2⟩ := enum_inv vs (b + 1) i (a := a) (by simpa [enumItems] using h)
    exact ⟨u, by simpa using h1, by rw [h2, show b + 1 + i = b + (i + 1) by omega]⟩
theorem TabsIn.get {nw : List (Addr × Obj)} : ∀ {vs : List Value} {ps : List (List (Int × Int))}, TabsIn nw vs ps → ∀ {i : Nat} {v : Value}, vs[i]? = some v → TabIn nw v (ps.getD i [])
  | v :: vs, p :: ps, h, 0, u, e => by
    have e' : v = u := by simpa using e
    exact e' ▸ h.1
  | v :: vs, p :: ps, h, i + 1, u, e => by
    have := TabsIn.get h.2 (i := i) (v := u) (by simpa using e)
    simpa using this
  | [], [], _, i, u, e => by simp at e
  | [], _ :: _, h, _, _, _ => h.elim
  | _ :: _, [], h, _, _, _ => h.elim
theorem TabsIn.length {nw : List (Addr × Obj)} : ∀ {vs : List Value} {ps : List (List (Int × Int))}, TabsIn nw vs ps → vs.length = ps.length
  | [], [], _ => rfl
  | v :: vs, p :: ps, h => by rw [List.length_cons, List.length_cons, TabsIn.length h.2]
  | [], _ :: _, h => h.elim
  | _ :: _, [], h => h.elim
theorem Tups.get {nw : List (Addr × Obj)} : ∀ {vs : List Value} {ps : List (Int × Int)}, Tups nw vs ps → ∀ {i : Nat} {v : Value}, vs[i]? = some v → ∃ p, ps[i]? = some p ∧ TupIn nw v p
  | v :: vs, p :: ps, h, 0, u, e => by
    have e' : v = u := by simpa using e
    exact ⟨p, rfl, e' ▸ h.1⟩
  | v :: vs, p :: ps, h, i + 1, u, e => by
    obtain ⟨q, h1, h2⟩ := Tups.get h.2 (i := i) (v := u) (by simpa using e)
    exact ⟨q, by simpa using h1, h2⟩
  | [], [], _, i, u, e => by simp at e
  | [], _ :: _, h, _, _, _ => h.elim
  | _ :: _, [], h, _, _, _ => h.elim
/-- the names that are not stored are what they were -/
noncomputable def Kept (stored : List Str) (M m : Str → Option Value) : Prop := ∀ z, stored.contains z = false → m z = M z
theorem Kept.fr {h₀ h : Heap} {L : Addr} {stored : List Str} {M m : Str → Option Value} (k : Kept stored M m) (F : Fr h₀ L h m) : Fr h₀ L h (fun z => if stored.contains z then m z else M z) := by
  have e : (fun z => if stored.contains z then m z else M z) = m := by
    funext z
    cases hz : stored.contains z with
    | true => simp
    | false => simp [k z hz]
  rw [e]; exact F
theorem Kept.one {h₀ h : Heap} {L : Addr} {x : Str} {v : Option Value} {M m : Str → Option Value} (k : Kept [x] M m) (F : Fr h₀ L h (fun y => if y = x then v else m y)) : Fr h₀ L h (fun y => if y = x then v else M y) := by
  have e : (fun y => if y = x then v else m y) = fun y => if y = x then v else M y := by
    funext y
    by_cases hy : y = x
    · rw [if_pos hy, if_pos hy]
    · rw [if_neg hy, if_neg hy, k y (by simp [hy])]
  rw [← e]; exact F
noncomputable def msOf (P : Nat → Bool) : List Int := (List.range 16).map fun p => if P p then 1 else 0
theorem msOf_len (P : Nat → Bool) : (msOf P).length = 16 := by simp [msOf]
theorem msOf_congr {P P' : Nat → Bool} (h : ∀ p, p < 16 → P p = P' p) : msOf P = msOf P' := List.map_congr_left fun p hp => by rw [h p (List.mem_range.mp hp)]
theorem msOf_set {P : Nat → Bool} {k : Nat} (hk : k < 16) : (msOf P).set k 1 = msOf (fun p => P p || decide (p = k)) := by
  refine List.ext_getElem (by simp [msOf]) fun i h1 h2 => ?_
  rw [List.getElem_set]
  split
  · rename_i e
    subst e
    simp [msOf]
  · rename_i e
    simp only [msOf, List.getElem_map, List.getElem_range, Bool.or_eq_true, decide_eq_true_eq]
    by_cases hp : P i = true
    · simp [hp]
    · have : i ≠ k := fun q => e q.symm
      simp [hp, this]
noncomputable def hit (left : Int) (p : Nat) (r : Int × Int) : Bool := decide (r.1 ≤ left + p) && decide (left + p ≤ r.2)
noncomputable def outP (left sp : Int) (i : Nat) (p : Nat) : Bool := (List.range i).any fun k => decide ((k : Int) ≠ sp) && (tablesZ.getD k []).any (hit left p)
noncomputable def inP (left sp : Int) (i : Nat) (rs : List (Int × Int)) (p : Nat) : Bool := outP left sp i p || (decide ((i : Int) ≠ sp) && rs.any (hit left p))
theorem outP_succ (left sp : Int) (i p : Nat) : outP left sp (i + 1) p = inP left sp i (tablesZ.getD i []) p := by
  unfold outP inP outP
  rw [List.range_succ, List.any_append]
  simp
theorem inP_nil (left sp : Int) (i p : Nat) : inP left sp i [] p = outP left sp i p := by simp [inP]
theorem inP_snoc (left sp : Int) (i p : Nat) (rs : List (Int × Int)) (r : Int × Int) : inP left sp i (rs ++ [r]) p = (inP left sp i rs p || (decide ((i : Int) ≠ sp) && hit left p r)) := by
  unfold inP
  rw [List.any_append, List.any_cons, List.any_nil, Bool.or_false]
  cases outP left sp i p <;> cases decide ((i : Int) ≠ sp) <;> cases rs.any (hit left p) <;> cases hit left p r <;> rfl
noncomputable def marksF (left sp : Int) : List Int := msOf (outP left sp 7)
theorem msOf_replicate (left sp : Int) : List.replicate 16 (0 : Int) = msOf (outP left sp 0) := by
  refine List.ext_getElem (by simp [msOf]) fun i h1 h2 => ?_
  rw [List.getElem_replicate]
  simp [msOf, outP]
end Mine
end
-- part WJ
section
open PySem PySem.W PyProof.Rows PySem.Calls
set_option linter.unusedVariables false
set_option maxRecDepth 100000
set_option maxHeartbeats 4000000
namespace Mine
local macro_rules | `(tactic| k_mem) => `(tactic| ((first | with_reducible refine mem_app_r ?_ | with_reducible refine List.mem_append_right _ ?_); k_mem))
local macro_rules | `(tactic| ktn_open) => `(tactic| repeat' ((fail_if_success (with_reducible show wpAny _ _ (exec (Stmt.For _ _ _ _ _) _) _ _ _)); (fail_if_success (with_reducible show wpAny _ _ (call (Value.type "enumerate") _) _ _ _)); (fail_if_success (with_reducible show wpAny _ _ (pyIter (Value.ref _)) _ _ _)); (first | (k_unfold; (try dsimp only)) | (k_end; wrow_close) | walk1 | (dsimp only; walk1) | (leave1; walk_say "STEP leave1"; try dsimp only))))
theorem news_front {h₀ h : Heap} {L : Addr} {a b : Addr × Obj} {own : List (Addr × Obj)} (N : News h₀ L h (own ++ [a, b])) : News h₀ L h (a :: own) := fun p hp => N p ((List.mem_cons.mp hp).elim (fun e => e ▸ List.mem_append_right _ (.head _)) fun h => List.mem_append_left _ h)
theorem news_rot {h₀ h : Heap} {L : Addr} {a b c : Addr × Obj} {l : List (Addr × Obj)} (N : News h₀ L h (a :: b :: c :: l)) : News h₀ L h (c :: a :: b :: l) := fun p hp => N p (by
  rcases List.mem_cons.mp hp with rfl | hp
  · exact .tail _ (.tail _ (.head _))
  · rcases List.mem_cons.mp hp with rfl | hp
    · exact .head _
    · rcases List.mem_cons.mp hp with rfl | hp
      · exact .tail _ (.head _)
      · exact .tail _ (.tail _ (.tail _ hp)))
theorem take_snoc {α : Type} {l : List α} {j : Nat} {r : α} (h : l[j]? = some r) : l.take (j + 1) = l.take j ++ [r] := by rw [List.take_add_one, h]; rfl
theorem step_false {left sp : Int} {i j : Nat} {rs : List (Int × Int)} {r : Int × Int} (hr : rs[j]? = some r) (h : ¬ ((i : Int) ≠ sp ∧ r.1 < left + 16 ∧ left ≤ r.2)) : msOf (inP left sp i (rs.take j)) = msOf (inP left sp i (rs.take (j + 1))) := by
  refine msOf_congr fun p hp => ?_
  rw [take_snoc hr, inP_snoc]
  have : (decide ((i : Int) ≠ sp) && hit left p r) = false := by
    rw [Bool.and_eq_false_imp]
    intro h1
    have h1' := of_decide_eq_true h1
    simp only [hit, Bool.and_eq_false_imp, decide_eq_true_eq, decide_eq_false_iff_not]
    intro h2 h3
    exact h ⟨h1', by omega, by omega⟩
  rw [this, Bool.or_false]
theorem step_true {left lo hi : Int} {r : Int × Int} (b1 : 0 ≤ lo) (b2 : lo < 16) (b3 : hi ≤ 16) (b4 : 0 < hi) (b5 : r.1 - left ≤ lo ∧ (lo = 0 ∨ lo = r.1 - left)) (b6 : hi ≤ r.2 - left + 1 ∧ (hi = 16 ∨ hi = r.2 - left + 1)) {p : Nat} (hp : p < 16) :
    (decide (lo ≤ (p : Int)) && decide ((p : Int) < lo + ((hi - lo).toNat : Nat))) = hit left p r := by
  rw [Bool.eq_iff_iff]
  simp only [hit, Bool.and_eq_true, decide_eq_true_eq]
  obtain ⟨b5, b7⟩ := b5
  obtain ⟨b6, b8⟩ := b6
  constructor
  · rintro ⟨h1, h2⟩
    rcases b7 with b7 | b7 <;> rcases b8 with b8 | b8 <;> constructor <;> omega
  · rintro ⟨h1, h2⟩
    rcases b7 with b7 | b7 <;> rcases b8 with b8 | b8 <;> constructor <;> omega
section
variable {w : World} {mean : ExcName → Option Value} {mg mb : Str → Option Value} {dp un : Nat} {gd : Option (List Code)} {cn : Str} {cs : Scope} {a : Addr} {ccd : Value} {cl : List (Str × Addr)} {outer : List Env} {A₀ : Around} {base h₀ : Heap} {L : Addr} {m : Str → Option Value} {news : List (Addr × Obj)} {s : Shared} {Q E : Value → Shared → Prop}
theorem marks_spec {left sp : Int} {t t' : Tok} (hl0 : 0 ≤ left) (hl1 : left < 2000000) (hs0 : 0 ≤ sp) (hs1 : sp < 8) (F : Fr h₀ L s.heap m) (X : (KF w.params).In h₀) (N : News h₀ L s.heap news)
    (T : Top qv (looseW qv looseN) mean mg mb h₀) (hk : cs.kind = .function) (hd : dp + 8 < recursionLimit) (hu : un + 80 < cLine)
    (ret : ∀ D own vm n h' tk', Fr h₀ L h' m → News h₀ L h' (own ++ news) → (∀ q ∈ own, ∀ p ∈ news, q.1 ≠ p.1) → (D, listOf (List.toArray vm) n) ∈ own → IntsAre vm (marksF left sp) → Q (.ref D) { s with heap := h', toks := tk' }) :
    wpAny (model PySem.Challenge.rw_mq0100_01.row.prog w) (ktrTop dp un gd cn cs L a ccd cl outer) (call (.ref 141) [.int left t, .int sp t']) Q E s := by
  revert X
  k_fill
  intro X
  k_with_none
  k_with "call ref" => (refine tables_spec (by k_asm) (by k_asm) (by k_asm) (by k_asm) (by exact rfl) (by ktr_room) (by ktr_units) ?_; intro D9 own9 vals9 n9 h9 tk9 F9 N9 sep9 hD9 hT9)
  refine wpAny_call (enter_whole (binds := [(Str.ofString "left", .int left t), (Str.ofString "spared", .int sp t')]) F X T (by k_is) (by k_is) (by ktr_room) (BindsTo.of_eq rfl) (locs rfl) rfl rfl rfl (by decide) ?_)
  intro L' h₁ tk F1 N1 X1 T1
  dsimp only
  ktn_open
  rename_i lz h2 lz1 D1 h3 i1 nn z1 z2 z3 z4 lz2 h4 F2 N2
  have i2 : IntsAre _ (msOf (outP left sp 0)) := (show _ = msOf (outP left sp 0) from (by decide : (List.replicate (Int.toNat 16) [(0 : Int)]).flatten = List.replicate 16 0).trans (msOf_replicate left sp)) ▸ i1
  refine For_turns F2 ?_
  ktn_open
  have N10 := news_front N9
  have neD : ∀ p ∈ own9, p.1 ≠ D1 := fun p hp => sep9 p hp _ (.head _)
  clear N9 sep9 N2
  refine ktu_enum (lo := listOf vals9.toArray n9) (vs := vals9) (n := n9) rfl F9 N10 (.tail _ hD9) rfl rfl rfl ?_
  intro I hI
  have nI1 : @LT.lt Nat _ D1 I := hI _ (.head _)
  have nI0 : ∀ p ∈ own9, p.1 < I := fun p hp => hI p (.tail _ hp)
  have hlen9 : vals9.length = 7 := hT9.length
  refine rest_ind (fun i m nx => ∃ vm n, nx = (D1, listOf (List.toArray vm) n) :: own9 ∧ Kept [Str.ofString "k", Str.ofString "ranges", Str.ofString "first", Str.ofString "last", Str.ofString "place"] (fun y => if y = Str.ofString "marks" then some (Value.ref D1) else List.lookup y [(Str.ofString "left", Value.int left t), (Str.ofString "spared", Value.int sp t')].reverse) m ∧ IntsAre vm (msOf (outP left sp i))) ?_ ?_ ⟨_, _, rfl, fun _ _ => rfl, i2⟩
  · rintro i a1 m1 nx v h11 tk11 ha ⟨vm, n, rfl, hm, hvm⟩ hv F11
    obtain ⟨v1, hv1, rfl⟩ := enum_inv _ _ _ ha
    rw [Nat.zero_add] at hv
    obtain ⟨T1', t1, rfl, hT1⟩ := hv
    obtain ⟨a2, vs2, n2, rfl, hm2, ht2⟩ := hT9.get hv1
    refine AllObj.cons fun oE hcE => AllObj.cons fun oI hcI => AllObj.nil fun N11 => ?_
    replace N11 : News s.heap L' h11 ((I + 1, oE) :: (I, oI) :: (D1, listOf (List.toArray vm) n) :: own9) := N11
    replace F11 := hm.fr F11
    clear F9 N10 F2
    dsimp only at hT1
    ktn_open
    rename_i h12 F12 N12 h13 h14 F13 N13
    refine For_turns F13 ?_
    ktn_open
    have N14 := news_rot N13
    clear F12 N12 N13 hT1
    refine iter_listTurns (lo := listOf vs2.toArray n2) (vs := vs2) (n := n2) rfl F13 N14 (.tail _ (.tail _ (.tail _ hm2))) rfl rfl ?_
    intro I2 hI2
    refine rest_ind (fun j m nx => ∃ vm n, nx = (D1, listOf (List.toArray vm) n) :: (I + 1, oE) :: (I, oI) :: own9 ∧ Kept [Str.ofString "first", Str.ofString "last", Str.ofString "place"] (fun y => if y = Str.ofString "ranges" then some (Value.ref a2) else if y = Str.ofString "k" then some (Value.int i t1) else if [Str.ofString "k", Str.ofString "ranges", Str.ofString "first", Str.ofString "last", Str.ofString "place"].contains y = true then m1 y else if y = Str.ofString "marks" then some (Value.ref D1) else List.lookup y [(Str.ofString "left", Value.int left t), (Str.ofString "spared", Value.int sp t')].reverse) m ∧ IntsAre vm (msOf (inP left sp i ((tablesZ.getD i []).take j)))) ?_ ?_ ⟨_, _, rfl, fun _ _ => rfl, by rw [List.take_zero, msOf_congr fun p _ => inP_nil left sp i p]; exact hvm⟩
    · have nI2 : @LT.lt Nat _ D1 I2 := hI2 _ (.head _)
      have nI3 : @LT.lt Nat _ (I + 1) I2 := hI2 _ (.tail _ (.head _))
      have nI4 : @LT.lt Nat _ I I2 := hI2 _ (.tail _ (.tail _ (.head _)))
      have nI5 : ∀ p ∈ own9, p.1 < I2 := fun p hp => hI2 p (.tail _ (.tail _ (.tail _ hp)))
      clear hvm hm N14 F13 hI2
      clear vm n
      rintro j b1 m2 nx v h15 tk15 hb ⟨vm, n, rfl, hmm, hvm⟩ hv F15
      obtain ⟨v2, hv2, rfl⟩ : ∃ v2, vs2[j]? = some v2 ∧ Itm.val v2 = b1 := by simpa using hb
      have hv' : v = v2 := hv
      subst hv'
      obtain ⟨r, hr, T2, u1, u2, n3, rfl, hT2⟩ := ht2.get hv2
      refine AllObj.cons fun oJ hcJ => AllObj.nil fun N15 => ?_
      replace N15 : News s.heap L' h15 ((I2, oJ) :: (D1, listOf (List.toArray vm) n) :: (I + 1, oE) :: (I, oI) :: own9) := N15
      replace F15 := hmm.fr F15
      have hTT : IsTup h15 T2 #[.int r.1 u1, .int r.2 u2] := News.isTup N15 (.tail _ (.tail _ (.tail _ (.tail _ hT2))))
      have off2 : ∀ o, ∀ p ∈ (D1, o) :: (I + 1, oE) :: (I, oI) :: own9, ∀ q ∈ [(I2, oJ)], p.1 ≠ q.1 := fun o p hp q hq => by
        rw [List.mem_singleton.mp hq]
        rcases List.mem_cons.mp hp with rfl | hp
        · exact Nat.ne_of_lt nI2
        · rcases List.mem_cons.mp hp with rfl | hp
          · exact Nat.ne_of_lt nI3
          · rcases List.mem_cons.mp hp with rfl | hp
            · exact Nat.ne_of_lt nI4
            · exact Nat.ne_of_lt (nI5 p hp)
      ktn_open
      rotate_left
      iterate 3
        · refine ⟨_, _, _, (D1, listOf (List.toArray vm) n) :: (I + 1, oE) :: (I, oI) :: own9, rfl, by assumption, by assumption, off2 _, And.intro (.tail _ (.tail _ (.tail _ hm2))) trivial, vm, n, rfl, ?_, ?_⟩
          · intro z hz
            simp only [List.contains_cons, List.contains_nil, Bool.or_false, Bool.or_eq_false_iff, beq_eq_false_iff_ne, ne_eq] at hz
            simp [hz]
          · rw [← step_false hr (by omega)]
            exact hvm
      rename_i h16 F16 N16 h17 h18 F17 N17 tkz c1 c2 c3
      refine For_invVF F17 (by rfl) (by rfl) ?_
      ktn_open
      rename_i h20 tk20 tq uq vq Rq Fq Nq kq
      dsimp only at Rq kq
      obtain ⟨lo, elo⟩ : ∃ lo : Int, (if 0 > r.1 - left then 0 else r.1 - left) = lo := ⟨_, rfl⟩
      obtain ⟨hi, ehi⟩ : ∃ hi : Int, (if 16 < r.2 - left + 1 then 16 else r.2 - left + 1) = hi := ⟨_, rfl⟩
      rw [elo, ehi] at Rq
      have b1 : 0 ≤ lo := by split at elo <;> omega
      have b2 : lo < 16 := by split at elo <;> omega
      have b3 : hi ≤ 16 := by split at ehi <;> omega
      have b4 : 0 < hi := by split at ehi <;> omega
      have b5 : r.1 - left ≤ lo ∧ (lo = 0 ∨ lo = r.1 - left) := by split at elo <;> omega
      have b6 : hi ≤ r.2 - left + 1 ∧ (hi = 16 ∨ hi = r.2 - left + 1) := by split at ehi <;> omega
      clear F17
      refine range_ind (n := (hi - lo).toNat) (fun q m nx => ∃ vm, nx = (I2, oJ) :: (D1, listOf (List.toArray vm) n) :: (I + 1, oE) :: (I, oI) :: own9 ∧ Kept [Str.ofString "place"] (fun y =>
          if y = Str.ofString "last" then some (Value.int r.2 u2) else if y = Str.ofString "first" then some (Value.int r.1 u1) else if [Str.ofString "first", Str.ofString "last", Str.ofString "place"].contains y = true then m2 y else if y = Str.ofString "ranges" then some (Value.ref a2) else if y = Str.ofString "k" then some (Value.int i t1) else if [Str.ofString "k", Str.ofString "ranges", Str.ofString "first", Str.ofString "last", Str.ofString "place"].contains y = true then m1 y else if y = Str.ofString "marks" then some (Value.ref D1) else List.lookup y [(Str.ofString "left", Value.int left t), (Str.ofString "spared", Value.int sp t')].reverse) m ∧
          IntsAre vm (msOf fun p => inP left sp i ((tablesZ.getD i []).take j) p || (decide (lo ≤ (p : Int)) && decide ((p : Int) < lo + (q : Nat))))) rfl Rq ?_ (rangeSize_nat _ _) Fq Nq ⟨vm, rfl, fun _ _ => rfl, ?_⟩ ?_ ?_
      · exact small_one (by omega) (by omega) (by omega) (by omega)
      · rw [msOf_congr (P' := inP left sp i ((tablesZ.getD i []).take j))]
        · exact hvm
        · intro p hp
          have : (decide (lo ≤ (p : Int)) && decide ((p : Int) < lo + ((0 : Nat) : Int))) = false := by
            rw [Bool.and_eq_false_imp]; intro h; have := of_decide_eq_true h; exact decide_eq_false (by omega)
          rw [this, Bool.or_false]
      · clear hvm Fq Nq N16 F16
        rintro q tq2 m3 nx h21 tk21 own hq hoff ⟨vm3, rfl, hk3, hv3⟩ F21 N21
        replace F21 := hk3.one F21
        ktn_open
        replace N21 : News s.heap L' h21 ((I2, oJ) :: (D1, listOf (List.toArray vm3) n) :: (I + 1, oE) :: (I, oI) :: (own9 ++ own)) := N21
        refine ksa_set F21 N21 (.tail (Ne.symm (Nat.ne_of_lt nI2)) (.head (List.forall_mem_cons.mpr ⟨Ne.symm (Nat.ne_of_lt (Nat.lt_succ_of_lt nI1)), List.forall_mem_cons.mpr ⟨Ne.symm (Nat.ne_of_lt nI1), fun p hp => ?_⟩⟩))) hv3 (by omega) (by rw [msOf_len]; omega) (by omega) ?_
        · rcases List.mem_append.mp hp with hp | hp
          · exact neD p hp
          · exact hoff p hp D1 (.tail _ (.head _))
        intro h22 F22 N22 hv4 _ _
        ktn_open
        refine InvEndG.intro F22 N22 (nx := (I2, oJ) :: (D1, listOf (List.toArray (vm3.set _ _)) n) :: (I + 1, oE) :: (I, oI) :: own9) ⟨_, rfl, fun z hz => ?_, ?_⟩ hoff (fun p hp => List.mem_append_left own hp) (fun p hp => .tail _ (.tail _ (.tail _ (.tail _ (List.mem_append_right _ hp)))))
        · simp only [List.contains_cons, List.contains_nil, Bool.or_false, beq_eq_false_iff_ne, ne_eq] at hz
          exact if_neg hz
        · rw [msOf_set (by omega)] at hv4
          rw [msOf_congr (P' := fun p => (inP left sp i (List.take j (tablesZ.getD i [])) p || decide (lo ≤ (p : Int)) && decide ((p : Int) < lo + (q : Nat))) || decide (p = (lo + (q : Int)).toNat))]
          · exact hv4
          · intro p hp
            rw [Bool.or_assoc]
            congr 1
            rw [Bool.eq_iff_iff]
            simp only [Bool.or_eq_true, Bool.and_eq_true, decide_eq_true_eq]
            omega
      · rintro m3 nx h21 tk21 ⟨vm3, rfl, hk3, hv3⟩ F21 N21
        ktn_open
        refine ⟨_, _, _, (D1, listOf (List.toArray vm3) n) :: (I + 1, oE) :: (I, oI) :: own9, rfl, F21, N21, off2 _, And.intro (.tail _ (.tail _ (.tail _ hm2))) trivial, vm3, n, rfl, ?_, ?_⟩
        · intro z hz
          simp only [List.contains_cons, List.contains_nil, Bool.or_false, Bool.or_eq_false_iff, beq_eq_false_iff_ne, ne_eq] at hz
          rw [hk3 z (by simp [hz])]
          simp [hz]
        · rw [msOf_congr (P' := fun p => inP left sp i (List.take j (tablesZ.getD i [])) p || (decide (lo ≤ (p : Int)) && decide ((p : Int) < lo + ((hi - lo).toNat : Nat))))]
          · exact hv3
          · intro p hp
            rw [take_snoc hr, inP_snoc, step_true b1 b2 b3 b4 b5 b6 hp, decide_eq_true c1, Bool.true_and]
    · rintro m2 nx h15 tk15 ⟨vm, n, rfl, hmm, hvm⟩ F15 N15
      ktn_open
      refine ⟨_, _, _, (D1, listOf (List.toArray vm) n) :: own9, rfl, F15, news_rot (news_rot N15), fun p hp q hq => ?_, And.intro (.tail _ hD9) trivial, vm, n, rfl, ?_, ?_⟩
      · have hlt : p.1 < I := by
          rcases List.mem_cons.mp hp with rfl | hp
          · exact nI1
          · exact nI0 p hp
        rcases List.mem_cons.mp hq with rfl | hq
        · exact Nat.ne_of_lt (Nat.lt_succ_of_lt hlt)
        · rw [List.mem_singleton.mp hq]
          exact Nat.ne_of_lt hlt
      · intro z hz
        simp only [List.contains_cons, List.contains_nil, Bool.or_false, Bool.or_eq_false_iff, beq_eq_false_iff_ne, ne_eq] at hz
        rw [hmm z (by simp [hz])]
        simp [hz]
      · rw [List.length_map, ht2.length, List.take_length] at hvm
        rw [msOf_congr fun p _ => outP_succ left sp i p]
        exact hvm
  · rintro m1 nx h11 tk11 ⟨vm, n, rfl, hm, hvm⟩ F11 N11
    rw [enumItems_length, hlen9] at hvm
    replace F11 := hm.fr F11
    ktn_open
    obtain ⟨F18, N18, sep⟩ := back_whole F N F11 N11
    exact ret D1 _ vm n _ _ F18 N18 sep (.head _) hvm
end
end Mine
end
-- part WK
section
open PySem PySem.W PyProof.Rows PySem.Calls
set_option linter.unusedVariables false
set_option maxRecDepth 100000
set_option maxHeartbeats 4000000
namespace Mine
section
variable {prog : Program} {w : World} {A : Around} {E : Value → Shared → Prop} {s : Shared} {env : Env} {h₀ : Heap} {x : Str} {px : Pos} {body : List Stmt} {Q : Flow → Shared → Prop}
/-- a loop over a range whose name may be a cell -/
theorem range_turns {r : Addr} {a₀ b₀ : Int} {t₀ u₀ v₀ : Tok} {n : Nat} {m₀ : Str → Option Value} {news : List (Addr × Obj)} (J : Nat → (Str → Option Value) → List (Addr × Obj) → Prop)
    (hh : A.handled = none) (hr : IsRange s.heap r a₀ b₀ 1 t₀ u₀ v₀) (hsmall : Builtin.Range.small a₀ b₀ 1 = true) (hsz : Builtin.Range.rangeSize a₀ b₀ 1 = (n : Int)) (F : Fr h₀ env.locals s.heap m₀) (N : News h₀ env.locals s.heap news) (hj : J 0 m₀ news)
    (turn : ∀ i t m₁ nx h tk own, i < n → OwnOff own (nx.map (·.1)) → J i m₁ nx → Fr h₀ env.locals h m₁ → News h₀ env.locals h (nx ++ own) →
      wpAny (model prog w) A (assign (.Name x px) env (.int (a₀ + (i : Int)) t)) (fun _ s₂ => wpAny (model prog w) A (execs body env) (InvPostG h₀ env.locals (J (i + 1)) own { s with heap := h, toks := tk } Q) E s₂) E { s with heap := h, toks := tk })
    (done : ∀ m₁ nx h tk, J n m₁ nx → Fr h₀ env.locals h m₁ → News h₀ env.locals h nx → Q .next { s with heap := h, toks := tk }) :
    wpAny (model prog w) A (pyIter (.ref r)) (fun it s₂ => TurnsAt prog w A h₀ env (.Name x px) body Q E it s₂) E s := by
  refine wpAny_pyIter_range hr hsmall ?_
  have W : Walks prog w A s.heap.objs.size [s.heap.objs.size] [s.heap.objs.size] n (fun i v => i < n ∧ ∃ t, v = .int (a₀ + i * 1) t)
      (fun i h => IsRangeIter h s.heap.objs.size (a₀ + (i : Nat) * 1) ((n : Int) - (i : Nat)) 1) := (Walks.range hh _ a₀ 1 n).bound
  have one : ∀ {b : Addr}, b ∈ [s.heap.objs.size] → b = s.heap.objs.size := fun hb => List.mem_singleton.mp hb
  have here := fun {b : Addr} (e : b = s.heap.objs.size) => (List.mem_singleton.mpr e : b ∈ [s.heap.objs.size])
  refine ⟨s.heap.objs.size, _, _, n, _, _, _, m₀, news, J, rfl, KTurns.ofWalks W (fun i v s Q E _ q => wpAny_pure q), ?_, ?_, ?_, (by show IsRangeIter _ _ _ _ _; rw [hsz]; simpa using Heap.get?_push_size _ rfl), F.push _, (fun p hp => ⟨Heap.get?_push_of_some _ (N p hp).1, (N p hp).2⟩), hj, ?_, ?_⟩
  · intro hm
    exact absurd F.ns.lt (one hm ▸ Nat.lt_irrefl _)
  · intro b hb
    rw [one hb]
    exact next_is_new F
  · intro p hp hI
    exact absurd (Heap.lt_size (N p hp).1) (one hI ▸ Nat.lt_irrefl _)
  · rintro i v m₁ news₁ h₁ tk₁ own hin ⟨_, t, rfl⟩ hJ hoff hown _ hall hst F₁ N₁
    have hsep : OwnOff own (news₁.map (·.1)) := by
      intro p hp b hb e
      obtain ⟨q, hq, rfl⟩ := List.mem_map.mp hb
      exact hoff q hq (e ▸ hown p hp)
    have N₂ : News h₀ env.locals h₁ (news₁ ++ own) := fun p hp => N₁ p ((List.mem_append.mp hp).elim (fun h => List.mem_append.mpr (.inr h)) fun h => List.mem_append.mpr (.inl h))
    rw [show a₀ + (i : Int) * 1 = a₀ + (i : Int) by omega]
    refine wpAny_mono (turn i t m₁ news₁ h₁ tk₁ own hin hsep hJ F₁ N₂) (fun _ s₂ y => wpAny_mono y (fun f s₃ p => ?_) fun _ _ e => e) fun _ _ e => e
    have fin : InvEndG h₀ env.locals (J (i + 1)) own { s with heap := h₁, toks := tk₁ } s₃ → LoopStepU h₀ env.locals [s.heap.objs.size] own (J (i + 1)) { s with heap := h₁, toks := tk₁ } .next s₃ := by
      rintro ⟨h', tk, m', news', nx, e, F', N', hn, ho, ha, hm⟩
      refine ⟨rfl, h', tk, m', nx, e, F', fun p hp => N' p ((List.mem_append.mp hp).elim (ho p) (hn p)), fun p hp hq => ?_, hm⟩
      have st : IsRangeIter h₁ s.heap.objs.size _ _ 1 := hst
      have st' : ∃ o, h₁.get? s.heap.objs.size = some o := ⟨_, st⟩
      obtain ⟨o, hbo⟩ := st'
      exact ha _ (hall _ (here rfl) (next_is_new F) o hbo) p.1 (List.mem_map.mpr ⟨p, hp, rfl⟩) (one hq).symm
    cases f with
    | ret v => exact .ret p
    | brk => exact .brk p
    | next => exact .next (fin p)
    | cont => exact .cont (fin p)
  · exact fun h' tk m' news' F' N' _ hJ => done m' news' h' tk hJ F' N'
end
end Mine
end
-- part WL
section
open PySem PySem.W PyProof.Rows PySem.Calls
set_option linter.unusedVariables false
set_option maxRecDepth 100000
set_option maxHeartbeats 4000000
namespace Mine
theorem news_neL {news : List (Addr × Obj)} {L' d : Addr} (lt : ∀ p ∈ news, p.1 < L') (h : (L' : Nat) ≤ d) : ∀ p ∈ news, p.1 ≠ d := fun p hp e => by
  have h1 : (p.1 : Nat) < L' := lt p hp
  rw [e] at h1
  exact absurd h1 (Nat.not_lt.mpr h)
local macro_rules | `(tactic| k_mem) => `(tactic| (k_dflt assumption))
local macro_rules | `(tactic| k_all) => `(tactic| exact news_neL (by assumption) (by (try dsimp only); omega))
local macro_rules | `(tactic| ktn_open) => `(tactic| repeat' ((fail_if_success (with_reducible show wpAny _ _ (exec (Stmt.For _ _ _ _ _) _) _ _ _)); (fail_if_success (with_reducible show wpAny _ _ (exec (Stmt.Assign _ (PySem.Expr.ListComp _ _ _ _) _) _) _ _ _)); (fail_if_success (with_reducible show LCt.CompSrcT _ _ _ _ _ _ _ _ _ _ _ _ _ _ _)); (fail_if_success (with_reducible show wpAny _ _ (pyIter (Value.ref _)) _ _ _)); (first | (k_unfold; (try dsimp only)) | (k_end; wrow_close) | walk1 | (dsimp only; walk1) | (leave1; walk_say "STEP leave1"; try dsimp only))))
theorem len16 {prog : Program} {w : World} {A : Around} {E : Value → Shared → Prop} {s : Shared} {h₀ : Heap} {L l : Addr} {nx : List (Addr × Obj)} {vs : List Value} {ms : List Int} {n : Nat} {Q : Value → Shared → Prop} (N : News h₀ L s.heap nx) (hm : (l, listOf vs.toArray n) ∈ nx) (hi : IntsAre vs ms) (hlen : ms.length = 16)
    (h : Q (.int 16 (s.toks + 1)) { s with toks := s.toks + 1 + 1 }) : wpAny (model prog w) A (call (.builtin "len") [.ref l]) Q E s := by
  have e : vs.toArray.size = 16 := by rw [List.size_toArray, hi.length, hlen]
  refine len_list (News.isList N hm) (by rw [e]; decide) ?_
  rw [e]
  exact h
theorem rangeKs_snoc (a : Int) (i : Nat) : rangeKs a (i + 1) = rangeKs a i ++ [a + (i : Int)] := by simp [rangeKs, List.range_succ]
theorem filter_snoc {p : Int → Bool} {a : Int} {i : Nat} : (rangeKs a (i + 1)).filter p = (rangeKs a i).filter p ++ (if p (a + (i : Int)) then [a + (i : Int)] else []) := by
  rw [rangeKs_snoc, List.filter_append, List.filter_cons, List.filter_nil]
theorem oddB_fmod {ms : List Int} {step p : Int} : oddB ms step p = decide (((List.count 1 (List.foldl (oddG ms step p) [] (rangeKs 0 (step + 1 - 0).toNat)) : Nat) : Int).fmod 2 = 1) := by
  unfold oddB oddT
  rw [show step + 1 - 0 = step + 1 by omega, Int.fmod_eq_emod_of_nonneg _ (by decide), Bool.eq_iff_iff]
  simp only [decide_eq_true_eq]
  omega
section
variable {w : World} {mean : ExcName → Option Value} {mg mb : Str → Option Value} {dp un : Nat} {gd : Option (List Code)} {cn : Str} {cs : Scope} {a : Addr} {ccd : Value} {cl : List (Str × Addr)} {outer : List Env} {A₀ : Around} {base h₀ : Heap} {L : Addr} {m : Str → Option Value} {news : List (Addr × Obj)} {s : Shared} {Q E : Value → Shared → Prop}
theorem odd_spec {l : Addr} {n : Nat} {vs : List Value} {ms : List Int} {step : Int} {t : Tok} (hst0 : 0 ≤ step) (hst1 : step < 5) (B : Below A₀ base outer h₀) (F : Fr h₀ L s.heap m) (X : (KF w.params).In h₀) (N : News h₀ L s.heap news)
    (T : Top qv (looseW qv looseN) mean mg mb h₀) (hk : cs.kind = .function) (hl : (l, listOf vs.toArray n) ∈ news) (hi : IntsAre vs ms) (hlen : ms.length = 16) (hd : dp + 8 < recursionLimit) (hu : un + 80 < cLine)
    (ret : ∀ D vf n' h' tk', Fr h₀ L h' m → News h₀ L h' ((D, listOf (List.toArray vf) n') :: news) → IntsAre vf (oddF ms step) → Q (.ref D) { s with heap := h', toks := tk' }) :
    wpAny (model PySem.Challenge.rw_mq0100_01.row.prog w) (ktrTop dp un gd cn cs L a ccd cl outer) (call (.ref 146) [.ref l, .int step t]) Q E s := by
  revert X
  k_fill
  intro X
  k_with_none
  k_with "call builtin:len" => (refine len16 (by k_asm) (by repeat (first | assumption | refine List.Mem.tail _ ?_)) (by assumption) (by assumption) ?_)
  refine wpAny_call (code_defC (binds := [(Str.ofString "marks", .ref l), (Str.ofString "step", .int step t)]) B F X N T rfl rfl hk (by k_is) (by k_is) (by ktr_room) (BindsTo.of_eq rfl) rfl (by decide +kernel) ?_ rfl rfl rfl)
  intro g L' h₁ tk cells FG F1 N1 Y B1 X1 T1 lt
  obtain ⟨o1, o2, o3, rfl, hc1, hc2, hc3⟩ := CellsAre.three Y
  replace F1 : Fr g L' h₁ (fun y => none) := F1
  replace hc1 : o1.data = .cell none := hc1
  replace hc2 : o2.data = .cell (some (.int step t)) := hc2
  replace hc3 : o3.data = .cell (some (.ref l)) := hc3
  replace N1 : News g L' h₁ ((L' + 1 + 1 + 1, o1) :: (L' + 1 + 1, o2) :: (L' + 1, o3) :: news) := N1
  clear Y
  ktn_open
  rename_i D0 h2 l0 h3 F2 N2
  refine For_turns F2 ?_
  ktn_open
  rename_i h4 tk4 tq uq vq Rq Fq Nq kq
  dsimp only at Rq
  refine range_turns (n := (16 + step - 0).toNat) (fun i mm nx => ∃ o vf nf, nx = (D0, listOf (List.toArray vf) nf) :: (L' + 1 + 1 + 1, o) :: (L' + 1 + 1, o2) :: (L' + 1, o3) :: news ∧ (∃ v₀, o.data = .cell v₀) ∧ Kept [Str.ofString "times"] (fun y => if y = Str.ofString "found" then some (.ref D0) else none) mm ∧ IntsAre vf ((rangeKs 0 i).filter (oddB ms step)))
    rfl Rq (small_one (by omega) (by omega) (by omega) (by omega)) (rangeSize_nat _ _) Fq Nq ⟨o1, [], 0, rfl, ⟨_, hc1⟩, fun _ _ => rfl, .nil⟩ ?_ ?_
  · rintro i tq2 m3 nx h5 tk5 own hq hoff ⟨o, vf, nf, rfl, ⟨v₀, hc0⟩, hk3, hv3⟩ F5 N5
    replace F5 : Fr g L' h5 (fun z => if [Str.ofString "times"].contains z then m3 z else if z = Str.ofString "found" then some (.ref D0) else none) := hk3.fr F5
    replace N5 : News g L' h5 ((D0, listOf (List.toArray vf) nf) :: (L' + 1 + 1 + 1, o) :: (L' + 1 + 1, o2) :: (L' + 1, o3) :: (news ++ own)) := N5
    have neP : ∀ p ∈ (L' + 1 + 1, o2) :: (L' + 1, o3) :: (news ++ own), p.1 ≠ L' + 1 + 1 + 1 := fun p hp => by
      rcases List.mem_cons.mp hp with rfl | hp
      · exact Nat.ne_of_lt (Nat.lt_succ_self _)
      · rcases List.mem_cons.mp hp with rfl | hp
        · exact Nat.ne_of_lt (Nat.lt_succ_of_lt (Nat.lt_succ_self _))
        · rcases List.mem_append.mp hp with hp | hp
          · exact Nat.ne_of_lt (Nat.lt_trans (lt p hp) (Nat.lt_succ_of_lt (Nat.lt_succ_of_lt (Nat.lt_succ_self _))))
          · exact hoff p hp _ (.tail _ (.head _))
    refine wpAny_assign_Name (storeX_C F5 N5 rfl (.tail (Ne.symm (Nat.ne_of_lt l0.1)) (.head neP)) hc0 ?_ rfl rfl)
    intro h6 o6 F6 N6 hc6
    clear Fq Nq F5 N5
    ktn_open
    have hl2 : (l, listOf vs.toArray n) ∈ news ++ own := List.mem_append_left _ hl
    refine LCt.Assign_ListComp_T (F₀ := by k_asm) (by rfl) (by with_unfolding_all rfl) (by with_unfolding_all rfl) (by decide) (by rfl) (by decide) (by rfl) (by rfl) (by rfl) ?_
    ktn_open
    refine LCt.CompSrcT.range (by rfl) (by k_asm) (by k_asm) (by assumption) (small_one (by omega) (by omega) (by omega) (by omega)) (n := (step + 1 - 0).toNat) (rangeSize_nat _ _) (by rw [sizeLine_eq]; omega) ?_
    intro g4
    refine kci_range (oddG ms step (0 + (i : Int))) (fun k t I oI C oC D m₂ ys l' h tk E' hlo hhi hy hC hx F N off ne mk => ?_) ?_ ?_
    · k_steps
      · refine LCg.CompEnd.intro F N _ (fun p hp => hp) off trivial ⟨rfl, _, _, rfl, ?_⟩
        unfold oddG
        rw [if_pos ⟨by assumption, by omega, by omega⟩]
      all_goals (refine LCg.CompEnd.intro F N _ (fun p hp => hp) off trivial ⟨rfl, ?_⟩)
      all_goals (unfold oddG; rw [if_neg (by rintro ⟨x1, x2, x3⟩; first | omega | exact absurd x1 (by assumption))])
    · unfold KPfDone
      intro ys hys hlen'
      have hvl : vf.length ≤ i := by rw [hv3.length]; exact Nat.le_trans (List.length_filter_le _ _) (Nat.le_of_eq (rangeKs_length _ _))
      k_steps
      · rename_i D7 h7 tk7 F7 N7 off7 c7
        refine append_K F7 N7 (.tail (Ne.symm off7.1) (.head (List.forall_mem_cons.mpr ⟨Nat.ne_of_lt l0.1, List.forall_mem_cons.mpr ⟨Nat.ne_of_lt l0.2.1, List.forall_mem_cons.mpr ⟨Nat.ne_of_lt l0.2.2.1, fun p hp => ?_⟩⟩⟩))) ?_ (by rw [sizeLine_eq]; simp; omega)
        · rcases List.mem_append.mp hp with hp | hp
          · exact Nat.ne_of_lt (ktn_ltOf l0.2.2.2 p hp)
          · exact hoff p hp D0 (.head _)
        intro h8 F8 N8
        rw [List.push_toArray] at N8
        ktn_open
        refine InvEndG.intro F8 N8 (nx := (D0, listOf (List.toArray (vf ++ [Value.int (0 + (i : Int)) tq2])) (nf + 1)) :: (L' + 1 + 1 + 1, o6) :: (L' + 1 + 1, o2) :: (L' + 1, o3) :: news) ⟨o6, _, _, rfl, ⟨_, hc6⟩, fun z hz => ?_, ?_⟩ hoff (fun p hp => .tail _ (List.mem_append_left own hp)) (fun p hp => .tail _ (.tail _ (.tail _ (.tail _ (.tail _ (List.mem_append_right _ hp))))))
        · simp only [List.contains_cons, List.contains_nil, Bool.or_false, beq_eq_false_iff_ne, ne_eq] at hz
          simp [hz]
        · rw [filter_snoc, oddB_fmod, if_pos (decide_eq_true c7)]
          exact IntsAre.append hv3 (.cons _ _ .nil)
      · rename_i D7 h7 tk7 F8 N8 off7 c7
        refine InvEndG.intro F8 N8 (nx := (D0, listOf (List.toArray vf) nf) :: (L' + 1 + 1 + 1, o6) :: (L' + 1 + 1, o2) :: (L' + 1, o3) :: news) ⟨o6, _, _, rfl, ⟨_, hc6⟩, fun z hz => ?_, ?_⟩ hoff (fun p hp => .tail _ (List.mem_append_left own hp)) (fun p hp => .tail _ (.tail _ (.tail _ (.tail _ (.tail _ (List.mem_append_right _ hp))))))
        · simp only [List.contains_cons, List.contains_nil, Bool.or_false, beq_eq_false_iff_ne, ne_eq] at hz
          simp [hz]
        · rw [filter_snoc, oddB_fmod, if_neg (by simpa using c7), List.append_nil]
          exact hv3
    · intro l k
      unfold oddG
      split
      · simp
      · omega
  · rintro m3 nx h5 tk5 ⟨o, vf, nf, rfl, hc0, hk3, hv3⟩ F5 N5
    replace F5 : Fr g L' h5 (fun z => if [Str.ofString "times"].contains z then m3 z else if z = Str.ofString "found" then some (.ref D0) else none) := hk3.fr F5
    ktn_open
    rename_i kF kN _ _
    exact ret D0 vf nf _ _ kF (cb_drop kN fun p hp => (List.mem_cons.mp hp).elim (fun e => e ▸ .head _) fun h => .tail _ (.tail _ (.tail _ (.tail _ h)))) (by unfold oddF; rw [hlen]; simpa using hv3)
end
end Mine
end
-- part WN
section
open PySem PySem.W PyProof.Rows PySem.Calls
set_option linter.unusedVariables false
set_option maxRecDepth 100000
set_option maxHeartbeats 4000000
namespace Mine
theorem ints_kf : ∀ {vs : List Value} {ns : List Int}, IntsAre vs ns → kf_ints vs = true
  | _, _, .nil => rfl
  | _, _, .cons n t h => by
    have q := ints_kf h
    exact q
theorem ints_any {k : Int} {vs : List Value} {ns : List Int} (h : IntsAre vs ns) : vs.any (isInt k) = decide (k ∈ ns) := by
  rw [any_isInt k h, Bool.eq_iff_iff, List.any_eq_true, decide_eq_true_eq]
  constructor
  · rintro ⟨x, hx, e⟩
    exact eq_of_beq e ▸ hx
  · exact fun h => ⟨k, h, beq_self_eq_true k⟩
theorem notin_ints {prog : Program} {w : World} {A : Around} {E : Value → Shared → Prop} {s : Shared} {h₀ : Heap} {L D : Addr} {news : List (Addr × Obj)} {vs : List Value} {ns : List Int} {n : Nat} {k : Int} {t : Tok} {Q : Value → Shared → Prop}
    (N : News h₀ L s.heap news) (hm : (D, listOf vs.toArray n) ∈ news) (hi : IntsAre vs ns) (h : Q (.bool (!decide (k ∈ ns))) s) : wpAny (model prog w) A (compareOp .NotIn (.int k t) (.ref D)) Q E s :=
  kf_notin N hm (by simpa using ints_kf hi) (by show (!vs.toArray.toList.any (isInt k)) = _; rw [show vs.toArray.toList = vs from by simp, ints_any hi]) h
theorem fold_filter (p : Int → Bool) (ns l : List Int) : ns.foldl (fun l k => if p k = true then l ++ [k] else l) l = l ++ ns.filter p := by
  induction ns generalizing l with
  | nil => simp
  | cons n ns ih =>
    rw [List.foldl_cons, ih, List.filter_cons]
    split <;> simp
theorem fold_filter1 (p : Int → Bool) (ns l : List Int) : ns.foldl (fun l k => if p k = true then l ++ [k + 1] else l) l = l ++ (ns.filter p).map (· + 1) := by
  induction ns generalizing l with
  | nil => simp
  | cons n ns ih =>
    rw [List.foldl_cons, ih, List.filter_cons]
    split <;> simp
theorem spots_bounds : ∀ i : Fin 35, 32 ≤ spots.getD i.1 0 ∧ spots.getD i.1 0 ≤ 1114111 := by decide +kernel
theorem leftF_bounds {v : Int} (h0 : 0 ≤ v) : 17 ≤ leftF v ∧ leftF v ≤ 1114111 := by
  unfold leftF
  have h1 : 0 ≤ v.fmod 35 := Int.fmod_nonneg h0 (by decide)
  have h2 : v.fmod 35 < 35 := Int.fmod_lt_of_pos _ (by decide)
  have h3 : 0 ≤ (v.fdiv 35).fmod 16 := Int.fmod_nonneg (Int.fdiv_nonneg h0 (by decide)) (by decide)
  have h4 : (v.fdiv 35).fmod 16 < 16 := Int.fmod_lt_of_pos _ (by decide)
  have h5 := spots_bounds ⟨(v.fmod 35).toNat, by omega⟩
  dsimp only at h5
  omega
theorem said_any (x : Nat) (sp : Int) : saidB x sp = (List.range 7).any fun k => decide ((k : Int) ≠ sp) && (saidL x).getD k false := by
  unfold saidB
  have e : ∀ (ks : List Int) (l : List Int), decide (ks.foldl (saidG x sp) l = []) = (decide (l = []) && ks.all fun k => !(decide (k ≠ sp) && (saidL x).getD k.toNat false)) := by
    intro ks
    induction ks with
    | nil => intro l; rw [List.all_nil, Bool.and_true]; exact decide_eq_decide.mpr Iff.rfl
    | cons k ks ih =>
      intro l
      rw [List.foldl_cons, ih, List.all_cons]
      unfold saidG
      by_cases h : k ≠ sp ∧ (saidL x).getD k.toNat false = true
      · rw [if_pos h]
        have : (decide (k ≠ sp) && (saidL x).getD k.toNat false) = true := by rw [decide_eq_true h.1, h.2]; rfl
        rw [this]
        simp
      · rw [if_neg h]
        have : (decide (k ≠ sp) && (saidL x).getD k.toNat false) = false := by
          by_cases h1 : k ≠ sp
          · rw [decide_eq_true h1, Bool.true_and]
            cases h2 : (saidL x).getD k.toNat false with
            | false => rfl
            | true => exact absurd ⟨h1, h2⟩ h
          · rw [decide_eq_false h1, Bool.false_and]
        rw [this]
        simp
  rw [e, show rangeKs 0 7 = (List.range 7).map (fun k : Nat => (k : Int)) from by decide]
  rw [List.all_map, Bool.not_and, decide_eq_true (rfl : ([] : List Int) = [])]
  simp only [Bool.not_true, Bool.false_or]
  rw [List.not_all_eq_any_not]
  simp [Function.comp]
theorem tabs_hit : ∀ k : Fin 7, tablesZ.getD k.1 [] = ([tab0, tab1, tab2, tab3, tab4, tab5, tab6].getD k.1 []).map fun r => ((r.1 : Int), (r.2 : Int)) := by decide +kernel
theorem saidL_get (x k : Nat) (h : k < 7) : (saidL x).getD k false = inT ([tab0, tab1, tab2, tab3, tab4, tab5, tab6].getD k []) x := by
  have : k = 0 ∨ k = 1 ∨ k = 2 ∨ k = 3 ∨ k = 4 ∨ k = 5 ∨ k = 6 := by omega
  rcases this with rfl | rfl | rfl | rfl | rfl | rfl | rfl <;> rfl
theorem said_hit (left sp : Int) (h : 0 ≤ left) (p : Nat) : outP left sp 7 p = saidB (left + p).toNat sp := by
  rw [said_any]
  unfold outP
  rw [Bool.eq_iff_iff]
  simp only [List.any_eq_true, List.mem_range, Bool.and_eq_true, decide_eq_true_eq]
  have key : ∀ k, k < 7 → ((tablesZ.getD k []).any (hit left p) = (saidL (left + p).toNat).getD k false) := by
    intro k hk
    rw [saidL_get _ _ hk, tabs_hit ⟨k, hk⟩, List.any_map]
    unfold inT
    congr 1
    funext r
    simp only [Function.comp, hit]
    congr 1
    · exact decide_eq_decide.mpr (by omega)
    · exact decide_eq_decide.mpr (by omega)
  constructor
  · rintro ⟨k, hk, h1, h2⟩
    refine ⟨k, hk, h1, ?_⟩
    rw [← key k hk]
    simpa using h2
  · rintro ⟨k, hk, h1, h2⟩
    refine ⟨k, hk, h1, ?_⟩
    rw [← key k hk] at h2
    simpa using h2
theorem top_said : ∀ k : Fin 7, ([tab0, tab1, tab2, tab3, tab4, tab5, tab6].getD k.1 []).all (fun r => decide (r.2 < 1114112)) = true := by decide +kernel
theorem said_top {x : Nat} {sp : Int} (h : saidB x sp = true) : x < 1114112 := by
  rw [said_any, List.any_eq_true] at h
  obtain ⟨k, hk, h⟩ := h
  have hk' : k < 7 := List.mem_range.mp hk
  simp only [Bool.and_eq_true] at h
  have h2 := h.2
  rw [saidL_get _ _ hk'] at h2
  obtain ⟨r, hr, h3⟩ := List.any_eq_true.mp h2
  have h4 := List.all_eq_true.mp (top_said ⟨k, hk'⟩) r hr
  simp only [Bool.and_eq_true, decide_eq_true_eq] at h3 h4
  omega
/-- the row at the start -/
theorem held_row {left sp : Int} (h0 : 0 ≤ left) (n : Nat) (hn : n = (min (left + 16) 1114112 - left).toNat) : (rangeKs left n).filter (fun k => saidB k.toNat sp) = dueF (marksF left sp) left 0 := by
  refine strict_ext ((rangeKs_lt _ _).filter _) (dueF_lt _ _ _) fun z => ?_
  rw [List.mem_filter, rangeKs_mem, dueF_mem (by omega) (by omega), odd0]
  simp only [mk, decide_eq_true_eq]
  have hl : (marksF left sp).length = 16 := msOf_len _
  have hg : ∀ p : Nat, p < 16 → ((marksF left sp).getD p 0 = 1 ↔ saidB (left + p).toNat sp = true) := by
    intro p hp
    unfold marksF msOf
    rw [List.getD_eq_getElem?_getD, List.getElem?_map, List.getElem?_range hp]
    simp only [Option.map_some, Option.getD_some]
    rw [said_hit left sp h0 p]
    split <;> simp_all
  rw [hl]
  constructor
  · rintro ⟨⟨h1, h2⟩, h3⟩
    have hz : (z - left).toNat < 16 := by omega
    refine ⟨by omega, by omega, ?_⟩
    rw [hg _ hz, show left + ((z - left).toNat : Nat) = z by omega]
    exact h3
  · rintro ⟨h1, h2, h3⟩
    have hz : (z - left).toNat < 16 := by omega
    rw [hg _ hz, show left + ((z - left).toNat : Nat) = z by omega] at h3
    have := said_top h3
    exact ⟨⟨by omega, by omega⟩, h3⟩
end Mine
end
-- part WO
section
open PySem PySem.W PyProof.Rows PySem.Calls
set_option linter.unusedVariables false
set_option maxRecDepth 100000
set_option maxHeartbeats 4000000
namespace Mine
local macro_rules | `(tactic| k_mem) => `(tactic| (k_dflt assumption))
local macro_rules | `(tactic| k_mem) => `(tactic| ((first | with_reducible refine mem_app_r ?_ | with_reducible refine List.mem_append_right _ ?_); k_mem))
local macro_rules | `(tactic| ktn_open) => `(tactic| repeat' ((fail_if_success (with_reducible show wpAny _ _ (exec (Stmt.For _ _ _ _ _) _) _ _ _)); (fail_if_success (with_reducible show wpAny _ _ (eval (PySem.Expr.ListComp _ _ _ _) _) _ _ _)); (fail_if_success (with_reducible show LCt.CompSrcT _ _ _ _ _ _ _ _ _ _ _ _ _ _ _)); (fail_if_success (with_reducible show wpAny _ _ (pyIter (Value.ref _)) _ _ _)); (fail_if_success (with_reducible show wpAny _ _ (call (Value.ref _) _) _ _ _)); (fail_if_success (with_reducible show wpAny _ _ (compareOp CmpOp.NotIn _ _) _ _ _)); (fail_if_success (with_reducible show wpAny _ _ (call (Value.builtin "sorted") _) _ _ _)); (fail_if_success (with_reducible show wpAny _ _ (execs (Stmt.Assign [PySem.Expr.Tuple [PySem.Expr.Name (Str.ofString "begins") _, _] _ _] _ _ :: _) _) _ _ _)); (first | (k_unfold; (try dsimp only)) | (k_end; wrow_close) | walk1 | (dsimp only; walk1) | (leave1; walk_say "STEP leave1"; try dsimp only))))
theorem law_drop {h₀ h : Heap} {L : Addr} {a b : Addr × Obj} {l : List (Addr × Obj)} (N : News h₀ L h (a :: b :: l)) : News h₀ L h (a :: l) := fun p hp => N p ((List.mem_cons.mp hp).elim (fun e => e ▸ .head _) fun h => .tail _ (.tail _ h))
theorem law_tail {h₀ h : Heap} {L : Addr} {a : Addr × Obj} {l : List (Addr × Obj)} (N : News h₀ L h (a :: l)) : News h₀ L h l := fun p hp => N p (.tail _ hp)
theorem last_up {xs : List Int} {c : Int} (hc : c ≠ 0) : xs.map (· + c) ≠ [] → (xs.map (· + c)).getLast? ≠ xs.getLast? := by
  intro h e
  rw [List.getLast?_map] at e
  cases hx : xs.getLast? with
  | none => rw [List.getLast?_eq_none_iff] at hx; rw [hx] at h; exact h rfl
  | some z =>
    rw [hx] at e
    have e' : z + c = z := Option.some.inj e
    omega
theorem last_down {xs : List Int} {c : Int} (hc : c ≠ 0) : xs ≠ [] → xs.getLast? ≠ (xs.map (· + c)).getLast? := by
  intro h e
  exact last_up hc (by simpa using h) e.symm
theorem sld_len1 {xs ys : List Int} (hx : xs.Pairwise (· < ·)) (hy : ys.Pairwise (· < ·)) : (sldP xs ys).1.length ≤ xs.length := by
  rw [sldP_eq _ _ hx hy]; exact List.length_filter_le _ _
theorem sld_len2 {xs ys : List Int} (hx : xs.Pairwise (· < ·)) (hy : ys.Pairwise (· < ·)) : (sldP xs ys).2.length ≤ ys.length := by
  rw [sldP_eq _ _ hx hy]; exact List.length_filter_le _ _
theorem law_frame0 {h₀ h : Heap} {L R HD MK : Addr} {left : Int} {t2 : Tok} {m : Str → Option Value} (h1 : m (Str.ofString "row") = some (.ref R)) (h2 : m (Str.ofString "held") = some (.ref HD)) (h3 : m (Str.ofString "marks") = some (.ref MK)) (h4 : m (Str.ofString "left") = some (.int left t2))
    (F : Fr h₀ L h m) : Fr h₀ L h (fun y => if y = Str.ofString "row" then some (.ref R) else if y = Str.ofString "held" then some (.ref HD) else if y = Str.ofString "marks" then some (.ref MK) else if y = Str.ofString "left" then some (.int left t2) else m y) := by
  have e : (fun y => if y = Str.ofString "row" then some (.ref R) else if y = Str.ofString "held" then some (.ref HD) else if y = Str.ofString "marks" then some (.ref MK) else if y = Str.ofString "left" then some (.int left t2) else m y) = m := by
    funext y
    by_cases e1 : y = Str.ofString "row"
    · rw [if_pos e1, e1, h1]
    · rw [if_neg e1]
      by_cases e2 : y = Str.ofString "held"
      · rw [if_pos e2, e2, h2]
      · rw [if_neg e2]
        by_cases e3 : y = Str.ofString "marks"
        · rw [if_pos e3, e3, h3]
        · rw [if_neg e3]
          by_cases e4 : y = Str.ofString "left"
          · rw [if_pos e4, e4, h4]
          · rw [if_neg e4]
  rw [e]
  exact F
noncomputable def lawB : List Stmt := fnB PySem.Challenge.pw_mq0100_01 22
noncomputable def lawS : Scope := fnS PySem.Challenge.pw_mq0100_01 22
noncomputable def loopB : List Stmt := match lawB[5]? with | some (Stmt.For _ _ b _ _) => b | _ => []
section
variable {DU : Addr} {vdu : List Value} {ndu : Nat} {w : World} {mean : ExcName → Option Value} {mg mb : Str → Option Value} {H : Heap} {L fa HD R MK : Addr} {cd : Value} {odu osp : Obj} {tl : List (Addr × Obj)} {ysh vr vm : List Value} {nr nm : Nat} {ms : List Int} {left : Int} {t2 t3 : Tok} {m1 : Str → Option Value} {i : Nat} {s : Shared} {Q : Flow → Shared → Prop} {E : Value → Shared → Prop} {v₀ : Option Value}
theorem law_half (K0 : Below callerA H [] H) (KX : (KF w.params).In H) (T0 : Top qv (looseW qv looseN) mean mg mb H)
    (F20 : Fr H L s.heap (fun y => if y = Str.ofString "row" then some (.ref R) else if y = Str.ofString "held" then some (.ref HD) else if y = Str.ofString "marks" then some (.ref MK) else if y = Str.ofString "left" then some (.int left t2) else m1 y))
    (N20 : News H L s.heap ((DU, listOf (List.toArray vdu) ndu) :: (R, listOf (List.toArray vr) nr) :: (HD, LCg.lst ysh) :: (L + 1 + 1, odu) :: (L + 1, osp) :: tl))
    (hms : ms.length = 16) (hdue : IntsAre vdu (dueF ms left i)) (hvr : IntsAre vr (dueF ms left i)) (hi5 : i < 5)
    (hdu : odu.data = .cell (some (.ref DU)))
    (ret : ∀ R' vr' nr' odu' v' h' tk m', Fr H L h' m' → News H L h' ((R', listOf (List.toArray vr') nr') :: (HD, LCg.lst ysh) :: (L + 1 + 1, odu') :: (L + 1, osp) :: tl) → odu'.data = .cell v' → R' ≠ L + 1 + 1 → (∀ p ∈ tl, p.1 ≠ R') →
      m' (Str.ofString "row") = some (.ref R') → m' (Str.ofString "held") = some (.ref HD) → m' (Str.ofString "marks") = some (.ref MK) → m' (Str.ofString "left") = some (.int left t2) → (i + 1 < 5 → IntsAre vr' (dueF ms left (i + 1 : Nat))) → Q .next { s with heap := h', toks := tk }) :
    wpAny (model PySem.Challenge.rw_mq0100_01.row.prog w) (callerA.deeper (envOfC (Str.ofString "law") lawS L fa cd)) (execs (loopB.drop 2) (envOfC (Str.ofString "law") lawS L fa cd)) Q E s := by
  revert KX
  k_fill
  intro KX
  k_with_none
  conv =>
    arg 3
    arg 1
    whnf
  conv =>
    arg 3
    arg 2
    arg 2
    whnf
  conv =>
    arg 2
    arg 2
    arg 2
    whnf
  refine wpAny_execs_cons ?_
  ktn_open
  have hl := dueF_len ms left i
  rw [hms] at hl
  refine moved_spec K0 F20 (by k_asm) N20 T0 (by exact rfl) (.tail _ (.head _)) hvr (by omega) (by ktr_room) (by ktr_units) ?_
  intro MV vmv nmv h28 tk28 F28 N28 off28 hmv
  ktn_open
  refine sld_spec K0 F28 (by k_asm) N28 T0 (by exact rfl) (.tail _ (.tail _ (.head _))) (.head _) hvr hmv (by omega) (by rw [List.length_map]; omega) (dueF_lt _ _ _) (map_lt (dueF_lt _ _ _)) (last_down (by decide)) (by ktr_room) (by ktr_units) ?_
  intro BG EN TT vbg nbg ven nen ntt h29 tk29 F29 N29 hbg hen
  have hb1 := sld_len1 (dueF_lt ms left i) (map_lt (d := 1) (dueF_lt ms left i))
  have hb2 := sld_len2 (dueF_lt ms left i) (map_lt (d := 1) (dueF_lt ms left i))
  rw [List.length_map] at hb2
  rw [begins_row (dueF_lt _ _ _)] at hbg hb1
  rw [ends_row (dueF_lt _ _ _)] at hen hb2
  obtain ⟨BL, hBL⟩ : ∃ BL, (dueF ms left i).filter (fun c => decide (c - 1 ∉ dueF ms left i)) = BL := ⟨_, rfl⟩
  obtain ⟨EL, hEL⟩ : ∃ EL, ((dueF ms left i).filter (fun c => decide (c + 1 ∉ dueF ms left i))).map (· + 1) = EL := ⟨_, rfl⟩
  rw [hBL] at hbg hb1
  rw [hEL] at hen hb2
  have hc1 : BL.length ≤ 20 := by omega
  have hc2 : EL.length ≤ 20 := by omega
  clear hb1 hb2
  clear F28 N28 off28 hmv
  ktn_open
  refine LCt.ListComp_T (F₀ := by k_asm) (by with_unfolding_all rfl) (by decide) (by rfl) (by decide) (by rfl) ?_
  ktn_open
  rename_i F30 N30
  refine LCt.CompSrcT.ledger (by rfl) F30 N30 (.tail _ (.tail _ (.tail _ (.tail _ (.head _))))) (by rw [sizeLine_eq, List.size_toArray, hdue.length]; omega) ?_
  intro g31
  refine kci_list (fun l k => if (decide (k - 1 ∉ dueF ms left i)) = true then l ++ [k] else l) hdue (fun k t I oI C oC D m₂ ys l' h tk E' hkm hy hC hx F N off ne mk => ?_) ?_ ?_
  · ktn_open
    refine notin_ints N (by repeat (first | exact List.Mem.head _ | refine List.Mem.tail _ ?_)) hdue ?_
    ktn_open
    · rename_i hin
      refine LCg.CompEnd.intro F N _ (fun p hp => hp) off (Or.inr ⟨_, by repeat (first | exact List.Mem.head _ | refine List.Mem.tail _ ?_), rfl, _, rfl⟩) ⟨rfl, ?_⟩
      rw [if_neg (by simpa using hin)]
    · rename_i hin
      refine LCg.CompEnd.intro F N _ (fun p hp => hp) off (Or.inr ⟨_, by repeat (first | exact List.Mem.head _ | refine List.Mem.tail _ ?_), rfl, _, rfl⟩) ⟨rfl, _, _, rfl, ?_⟩
      rw [if_pos (by simpa using hin)]
  · unfold KPfDone
    intro ysb hysb hlenb
    have efb := fold_filter (fun k => decide (k - 1 ∉ dueF ms left i)) (dueF ms left i) []
    rw [efb, List.nil_append, hBL] at hysb
    clear efb hlenb
    ktn_open
    refine LCt.ListComp_T (F₀ := by k_asm) (by with_unfolding_all rfl) (by decide) (by rfl) (by decide) (by rfl) ?_
    ktn_open
    rename_i F40 N40 off40
    have N41 := law_tail N40
    refine LCt.CompSrcT.ledger (by rfl) F40 N41 (.tail _ (.tail _ (.tail _ (.tail _ (.head _))))) (by rw [sizeLine_eq, List.size_toArray, hdue.length]; omega) ?_
    intro g41
    refine kci_list (fun l k => if (decide (k + 1 ∉ dueF ms left i)) = true then l ++ [k + 1] else l) hdue (fun k t I oI C oC D m₂ ys l' h tk E' hkm hy hC hx F N off ne mk => ?_) ?_ ?_
    · ktn_open
      refine notin_ints N (by repeat (first | exact List.Mem.head _ | refine List.Mem.tail _ ?_)) hdue ?_
      ktn_open
      · rename_i hin
        refine LCg.CompEnd.intro F N _ (fun p hp => hp) off (Or.inr ⟨_, by repeat (first | exact List.Mem.head _ | refine List.Mem.tail _ ?_), rfl, _, rfl⟩) ⟨rfl, ?_⟩
        rw [if_neg (by simpa using hin)]
      · rename_i hin
        refine LCg.CompEnd.intro F N _ (fun p hp => hp) off (Or.inr ⟨_, by repeat (first | exact List.Mem.head _ | refine List.Mem.tail _ ?_), rfl, _, rfl⟩) ⟨rfl, _, _, rfl, ?_⟩
        rw [if_pos (by simpa using hin)]
    · unfold KPfDone
      intro yse hyse hlene
      have efe := fold_filter1 (fun k => decide (k + 1 ∉ dueF ms left i)) (dueF ms left i) []
      rw [efe, List.nil_append, hEL] at hyse
      clear efe hlene
      ktn_open
      rename_i D50 ws50 h50 F50 N50 hI50 l50
      have hlt : L + 1 + 1 < h50.objs.size := Heap.lt_size (N50 (L + 1 + 1, odu) (by repeat (first | exact List.Mem.head _ | refine List.Mem.tail _ ?_))).1
      have hltl : ∀ p ∈ tl, p.1 ≠ h50.objs.size + 1 := fun p hp => Nat.ne_of_lt (Nat.lt_succ_of_lt (Heap.lt_size (N50 p (by repeat (first | exact hp | refine List.Mem.tail _ ?_))).1))
      refine sorted_N F50 N50 (News.isList N50 (.head _)) hI50 (by rw [hI50.length, List.length_append]; omega) ?_
      intro h51 vr51 nsr nr51 F51 N51 hI51 hperm hsort
      clear F50 N50
      ktn_open
      rename_i F52 N52
      refine ret _ vr51 nr51 odu (some (.ref DU)) _ _ _ F52 (fun p hp => N52 p ((List.mem_cons.mp hp).elim (fun e => e ▸ .head _) fun h => .tail _ (.tail _ (.tail _ (.tail _ (.tail _ (.tail _ (.tail _ (.tail _ (.tail _ h)))))))))) hdu (Nat.ne_of_gt (Nat.lt_succ_of_lt hlt)) hltl (by rfl) (by rfl) (by rfl) (by rfl) (fun hi4 => ?_)
      have hnext : nsr = dueF ms left ((i : Int) + 1) := next_row (by omega) (by omega) (by rw [begins_row (dueF_lt _ _ _), ends_row (dueF_lt _ _ _), hBL, hEL]; exact hperm) hsort
      rw [hnext] at hI51
      exact hI51
    · intro l k
      dsimp only
      split
      · simp
      · omega
  · intro l k
    dsimp only
    split
    · simp
    · omega
theorem law_turn (K0 : Below callerA H [] H) (KX : (KF w.params).In H) (T0 : Top qv (looseW qv looseN) mean mg mb H)
    (F20 : Fr H L s.heap (fun y => if y = Str.ofString "step" then some (.int (0 + (i : Int)) t3) else if y = Str.ofString "row" then some (.ref R) else if y = Str.ofString "held" then some (.ref HD) else if y = Str.ofString "marks" then some (.ref MK) else if y = Str.ofString "left" then some (.int left t2) else m1 y))
    (N20 : News H L s.heap ((R, listOf (List.toArray vr) nr) :: (HD, LCg.lst ysh) :: (L + 1 + 1, odu) :: (L + 1, osp) :: tl))
    (hMK : (MK, listOf (List.toArray vm) nm) ∈ tl) (hvm : IntsAre vm ms) (hms : ms.length = 16) (hysh : IntsAre ysh (dueF ms left 0)) (hvr : IntsAre vr (dueF ms left i)) (hi5 : i < 5)
    (hdu : odu.data = .cell v₀) (hR : R ≠ L + 1 + 1) (hHD : L + 1 + 1 ≠ HD) (htl : ∀ p ∈ tl, p.1 ≠ L + 1 + 1)
    (ret : ∀ R' vr' nr' odu' v' h' tk m', Fr H L h' m' → News H L h' ((R', listOf (List.toArray vr') nr') :: (HD, LCg.lst ysh) :: (L + 1 + 1, odu') :: (L + 1, osp) :: tl) → odu'.data = .cell v' → R' ≠ L + 1 + 1 → (∀ p ∈ tl, p.1 ≠ R') →
      m' (Str.ofString "row") = some (.ref R') → m' (Str.ofString "held") = some (.ref HD) → m' (Str.ofString "marks") = some (.ref MK) → m' (Str.ofString "left") = some (.int left t2) → (i + 1 < 5 → IntsAre vr' (dueF ms left (i + 1 : Nat))) → Q .next { s with heap := h', toks := tk }) :
    wpAny (model PySem.Challenge.rw_mq0100_01.row.prog w) (callerA.deeper (envOfC (Str.ofString "law") lawS L fa cd)) (execs loopB (envOfC (Str.ofString "law") lawS L fa cd)) Q E s := by
  revert KX
  k_fill
  intro KX
  k_with_none
  conv =>
    arg 3
    arg 1
    whnf
  conv =>
    arg 3
    arg 2
    arg 2
    whnf
  conv =>
    arg 2
    arg 2
    arg 2
    whnf
  ktn_open
  refine odd_spec (step := 0 + (i : Int)) (by omega) (by omega) (by k_asm) (by k_asm) (by k_asm) (by k_asm) (by k_asm) (by exact rfl) (.tail _ (.tail _ (.tail _ (.tail _ hMK)))) hvm hms (by ktr_room) (by ktr_units) ?_
  intro O vo no h22 tk22 F22 N22 ho
  ktn_open
  refine moved_spec (by k_asm) (by k_asm) (by k_asm) (by k_asm) (by k_asm) (by exact rfl) (.head _) ho (Nat.le_trans (oddF_len _ _) (by rw [hms]; omega)) (by ktr_room) (by ktr_units) ?_
  intro DU vdu ndu h23 tk23 F23 N23 off23 hvdu
  have hdue : IntsAre vdu (dueF ms left i) := by rw [show (i : Int) = 0 + (i : Int) by omega]; exact hvdu
  clear hvdu F22 N22 ho F20 N20
  ktn_open
  refine storeX_C F23 (law_drop N23) rfl (.tail (Ne.symm off23.2.2.2.1) (.tail hR (.tail (Ne.symm hHD) (.head (List.forall_mem_cons.mpr ⟨Nat.ne_of_lt (Nat.lt_succ_self _), htl⟩))))) hdu ?_ rfl rfl
  intro h25 odu2 F25 N25 hdu2
  have hDU : L + 1 + 1 ≠ DU := off23.2.2.2.1
  clear F23 N23 off23
  ktn_open
  · rename_i D26 h26 F26 N26 lt26 hst
    have N27 := law_tail N26
    have hst2 : 0 + (i : Int) = 1 ∨ 0 + (i : Int) = 2 ∨ 0 + (i : Int) = 4 := by
      simp only [List.any_cons, List.any_nil, Bool.or_false, Bool.or_eq_true, beq_iff_eq] at hst
      omega
    clear N26 lt26
    refine moved_spec K0 F26 (by k_asm) N27 T0 (by exact rfl) (.tail _ (.tail _ (.head _))) hysh (Nat.le_trans (dueF_len _ _ _) (by rw [hms]; omega)) (by ktr_room) (by ktr_units) ?_
    intro MV vmv nmv h28 tk28 F28 N28 off28 hmv
    ktn_open
    have hl0 := dueF_len ms left 0
    rw [hms] at hl0
    refine sld_spec K0 F28 (by k_asm) N28 T0 (by exact rfl) (.head _) (.tail _ (.tail _ (.tail _ (.head _)))) hmv hysh (by rw [List.length_map]; omega) (by omega) (map_lt (dueF_lt _ _ _)) (dueF_lt _ _ _) (last_up (by omega)) (by ktr_room) (by ktr_units) ?_
    intro BH AH TT vbh nbh vah nah ntt h29 tk29 F29 N29 hbh hah
    have hb1 := sld_len1 (map_lt (d := 0 + (i : Int)) (dueF_lt ms left 0)) (dueF_lt ms left 0)
    have hb2 := sld_len2 (map_lt (d := 0 + (i : Int)) (dueF_lt ms left 0)) (dueF_lt ms left 0)
    rw [List.length_map] at hb1
    clear F28 N28 off28
    ktn_open
    rename_i D50 ws50 h50 F50 N50 hI50 l50
    refine sorted_N F50 N50 (News.isList N50 (.head _)) hI50 (by rw [hI50.length, List.length_append]; omega) ?_
    intro h51 vr51 nsr nr51 F51 N51 hI51 hperm hsort
    have hrow : nsr = dueF ms left i := (leap_row hst2 hperm hsort).trans (by rw [Int.zero_add])
    rw [hrow] at hI51
    clear F50 N50
    ktn_open
    exact law_half K0 KX T0 (law_frame0 (by rfl) (by rfl) (by rfl) (by rfl) F51) (law_tail (law_tail (law_tail (law_tail (law_tail (law_tail N51)))))) hms hdue hvr hi5 hdu2 ret
  · rename_i F51 N51 lt51 hst
    exact law_half K0 KX T0 (law_frame0 (by rfl) (by rfl) (by rfl) (by rfl) F51) (law_tail N51) hms hdue hvr hi5 hdu2 ret
end
end Mine
end
-- part WP
section
open PySem PySem.W PyProof.Rows PySem.Calls
set_option linter.unusedVariables false
set_option maxRecDepth 100000
set_option maxHeartbeats 4000000
namespace Mine
local macro_rules | `(tactic| k_mem) => `(tactic| (k_dflt assumption))
local macro_rules | `(tactic| k_mem) => `(tactic| ((first | with_reducible refine mem_app_r ?_ | with_reducible refine List.mem_append_right _ ?_); k_mem))
local macro_rules | `(tactic| ktn_open) => `(tactic| repeat' ((fail_if_success (with_reducible show wpAny _ _ (exec (Stmt.For _ _ _ _ _) _) _ _ _)); (fail_if_success (with_reducible show wpAny _ _ (exec (Stmt.Assign _ (PySem.Expr.ListComp _ _ _ _) _) _) _ _ _)); (fail_if_success (with_reducible show LCt.CompSrcT _ _ _ _ _ _ _ _ _ _ _ _ _ _ _)); (fail_if_success (with_reducible show wpAny _ _ (pyIter (Value.ref _)) _ _ _)); (fail_if_success (with_reducible show wpAny _ _ (call (Value.ref _) _) _ _ _)); (first | (k_unfold; (try dsimp only)) | (k_end; wrow_close) | walk1 | (dsimp only; walk1) | (leave1; walk_say "STEP leave1"; try dsimp only))))
theorem own_off {ownl : List (Addr × Obj)} {R R' : Addr} {l : List Addr} (h : OwnOff ownl (R :: l)) (k : ∀ p ∈ ownl, p.1 ≠ R') : OwnOff ownl (R' :: l) := fun p hp b hb => (List.mem_cons.mp hb).elim (fun e => e ▸ k p hp) fun hb => h p hp b (.tail _ hb)
theorem news_front2 {h₀ h : Heap} {L : Addr} {a b : Addr × Obj} {own : List (Addr × Obj)} (N : News h₀ L h (own ++ [a, b])) : News h₀ L h (a :: b :: own) := fun p hp => N p ((List.mem_cons.mp hp).elim (fun e => e ▸ List.mem_append_right _ (.head _)) fun h => (List.mem_cons.mp h).elim (fun e => e ▸ List.mem_append_right _ (.tail _ (.head _))) fun h => List.mem_append_left _ h)
theorem law_frame {h₀ h : Heap} {L R HD MK : Addr} {x : Str} {v : Option Value} {left : Int} {t2 : Tok} {m : Str → Option Value} (h1 : m (Str.ofString "row") = some (.ref R)) (h2 : m (Str.ofString "held") = some (.ref HD)) (h3 : m (Str.ofString "marks") = some (.ref MK)) (h4 : m (Str.ofString "left") = some (.int left t2))
    (F : Fr h₀ L h (fun y => if y = x then v else m y)) : Fr h₀ L h (fun y => if y = x then v else if y = Str.ofString "row" then some (.ref R) else if y = Str.ofString "held" then some (.ref HD) else if y = Str.ofString "marks" then some (.ref MK) else if y = Str.ofString "left" then some (.int left t2) else m y) := by
  have e : (fun y => if y = x then v else if y = Str.ofString "row" then some (.ref R) else if y = Str.ofString "held" then some (.ref HD) else if y = Str.ofString "marks" then some (.ref MK) else if y = Str.ofString "left" then some (.int left t2) else m y) = fun y => if y = x then v else m y := by
    funext y
    by_cases hx : y = x
    · rw [if_pos hx, if_pos hx]
    · rw [if_neg hx, if_neg hx]
      by_cases e1 : y = Str.ofString "row"
      · rw [if_pos e1, e1, h1]
      · rw [if_neg e1]
        by_cases e2 : y = Str.ofString "held"
        · rw [if_pos e2, e2, h2]
        · rw [if_neg e2]
          by_cases e3 : y = Str.ofString "marks"
          · rw [if_pos e3, e3, h3]
          · rw [if_neg e3]
            by_cases e4 : y = Str.ofString "left"
            · rw [if_pos e4, e4, h4]
            · rw [if_neg e4]
  rw [e]
  exact F
section
variable {w : World} {mean : ExcName → Option Value} {mg mb : Str → Option Value} {H : Heap} {L fa ls : Addr} {cd : Value} {od osp : Obj} {vs : List Value} {ns : List Int} {s : Shared} {Q : Flow → Shared → Prop} {E : Value → Shared → Prop}
theorem law_body (K0 : Below callerA H [] H) (KX : (KF w.params).In H) (T0 : Top qv (looseW qv looseN) mean mg mb H)
    (F0 : Fr H L s.heap (fun y => if y = Str.ofString "script" then some (Value.ref ls) else none)) (N0 : News H L s.heap [(L + 1 + 1, od), (L + 1, osp)]) (hod : od.data = .cell none) (hosp : osp.data = .cell none)
    (hL : H.IsList ls vs.toArray) (hI : IntsAre vs ns) (hlen63 : ns.length ≤ 63) (hE : PassesOwn (model PySem.Challenge.rw_mq0100_01.row.prog w) (callerA.deeper (envOfC (Str.ofString "law") lawS L fa cd)) (envOfC (Str.ofString "law") lawS L fa cd) E) (ret : ∀ h' tk m', Fr H L h' m' → Q (.ret (.bool true)) { s with heap := h', toks := tk }) :
    wpAny (model PySem.Challenge.rw_mq0100_01.row.prog w) (callerA.deeper (envOfC (Str.ofString "law") lawS L fa cd)) (execs lawB (envOfC (Str.ofString "law") lawS L fa cd)) Q E s := by
  revert KX
  k_fill
  intro KX
  k_with_none
  conv =>
    arg 3
    arg 1
    whnf
  conv =>
    arg 3
    arg 2
    arg 2
    whnf
  conv =>
    arg 2
    arg 2
    arg 2
    whnf
  ktn_open
  have v0 : 0 ≤ (((List.map (fun k' => Int.fmod k' (10 ^ Int.toNat 6)) (List.take 6 ns)).sum + 4145).fmod (10 ^ Int.toNat 6)) := Int.fmod_nonneg_of_pos _ (by decide)
  have v1 : (((List.map (fun k' => Int.fmod k' (10 ^ Int.toNat 6)) (List.take 6 ns)).sum + 4145).fmod (10 ^ Int.toNat 6)) < 1000000 := Int.fmod_lt_of_pos _ (by decide)
  generalize hv : (((List.map (fun k' => Int.fmod k' (10 ^ Int.toNat 6)) (List.take 6 ns)).sum + 4145).fmod (10 ^ Int.toNat 6)) = v at *
  refine left_spec v0 v1 (by k_asm) (by k_asm) (by k_asm) (by k_asm) (by k_asm) (by exact rfl) (by ktr_room) (by ktr_units) ?_
  intro t2 h2 tk2 F2 N2
  ktn_open
  rename_i D3 h3 lt3 h4 h5 h6 osp2 F3 N3 hsp2
  have N4 : News H L h6 [(L + 1 + 1, od), (L + 1, osp2)] := fun p hp => N3 p (.tail _ (.tail _ (.tail _ hp)))
  have bl := leftF_bounds v0
  have bs0 : 0 ≤ (v.fdiv 560).fmod 8 := Int.fmod_nonneg_of_pos _ (by decide)
  have bs1 : (v.fdiv 560).fmod 8 < 8 := Int.fmod_lt_of_pos _ (by decide)
  generalize leftF v = left at *
  generalize (v.fdiv 560).fmod 8 = sp at *
  clear N3 lt3
  refine marks_spec (by omega) (by omega) bs0 bs1 F3 KX N4 T0 (by exact rfl) (by ktr_room) (by ktr_units) ?_
  intro MK own vm nm h7 tk7 F7 N7 sep7 hMK hvm
  have N8 := news_front2 N7
  have nec : ∀ p ∈ own, p.1 ≠ L + 1 + 1 := fun p hp => sep7 p hp _ (.head _)
  clear N7 sep7 F3 N4
  ktn_open
  rename_i F9 N9
  refine LCt.Assign_ListComp_T (F₀ := by k_asm) (by rfl) (by with_unfolding_all rfl) (by with_unfolding_all rfl) (by decide) (by rfl) (by decide) (by rfl) (by rfl) (by rfl) ?_
  ktn_open
  rename_i h10 tk10 F10 N10 h11 tk11 tq uq vq Rq Fq Nq kq
  obtain ⟨hi, ehi⟩ : ∃ hi : Int, (if 1114112 < left + 16 then 1114112 else left + 16) = hi := ⟨_, rfl⟩
  dsimp only at Rq
  rw [ehi] at Rq
  have ehi2 : hi = min (left + 16) 1114112 := by rw [← ehi]; split <;> omega
  have hb1 : left < hi := by rw [ehi2]; omega
  have hb2 : hi ≤ left + 16 := by rw [ehi2]; omega
  have hb3 : hi ≤ 1114112 := by rw [ehi2]; omega
  refine LCt.CompSrcT.range (by rfl) Fq Nq Rq (small_one (by omega) (by omega) (by omega) (by omega)) (n := (hi - left).toNat) (rangeSize_nat _ _) (by rw [sizeLine_eq]; omega) ?_
  intro g4
  refine kci_range (fun l k => if saidB k.toNat sp = true then l ++ [k] else l) (fun k t I oI C oC D m₂ ys l' h tk E' hlo hhi hy hC hx F N off ne mk => ?_) ?_ ?_
  · obtain ⟨x, rfl⟩ := Int.eq_ofNat_of_zero_le (show 0 ≤ k by omega)
    ktn_open
    refine said_spec (x := x) (by omega) bs0 bs1 (by k_asm) (by k_asm) (by k_asm) (by k_asm) (by k_asm) (by exact rfl) (by ktr_room) (by ktr_units) ?_
    intro h12 tk12 F12 N12
    ktn_open
    · rename_i hsd
      refine LCg.CompEnd.intro F12 N12 _ (fun p hp => hp) off trivial ⟨rfl, _, _, rfl, ?_⟩
      rw [if_pos (by simpa using hsd)]
    · rename_i hsd
      refine LCg.CompEnd.intro F12 N12 _ (fun p hp => hp) off trivial ⟨rfl, ?_⟩
      rw [if_neg (by simpa using hsd)]
  · unfold KPfDone
    intro ysh hysh hlenh
    ktn_open
    rename_i HD h30 tk30 oHD h31 F31 N31
    have ehe := fold_filter (fun k => saidB k.toNat sp) (rangeKs left (hi - left).toNat) []
    rw [ehe, List.nil_append, held_row (by omega) _ (by rw [ehi2])] at hysh
    have hms : (marksF left sp).length = 16 := msOf_len _
    generalize marksF left sp = ms at *
    have hHD : L + 1 + 1 ≠ HD := oHD.1
    clear ehe hlenh oHD
    refine For_invVF F31 (by rfl) (by rfl) ?_ (hE := hE)
    ktn_open
    rename_i h40 tk40 tq4 uq4 vq4 Rq4 Fq4 Nq4 kq4
    dsimp only at Rq4
    refine range_ind (n := 5) (fun i m nx => ∃ R vr nr odu, nx = (R, listOf (List.toArray vr) nr) :: (HD, LCg.lst ysh) :: (L + 1 + 1, odu) :: (L + 1, osp2) :: own ∧ (∃ v₀, odu.data = .cell v₀) ∧ R ≠ L + 1 + 1 ∧
        m (Str.ofString "row") = some (.ref R) ∧ m (Str.ofString "held") = some (.ref HD) ∧ m (Str.ofString "marks") = some (.ref MK) ∧ m (Str.ofString "left") = some (.int left t2) ∧ (i < 5 → IntsAre vr (dueF ms left i)))
      rfl Rq4 (small_one (by decide) (by decide) (by decide) (by decide)) (by decide) Fq4 (fun p hp => Nq4 p ((List.mem_cons.mp hp).elim (fun e => e ▸ .head _) id)) ⟨HD, ysh, _, od, rfl, ⟨_, hod⟩, Ne.symm hHD, by rfl, by rfl, by rfl, by rfl, fun _ => hysh⟩ ?_ ?_
    · clear Fq4 Nq4
      rintro i t3 m1 nx h20 tk20 ownl hi5 hoff ⟨R, vr, nr, odu, rfl, ⟨v₀, hdu⟩, hR, hm1, hm2, hm3, hm4, hvr⟩ F20 N20
      replace hvr := hvr hi5
      replace F20 := law_frame hm1 hm2 hm3 hm4 F20
      refine law_turn (tl := own ++ ownl) K0 KX T0 F20 N20 (List.mem_append_left _ hMK) hvm hms hysh hvr hi5 hdu hR hHD (fun p hp => ?_) (fun R' vr' nr' odu' v' h' tk m' F' N' hdu' hR' hRt e1 e2 e3 e4 hvr' => ?_)
      · rcases List.mem_append.mp hp with hp | hp
        · exact nec p hp
        · exact hoff p hp _ (.tail _ (.tail _ (.head _)))
      · exact InvEndG.intro F' N' (nx := (R', listOf (List.toArray vr') nr') :: (HD, LCg.lst ysh) :: (L + 1 + 1, odu') :: (L + 1, osp2) :: own) ⟨R', vr', nr', odu', rfl, ⟨v', hdu'⟩, hR', e1, e2, e3, e4, hvr'⟩ (own_off hoff fun p hp => hRt p (List.mem_append_right _ hp)) (fun p hp => List.mem_append_left ownl hp) (fun p hp => .tail _ (.tail _ (.tail _ (.tail _ (List.mem_append_right _ hp)))))
    · rintro m1 nx h20 tk20 ⟨R, vr, nr, odu, rfl, -, hR, hm1, hm2, hm3, hm4, hvr⟩ F20 N20
      ktn_open
      exact ret _ _ _ F20
  · intro l k
    dsimp only
    split
    · simp
    · omega
end
end Mine
end
-- part WQ
section
open PySem PySem.W PyProof.Rows PySem.Calls
set_option linter.unusedVariables false
set_option maxRecDepth 100000
set_option maxHeartbeats 4000000
namespace Mine
noncomputable section
abbrev kH : Hook := kHook KF kAs (fun _ => by kernel_rfl)
theorem test : PySem.Challenge.rw_mq0100_01.Holds := by
  k_with_none
  w_on
  o_law
  refine holds_open (q := qv) (loose := looseN) (Xt := fun s => xlAt qv [] s && recOk [] s) (XP := XL qv []) (Yf := Hook.obs kH) (Ya := Hook.val kH) (YP := Hook.says kH) (N := 13206) leftP (Hook.of kH) (Hook.keeps kH) (fun s e => xl_of s (Bool.and_eq_true_iff.mp e).1) XL.keeps (by rfl) (by rfl) (by rfl) (fun s e => recFacts_of (Bool.and_eq_true_iff.mp e).2) (by rfl) (by assumption) (by decide +kernel) ⟨rfl, rfl, rfl, rfl, rfl, by decide +kernel⟩ ?hw ?hc
  case hw => w_witness2
  k_go0
  rename_i w s₀ s₁ mg mb G0 Y0 fa o pm doc ho hg KX XX V GL T0 TB TE TW w11 w10 M0 w9 w8 hcd ns hs hlay0 hL1 hr1 hl2 w6 w5 ls vs w2 hL ra w1 r0 hI hr hcond hcond2 K0 hD h₁ tk₁ F0 od osp hod hosp N0 X0
  replace hod : od.data = .cell none := hod
  replace hosp : osp.data = .cell none := hosp
  have hlen63 : ns.length ≤ 63 := by omega
  refine law_body K0 KX T0 F0 N0 hod hosp hL hI hlen63 (by passes_own) (fun h' tk m' F' => ?_)
  first | (wrow_close; trace "A") | (dsimp only; wrow_close; trace "B") | (k_end; wrow_close; trace "C")
end
end Mine
end
theorem PySem.Challenge.cw_mq0100_01_holds : PySem.Challenge.rw_mq0100_01.Holds := by
  exact Mine.test
