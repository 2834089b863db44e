import PyProof.Rows.All
import Wide.All
import OpenK.AllK
import Wide.FinOn
import Lean
import PySem.Challenge.RW_dw0039_01
set_option Elab.async false
set_option rowWalk.seconds 0
set_option linter.all false
namespace Mine
section
open PySem PySem.W PyProof.Rows
set_option maxRecDepth 100000 in
set_option maxHeartbeats 8000000 in
open_top hd for PySem.Challenge.rw_dw0039_01
end
end Mine
namespace Mine
open PySem PySem.W PyProof.Rows PySem.Spec PySem.Calls
local macro_rules | `(tactic| k_room) => `(tactic| ktr_room)
local macro_rules | `(tactic| ktr_rel) => `(tactic| (dsimp only [ktrTop, Around.deeper]; omega))
local macro_rules | `(tactic| walk_at "call ref") => `(tactic| k_extra "call ref!")
local macro_rules | `(tactic| walk_at "exec Raise some none") => `(tactic| k_extra "exec Raise some none!")
local macro_rules | `(tactic| walk_at "leaving ref") => `(tactic| k_extra "leaving ref!")
local macro_rules | `(tactic| walk_at "binaryOp Mod str ref") => `(tactic| k_extra "binaryOp Mod str ref!")
local macro_rules | `(tactic| walk_at "subscriptTail") => `(tactic| k_extra "subscriptTail!")
local macro_rules | `(tactic| walk_at "setItem ref int") => `(tactic| k_extra "setItem ref int!")
local macro_rules | `(tactic| walk_at "call builtin:bytes.decode") => `(tactic| k_extra "call builtin:bytes.decode!")
local macro_rules | `(tactic| walk_at "subscriptTail Name Name ref int") => `(tactic| k_extra "subscriptTail Name Name ref int!")
local macro_rules | `(tactic| walk_at "subscriptTail Name Slice ref ref") => `(tactic| k_extra "subscriptTail Name Slice ref ref!")
local macro_rules | `(tactic| walk_at "eval ListComp") => `(tactic| k_extra "eval ListComp!")
local macro_rules | `(tactic| walk_at "CompSrc") => `(tactic| k_extra "CompSrc!")
local macro_rules | `(tactic| walk_at "CompEnd") => `(tactic| k_extra "CompEnd!")
local macro_rules | `(tactic| walk_at "call type:bytes") => `(tactic| k_extra "call type:bytes!")
local macro_rules | `(tactic| walk_at "storeName") => `(tactic| k_extra "storeName!")
local macro_rules | `(tactic| walk_at "binaryOp Add ref ref") => `(tactic| k_extra "binaryOp Add ref ref!")
local macro_rules | `(tactic| walk_at "exec Assign cons ListComp") => `(tactic| k_extra "exec Assign cons ListComp!")
local macro_rules | `(tactic| walk_at "compareOp NotEq ref ref") => `(tactic| k_extra "compareOp NotEq ref ref!")
local macro_rules | `(tactic| walk_at "call builtin:len") => `(tactic| k_extra "call builtin:len!")
local macro_rules | `(tactic| walk_at "call builtin:list.extend") => `(tactic| k_extra "call builtin:list.extend!")
local macro_rules | `(tactic| walk_at "call type:type") => `(tactic| k_extra "call type:type!")
local macro_rules | `(tactic| walk_at "compareOp Eq ref ref") => `(tactic| k_extra "compareOp Eq ref ref!")
section
open PySem PySem.W PyProof.Rows PySem.Spec PySem.Calls
theorem freshBs : True := by
  w_top off
  k_with_none
  exact trivial
/-- the inner def of the i-th top def -/
def innerDef (p : Program) (i j : Nat) : Str × Arguments × List Stmt × Scope :=
  match p.main.body[i]? with
  | some (.FunctionDef _ _ body _ _ _ _ _ _ _) => (match body[j]? with
    | some (.FunctionDef n a b _ _ _ sc _ _ _) => (n, a, b, sc)
    | _ => default)
  | _ => default
def rdDef := innerDef Challenge.pw_dw0039_01 6 1
abbrev rdQual : Str := Str.ofString "_law_stream" ++ Str.ofString ".<locals>." ++ Str.ofString "_law_read"
def rdFn (co cf : Addr) (doc pm : Value) (c : Addr) (ct : Value) : Obj :=
  fnMade rdDef.1 rdQual rdDef.2.1 rdDef.2.2.1 rdDef.2.2.2 [(Str.ofString "octets", co), (Str.ofString "f", cf)] doc pm c ct
/-- what a stream is made of -/
structure StIds where
  x : Addr
  d : Addr
  fn : Addr
  c : Addr
  cf : Addr
  co : Addr
  oc : Obj
  ocf : Obj
  oco : Obj
  O : Array UInt8
  vs : Array Value
  t0 : Tok
  t1 : Tok
  t3 : Tok
  t4 : Tok
  doc : Value
  pm : Value
  ct : Value
abbrev stDict (w : World) (t1 t3 : Tok) (v r : Value) : Obj :=
  dictOf [⟨PyData.keyHash w.params (Str.ofString "value"), .str (Str.ofString "value") t1, v⟩, ⟨PyData.keyHash w.params (Str.ofString "read"), .str (Str.ofString "read") t3, r⟩] 2
abbrev StIds.led (σ : StIds) (w : World) (pos : Nat) (t : Tok) : List (Addr × Obj) :=
  [(σ.x, instObj 52 σ.d), (σ.d, stDict w σ.t1 σ.t3 (.int pos t) (.ref σ.fn)), (σ.fn, rdFn σ.co σ.cf σ.doc σ.pm σ.c σ.ct), (σ.c, σ.oc), (σ.cf, σ.ocf), (σ.co, σ.oco)]
structure StIds.Ok (σ : StIds) (ks : List Int) : Prop where
  oc : σ.oc.data = .fields σ.vs
  vs : σ.vs[1]? = some (.str rdQual σ.t0)
  ocf : σ.ocf.data = .cell (some (.ref σ.x))
  oco : σ.oco.data = .cell (some (.bytes σ.O σ.t4))
  O : KBw.bInts σ.O = ks
  len : ks.length ≤ 1000
  ne : @Ne Nat σ.d σ.fn ∧ @Ne Nat σ.d σ.c ∧ @Ne Nat σ.d σ.x ∧ @Ne Nat σ.d σ.cf ∧ @Ne Nat σ.d σ.co
/-- the ground of a call: everything about the caller that a contract asks -/
structure Gr (k : Nat) (w : World) (dp un : Nat) (cs : Scope) (outer : List Env) (A₀ : Around) (base h₀ : Heap) (p : Program) (loose : List Str) (mean : ExcName → Option Value) (mg mb : Str → Option Value) : Prop where
  B : Below A₀ base outer h₀
  X : (hd.heap_39 w.params).In h₀
  T : Top p loose mean mg mb h₀
  XB : (hd.heap_39 w.params).In base
  TB : Top p loose mean mg mb base
  hk : cs.kind = .function
  C1 : CodeHd base 69 65
  C2 : CodeHd base 62 58
  hd : dp + k ≤ 400
  hu : un + 10 * k ≤ 500
theorem cut_eq (ks : List Int) (p n : Nat) : List.take (clipAt ks.length ((p : Int) + (n : Int)) - min p ks.length) (List.drop (min p ks.length) ks) = (ks.drop p).take n := by
  rw [show ((p : Int) + (n : Int)) = ((p + n : Nat) : Int) by omega, clipAt_nat]
  by_cases h : p ≤ ks.length
  · rw [Nat.min_eq_left h]
    by_cases h2 : p + n ≤ ks.length
    · rw [Nat.min_eq_left h2, Nat.add_sub_cancel_left]
    · rw [Nat.min_eq_right (by omega), List.take_of_length_le (by simp), List.take_of_length_le (by simp; omega)]
  · rw [Nat.min_eq_right (by omega), Nat.min_eq_right (by omega)]
    simp
    omega
theorem cut_len (ks : List Int) (p n : Nat) : ((p : Int) + (min (clipAt ks.length ((p : Int) + (n : Int)) - min p ks.length) (ks.length - min p ks.length) : Nat)) = ((p + ((ks.drop p).take n).length : Nat) : Int) := by
  rw [← cut_eq]; simp
set_option maxRecDepth 100000 in
set_option maxHeartbeats 8000000 in
theorem rd_call {w : World} {dp un : Nat} {gd : Option (List Code)} {cn : Str} {cs : Scope} {a : Addr} {ccd : Value} {cl : List (Str × Addr)} {outer : List Env} {A₀ : Around} {base h₀ : Heap} {L : Addr} {m : Str → Option Value} {s : Shared}
    {p : Program} {loose : List Str} {mean : ExcName → Option Value} {mg mb : Str → Option Value}
    {Q E : Value → Shared → Prop} {tk tk2 : Tok} {n pos : Nat} {σ : StIds} {ks : List Int} {own : List (Addr × Obj)}
    (G : Gr 1 w dp un cs outer A₀ base h₀ p loose mean mg mb) (F : Fr h₀ L s.heap m) (N : News h₀ L s.heap (σ.led w pos tk ++ own)) (off : OwnOff own [σ.d]) (S : σ.Ok ks) (hn : n ≤ 1000) (hp : pos ≤ 1000)
    (hQ : ∀ h' tk' t' b t'', Fr h₀ L h' m → News h₀ L h' (σ.led w (pos + ((ks.drop pos).take n).length) t' ++ own) → KBw.bInts b = (ks.drop pos).take n → Q (.bytes b t'') { s with heap := h', toks := tk' }) :
    wpAny (model Challenge.rw_dw0039_01.row.prog w) (ktrTop dp un gd cn cs L a ccd cl outer) (call (.ref σ.fn) [.int n tk2]) Q E s := by
  obtain ⟨B, X, T, XB, TB, hk, C1, C2, hd0, hu⟩ := G
  revert X
  k_fill
  intro X
  clear XB TB
  obtain ⟨ck, cnm, cg, cc, cm⟩ := cs
  cases hk
  obtain ⟨S1, S2, S3, S4, hO, hlen, S5⟩ := S
  dsimp only [stDict, List.cons_append, List.nil_append, rdFn, rdDef, innerDef, Challenge.pw_dw0039_01, List.getElem?_cons_succ, List.getElem?_cons_zero] at N ⊢
  k_steps
  rename KBw.bInts (KBy.picked _ _ _) = _ => hc
  rename Fr h₀ L _ m => kF
  rename News h₀ L _ _ => kN
  rw [cut_eq] at hc
  rw [cut_len] at kN
  exact hQ _ _ _ _ _ kF kN hc
end
section
open PySem PySem.W PyProof.Rows PySem.Spec PySem.Calls
theorem freshU1 : True := by
  w_top off
  k_with_none
  (k_with "call ref!" => (k_here; (with_reducible show wpAny _ _ (call (Value.ref (StIds.fn _)) [Value.int _ _]) _ _ _); k_dflt (refine' rd_call (n := 1) (Gr.mk (by k_asm) (by k_asm) (by k_asm) (by assumption) (by assumption) (by exact rfl) (by assumption) (by assumption) (by ktr_rel) (by ktr_rel)) (by k_asm) (by k_asm) (by assumption) (by assumption) (by omega) (by omega) ?_); k_whole; intro h'Zz tk'Zz t'Zz b'Zz t''Zz F'Zz N'Zz hb'Zz; dsimp only [stDict, List.cons_append, List.nil_append] at N'Zz))
  (k_with "exec Raise some none!" => (k_here; (with_reducible rename Fr _ _ _ _ => kFZz); k_dflt (refine' Raise_madeB PySem.F.excCall_ValueError PySem.F.excRaise_ValueError rfl ?_; refine' name_B kFZz ?k1Zz ?k2Zz ?k3Zz ?k4Zz ?k5Zz ⟨rfl, ?_⟩; (case k1Zz => k_asm); (case k2Zz => k_asm); (case k3Zz => k_is); (case k4Zz => boot_by_name); (case k5Zz => decide); k_whole)))
  (k_with "leaving ref!" => (k_here; (refine' leave_raiseS ?k1Zz ?k0Zz ?k2Zz ?k3Zz ?_; (case k0Zz => exact Heap.MadeExc.of (by assumption)); (case k2Zz => assumption); (case k1Zz => assumption); (case k3Zz => k_asm); k_whole; intro h'Zz t'Zz S'Zz R'Zz U'Zz; (try dsimp only at S'Zz R'Zz U'Zz ⊢))))
  exact trivial
theorem take1_len {ks : List Int} {p : Nat} (h : p < ks.length) : ((ks.drop p).take 1).length = 1 := by simp; omega
theorem take1_len0 {ks : List Int} {p : Nat} (h : ¬ p < ks.length) : ((ks.drop p).take 1).length = 0 := by simp; omega
theorem take1_get {ks : List Int} {p : Nat} : ((ks.drop p).take 1).getD (Int.toNat 0) 0 = ks.getD p 0 := by
  simp [List.getD_eq_getElem?_getD]
abbrev msgU : Str := Str.ofString "not enough data in stream to read uint1"
set_option maxRecDepth 100000 in
set_option maxHeartbeats 8000000 in
theorem u1S {w : World} {dp un : Nat} {gd : Option (List Code)} {cn : Str} {cs : Scope} {a : Addr} {ccd : Value} {cl : List (Str × Addr)} {outer : List Env} {A₀ : Around} {base h₀ : Heap} {L : Addr} {m : Str → Option Value} {s : Shared}
    {p : Program} {loose : List Str} {mean : ExcName → Option Value} {mg mb : Str → Option Value}
    {Q E : Value → Shared → Prop} {tk : Tok} {pos : Nat} {σ : StIds} {ks : List Int} {own : List (Addr × Obj)}
    (G : Gr 2 w dp un cs outer A₀ base h₀ p loose mean mg mb) (F : Fr h₀ L s.heap m) (N : News h₀ L s.heap (σ.led w pos tk ++ own)) (off : OwnOff own [σ.d]) (S : σ.Ok ks) (hp : pos ≤ 1000)
    (hQ : pos < ks.length → ∀ h' tk' t' t'' (v : Nat), Fr h₀ L h' m → News h₀ L h' (σ.led w (pos + 1) t' ++ own) → (v : Int) = ks.getD pos 0 → v < 256 → Q (.int v t'') { s with heap := h', toks := tk' })
    (hE : ks.length ≤ pos → ∀ h' g₂ tk' t' e t u, Fr h₀ L g₂ m → RaisedS base g₂ (envX cn cs L a ccd cl :: outer) e (.type "ValueError") t [.str msgU u] (σ.led w pos t' ++ own) h' → g₂.UpToSlots h' → E (.ref e) { s with heap := h', toks := tk' }) :
    wpAny (model Challenge.rw_dw0039_01.row.prog w) (ktrTop dp un gd cn cs L a ccd cl outer) (call (.ref 21) [.ref σ.x]) Q E s := by
  obtain ⟨B, X, T, XB, TB, hk, C1, C2, hd0, hu⟩ := G
  revert X
  k_fill
  intro X
  obtain ⟨ck, cnm, cg, cc, cm⟩ := cs
  cases hk
  have hlen := S.len
  dsimp only [stDict, List.cons_append, List.nil_append] at N ⊢
  k_steps
  · rename (0 : Nat) < min 1 _ => hlt
    have hlt' : pos < ks.length := by omega
    rename Fr h₀ L _ m => kF
    rename News h₀ L _ _ => kN
    rename (0 : Int) ≤ List.getD _ _ _ => k0
    rename List.getD _ _ _ < 256 => k1
    rw [take1_len hlt'] at kN
    rw [take1_get] at k0 k1 ⊢
    rw [← Int.toNat_of_nonneg k0]
    exact hQ hlt' _ _ _ _ _ kF kN (Int.toNat_of_nonneg k0) (by omega)
  · rename ¬ (0 : Nat) < min 1 _ => hlt
    have hlt' : ¬ pos < ks.length := by omega
    rename Fr h₀ L _ m => kF
    rename RaisedS _ _ _ _ _ _ _ _ _ => kS
    rename Heap.UpToSlots _ _ => kU
    rw [take1_len0 hlt', Nat.add_zero] at kS
    exact hE (by omega) _ _ _ _ _ _ _ kF kS kU
end
section
open PySem PySem.W PyProof.Rows PySem.Spec PySem.Calls
abbrev msgB (v n : Nat) : Str := Str.ofString "expected " ++ Str.ofString (toString (v : Int)) ++ Str.ofString " bytes in a bytes1, but only " ++ Str.ofString (toString (n : Int)) ++ Str.ofString " remain"
abbrev msgS (v n : Nat) : Str := Str.ofString "expected " ++ Str.ofString (toString (v : Int)) ++ Str.ofString " bytes in a string1, but only " ++ Str.ofString (toString (n : Int)) ++ Str.ofString " remain"
theorem asStr_eq (x : Str) (t : Tok) : asStr? (.str x t) = pure (some x) := rfl
set_option maxRecDepth 100000 in
set_option maxHeartbeats 8000000 in
theorem pctB {prog : Program} {w : World} {A : Around} {E : Value → Shared → Prop} {s : Shared} {t t1 t2 : Tok} {Q : Value → Shared → Prop} {b L : Addr} {k : Nat} {h₀ : Heap} {news : List (Addr × Obj)} {v n : Nat}
    (N : News h₀ L s.heap news) (hb : (b, ({ cls := .type "tuple", data := .seq #[.int (v : Int) t1, .int (n : Int) t2] k } : Obj)) ∈ news) (hv : v < 100000) (hn : n < 100000)
    (h : ∀ t' k, Q (.str (msgB v n) t') { s with toks := k }) :
    wpAny (model prog w) A (binaryOp .Mod (.str (Str.ofString "expected %d bytes in a bytes1, but only %d remain") t) (.ref b)) Q E s := by
  refine' KPt.mod_tuple N hb ?kptF ?kptm ?kpth
  case kptF => kpt_eq
  case kpth => exact h
  case kptm =>
    apply KPt.meets_tup
    intro _ _ _ _ _ _ kptH _
    obtain ⟨kptO, kptG, kptC, kptN, kptD⟩ := kptH
    rw [KPt.entry_is_r]
    unfold Builtin.Str.percentFormat
    refine wpAny_bind (wpAny_isInstance (T := "tuple") ⟨kptO, kptG, kptC⟩ KPt.sub_tt ?_)
    refine wpAny_bind (KPt.asStr_ref kptG kptD ?_)
    refine wpAny_bind (KPt.fills_ref ⟨kptO, kptG, kptC⟩ ?_)
    intro _
    kpc_if
    refine wpAny_bind (wpAny_seqItems kptG kptD ?_)
    refine wpAny_bind (wpAny_pure ?_)
    refine wpAny_bind ?_
    rw [KPc.range_list]
    refine KPc.start ?_
    intro _ _
    refine KPc.turn ?_
    kpc_check
    (repeat kpc_if)
    refine wpAny_pure ?_
    refine KPc.after_add0 (by kpc_g) (by kpc_text) (by kpc_obj) ?_
    intro _ _
    refine KPc.turn ?_
    kpc_check
    (repeat kpc_if)
    refine wpAny_bind ?_
    refine wpAny_holding ?_
    (repeat kpc_if)
    refine wpAny_bind (wpAny_of_eq (a := _) rfl ?_)
    (repeat kpc_if)
    refine wpAny_bind (wpAny_mkInt ?_)
    refine wpAny_bind (call_gives F.slot_int_repr (typeIs_int _ _ _) F.entry_int_repr (F.args_int_repr_1 _) (gives_int_repr _ _ (KPt.hd2 (by kpt_hd))) ⟨int_text_fits (KPt.hd2 (by kpt_hd)), ?_⟩)
    with_reducible refine wpAny_bind ?_
    with_reducible refine wpAny_of_eq (asStr_eq _ _) ?_
    refine wpAny_pure ?_
    refine wpAny_pure ?_
    refine' KPc.after_int ?g1 ?g2 ?g3 ?g4 ?g5 ?g6 ?g7 ?g8 ?_
    case g1 => kpc_g
    case g2 => rfl
    case g3 => kpc_kind
    case g4 => rfl
    case g5 => kpt_fact
    case g6 => kpt_fact
    case g7 => rfl
    case g8 => kpc_none
    intro _ _
    refine KPc.turn ?_
    kpc_check
    (repeat kpc_if)
    refine wpAny_pure ?_
    refine KPc.after_add (by kpc_g) (by kpc_text) (by kpc_obj) ?_
    intro _ _
    refine KPc.turn ?_
    kpc_check
    (repeat kpc_if)
    refine wpAny_bind ?_
    refine wpAny_holding ?_
    (repeat kpc_if)
    refine wpAny_bind (wpAny_of_eq (a := _) rfl ?_)
    (repeat kpc_if)
    refine wpAny_bind (wpAny_mkInt ?_)
    refine wpAny_bind (call_gives F.slot_int_repr (typeIs_int _ _ _) F.entry_int_repr (F.args_int_repr_1 _) (gives_int_repr _ _ (KPt.hd2 (by kpt_hd))) ⟨int_text_fits (KPt.hd2 (by kpt_hd)), ?_⟩)
    with_reducible refine wpAny_bind ?_
    with_reducible refine wpAny_of_eq (asStr_eq _ _) ?_
    refine wpAny_pure ?_
    refine wpAny_pure ?_
    refine' KPc.after_int ?g1 ?g2 ?g3 ?g4 ?g5 ?g6 ?g7 ?g8 ?_
    case g1 => kpc_g
    case g2 => rfl
    case g3 => kpc_kind
    case g4 => rfl
    case g5 => kpt_fact
    case g6 => kpt_fact
    case g7 => rfl
    case g8 => kpc_none
    intro _ _
    refine KPc.turn ?_
    kpc_check
    (repeat kpc_if)
    refine wpAny_pure ?_
    refine KPc.after_add (by kpc_g) (by kpc_text) (by kpc_obj) ?_
    intro _ _
    refine KPc.turn ?_
    kpc_check
    (repeat kpc_if)
    kpc_close
set_option maxRecDepth 100000 in
set_option maxHeartbeats 8000000 in
theorem pctS {prog : Program} {w : World} {A : Around} {E : Value → Shared → Prop} {s : Shared} {t t1 t2 : Tok} {Q : Value → Shared → Prop} {b L : Addr} {k : Nat} {h₀ : Heap} {news : List (Addr × Obj)} {v n : Nat}
    (N : News h₀ L s.heap news) (hb : (b, ({ cls := .type "tuple", data := .seq #[.int (v : Int) t1, .int (n : Int) t2] k } : Obj)) ∈ news) (hv : v < 100000) (hn : n < 100000)
    (h : ∀ t' k, Q (.str (msgS v n) t') { s with toks := k }) :
    wpAny (model prog w) A (binaryOp .Mod (.str (Str.ofString "expected %d bytes in a string1, but only %d remain") t) (.ref b)) Q E s := by
  refine' KPt.mod_tuple N hb ?kptF ?kptm ?kpth
  case kptF => kpt_eq
  case kpth => exact h
  case kptm =>
    apply KPt.meets_tup
    intro _ _ _ _ _ _ kptH _
    obtain ⟨kptO, kptG, kptC, kptN, kptD⟩ := kptH
    rw [KPt.entry_is_r]
    unfold Builtin.Str.percentFormat
    refine wpAny_bind (wpAny_isInstance (T := "tuple") ⟨kptO, kptG, kptC⟩ KPt.sub_tt ?_)
    refine wpAny_bind (KPt.asStr_ref kptG kptD ?_)
    refine wpAny_bind (KPt.fills_ref ⟨kptO, kptG, kptC⟩ ?_)
    intro _
    kpc_if
    refine wpAny_bind (wpAny_seqItems kptG kptD ?_)
    refine wpAny_bind (wpAny_pure ?_)
    refine wpAny_bind ?_
    rw [KPc.range_list]
    refine KPc.start ?_
    intro _ _
    refine KPc.turn ?_
    kpc_check
    (repeat kpc_if)
    refine wpAny_pure ?_
    refine KPc.after_add0 (by kpc_g) (by kpc_text) (by kpc_obj) ?_
    intro _ _
    refine KPc.turn ?_
    kpc_check
    (repeat kpc_if)
    refine wpAny_bind ?_
    refine wpAny_holding ?_
    (repeat kpc_if)
    refine wpAny_bind (wpAny_of_eq (a := _) rfl ?_)
    (repeat kpc_if)
    refine wpAny_bind (wpAny_mkInt ?_)
    refine wpAny_bind (call_gives F.slot_int_repr (typeIs_int _ _ _) F.entry_int_repr (F.args_int_repr_1 _) (gives_int_repr _ _ (KPt.hd2 (by kpt_hd))) ⟨int_text_fits (KPt.hd2 (by kpt_hd)), ?_⟩)
    with_reducible refine wpAny_bind ?_
    with_reducible refine wpAny_of_eq (asStr_eq _ _) ?_
    refine wpAny_pure ?_
    refine wpAny_pure ?_
    refine' KPc.after_int ?g1 ?g2 ?g3 ?g4 ?g5 ?g6 ?g7 ?g8 ?_
    case g1 => kpc_g
    case g2 => rfl
    case g3 => kpc_kind
    case g4 => rfl
    case g5 => kpt_fact
    case g6 => kpt_fact
    case g7 => rfl
    case g8 => kpc_none
    intro _ _
    refine KPc.turn ?_
    kpc_check
    (repeat kpc_if)
    refine wpAny_pure ?_
    refine KPc.after_add (by kpc_g) (by kpc_text) (by kpc_obj) ?_
    intro _ _
    refine KPc.turn ?_
    kpc_check
    (repeat kpc_if)
    refine wpAny_bind ?_
    refine wpAny_holding ?_
    (repeat kpc_if)
    refine wpAny_bind (wpAny_of_eq (a := _) rfl ?_)
    (repeat kpc_if)
    refine wpAny_bind (wpAny_mkInt ?_)
    refine wpAny_bind (call_gives F.slot_int_repr (typeIs_int _ _ _) F.entry_int_repr (F.args_int_repr_1 _) (gives_int_repr _ _ (KPt.hd2 (by kpt_hd))) ⟨int_text_fits (KPt.hd2 (by kpt_hd)), ?_⟩)
    with_reducible refine wpAny_bind ?_
    with_reducible refine wpAny_of_eq (asStr_eq _ _) ?_
    refine wpAny_pure ?_
    refine wpAny_pure ?_
    refine' KPc.after_int ?g1 ?g2 ?g3 ?g4 ?g5 ?g6 ?g7 ?g8 ?_
    case g1 => kpc_g
    case g2 => rfl
    case g3 => kpc_kind
    case g4 => rfl
    case g5 => kpt_fact
    case g6 => kpt_fact
    case g7 => rfl
    case g8 => kpc_none
    intro _ _
    refine KPc.turn ?_
    kpc_check
    (repeat kpc_if)
    refine wpAny_pure ?_
    refine KPc.after_add (by kpc_g) (by kpc_text) (by kpc_obj) ?_
    intro _ _
    refine KPc.turn ?_
    kpc_check
    (repeat kpc_if)
    kpc_close
end
section
open PySem PySem.W PyProof.Rows PySem.Spec PySem.Calls
theorem freshB1 : True := by
  w_top off
  k_with_none
  (k_with "call ref!" => (k_here; (with_reducible show wpAny _ _ (call (Value.ref (StIds.fn _)) [Value.int _ _]) _ _ _); k_dflt (refine' rd_call (Gr.mk (by k_asm) (by k_asm) (by k_asm) (by assumption) (by assumption) (by exact rfl) (by assumption) (by assumption) (by ktr_rel) (by ktr_rel)) (by k_asm) (by k_asm) (by assumption) (by assumption) (by omega) (by omega) ?_); k_whole; intro h'Zz tk'Zz t'Zz b'Zz t''Zz F'Zz N'Zz hb'Zz; dsimp only [stDict, List.cons_append, List.nil_append] at N'Zz))
  (k_with "call ref!" => (k_here; (with_reducible show wpAny _ _ (call (Value.ref 21) [Value.ref (StIds.x _)]) _ _ _); k_dflt (refine' u1S (Gr.mk (by k_asm) (by k_asm) (by k_asm) (by assumption) (by assumption) (by exact rfl) (by assumption) (by assumption) (by ktr_rel) (by ktr_rel)) (by k_asm) (by k_asm) (by assumption) (by assumption) (by omega) ?_ ?_); (all_goals k_whole); (focus (intro hltZz h'Zz tk'Zz t'Zz t''Zz v'Zz F'Zz N'Zz hv'Zz hw'Zz)) ; dsimp only [stDict, List.cons_append, List.nil_append] at N'Zz; rotate_left; (intro hgeZz h'Zz g2'Zz tk'Zz t'Zz e'Zz x'Zz u'Zz F'Zz R'Zz U'Zz); dsimp only [stDict, List.cons_append, List.nil_append] at R'Zz; rotate_right))
  (k_with "exec Raise some none!" => (k_here; (with_reducible rename Fr _ _ _ _ => kFZz); k_dflt (refine' Raise_madeB PySem.F.excCall_ValueError PySem.F.excRaise_ValueError rfl ?_; refine' name_B kFZz ?k1Zz ?k2Zz ?k3Zz ?k4Zz ?k5Zz ⟨rfl, ?_⟩; (case k1Zz => k_asm); (case k2Zz => k_asm); (case k3Zz => k_is); (case k4Zz => boot_by_name); (case k5Zz => decide); k_whole)))
  (k_with "leaving ref!" => (k_here; first | (refine' leave_onS ?k1Zz ?k2Zz ?k3Zz ?k4Zz ?_; (case k3Zz => assumption); (case k2Zz => assumption); (case k1Zz => assumption); (case k4Zz => assumption); k_whole; intro h'Zz S'Zz R'Zz U'Zz; (try dsimp only at S'Zz R'Zz U'Zz ⊢)) | (refine' leave_raiseS ?k1Zz ?k0Zz ?k2Zz ?k3Zz ?_; (case k0Zz => exact Heap.MadeExc.of (by assumption)); (case k2Zz => assumption); (case k1Zz => assumption); (case k3Zz => k_asm); k_whole; intro h'Zz t'Zz S'Zz R'Zz U'Zz; (try dsimp only at S'Zz R'Zz U'Zz ⊢))))
  (k_with "binaryOp Mod str ref!" => (k_here; k_dflt (refine' pctB ?kNZz ?kbZz ?kvZz ?knZz ?_; (case kNZz => k_asm); (case kbZz => k_mem); (case kvZz => omega); (case knZz => omega)); k_whole; intro t'Zz k'Zz))
  exact trivial
theorem RaisedS.sub {base G : Heap} {l : List Env} {e t : Addr} {cls : Value} {vs : List Value} {news news' : List (Addr × Obj)} {h : Heap} (R : RaisedS base G l e cls t vs news h) (k : ∀ p ∈ news', p ∈ news) : RaisedS base G l e cls t vs news' h := by
  obtain ⟨⟨B, a, b, c, d⟩, f⟩ := R
  exact ⟨⟨B, a, b, fun q hq => c q (k q hq), d⟩, f⟩
theorem min_ne {v n : Nat} (h : ((min v n : Nat) : Int) ≠ (v : Int)) : min v n = n := by omega
theorem min_eqv {v n : Nat} (h : ((min v n : Nat) : Int) = (v : Int)) : min v n = v := by omega
set_option maxRecDepth 100000 in
set_option maxHeartbeats 8000000 in
theorem b1S {w : World} {dp un : Nat} {gd : Option (List Code)} {cn : Str} {cs : Scope} {a : Addr} {ccd : Value} {cl : List (Str × Addr)} {outer : List Env} {A₀ : Around} {base h₀ : Heap} {L : Addr} {m : Str → Option Value} {s : Shared}
    {p : Program} {loose : List Str} {mean : ExcName → Option Value} {mg mb : Str → Option Value}
    {Q E : Value → Shared → Prop} {tk : Tok} {pos : Nat} {σ : StIds} {ks : List Int} {own : List (Addr × Obj)}
    (G : Gr 3 w dp un cs outer A₀ base h₀ p loose mean mg mb) (F : Fr h₀ L s.heap m) (N : News h₀ L s.heap (σ.led w pos tk ++ own)) (off : OwnOff own [σ.d]) (S : σ.Ok ks) (hp : pos ≤ 1000)
    (hQ : pos < ks.length → ∀ h' tk' t' b t'' (v : Nat), (v : Int) = ks.getD pos 0 → v < 256 → pos + 1 + v ≤ ks.length → Fr h₀ L h' m → News h₀ L h' (σ.led w (pos + 1 + v) t' ++ own) → KBw.bInts b = (ks.drop (pos + 1)).take v → Q (.bytes b t'') { s with heap := h', toks := tk' })
    (hE : ks.length ≤ pos → ∀ h' g₂ tk' t' e t u, Fr h₀ L g₂ m → RaisedS base g₂ (envX cn cs L a ccd cl :: outer) e (.type "ValueError") t [.str msgU u] (σ.led w pos t' ++ own) h' → g₂.UpToSlots h' → E (.ref e) { s with heap := h', toks := tk' })
    (hE' : pos < ks.length → ∀ h' g₂ tk' t' e t u (v : Nat), (v : Int) = ks.getD pos 0 → v < 256 → ks.length < pos + 1 + v → Fr h₀ L g₂ m → RaisedS base g₂ (envX cn cs L a ccd cl :: outer) e (.type "ValueError") t [.str (msgB v (ks.length - (pos + 1))) u] (σ.led w ks.length t' ++ own) h' → g₂.UpToSlots h' → E (.ref e) { s with heap := h', toks := tk' }) :
    wpAny (model Challenge.rw_dw0039_01.row.prog w) (ktrTop dp un gd cn cs L a ccd cl outer) (call (.ref 35) [.ref σ.x]) Q E s := by
  obtain ⟨B, X, T, XB, TB, hk, C1, C2, hd0, hu⟩ := G
  revert X
  k_fill
  intro X
  obtain ⟨ck, cnm, cg, cc, cm⟩ := cs
  cases hk
  have hlen := S.len
  dsimp only [stDict, List.cons_append, List.nil_append] at N ⊢
  k_steps
  · rename ((min _ _ : Nat) : Int) = _ => hl
    rename (_ : Int) = ks.getD pos 0 => hv
    rename pos < ks.length => hlt'
    rename _ < 256 => hw
    rename KBw.bInts _ = _ => hb
    rename Fr h₀ L _ m => kF
    rename News h₀ L _ _ => kN
    rw [List.length_take, List.length_drop, min_eqv hl] at kN
    exact hQ hlt' _ _ _ _ _ _ hv hw (by omega) kF kN hb
  · rename ((min _ _ : Nat) : Int) ≠ _ => hl
    rename (_ : Int) = ks.getD pos 0 => hv
    rename pos < ks.length => hlt'
    rename _ < 256 => hw
    rename Fr h₀ L _ m => kF
    rename RaisedS _ _ _ _ _ _ _ _ _ => kS
    rename Heap.UpToSlots _ _ => kU
    rw [List.length_take, List.length_drop, min_ne hl, Nat.add_sub_of_le (by omega)] at kS
    exact hE' hlt' _ _ _ _ _ _ _ _ hv hw (by omega) kF (RaisedS.sub kS fun p hp => .tail _ hp) kU
  · rename ks.length ≤ pos => hge'
    rename Fr h₀ L _ m => kF
    rename RaisedS _ _ _ _ _ _ _ _ _ => kS
    rename Heap.UpToSlots _ _ => kU
    exact hE hge' _ _ _ _ _ _ _ kF kS kU
end
section
open PySem PySem.W PyProof.Rows PySem.Spec PySem.Calls
/-- all of own lies below d -/
structure OwnLt (d : Nat) (own : List (Addr × Obj)) : Prop where
  lt : ∀ p ∈ own, @LT.lt Nat _ p.1 d
theorem OwnLt.start {d : Addr} {l : List (Addr × Obj)} (h : ∀ p ∈ l, p.1 < d) : OwnLt d l := ⟨h⟩
theorem OwnLt.tail {d : Addr} {a : Addr × Obj} {l : List (Addr × Obj)} (h : OwnLt d (a :: l)) : OwnLt d l := ⟨fun p hp => h.lt p (.tail _ hp)⟩
theorem OwnLt.ne {d b : Nat} {own : List (Addr × Obj)} (h : OwnLt d own) (hb : d ≤ b) : ∀ p ∈ own, p.1 ≠ b := fun p hp => Nat.ne_of_lt (Nat.lt_of_lt_of_le (h.lt p hp) hb)
theorem OwnLt.le {d b : Nat} {own : List (Addr × Obj)} (h : OwnLt d own) (hb : d ≤ b) : OwnLt b own := ⟨fun p hp => Nat.lt_of_lt_of_le (h.lt p hp) hb⟩
theorem OwnLt.off {d : Nat} {own : List (Addr × Obj)} (h : OwnLt d own) : OwnOff own [d] := fun p hp b hb => by
  rw [List.mem_singleton.mp hb]; exact Nat.ne_of_lt (h.lt p hp)
theorem news_cons {h₀ h : Heap} {L : Addr} {a : Addr × Obj} {r : List (Addr × Obj)} (ha : h.get? a.1 = some a.2 ∧ a.1 ≠ L ∧ h₀.get? a.1 = none) (hr : News h₀ L h r) : News h₀ L h (a :: r) := fun p hp => by
  rcases List.mem_cons.mp hp with rfl | hp
  · exact ha
  · exact hr p hp
theorem news_tail {h₀ h : Heap} {L : Addr} {a : Addr × Obj} {r : List (Addr × Obj)} (N : News h₀ L h (a :: r)) : News h₀ L h r := fun p hp => N p (.tail _ hp)
theorem cellOf {o : Obj} {v v' : Option Value} (h : o.data = .cell v) (e : v = v') : o.data = .cell v' := e ▸ h
abbrev tabS (c : Addr) : Obj := tabObj #[rawInt 29, rawInt 4, .ref c]
abbrev tabL (c : Addr) : Obj := tabObj #[rawInt 38, rawInt 4, .ref c]
end
section
open PySem PySem.W PyProof.Rows PySem.Spec PySem.Calls
def plDef := innerDef Challenge.pw_dw0039_01 7 1
abbrev plQual : Str := Str.ofString "_law_layer" ++ Str.ofString ".<locals>." ++ Str.ofString "_law_pull"
def plFn (cg cf : Addr) (doc pm : Value) (c : Addr) (ct : Value) : Obj :=
  fnMade plDef.1 plQual plDef.2.1 plDef.2.2.1 plDef.2.2.2 [(Str.ofString "g", cg), (Str.ofString "f", cf)] doc pm c ct
/-- what a layer is made of -/
structure LyIds where
  x : Addr
  d : Addr
  l : Addr
  fn : Addr
  c : Addr
  cg : Addr
  cf : Addr
  oc : Obj
  ocg : Obj
  ocf : Obj
  vs : Array Value
  t0 : Tok
  t1 : Tok
  t3 : Tok
  doc : Value
  pm : Value
  ct : Value
/-- a layer's own state: what is got and not handed on, whether the empty piece was met -/
structure CS where
  b : Array UInt8
  tb : Tok
  done : Bool
  pos : Nat
  tp : Tok
abbrev LyIds.led (y : LyIds) (w : World) (b : Array UInt8) (tb : Tok) (dn : Bool) : List (Addr × Obj) :=
  [(y.l, listOf #[.bytes b tb, .bool dn] 0), (y.x, instObj 52 y.d), (y.d, stDict w y.t1 y.t3 (.ref y.l) (.ref y.fn)), (y.fn, plFn y.cg y.cf y.doc y.pm y.c y.ct), (y.c, y.oc), (y.cg, y.ocg), (y.cf, y.ocf)]
structure LyIds.Ok (y : LyIds) (σ : StIds) : Prop where
  oc : y.oc.data = .fields y.vs
  vs : y.vs[1]? = some (.str plQual y.t0)
  ocg : y.ocg.data = .cell (some (.ref y.x))
  ocf : y.ocf.data = .cell (some (.ref σ.x))
  ne : @Ne Nat y.l y.x ∧ @Ne Nat y.l y.d ∧ @Ne Nat y.l y.fn ∧ @Ne Nat y.l y.c ∧ @Ne Nat y.l y.cg ∧ @Ne Nat y.l y.cf
  ns : @Ne Nat y.l σ.x ∧ @Ne Nat y.l σ.d ∧ @Ne Nat y.l σ.fn ∧ @Ne Nat y.l σ.c ∧ @Ne Nat y.l σ.cf ∧ @Ne Nat y.l σ.co
  sn : @Ne Nat σ.d y.x ∧ @Ne Nat σ.d y.d ∧ @Ne Nat σ.d y.fn ∧ @Ne Nat σ.d y.c ∧ @Ne Nat σ.d y.cg ∧ @Ne Nat σ.d y.cf
end
section
open PySem PySem.W PyProof.Rows PySem.Spec PySem.Calls
/-- a layer's state, plainly -/
structure PS where
  buf : List Int
  done : Bool
  pos : Nat
def CS.abs (c : CS) : PS := ⟨KBw.bInts c.b, c.done, c.pos⟩
def b1P (ks : List Int) (pos : Nat) : Except (Str × Nat) (List Int × Nat) :=
  if ks.length ≤ pos then .error (msgU, pos)
  else if ks.length < pos + 1 + (ks.getD pos 0).toNat then .error (msgB (ks.getD pos 0).toNat (ks.length - (pos + 1)), ks.length)
  else .ok ((ks.drop (pos + 1)).take (ks.getD pos 0).toNat, pos + 1 + (ks.getD pos 0).toNat)
def turnP (ks : List Int) (n : Nat) (st : PS) : Except (Str × PS) PS :=
  if st.buf.length < n ∧ st.done = false then
    match b1P ks st.pos with
    | .error e => .error (e.1, ⟨st.buf, st.done, e.2⟩)
    | .ok r => .ok ⟨st.buf ++ r.1, decide (r.1 = []), r.2⟩
  else .ok st
def turnsP (ks : List Int) (n : Nat) : Nat → PS → Except (Str × PS) PS
  | 0, st => .ok st
  | k + 1, st => match turnsP ks n k st with
    | .error e => .error e
    | .ok st' => turnP ks n st'
theorem turnsP_err {ks : List Int} {n k : Nat} {st : PS} {e : Str × PS} (h : turnsP ks n k st = .error e) : ∀ j, turnsP ks n (k + j) st = .error e
  | 0 => h
  | j + 1 => by
    have h' := turnsP_err h j
    rw [← Nat.add_assoc, turnsP, h']
def pullP (ks : List Int) (n : Nat) (st : PS) : Except (Str × PS) (List Int × PS) :=
  match turnsP ks n n st with
  | .error e => .error e
  | .ok st' => .ok (st'.buf.take n, ⟨st'.buf.drop n, st'.done, st'.pos⟩)
def PS.Ok (st : PS) (ks : List Int) : Prop := st.buf.length ≤ st.pos ∧ st.pos ≤ ks.length
theorem ownOff_cons {a : Addr × Obj} {r : List (Addr × Obj)} {d : Nat} (h : @Ne Nat a.1 d) (k : OwnOff r [d]) : OwnOff (a :: r) [d] := fun p hp b hb => by
  rcases List.mem_cons.mp hp with rfl | hp
  · rw [List.mem_singleton.mp hb]; exact h
  · exact k p hp b hb
theorem ownOff_one {r : List (Addr × Obj)} {l : List Addr} {d : Addr} (k : OwnOff r l) (h : d ∈ l) : OwnOff r [d] := fun p hp b hb => by
  rw [List.mem_singleton.mp hb]; exact k p hp d h
theorem ownOff_app {r q : List (Addr × Obj)} {l : List Addr} (k : OwnOff r l) (h : OwnOff q l) : OwnOff (r ++ q) l := fun p hp b hb => (List.mem_append.mp hp).elim (fun hp => k p hp b hb) fun hp => h p hp b hb
theorem ownOff_sub {r : List (Addr × Obj)} {l l' : List Addr} (k : OwnOff r l) (h : ∀ b ∈ l', b ∈ l) : OwnOff r l' := fun p hp b hb => k p hp b (h b hb)
end
section
open PySem PySem.W PyProof.Rows PySem.Spec PySem.Calls
theorem freshPl : True := by
  w_top off
  k_with_none
  (k_with "call ref!" => (k_here; (with_reducible show wpAny _ _ (call (Value.ref 35) [Value.ref (StIds.x _)]) _ _ _); k_dflt (refine' b1S (Gr.mk (by k_asm) (by k_asm) (by k_asm) (by assumption) (by assumption) (by exact rfl) (by assumption) (by assumption) (by ktr_rel) (by ktr_rel)) (by k_asm) (by k_asm) (by ((repeat (refine ownOff_cons (by (dsimp only; omega)) ?_)); exact ownOff_one (by assumption) (by k_mem))) (by assumption) (by omega) ?okZz ?eUZz ?eBZz); (all_goals k_whole); (case' okZz => (intro hltZz h'Zz tk'Zz t'Zz b'Zz t''Zz v'Zz hv'Zz hw'Zz hle'Zz F'Zz N'Zz hb'Zz; dsimp only [stDict, List.cons_append, List.nil_append] at N'Zz)); (case' eUZz => (intro hgeZz h'Zz g2'Zz tk'Zz t'Zz e'Zz x'Zz u'Zz F'Zz R'Zz U'Zz; dsimp only [stDict, List.cons_append, List.nil_append] at R'Zz)); (case' eBZz => (intro hltZz h'Zz g2'Zz tk'Zz t'Zz e'Zz x'Zz u'Zz v'Zz hv'Zz hw'Zz hle'Zz F'Zz R'Zz U'Zz; dsimp only [stDict, List.cons_append, List.nil_append] at R'Zz))))
  (k_with "subscriptTail!" => (k_here; (with_reducible show wpAny _ _ (subscriptTail _ _ (Value.ref (LyIds.l _)) (Value.int _ _)) _ _ _); k_dflt (refine' ly_item ?k0Zz ?k1Zz ?k2Zz ?k3Zz ?k4Zz ?_ ?k6Zz; (case k0Zz => k_asm); (case k1Zz => k_mem); (case k2Zz => decide); (case k3Zz => decide); (case k4Zz => exact rfl); (case k6Zz => with_unfolding_all rfl); k_whole)))
  (k_with "setItem ref int!" => (k_here; (with_reducible show wpAny _ _ (setItem (Value.ref (LyIds.l _)) (Value.int 0 _) (Value.bytes _ _)) _ _ _); k_dflt (refine' ly_set0 (by k_asm) (by k_asm) (by assumption) (by assumption) ?_); intro h'Zz F'Zz N'Zz; dsimp only [stDict, List.cons_append, List.nil_append] at N'Zz))
  (k_with "setItem ref int!" => (k_here; (with_reducible show wpAny _ _ (setItem (Value.ref (LyIds.l _)) (Value.int 1 _) (Value.bool _)) _ _ _); k_dflt (refine' ly_set1 (by k_asm) (by k_asm) (by assumption) (by assumption) ?_); intro h'Zz F'Zz N'Zz; dsimp only [stDict, List.cons_append, List.nil_append] at N'Zz))
  (k_with "leaving ref!" => (k_here; (refine' leave_onX ?k1Zz ?k2Zz ?k3Zz ?k4Zz ?_; (case k3Zz => assumption); (case k2Zz => assumption); (case k1Zz => assumption); (case k4Zz => assumption); k_whole; intro h'Zz S'Zz U'Zz; (try dsimp only at S'Zz U'Zz ⊢))))
  exact trivial
theorem ly_item {prog : Program} {w : World} {A : Around} {E : Value → Shared → Prop} {s : Shared} {h₀ : Heap} {L : Addr} {value slice : PySem.Expr} {l : Addr} {vs : List Value} {news : List (Addr × Obj)} {c : Nat} {k : Int} {u : Tok} {v : Value} {Q : Value → Shared → Prop}
    (N : News h₀ L s.heap news) (hm : (l, listOf vs.toArray c) ∈ news) (h0 : 0 ≤ k) (hhi : k < 2 ^ 63) (hx : vs[k.toNat]? = some v) (h : Q v s)
    (hs : subscripted slice false (.ref l) (.int k u) = operate [.ref l, .int k u] (getItem (.ref l) (.int k u)) := by with_unfolding_all rfl) :
    wpAny (model prog w) A (subscriptTail value slice (.ref l) (.int k u)) Q E s :=
  item_litK ⟨_, (N _ hm).1, rfl, c, rfl⟩ h0 hhi hx h hs
theorem ly_upd {w : World} {y : LyIds} {σ : StIds} {pos : Nat} {t tb tb' : Tok} {b b' : Array UInt8} {dn dn' : Bool} {own : List (Addr × Obj)} (Y : y.Ok σ) (off : OwnOff own [σ.d, y.l]) :
    Upd y.l (listOf #[.bytes b tb, .bool dn] 0) (listOf #[.bytes b' tb', .bool dn'] 0) (σ.led w pos t ++ (y.led w b tb dn ++ own)) (σ.led w pos t ++ (y.led w b' tb' dn' ++ own)) := by
  obtain ⟨n1, n2, n3, n4, n5, n6⟩ := Y.ns
  obtain ⟨k1, k2, k3, k4, k5, k6⟩ := Y.ne
  have ho : ∀ p ∈ own, p.1 ≠ y.l := fun p hp => off p hp _ (.tail _ (.head _))
  exact .tail n1.symm (.tail n2.symm (.tail n3.symm (.tail n4.symm (.tail n5.symm (.tail n6.symm (.head
    (List.forall_mem_cons.mpr ⟨k1.symm, List.forall_mem_cons.mpr ⟨k2.symm, List.forall_mem_cons.mpr ⟨k3.symm, List.forall_mem_cons.mpr ⟨k4.symm, List.forall_mem_cons.mpr ⟨k5.symm, List.forall_mem_cons.mpr ⟨k6.symm, ho⟩⟩⟩⟩⟩⟩)))))))
theorem mem_frames {name : Str} {scope : Scope} {L a b : Addr} {cd : Value} {cl : List (Str × Addr)} {outer : List Env} (hm : b ∈ (envX name scope L a cd cl :: outer).filterMap (·.frame)) : b = L ∨ b ∈ outer.filterMap (·.frame) := by
  simp only [List.filterMap_cons, List.mem_cons] at hm
  exact hm
/-- an exception passes on through a frame that has cells -/
theorem leave_onX {M : Model} {A : Around} {E : Value → Shared → Prop} {s' : Shared} {base g g₂ : Heap} {outer : List Env} {L a e t : Addr} {m : Str → Option Value} {name : Str} {scope : Scope} {cd : Value} {cl : List (Str × Addr)} {Q : Unit → Shared → Prop} {news : List (Addr × Obj)} {cls : Value} {vs : List Value}
    (K : Below A base outer g) (F : Fr g L g₂ m) (R : RaisedS base g₂ (envX name scope L a cd cl :: outer) e cls t vs news s'.heap) (hsm : g₂.UpToSlots s'.heap)
    (hQ : ∀ h', RaisedS base g outer e cls t vs news h' → g.UpToSlots h' → Q () { s' with heap := h' }) :
    wpAny M (A.deeper (envX name scope L a cd cl)) (leaving (envX name scope L a cd cl) (.ref e)) Q E s' := by
  obtain ⟨⟨B, hB, hG, hn, hfl, ht⟩, hv⟩ := R
  have hL := kts_self F
  refine wpAny_leaves_onW (Around.frames_deeper K.stack) rfl hfl fun h' x1 x2 => hQ h' ⟨⟨B, hB, fun b o q nm => ?_, fun q hq => ⟨(hn q hq).1, kts_none F.keep (hn q hq).2.1, (hn q hq).2.2⟩, x1, ht⟩, hv.of_slots x2⟩ ?_
  · refine hG b o (F.keep b o q) fun hm => ?_
    rcases mem_frames hm with rfl | z
    · rw [hL] at q; cases q
    · exact nm z
  · exact (Heap.UpToSlots.of_keeps F.keep).trans (hsm.trans x2)
theorem ly_set0 {prog : Program} {w : World} {A : Around} {E : Value → Shared → Prop} {s : Shared} {h₀ : Heap} {L : Addr} {m : Str → Option Value} {y : LyIds} {σ : StIds} {pos : Nat} {t tb tb' u : Tok} {b b' : Array UInt8} {dn : Bool} {own : List (Addr × Obj)} {Q : Unit → Shared → Prop}
    (F : Fr h₀ L s.heap m) (N : News h₀ L s.heap (σ.led w pos t ++ (y.led w b tb dn ++ own))) (off : OwnOff own [σ.d, y.l]) (Y : y.Ok σ)
    (h : ∀ h', Fr h₀ L h' m → News h₀ L h' (σ.led w pos t ++ (y.led w b' tb' dn ++ own)) → Q () { s with heap := h' }) :
    wpAny (model prog w) A (setItem (.ref y.l) (.int 0 u) (.bytes b' tb')) Q E s :=
  ki_set (q := [.bytes b' tb', .bool dn]) F N (by decide) (by decide) rfl (ly_upd Y off) h
theorem ly_set1 {prog : Program} {w : World} {A : Around} {E : Value → Shared → Prop} {s : Shared} {h₀ : Heap} {L : Addr} {m : Str → Option Value} {y : LyIds} {σ : StIds} {pos : Nat} {t tb u : Tok} {b : Array UInt8} {dn dn' : Bool} {own : List (Addr × Obj)} {Q : Unit → Shared → Prop}
    (F : Fr h₀ L s.heap m) (N : News h₀ L s.heap (σ.led w pos t ++ (y.led w b tb dn ++ own))) (off : OwnOff own [σ.d, y.l]) (Y : y.Ok σ)
    (h : ∀ h', Fr h₀ L h' m → News h₀ L h' (σ.led w pos t ++ (y.led w b tb dn' ++ own)) → Q () { s with heap := h' }) :
    wpAny (model prog w) A (setItem (.ref y.l) (.int 1 u) (.bool dn')) Q E s :=
  ki_set (q := [.bytes b tb, .bool dn']) F N (by decide) (by decide) rfl (ly_upd Y off) h
theorem mem_l {α : Type} {a b c d : List α} {p : α} (h : p ∈ a ++ (b ++ c)) : p ∈ a ++ (b ++ (c ++ d)) := by
  rw [← List.append_assoc b, ← List.append_assoc a]; exact List.mem_append_left _ h
theorem mem_r {α : Type} {a b c d : List α} {p : α} (h : p ∈ d) : p ∈ a ++ (b ++ (c ++ d)) := List.mem_append_right _ (List.mem_append_right _ (List.mem_append_right _ h))
theorem min_take {l : List Int} {n : Nat} : l.take (min n l.length) = l.take n := by
  by_cases h : n ≤ l.length
  · rw [Nat.min_eq_left h]
  · rw [Nat.min_eq_right (by omega), List.take_of_length_le (Nat.le_refl _), List.take_of_length_le (by omega)]
theorem min_drop {l : List Int} {n : Nat} : (l.drop (min n l.length)).take (l.length - min n l.length) = l.drop n := by
  rw [List.take_of_length_le (by simp)]
  by_cases h : n ≤ l.length
  · rw [Nat.min_eq_left h]
  · rw [Nat.min_eq_right (by omega), List.drop_of_length_le (Nat.le_refl _), List.drop_of_length_le (by omega)]
theorem bytes_nil {b : Array UInt8} {l : List Int} (h : KBw.bInts b = l) : decide (l = []) = (b.toList == []) := by
  subst h
  unfold KBw.bInts
  cases b.toList <;> simp
theorem turnsP_next {ks : List Int} {n k : Nat} {st st' : PS} {r : Except (Str × PS) PS} (h : turnsP ks n k st = .ok st') (h' : turnP ks n st' = r) : turnsP ks n (k + 1) st = r := by
  rw [turnsP, h]; exact h'
theorem turnP_no {ks : List Int} {n : Nat} {st : PS} (h : ¬ (st.buf.length < n ∧ st.done = false)) : turnP ks n st = .ok st := by
  rw [turnP, if_neg h]
theorem turnP_ok {ks : List Int} {n v : Nat} {st : PS} (h : st.buf.length < n) (hd : st.done = false) (h1 : st.pos < ks.length) (hv : (v : Int) = ks.getD st.pos 0) (h2 : st.pos + 1 + v ≤ ks.length) :
    turnP ks n st = .ok ⟨st.buf ++ (ks.drop (st.pos + 1)).take v, decide ((ks.drop (st.pos + 1)).take v = []), st.pos + 1 + v⟩ := by
  have e : (ks.getD st.pos 0).toNat = v := by rw [← hv]; rfl
  rw [turnP, if_pos ⟨h, hd⟩, b1P, if_neg (by omega), e, if_neg (by omega)]
theorem turnP_eU {ks : List Int} {n : Nat} {st : PS} (h : st.buf.length < n) (hd : st.done = false) (h1 : ks.length ≤ st.pos) : turnP ks n st = .error (msgU, st) := by
  rw [turnP, if_pos ⟨h, hd⟩, b1P, if_pos h1]
theorem turnP_eB {ks : List Int} {n v : Nat} {st : PS} (h : st.buf.length < n) (hd : st.done = false) (h1 : st.pos < ks.length) (hv : (v : Int) = ks.getD st.pos 0) (h2 : ks.length < st.pos + 1 + v) :
    turnP ks n st = .error (msgB v (ks.length - (st.pos + 1)), ⟨st.buf, st.done, ks.length⟩) := by
  have e : (ks.getD st.pos 0).toNat = v := by rw [← hv]; rfl
  rw [turnP, if_pos ⟨h, hd⟩, b1P, if_neg (by omega), e, if_pos (by omega)]
theorem pullP_err {ks : List Int} {n k : Nat} {st : PS} {e : Str × PS} (h : turnsP ks n k st = .error e) (hk : k ≤ n) : pullP ks n st = .error e := by
  have := turnsP_err h (n - k)
  rw [Nat.add_sub_of_le hk] at this
  rw [pullP, this]
theorem pullP_ok {ks : List Int} {n : Nat} {st st' : PS} (h : turnsP ks n n st = .ok st') : pullP ks n st = .ok (st'.buf.take n, ⟨st'.buf.drop n, st'.done, st'.pos⟩) := by
  rw [pullP, h]
set_option maxRecDepth 100000 in
set_option maxHeartbeats 8000000 in
theorem plY {w : World} {dp un : Nat} {gd : Option (List Code)} {cn : Str} {cs : Scope} {a : Addr} {ccd : Value} {cl : List (Str × Addr)} {outer : List Env} {A₀ : Around} {base h₀ : Heap} {L : Addr} {m : Str → Option Value} {s : Shared}
    {p : Program} {loose : List Str} {mean : ExcName → Option Value} {mg mb : Str → Option Value}
    {Q E : Value → Shared → Prop} {tk : Tok} {n : Nat} {c₀ : CS} {y : LyIds} {σ : StIds} {ks : List Int} {own : List (Addr × Obj)}
    (G : Gr 4 w dp un cs outer A₀ base h₀ p loose mean mg mb) (F : Fr h₀ L s.heap m) (N : News h₀ L s.heap (σ.led w c₀.pos c₀.tp ++ (y.led w c₀.b c₀.tb c₀.done ++ own))) (off : OwnOff own [σ.d, y.l]) (S : σ.Ok ks) (Y : y.Ok σ) (hn : n ≤ 1000) (hp : c₀.abs.Ok ks)
    (hQ : ∀ h' tk' b t'' (c : CS), pullP ks n c₀.abs = .ok (KBw.bInts b, c.abs) → c.abs.Ok ks → Fr h₀ L h' m → News h₀ L h' (σ.led w c.pos c.tp ++ (y.led w c.b c.tb c.done ++ own)) → Q (.bytes b t'') { s with heap := h', toks := tk' })
    (hE : ∀ h' g₂ tk' e t u msg (c : CS), pullP ks n c₀.abs = .error (msg, c.abs) → Fr h₀ L g₂ m → RaisedS base g₂ (envX cn cs L a ccd cl :: outer) e (.type "ValueError") t [.str msg u] (σ.led w c.pos c.tp ++ (y.led w c.b c.tb c.done ++ own)) h' → g₂.UpToSlots h' → E (.ref e) { s with heap := h', toks := tk' }) :
    wpAny (model Challenge.rw_dw0039_01.row.prog w) (ktrTop dp un gd cn cs L a ccd cl outer) (call (.ref y.fn) [.int n tk]) Q E s := by
  obtain ⟨B, X, T, XB, TB, hk, C1, C2, hd0, hu⟩ := G
  revert X
  k_fill
  intro X
  obtain ⟨ck, cnm, cg, cc, cm⟩ := cs
  cases hk
  obtain ⟨Y1, Y2, Y3, Y4, Y5, Y6, Y7⟩ := id Y
  have S5 := S.ne
  have S6 := S.len
  dsimp only [stDict, List.cons_append, List.nil_append, plFn, plDef, innerDef, Challenge.pw_dw0039_01, List.getElem?_cons_succ, List.getElem?_cons_zero] at N ⊢
  (k_with "pyIter ref" => (k_here; (rename Fr _ _ _ _ => lF'); (rename News _ _ _ _ => lN'); (rename IsRange _ _ _ _ _ _ _ _ => rgX); (with_unfolding_all refine' kst_range (σ := CS) (fun c => σ.led w c.pos c.tp ++ (y.led w c.b c.tb c.done ++ own)) (fun _ => []) (fun _ => True) [Str.ofString "piece"] (fun pre c => turnsP ks n pre.length c₀.abs = .ok c.abs ∧ c.abs.Ok ks) c₀ (by rfl) (by exact rgX) (by exact small_one (by omega) (by omega) (by omega) (by omega)) (by exact rangeSize_nat _ _) lF' (by exact lN') trivial (fun _ h9 => nomatch h9) ⟨rfl, hp⟩ ?turn ?done); (case' turn => (intro c9 pre9 k9 t9 u9 h9 tk9 own9 hk9 hlt9 hoff9 hf9 hP9 F9 N9; obtain ⟨b9, tb9, dn9, pos9, tp9⟩ := c9; obtain ⟨hP9, hQ9⟩ := hP9; (have hoff2 : OwnOff (own ++ own9) [σ.d, y.l] := ownOff_app off (ownOff_sub hoff9 (by simp))); obtain ⟨o2, ho2⟩ : ∃ o2, o2 = own ++ own9 := ⟨_, rfl⟩; rw [← ho2] at hoff2; (simp only [List.append_assoc] at N9); rw [← ho2] at N9; obtain ⟨bl9, hbl9⟩ : ∃ bl, KBw.bInts b9 = bl := ⟨_, rfl⟩; (dsimp only [CS.abs, PS.Ok] at hP9 hQ9); rw [hbl9] at hP9 hQ9; (dsimp only [stDict, List.cons_append, List.nil_append] at N9 ⊢); dsimp only [kstB] at F9; k_whole)); (case' done => (intro c9 u9 h9 tk9 hf9 hP9 F9 N9; obtain ⟨b9, tb9, dn9, pos9, tp9⟩ := c9; obtain ⟨hP9, hQ9⟩ := hP9; obtain ⟨bl9, hbl9⟩ : ∃ bl, KBw.bInts b9 = bl := ⟨_, rfl⟩; (dsimp only [CS.abs, PS.Ok] at hP9 hQ9); rw [hbl9] at hP9 hQ9; (dsimp only [stDict, List.cons_append, List.nil_append] at N9 ⊢); dsimp only [kstB] at F9; k_whole))))
  k_steps
  · rename Fr h₀ L _ m => kF
    rename News h₀ L _ _ => kN
    rename KBw.bInts (KBy.picked _ none (some _)) = _ => k1
    rename KBw.bInts (KBy.picked _ (some _) none) = _ => k2
    rw [min_take] at k1
    rw [min_drop] at k2
    rw [rangeKs_length, show ((n : Int) - 0).toNat = n by omega] at hP9
    refine hQ _ _ _ _ ⟨KBy.picked b9 (some (n : Int)) none, _, dn9, pos9, tp9⟩ ?_ ?_ kF kN
    · rw [k1]
      show _ = Except.ok (_, PS.mk (KBw.bInts _) _ _)
      rw [k2]
      exact pullP_ok hP9
    · show List.length (KBw.bInts _) ≤ pos9 ∧ pos9 ≤ ks.length
      rw [k2, List.length_drop]
      omega
  · subst ho2
    subst hbl9
    have kN : News _ _ _ (σ.led w pos9 tp9 ++ (y.led w b9 tb9 dn9 ++ (own ++ own9))) := N9
    exact kst_end (⟨b9, tb9, dn9, pos9, tp9⟩ : CS) F9 kN (fun p hp => mem_l hp) (fun p hp => mem_r hp) rfl trivial (fun _ h9 => nomatch h9) (fun z h1 _ h2 => by simp only [h1, h2, if_false, Bool.false_eq_true]) ⟨by rw [List.length_append]; exact turnsP_next hP9 (turnP_no (by simp_all)), hQ9⟩
  · rename (_ : Int) = ks.getD _ 0 => hv
    rename RaisedS base _ (_ :: outer) _ _ _ _ _ _ => kS
    rename Heap.UpToSlots _ _ => kU
    rename Fr h₀ L _ m => kF
    subst ho2
    refine hE _ _ _ _ _ _ _ ⟨b9, tb9, dn9, ks.length, _⟩ ?_ kF (RaisedS.sub kS fun p hp => mem_l hp) kU
    refine pullP_err (k := pre9.length + 1) (turnsP_next hP9 ?_) (by omega)
    show _ = Except.error (_, PS.mk (KBw.bInts _) _ _)
    rw [hbl9]
    exact turnP_eB (by dsimp only; omega) (by assumption) (by dsimp only; omega) hv (by dsimp only; omega)
  · rename RaisedS base _ (_ :: outer) _ _ _ _ _ _ => kS
    rename Heap.UpToSlots _ _ => kU
    rename Fr h₀ L _ m => kF
    subst ho2
    refine hE _ _ _ _ _ _ _ ⟨b9, tb9, dn9, pos9, _⟩ ?_ kF (RaisedS.sub kS fun p hp => mem_l hp) kU
    refine pullP_err (k := pre9.length + 1) (turnsP_next hP9 ?_) (by omega)
    show _ = Except.error (_, PS.mk (KBw.bInts _) _ _)
    rw [hbl9]
    exact turnP_eU (by dsimp only; omega) (by assumption) (by dsimp only; omega)
  · rename (_ : Int) = ks.getD _ 0 => hv
    rename KBw.bInts (_ ++ _) = _ => hb
    rename Fr _ _ _ _ => kF
    rename News _ _ _ _ => kN
    subst ho2
    rename KBw.bInts _ = List.take _ _ => hb2
    rename News _ _ _ ((_ : Addr × Obj) :: _) => kN
    have kN' : News _ _ _ (σ.led w _ _ ++ (y.led w _ _ _ ++ (own ++ own9))) := kN
    refine kst_end (⟨_, _, _, _, _⟩ : CS) kF kN' (fun p hp => mem_l hp) (fun p hp => mem_r hp) rfl trivial (fun _ h9 => nomatch h9) (fun z h1 _ h2 => by
      have h3 : z ≠ Str.ofString "piece" := by rintro rfl; exact absurd h2 (by decide)
      simp only [h1, h2, h3, if_false, Bool.false_eq_true]) ⟨?_, ?_⟩
    · rw [List.length_append]
      refine turnsP_next hP9 ?_
      show _ = Except.ok (PS.mk (KBw.bInts _) _ _)
      rw [hb]
      dsimp only
      rw [← bytes_nil hb2]
      exact turnP_ok (by dsimp only; omega) (by assumption) (by dsimp only; omega) hv (by dsimp only; omega)
    · show List.length (KBw.bInts _) ≤ pos9 + 1 + _ ∧ pos9 + 1 + _ ≤ ks.length
      rw [hb, List.length_append, List.length_take, List.length_drop]
      omega
  · subst ho2
    subst hbl9
    have kN : News _ _ _ (σ.led w pos9 tp9 ++ (y.led w b9 tb9 dn9 ++ (own ++ own9))) := N9
    exact kst_end (⟨b9, tb9, dn9, pos9, tp9⟩ : CS) F9 kN (fun p hp => mem_l hp) (fun p hp => mem_r hp) rfl trivial (fun _ h9 => nomatch h9) (fun z h1 _ h2 => by simp only [h1, h2, if_false, Bool.false_eq_true]) ⟨by rw [List.length_append]; exact turnsP_next hP9 (turnP_no (by dsimp only; omega)), hQ9⟩
end
section
open PySem PySem.W PyProof.Rows PySem.Spec PySem.Calls
theorem freshRd : True := by
  w_top off
  k_with_none
  (k_with "call ref!" => (k_here; (with_reducible show wpAny _ _ (call (Value.ref (LyIds.fn _)) [Value.int _ _]) _ _ _); k_dflt (refine' plY (n := 1) (Gr.mk (by k_asm) (by k_asm) (by k_asm) (by assumption) (by assumption) (by exact rfl) (by assumption) (by assumption) (by ktr_rel) (by ktr_rel)) (by k_asm) (by k_asm) (by assumption) (by assumption) (by assumption) (by omega) (by assumption) ?okZz ?erZz); (all_goals k_whole); (case' okZz => (intro h'Zz tk'Zz b'Zz t''Zz c'Zz hp'Zz ho'Zz F'Zz N'Zz; obtain ⟨bl'Zz, hb'Zz⟩ : ∃ l, KBw.bInts b'Zz = l := ⟨_, rfl⟩; rw [hb'Zz] at hp'Zz; (have hl'Zz := pull_len hp'Zz); dsimp only [stDict, List.cons_append, List.nil_append] at N'Zz)); (case' erZz => (intro h'Zz g2'Zz tk'Zz e'Zz x'Zz u'Zz msg'Zz c'Zz hp'Zz F'Zz R'Zz U'Zz; dsimp only [stDict, List.cons_append, List.nil_append] at R'Zz))))
  (k_with "exec Raise some none!" => (k_here; (with_reducible rename Fr _ _ _ _ => kFZz); k_dflt (refine' Raise_madeB PySem.F.excCall_ValueError PySem.F.excRaise_ValueError rfl ?_; refine' name_B kFZz ?k1Zz ?k2Zz ?k3Zz ?k4Zz ?k5Zz ⟨rfl, ?_⟩; (case k1Zz => k_asm); (case k2Zz => k_asm); (case k3Zz => k_is); (case k4Zz => boot_by_name); (case k5Zz => decide); k_whole)))
  (k_with "leaving ref!" => (k_here; first | (refine' leave_onS ?k1Zz ?k2Zz ?k3Zz ?k4Zz ?_; (case k3Zz => assumption); (case k2Zz => assumption); (case k1Zz => assumption); (case k4Zz => assumption); k_whole; intro h'Zz S'Zz R'Zz U'Zz; (try dsimp only at S'Zz R'Zz U'Zz ⊢)) | (refine' leave_raiseS ?k1Zz ?k0Zz ?k2Zz ?k3Zz ?_; (case k0Zz => exact Heap.MadeExc.of (by assumption)); (case k2Zz => assumption); (case k1Zz => assumption); (case k3Zz => k_asm); k_whole; intro h'Zz t'Zz S'Zz R'Zz U'Zz; (try dsimp only at S'Zz R'Zz U'Zz ⊢))))
  exact trivial
def u1P (ks : List Int) (st : PS) : Except (Str × PS) (Int × PS) :=
  match pullP ks 1 st with
  | .error e => .error e
  | .ok r => if 0 < r.1.length then .ok (r.1.getD 0 0, r.2) else .error (msgU, r.2)
def d1P (mk : Nat → Nat → Str) (ks : List Int) (st : PS) : Except (Str × PS) (List Int × PS) :=
  match u1P ks st with
  | .error e => .error e
  | .ok r => match pullP ks r.1.toNat r.2 with
    | .error e => .error e
    | .ok q => if q.1.length = r.1.toNat then .ok q else .error (mk r.1.toNat q.1.length, q.2)
theorem pull_len {ks : List Int} {n : Nat} {st st' : PS} {d : List Int} (h : pullP ks n st = .ok (d, st')) : d.length ≤ n := by
  unfold pullP at h
  split at h
  · cases h
  · cases h; rw [List.length_take]; omega
theorem u1P_ok {ks : List Int} {st st' : PS} {d : List Int} (h : pullP ks 1 st = .ok (d, st')) (hd : 0 < d.length) : u1P ks st = .ok (d.getD 0 0, st') := by
  rw [u1P, h]; exact if_pos hd
theorem u1P_no {ks : List Int} {st st' : PS} {d : List Int} (h : pullP ks 1 st = .ok (d, st')) (hd : ¬ 0 < d.length) : u1P ks st = .error (msgU, st') := by
  rw [u1P, h]; exact if_neg hd
theorem u1P_err {ks : List Int} {st : PS} {e : Str × PS} (h : pullP ks 1 st = .error e) : u1P ks st = .error e := by
  rw [u1P, h]
theorem d1P_err {mk : Nat → Nat → Str} {ks : List Int} {st : PS} {e : Str × PS} (h : u1P ks st = .error e) : d1P mk ks st = .error e := by
  rw [d1P, h]
theorem d1P_err2 {mk : Nat → Nat → Str} {ks : List Int} {st st' : PS} {v : Nat} {e : Str × PS} (h : u1P ks st = .ok ((v : Int), st')) (h2 : pullP ks v st' = .error e) : d1P mk ks st = .error e := by
  simp only [d1P, h, Int.toNat_natCast, h2]
theorem d1P_ok {mk : Nat → Nat → Str} {ks : List Int} {st st' : PS} {v : Nat} {q : List Int × PS} (h : u1P ks st = .ok ((v : Int), st')) (h2 : pullP ks v st' = .ok q) (h3 : q.1.length = v) : d1P mk ks st = .ok q := by
  simp only [d1P, h, Int.toNat_natCast, h2]; exact if_pos h3
theorem d1P_no {mk : Nat → Nat → Str} {ks : List Int} {st st' : PS} {v : Nat} {q : List Int × PS} (h : u1P ks st = .ok ((v : Int), st')) (h2 : pullP ks v st' = .ok q) (h3 : q.1.length ≠ v) : d1P mk ks st = .error (mk v q.1.length, q.2) := by
  simp only [d1P, h, Int.toNat_natCast, h2]; exact if_neg h3
set_option maxRecDepth 100000 in
set_option maxHeartbeats 8000000 in
theorem u1L {w : World} {dp un : Nat} {gd : Option (List Code)} {cn : Str} {cs : Scope} {a : Addr} {ccd : Value} {cl : List (Str × Addr)} {outer : List Env} {A₀ : Around} {base h₀ : Heap} {L : Addr} {m : Str → Option Value} {s : Shared}
    {p : Program} {loose : List Str} {mean : ExcName → Option Value} {mg mb : Str → Option Value}
    {Q E : Value → Shared → Prop} {c₀ : CS} {y : LyIds} {σ : StIds} {ks : List Int} {own : List (Addr × Obj)}
    (G : Gr 5 w dp un cs outer A₀ base h₀ p loose mean mg mb) (F : Fr h₀ L s.heap m) (N : News h₀ L s.heap (σ.led w c₀.pos c₀.tp ++ (y.led w c₀.b c₀.tb c₀.done ++ own))) (off : OwnOff own [σ.d, y.l]) (S : σ.Ok ks) (Y : y.Ok σ) (hp : c₀.abs.Ok ks)
    (hQ : ∀ h' tk' t'' (v : Nat) (c : CS), u1P ks c₀.abs = .ok ((v : Int), c.abs) → v < 256 → c.abs.Ok ks → Fr h₀ L h' m → News h₀ L h' (σ.led w c.pos c.tp ++ (y.led w c.b c.tb c.done ++ own)) → Q (.int v t'') { s with heap := h', toks := tk' })
    (hE : ∀ h' g₂ tk' e t u msg (c : CS), u1P ks c₀.abs = .error (msg, c.abs) → Fr h₀ L g₂ m → RaisedS base g₂ (envX cn cs L a ccd cl :: outer) e (.type "ValueError") t [.str msg u] (σ.led w c.pos c.tp ++ (y.led w c.b c.tb c.done ++ own)) h' → g₂.UpToSlots h' → E (.ref e) { s with heap := h', toks := tk' }) :
    wpAny (model Challenge.rw_dw0039_01.row.prog w) (ktrTop dp un gd cn cs L a ccd cl outer) (call (.ref 21) [.ref y.x]) Q E s := by
  obtain ⟨B, X, T, XB, TB, hk, C1, C2, hd0, hu⟩ := G
  revert X
  k_fill
  intro X
  obtain ⟨ck, cnm, cg, cc, cm⟩ := cs
  cases hk
  obtain ⟨Y1, Y2, Y3, Y4, Y5, Y6, Y7⟩ := id Y
  have S5 := S.ne
  have S6 := S.len
  dsimp only [stDict, List.cons_append, List.nil_append] at N ⊢
  k_steps
  · rename RaisedS base _ (_ :: outer) _ _ _ _ _ _ => kS
    rename Heap.UpToSlots _ _ => kU
    rename Fr h₀ L _ m => kF
    exact hE _ _ _ _ _ _ _ _ (u1P_err (by assumption)) kF kS kU
  · rename 0 < List.length _ => hlt
    rename Fr h₀ L _ m => kF
    rename News h₀ L _ _ => kN
    rename pullP _ _ _ = _ => hP
    rename (0 : Int) ≤ List.getD _ _ _ => k0
    rename List.getD _ _ _ < 256 => k1
    rw [← Int.toNat_of_nonneg k0]
    refine hQ _ _ _ _ _ ?_ (by omega) (by assumption) kF kN
    rw [Int.toNat_of_nonneg k0]
    exact u1P_ok hP hlt
  · rename ¬ 0 < List.length _ => hlt
    rename pullP _ _ _ = _ => hP
    rename RaisedS base _ (_ :: outer) _ _ _ _ _ _ => kS
    rename Heap.UpToSlots _ _ => kU
    rename Fr h₀ L _ m => kF
    exact hE _ _ _ _ _ _ _ _ (u1P_no hP hlt) kF kS kU
end
section
open PySem PySem.W PyProof.Rows PySem.Spec PySem.Calls
theorem freshRdB : True := by
  w_top off
  k_with_none
  (k_with "call ref!" => (k_here; (with_reducible show wpAny _ _ (call (Value.ref (LyIds.fn _)) [Value.int _ _]) _ _ _); k_dflt (refine' plY (Gr.mk (by k_asm) (by k_asm) (by k_asm) (by assumption) (by assumption) (by exact rfl) (by assumption) (by assumption) (by ktr_rel) (by ktr_rel)) (by k_asm) (by k_asm) (by assumption) (by assumption) (by assumption) (by omega) (by assumption) ?plOkZz ?plErZz); (all_goals k_whole); (case' plOkZz => (intro h'Zz tk'Zz b'Zz t''Zz c'Zz hp'Zz ho'Zz F'Zz N'Zz; obtain ⟨bl'Zz, hb'Zz⟩ : ∃ l, KBw.bInts b'Zz = l := ⟨_, rfl⟩; rw [hb'Zz] at hp'Zz; (have hl'Zz := pull_len hp'Zz); dsimp only [stDict, List.cons_append, List.nil_append] at N'Zz)); (case' plErZz => (intro h'Zz g2'Zz tk'Zz e'Zz x'Zz u'Zz msg'Zz c'Zz hp'Zz F'Zz R'Zz U'Zz; dsimp only [stDict, List.cons_append, List.nil_append] at R'Zz))))
  (k_with "exec Raise some none!" => (k_here; (with_reducible rename Fr _ _ _ _ => kFZz); k_dflt (refine' Raise_madeB PySem.F.excCall_ValueError PySem.F.excRaise_ValueError rfl ?_; refine' name_B kFZz ?k1Zz ?k2Zz ?k3Zz ?k4Zz ?k5Zz ⟨rfl, ?_⟩; (case k1Zz => k_asm); (case k2Zz => k_asm); (case k3Zz => k_is); (case k4Zz => boot_by_name); (case k5Zz => decide); k_whole)))
  (k_with "leaving ref!" => (k_here; first | (refine' leave_onS ?k1Zz ?k2Zz ?k3Zz ?k4Zz ?_; (case k3Zz => assumption); (case k2Zz => assumption); (case k1Zz => assumption); (case k4Zz => assumption); k_whole; intro h'Zz S'Zz R'Zz U'Zz; (try dsimp only at S'Zz R'Zz U'Zz ⊢)) | (refine' leave_raiseS ?k1Zz ?k0Zz ?k2Zz ?k3Zz ?_; (case k0Zz => exact Heap.MadeExc.of (by assumption)); (case k2Zz => assumption); (case k1Zz => assumption); (case k3Zz => k_asm); k_whole; intro h'Zz t'Zz S'Zz R'Zz U'Zz; (try dsimp only at S'Zz R'Zz U'Zz ⊢))))
  (k_with "call ref!" => (k_here; (with_reducible show wpAny _ _ (call (Value.ref 21) [Value.ref (LyIds.x _)]) _ _ _); k_dflt (refine' u1L (Gr.mk (by k_asm) (by k_asm) (by k_asm) (by assumption) (by assumption) (by exact rfl) (by assumption) (by assumption) (by ktr_rel) (by ktr_rel)) (by k_asm) (by k_asm) (by assumption) (by assumption) (by assumption) (by assumption) ?uOkZz ?uErZz); (all_goals k_whole); (case' uOkZz => (intro h'Zz tk'Zz t''Zz v'Zz c'Zz hp'Zz hv'Zz ho'Zz F'Zz N'Zz; dsimp only [stDict, List.cons_append, List.nil_append] at N'Zz)); (case' uErZz => (intro h'Zz g2'Zz tk'Zz e'Zz x'Zz u'Zz msg'Zz c'Zz hp'Zz F'Zz R'Zz U'Zz; dsimp only [stDict, List.cons_append, List.nil_append] at R'Zz))))
  (k_with "binaryOp Mod str ref!" => (k_here; k_dflt (refine' pctB ?kNZz ?kbZz ?kvZz ?knZz ?_; (case kNZz => k_asm); (case kbZz => k_mem); (case kvZz => omega); (case knZz => omega)); k_whole; intro t'Zz k'Zz))
  exact trivial
theorem raised_tl {base G : Heap} {l : List Env} {e t : Addr} {cls : Value} {vs : List Value} {x : Addr × Obj} {news : List (Addr × Obj)} {h : Heap} (R : RaisedS base G l e cls t vs (x :: news) h) : RaisedS base G l e cls t vs news h := RaisedS.sub R fun _ hp => .tail _ hp
set_option maxRecDepth 100000 in
set_option maxHeartbeats 8000000 in
theorem b1L {w : World} {dp un : Nat} {gd : Option (List Code)} {cn : Str} {cs : Scope} {a : Addr} {ccd : Value} {cl : List (Str × Addr)} {outer : List Env} {A₀ : Around} {base h₀ : Heap} {L : Addr} {m : Str → Option Value} {s : Shared}
    {p : Program} {loose : List Str} {mean : ExcName → Option Value} {mg mb : Str → Option Value}
    {Q E : Value → Shared → Prop} {c₀ : CS} {y : LyIds} {σ : StIds} {ks : List Int} {own : List (Addr × Obj)}
    (G : Gr 6 w dp un cs outer A₀ base h₀ p loose mean mg mb) (F : Fr h₀ L s.heap m) (N : News h₀ L s.heap (σ.led w c₀.pos c₀.tp ++ (y.led w c₀.b c₀.tb c₀.done ++ own))) (off : OwnOff own [σ.d, y.l]) (S : σ.Ok ks) (Y : y.Ok σ) (hp : c₀.abs.Ok ks)
    (hQ : ∀ h' tk' t'' b (c : CS), d1P msgB ks c₀.abs = .ok (KBw.bInts b, c.abs) → c.abs.Ok ks → Fr h₀ L h' m → News h₀ L h' (σ.led w c.pos c.tp ++ (y.led w c.b c.tb c.done ++ own)) → Q (.bytes b t'') { s with heap := h', toks := tk' })
    (hE : ∀ h' g₂ tk' e t u msg (c : CS), d1P msgB ks c₀.abs = .error (msg, c.abs) → Fr h₀ L g₂ m → RaisedS base g₂ (envX cn cs L a ccd cl :: outer) e (.type "ValueError") t [.str msg u] (σ.led w c.pos c.tp ++ (y.led w c.b c.tb c.done ++ own)) h' → g₂.UpToSlots h' → E (.ref e) { s with heap := h', toks := tk' }) :
    wpAny (model Challenge.rw_dw0039_01.row.prog w) (ktrTop dp un gd cn cs L a ccd cl outer) (call (.ref 35) [.ref y.x]) Q E s := by
  obtain ⟨B, X, T, XB, TB, hk, C1, C2, hd0, hu⟩ := G
  revert X
  k_fill
  intro X
  obtain ⟨ck, cnm, cg, cc, cm⟩ := cs
  cases hk
  obtain ⟨Y1, Y2, Y3, Y4, Y5, Y6, Y7⟩ := id Y
  have S5 := S.ne
  have S6 := S.len
  dsimp only [stDict, List.cons_append, List.nil_append] at N ⊢
  k_steps
  · rename RaisedS base _ (_ :: outer) _ _ _ _ _ _ => kS
    rename Heap.UpToSlots _ _ => kU
    rename Fr h₀ L _ m => kF
    rename u1P _ _ = _ => h1
    exact hE _ _ _ _ _ _ _ _ (d1P_err h1) kF kS kU
  · rename RaisedS base _ (_ :: outer) _ _ _ _ _ _ => kS
    rename Heap.UpToSlots _ _ => kU
    rename Fr h₀ L _ m => kF
    rename u1P _ _ = _ => h1
    rename pullP _ _ _ = _ => h2
    exact hE _ _ _ _ _ _ _ _ (d1P_err2 h1 h2) kF kS kU
  · rename KBw.bInts _ = _ => hb
    rename Fr h₀ L _ m => kF
    rename News h₀ L _ _ => kN
    rename u1P _ _ = _ => h1
    rename pullP _ _ _ = _ => h2
    have h3 := d1P_ok (mk := msgB) h1 h2 (by dsimp only; omega)
    rw [← hb] at h3
    exact hQ _ _ _ _ _ h3 (by assumption) kF kN
  · rename RaisedS base _ (_ :: outer) _ _ _ _ _ _ => kS
    rename Heap.UpToSlots _ _ => kU
    rename Fr h₀ L _ m => kF
    rename u1P _ _ = _ => h1
    rename pullP _ _ _ = _ => h2
    have h3 := d1P_no (mk := msgB) h1 h2 (by dsimp only; omega)
    exact hE _ _ _ _ _ _ _ _ h3 kF (raised_tl kS) kU
end
section
open PySem PySem.W PyProof.Rows PySem.Spec PySem.Calls
open Builtin
/-- the octets' codes -/
def latinStr (b : Array UInt8) : Str := ⟨(b.toList.map (·.toNat)).toArray⟩
theorem latin_loop {σ : Type} {F : Nat → Nat × Array Nat × σ → Sem (ForInStep (Nat × Array Nat × σ))} {b : Array UInt8} {st : σ}
    (step : ∀ x k, k < b.size → F x (k, ((b.toList.take k).map (·.toNat)).toArray, st) = pure (.yield (k + 1, ((b.toList.take (k + 1)).map (·.toNat)).toArray, st))) :
    ∀ (l : List Nat) (k : Nat), k + l.length = b.size → forIn l (k, ((b.toList.take k).map (·.toNat)).toArray, st) F = pure (b.size, (b.toList.map (·.toNat)).toArray, st)
  | [], k, h => by
    have h' : k = b.toList.length := by simpa using h
    have h'' : k = b.size := by simpa using h
    rw [List.forIn_nil, h', List.take_length]
    simp
  | x :: l, k, h => by
    simp only [List.length_cons] at h
    rw [List.forIn_cons, step x k (by omega), pure_bind]
    exact latin_loop step l (k + 1) (by omega)
theorem latin_run {id : String} (b : Array UInt8) (h : b.size ≤ sizeLine) : _codecs.runDecoder id _codecs.latin1Decoder none true b 0 [] = pure ((b.toList.map (·.toNat)).toArray, b.size) := by
  unfold _codecs.runDecoder
  simp only [Std.Legacy.Range.forIn_eq_forIn_range']
  have e1 : Std.Legacy.Range.size { stop := b.size, step_pos := Nat.one_pos } = b.size := by simp [Std.Legacy.Range.size]
  rw [e1]
  rw [show ((0 : Nat), (#[] : Array Nat), ({} : _codecs.Faults)) = (0, ((b.toList.take 0).map (·.toNat)).toArray, {}) from rfl]
  rw [latin_loop (b := b) (st := ({} : _codecs.Faults)) ?step _ 0 (by simp), pure_bind]
  intro x k hk
  have hl : (((b.toList.take k).map (·.toNat)).toArray).size ≤ sizeLine := by
    rw [List.size_toArray, List.length_map, List.length_take]
    have : b.toList.length = b.size := by simp
    omega
  dsimp only
  rw [if_neg (by omega), if_neg (by omega)]
  have e : ((b.toList.take k).map (·.toNat)).toArray ++ [(b.getD k 0).toNat].toArray = ((b.toList.take (k + 1)).map (·.toNat)).toArray := by
    have hk' : k < b.toList.length := by simpa using hk
    rw [List.take_add_one, List.getElem?_eq_getElem hk']
    simp [Array.getD, hk]
  show pure (ForInStep.yield (k + 1, ((b.toList.take k).map (·.toNat)).toArray ++ [(b.getD k 0).toNat].toArray, _)) = _
  rw [e]
end
section
open PySem PySem.W PyProof.Rows PySem.Spec PySem.Calls
open Builtin
set_option maxRecDepth 100000
theorem lat_road {id : String} {b : Array UInt8} : _codecs.decodeRoad id b (PySem.Str.ofString "latin-1") none [] = (_codecs.runDecoder id _codecs.latin1Decoder none true b 0 [] >>= fun r => mkStr ⟨r.1⟩) := by kernel_rfl
theorem lat_entry {c : UInt8} {cs : List UInt8} {t t1 : Tok} : «bytes.decode» ⟨[.bytes (c :: cs).toArray t, .str (PySem.Str.ofString "latin-1") t1], []⟩ = (mkStr (PySem.Str.ofString "utf-8") >>= fun _ => mkStr (PySem.Str.ofString "latin-1") >>= fun e => mkStr (PySem.Str.ofString "bytes.decode") >>= fun d =>
    call (.builtin "_codecs.decode.text") [.bytes (c :: cs).toArray t, e, .none, d] >>= fun v => ret v) := by kernel_rfl
theorem lat_entry0 {t t1 : Tok} : «bytes.decode» ⟨[.bytes #[] t, .str (PySem.Str.ofString "latin-1") t1], []⟩ = (rule "bytes.decode.empty" >>= fun _ => retStr Str.empty) := by kernel_rfl
theorem lat_args (a b : Value) : argsOk "bytes.decode" ⟨[a, b], []⟩ := by unfold argsOk; kernel_rfl
theorem lat_text {b : Array UInt8} {t t1 t2 : Tok} {d : PySem.Str} (hb : b.size ≤ sizeLine) :
    Meets («_codecs.decode.text» ⟨[.bytes b t, .str (PySem.Str.ofString "latin-1") t1, .none, .str d t2], []⟩) (fun _ R s => R (.ok (.ret (.str (latinStr b) s.toks))) { s with toks := s.toks + 1 }) := by
  refine .of_wp fun prog w A R s h => ?_
  show wpAny _ _ (Bytes.bytesLike _ (.bytes b t) >>= fun r => _) _ _ s
  refine wpAny_bind (wpAny_of_eq KBd.like_eq ?_)
  refine wpAny_bind (wpAny_of_eq KBd.held_eq ?_)
  show wpAny _ _ (_codecs.decodeRoad _ b (PySem.Str.ofString "latin-1") none [] >>= fun v => _) _ _ s
  rw [lat_road, latin_run b hb]
  refine wpAny_bind (wpAny_bind (wpAny_pure ?_))
  refine wpAny_mkStr (wpAny_pure ⟨_, rfl, h⟩) ?_
  show ((b.toList.map (·.toNat)).toArray).size ≤ sizeLine
  simpa using hb
theorem lat_meets {b : Array UInt8} {t t1 : Tok} (hb : b.size ≤ sizeLine) :
    Meets («bytes.decode» ⟨[.bytes b t, .str (PySem.Str.ofString "latin-1") t1], []⟩) (fun _ R s => ∀ t' k, R (.ok (.ret (.str (latinStr b) t'))) { s with toks := k }) := by
  refine .of_wp fun prog w A R s h => ?_
  obtain ⟨l⟩ := b
  cases l with
  | nil =>
    rw [lat_entry0]
    refine wpAny_bind (wpAny_rule ?_)
    exact wpAny_bind (wpAny_mkStr (wpAny_pure ⟨_, rfl, h _ _⟩) (by decide))
  | cons c cs =>
    rw [lat_entry]
    refine wpAny_bind (wpAny_mkStr ?_ (by decide))
    refine wpAny_bind (wpAny_mkStr ?_ (by decide))
    refine wpAny_bind (wpAny_mkStr ?_ (by decide))
    exact wpAny_bind (call_function_meets KBd.kind_text KBd.plain_text KBd.entry_text (KBd.args_text _ _ _ _) (lat_text hb) (wpAny_pure ⟨_, rfl, h _ _⟩))
theorem lat_call {prog : Program} {w : World} {A : Around} {E : Value → Shared → Prop} {s : Shared} {b : Array UInt8} {t t1 : Tok} {Q : Value → Shared → Prop} (hb : b.size ≤ 16777216) (h : ∀ t' k, Q (.str (latinStr b) t') { s with toks := k }) :
    wpAny (model prog w) A (call (.builtin "bytes.decode") [.bytes b t, .str (PySem.Str.ofString "latin-1") t1]) Q E s :=
  call_meets FB.slot_bytes_decode (typeIs_bytes _ _ _) FB.entry_bytes_decode (lat_args _ _) (lat_meets (by rw [sizeLine_eq]; exact hb)) h
end
section
open PySem PySem.W PyProof.Rows PySem.Spec PySem.Calls
theorem freshRdS : True := by
  w_top off
  k_with_none
  (k_with "call ref!" => (k_here; (with_reducible show wpAny _ _ (call (Value.ref (LyIds.fn _)) [Value.int _ _]) _ _ _); k_dflt (refine' plY (Gr.mk (by k_asm) (by k_asm) (by k_asm) (by assumption) (by assumption) (by exact rfl) (by assumption) (by assumption) (by ktr_rel) (by ktr_rel)) (by k_asm) (by k_asm) (by assumption) (by assumption) (by assumption) (by omega) (by assumption) ?plOkZz ?plErZz); (all_goals k_whole); (case' plOkZz => (intro h'Zz tk'Zz b'Zz t''Zz c'Zz hp'Zz ho'Zz F'Zz N'Zz; obtain ⟨bl'Zz, hb'Zz⟩ : ∃ l, KBw.bInts b'Zz = l := ⟨_, rfl⟩; rw [hb'Zz] at hp'Zz; (have hl'Zz := pull_len hp'Zz); dsimp only [stDict, List.cons_append, List.nil_append] at N'Zz)); (case' plErZz => (intro h'Zz g2'Zz tk'Zz e'Zz x'Zz u'Zz msg'Zz c'Zz hp'Zz F'Zz R'Zz U'Zz; dsimp only [stDict, List.cons_append, List.nil_append] at R'Zz))))
  (k_with "exec Raise some none!" => (k_here; (with_reducible rename Fr _ _ _ _ => kFZz); k_dflt (refine' Raise_madeB PySem.F.excCall_ValueError PySem.F.excRaise_ValueError rfl ?_; refine' name_B kFZz ?k1Zz ?k2Zz ?k3Zz ?k4Zz ?k5Zz ⟨rfl, ?_⟩; (case k1Zz => k_asm); (case k2Zz => k_asm); (case k3Zz => k_is); (case k4Zz => boot_by_name); (case k5Zz => decide); k_whole)))
  (k_with "leaving ref!" => (k_here; first | (refine' leave_onS ?k1Zz ?k2Zz ?k3Zz ?k4Zz ?_; (case k3Zz => assumption); (case k2Zz => assumption); (case k1Zz => assumption); (case k4Zz => assumption); k_whole; intro h'Zz S'Zz R'Zz U'Zz; (try dsimp only at S'Zz R'Zz U'Zz ⊢)) | (refine' leave_raiseS ?k1Zz ?k0Zz ?k2Zz ?k3Zz ?_; (case k0Zz => exact Heap.MadeExc.of (by assumption)); (case k2Zz => assumption); (case k1Zz => assumption); (case k3Zz => k_asm); k_whole; intro h'Zz t'Zz S'Zz R'Zz U'Zz; (try dsimp only at S'Zz R'Zz U'Zz ⊢))))
  (k_with "call ref!" => (k_here; (with_reducible show wpAny _ _ (call (Value.ref 21) [Value.ref (LyIds.x _)]) _ _ _); k_dflt (refine' u1L (Gr.mk (by k_asm) (by k_asm) (by k_asm) (by assumption) (by assumption) (by exact rfl) (by assumption) (by assumption) (by ktr_rel) (by ktr_rel)) (by k_asm) (by k_asm) (by assumption) (by assumption) (by assumption) (by assumption) ?uOkZz ?uErZz); (all_goals k_whole); (case' uOkZz => (intro h'Zz tk'Zz t''Zz v'Zz c'Zz hp'Zz hv'Zz ho'Zz F'Zz N'Zz; dsimp only [stDict, List.cons_append, List.nil_append] at N'Zz)); (case' uErZz => (intro h'Zz g2'Zz tk'Zz e'Zz x'Zz u'Zz msg'Zz c'Zz hp'Zz F'Zz R'Zz U'Zz; dsimp only [stDict, List.cons_append, List.nil_append] at R'Zz))))
  (k_with "binaryOp Mod str ref!" => (k_here; k_dflt (refine' pctS ?kNZz ?kbZz ?kvZz ?knZz ?_; (case kNZz => k_asm); (case kbZz => k_mem); (case kvZz => omega); (case knZz => omega)); k_whole; intro t'Zz k'Zz))
  (k_with "call builtin:bytes.decode!" => (k_here; (with_reducible show wpAny _ _ (call (Value.builtin "bytes.decode") [Value.bytes _ _, Value.str _ _]) _ _ _); (rename KBw.bInts _ = _ => hb9Zz); k_dflt (refine lat_call (by (rw [← KBw.ints_length, hb9Zz]; omega)) ?_); k_whole; intro t'Zz k'Zz))
  exact trivial
set_option maxRecDepth 100000 in
set_option maxHeartbeats 8000000 in
theorem s1L {w : World} {dp un : Nat} {gd : Option (List Code)} {cn : Str} {cs : Scope} {a : Addr} {ccd : Value} {cl : List (Str × Addr)} {outer : List Env} {A₀ : Around} {base h₀ : Heap} {L : Addr} {m : Str → Option Value} {s : Shared}
    {p : Program} {loose : List Str} {mean : ExcName → Option Value} {mg mb : Str → Option Value}
    {Q E : Value → Shared → Prop} {c₀ : CS} {y : LyIds} {σ : StIds} {ks : List Int} {own : List (Addr × Obj)}
    (G : Gr 6 w dp un cs outer A₀ base h₀ p loose mean mg mb) (F : Fr h₀ L s.heap m) (N : News h₀ L s.heap (σ.led w c₀.pos c₀.tp ++ (y.led w c₀.b c₀.tb c₀.done ++ own))) (off : OwnOff own [σ.d, y.l]) (S : σ.Ok ks) (Y : y.Ok σ) (hp : c₀.abs.Ok ks)
    (hQ : ∀ h' tk' t'' b (c : CS), d1P msgS ks c₀.abs = .ok (KBw.bInts b, c.abs) → c.abs.Ok ks → Fr h₀ L h' m → News h₀ L h' (σ.led w c.pos c.tp ++ (y.led w c.b c.tb c.done ++ own)) → Q (.str (latinStr b) t'') { s with heap := h', toks := tk' })
    (hE : ∀ h' g₂ tk' e t u msg (c : CS), d1P msgS ks c₀.abs = .error (msg, c.abs) → Fr h₀ L g₂ m → RaisedS base g₂ (envX cn cs L a ccd cl :: outer) e (.type "ValueError") t [.str msg u] (σ.led w c.pos c.tp ++ (y.led w c.b c.tb c.done ++ own)) h' → g₂.UpToSlots h' → E (.ref e) { s with heap := h', toks := tk' }) :
    wpAny (model Challenge.rw_dw0039_01.row.prog w) (ktrTop dp un gd cn cs L a ccd cl outer) (call (.ref 28) [.ref y.x]) Q E s := by
  obtain ⟨B, X, T, XB, TB, hk, C1, C2, hd0, hu⟩ := G
  revert X
  k_fill
  intro X
  obtain ⟨ck, cnm, cg, cc, cm⟩ := cs
  cases hk
  obtain ⟨Y1, Y2, Y3, Y4, Y5, Y6, Y7⟩ := id Y
  have S5 := S.ne
  have S6 := S.len
  dsimp only [stDict, List.cons_append, List.nil_append] at N ⊢
  k_steps
  · rename RaisedS base _ (_ :: outer) _ _ _ _ _ _ => kS
    rename Heap.UpToSlots _ _ => kU
    rename Fr h₀ L _ m => kF
    rename u1P _ _ = _ => h1
    exact hE _ _ _ _ _ _ _ _ (d1P_err h1) kF kS kU
  · rename RaisedS base _ (_ :: outer) _ _ _ _ _ _ => kS
    rename Heap.UpToSlots _ _ => kU
    rename Fr h₀ L _ m => kF
    rename u1P _ _ = _ => h1
    rename pullP _ _ _ = _ => h2
    exact hE _ _ _ _ _ _ _ _ (d1P_err2 h1 h2) kF kS kU
  · rename KBw.bInts _ = _ => hb
    rename Fr h₀ L _ m => kF
    rename News h₀ L _ _ => kN
    rename u1P _ _ = _ => h1
    rename pullP _ _ _ = _ => h2
    have h3 := d1P_ok (mk := msgS) h1 h2 (by dsimp only; omega)
    rw [← hb] at h3
    exact hQ _ _ _ _ _ h3 (by assumption) kF kN
  · rename RaisedS base _ (_ :: outer) _ _ _ _ _ _ => kS
    rename Heap.UpToSlots _ _ => kU
    rename Fr h₀ L _ m => kF
    rename u1P _ _ = _ => h1
    rename pullP _ _ _ = _ => h2
    have h3 := d1P_no (mk := msgS) h1 h2 (by dsimp only; omega)
    exact hE _ _ _ _ _ _ _ _ h3 kF (raised_tl kS) kU
end
section
open PySem PySem.W PyProof.Rows PySem.Spec PySem.Calls
theorem freshRn : True := by
  w_top off
  k_with_none
  (k_with "call ref!" => (k_here; (with_reducible show wpAny _ _ (call (Value.ref 21) [Value.ref (LyIds.x _)]) _ _ _); k_dflt (refine' u1L (Gr.mk (by k_asm) (by k_asm) (by k_asm) (by assumption) (by assumption) (by exact rfl) (by assumption) (by assumption) (by ktr_rel) (by ktr_rel)) (by k_asm) (news_tail (by k_asm)) (by assumption) (by assumption) (by assumption) (by assumption) ?uOkZz ?uErZz); (all_goals k_whole); (case' uOkZz => (intro h'Zz tk'Zz t''Zz v'Zz c'Zz hp'Zz hv'Zz ho'Zz F'Zz N'Zz; dsimp only [stDict, List.cons_append, List.nil_append] at N'Zz)); (case' uErZz => (intro h'Zz g2'Zz tk'Zz e'Zz x'Zz u'Zz msg'Zz c'Zz hp'Zz F'Zz R'Zz U'Zz; dsimp only [stDict, List.cons_append, List.nil_append] at R'Zz))))
  (k_with "call ref!" => (k_here; (with_reducible show wpAny _ _ (call (Value.ref 28) [Value.ref (LyIds.x _)]) _ _ _); k_dflt (refine' s1L (Gr.mk (by k_asm) (by k_asm) (by k_asm) (by assumption) (by assumption) (by exact rfl) (by assumption) (by assumption) (by ktr_rel) (by ktr_rel)) (by k_asm) (news_tail (by k_asm)) (by assumption) (by assumption) (by assumption) (by assumption) ?sOkZz ?sErZz); (all_goals k_whole); (case' sOkZz => (intro h'Zz tk'Zz t''Zz b'Zz c'Zz hp'Zz ho'Zz F'Zz N'Zz; dsimp only [stDict, List.cons_append, List.nil_append] at N'Zz)); (case' sErZz => (intro h'Zz g2'Zz tk'Zz e'Zz x'Zz u'Zz msg'Zz c'Zz hp'Zz F'Zz R'Zz U'Zz; dsimp only [stDict, List.cons_append, List.nil_append] at R'Zz))))
  (k_with "call ref!" => (k_here; (with_reducible show wpAny _ _ (call (Value.ref 35) [Value.ref (LyIds.x _)]) _ _ _); k_dflt (refine' b1L (Gr.mk (by k_asm) (by k_asm) (by k_asm) (by assumption) (by assumption) (by exact rfl) (by assumption) (by assumption) (by ktr_rel) (by ktr_rel)) (by k_asm) (news_tail (by k_asm)) (by assumption) (by assumption) (by assumption) (by assumption) ?bOkZz ?bErZz); (all_goals k_whole); (case' bOkZz => (intro h'Zz tk'Zz t''Zz b'Zz c'Zz hp'Zz ho'Zz F'Zz N'Zz; dsimp only [stDict, List.cons_append, List.nil_append] at N'Zz)); (case' bErZz => (intro h'Zz g2'Zz tk'Zz e'Zz x'Zz u'Zz msg'Zz c'Zz hp'Zz F'Zz R'Zz U'Zz; dsimp only [stDict, List.cons_append, List.nil_append] at R'Zz))))
  (k_with "subscriptTail!" => (k_here; (with_reducible show wpAny _ _ (subscriptTail _ _ (Value.ref _) (Value.int (List.getD _ _ 0) _)) _ _ _); k_dflt (refine' pick3 ?k0Zz ?k1Zz ?k2Zz ?_ ?_ ?_ ?k6Zz; (case k0Zz => k_asm); (case k1Zz => k_mem); (case k2Zz => exact kind_in (by assumption) _); (case k6Zz => (intro _ _; with_unfolding_all rfl))); (all_goals k_whole); (all_goals intro hk'Zz)))
  exact trivial
theorem got_head {h₀ : Heap} {L : Addr} {h : Heap} {l : Addr} {o : Obj} {r : List (Addr × Obj)} (_N : News h₀ L h ((l, o) :: r)) : ∃ l', l' = l := ⟨l, rfl⟩
/-- what a reader hands back, plainly -/
inductive Item where
  | n (v : Int)
  | s (b : List Int)
  | d (b : List Int)
def ItemIs : Value → Item → Prop
  | .int v _, .n k => v = k
  | .str x _, .s l => ∃ b, x = latinStr b ∧ KBw.bInts b = l
  | .bytes b _, .d l => KBw.bInts b = l
  | _, _ => False
def ItemsAre : List Value → List Item → Prop
  | [], [] => True
  | v :: vs, i :: is => ItemIs v i ∧ ItemsAre vs is
  | _, _ => False
theorem item_n {v : Int} {t : Tok} : ItemIs (.int v t) (.n v) := rfl
theorem item_s {b : Array UInt8} {t : Tok} : ItemIs (.str (latinStr b) t) (.s (KBw.bInts b)) := ⟨b, rfl, rfl⟩
theorem item_d {b : Array UInt8} {t : Tok} : ItemIs (.bytes b t) (.d (KBw.bInts b)) := rfl
theorem ItemsAre.snoc {v : Value} {i : Item} (h : ItemIs v i) : ∀ {vs : List Value} {is : List Item}, ItemsAre vs is → ItemsAre (vs ++ [v]) (is ++ [i])
  | [], [], _ => ⟨h, trivial⟩
  | _ :: _, _ :: _, k => ⟨k.1, ItemsAre.snoc h k.2⟩
def readP (kind : Int) (ks : List Int) (st : PS) : Except (Str × PS) (Item × PS) :=
  if kind = 0 then (u1P ks st).map fun r => (.n r.1, r.2)
  else if kind = 1 then (d1P msgS ks st).map fun r => (.s r.1, r.2)
  else (d1P msgB ks st).map fun r => (.d r.1, r.2)
def runsP (ks kinds : List Int) : Nat → PS → Except (List Item × Str × PS) (List Item × PS)
  | 0, st => .ok ([], st)
  | k + 1, st => match runsP ks kinds k st with
    | .error e => .error e
    | .ok r => match readP (kinds.getD (k % kinds.length) 0) ks r.2 with
      | .error e => .error (r.1, e.1, e.2)
      | .ok q => .ok (r.1 ++ [q.1], q.2)
theorem own_lt {l : Addr} {own : List (Addr × Obj)} (h : AllLt l own) : OwnOff own [l] := fun p hp b hb => by
  rw [List.mem_singleton.mp hb]; exact Nat.ne_of_lt (kst_ltOf h p hp)
theorem ownOff_tl {a : Addr × Obj} {r : List (Addr × Obj)} {l : List Addr} (h : OwnOff (a :: r) l) : OwnOff r l := fun p hp => h p (.tail _ hp)
theorem ownOff_three {r : List (Addr × Obj)} {a b c : Addr} (h : OwnOff r [a, b]) (k : OwnOff r [c]) : OwnOff r [a, b, c] := fun p hp x hx => by
  rcases List.mem_cons.mp hx with rfl | hx
  · exact h p hp _ (.head _)
  · rcases List.mem_cons.mp hx with rfl | hx
    · exact h p hp _ (.tail _ (.head _))
    · exact k p hp x hx
theorem ownOff_run {q p : Addr × Obj} {own r : List (Addr × Obj)} {a b c : Nat} (h : OwnOff (q :: own) [a, b]) (n1 : @Ne Nat p.1 a) (n2 : @Ne Nat p.1 b) (k : OwnOff r [a, b, c]) : OwnOff (q :: p :: r) [a, b] := fun x hx z hz => by
  rcases List.mem_cons.mp hx with rfl | hx
  · exact h _ (.head _) z hz
  · rcases List.mem_cons.mp hx with rfl | hx
    · rcases List.mem_cons.mp hz with rfl | hz
      · exact n1
      · rw [List.mem_singleton.mp hz]; exact n2
    · exact k x hx z (by
        rcases List.mem_cons.mp hz with rfl | hz
        · exact .head _
        · rw [List.mem_singleton.mp hz]; exact .tail _ (.head _))
theorem perm_told {α : Type} {l₁ l₂ : List α} {k x p : α} {r : List α} (h : p ∈ l₁ ++ (l₂ ++ (k :: x :: r))) : p ∈ x :: (l₁ ++ (l₂ ++ (k :: r))) := by
  simp only [List.mem_append, List.mem_cons] at h ⊢
  rcases h with h | h | h | h | h
  · exact .inr (.inl h)
  · exact .inr (.inr (.inl h))
  · exact .inr (.inr (.inr (.inl h)))
  · exact .inl h
  · exact .inr (.inr (.inr (.inr h)))
theorem kind_in {kinds : List Int} (h : ∀ k ∈ kinds, 0 ≤ k ∧ k < 3) (i : Nat) : 0 ≤ kinds.getD i 0 ∧ kinds.getD i 0 < 3 := by
  rw [List.getD_eq_getElem?_getD]
  cases e : kinds[i]? with
  | none => decide
  | some k => exact h k (List.mem_of_getElem? e)
theorem pick3 {prog : Program} {w : World} {A : Around} {E : Value → Shared → Prop} {s : Shared} {h₀ : Heap} {L : Addr} {value slice : PySem.Expr} {l : Addr} {v0 v1 v2 : Value} {news : List (Addr × Obj)} {c : Nat} {k : Int} {u : Tok} {Q : Value → Shared → Prop}
    (N : News h₀ L s.heap news) (hm : (l, listOf #[v0, v1, v2] c) ∈ news) (h3 : 0 ≤ k ∧ k < 3) (q0 : k = 0 → Q v0 s) (q1 : k = 1 → Q v1 s) (q2 : k = 2 → Q v2 s)
    (hs : ∀ k u, subscripted slice false (.ref l) (.int k u) = operate [.ref l, .int k u] (getItem (.ref l) (.int k u)) := by intro _ _; with_unfolding_all rfl) :
    wpAny (model prog w) A (subscriptTail value slice (.ref l) (.int k u)) Q E s := by
  have hk : k = 0 ∨ k = 1 ∨ k = 2 := by omega
  rcases hk with rfl | rfl | rfl
  · exact ly_item (vs := [v0, v1, v2]) N hm (by decide) (by decide) rfl (q0 rfl) (hs _ _)
  · exact ly_item (vs := [v0, v1, v2]) N hm (by decide) (by decide) rfl (q1 rfl) (hs _ _)
  · exact ly_item (vs := [v0, v1, v2]) N hm (by decide) (by decide) rfl (q2 rfl) (hs _ _)
theorem fmod_nat {k : Int} {a b : Nat} (h : k = 0 + (a : Int)) : (k.fmod (b : Int)).toNat = a % b := by
  subst h
  rw [Int.zero_add, Int.fmod_eq_emod_of_nonneg _ (Int.natCast_nonneg b), ← Int.natCast_emod]
  rfl
theorem runsP_err {ks kinds : List Int} {k : Nat} {st : PS} {e : List Item × Str × PS} (h : runsP ks kinds k st = .error e) : ∀ j, runsP ks kinds (k + j) st = .error e
  | 0 => h
  | j + 1 => by
    have h' := runsP_err h j
    rw [← Nat.add_assoc, runsP, h']
theorem runsP_stop {ks kinds : List Int} {k : Nat} {st st' st'' : PS} {its : List Item} {msg : Str} (h : runsP ks kinds k st = .ok (its, st')) (h' : readP (kinds.getD (k % kinds.length) 0) ks st' = .error (msg, st'')) : runsP ks kinds (k + 1) st = .error (its, msg, st'') := by
  simp only [runsP, h, h']
theorem runsP_next {ks kinds : List Int} {k : Nat} {st st' st'' : PS} {its : List Item} {i : Item} (h : runsP ks kinds k st = .ok (its, st')) (h' : readP (kinds.getD (k % kinds.length) 0) ks st' = .ok (i, st'')) : runsP ks kinds (k + 1) st = .ok (its ++ [i], st'') := by
  simp only [runsP, h, h']
theorem run_end {ks kinds : List Int} {k n : Nat} {st st' st'' stF : PS} {its told : List Item} {msg msg' : Str} (hrun : runsP ks kinds n st = .error (told, msg, stF)) (h : runsP ks kinds k st = .ok (its, st')) (h' : readP (kinds.getD (k % kinds.length) 0) ks st' = .error (msg', st'')) (hk : k + 1 ≤ n) :
    told = its ∧ msg = msg' ∧ stF = st'' := by
  have e := runsP_err (runsP_stop h h') (n - (k + 1))
  rw [Nat.add_sub_of_le hk, hrun] at e
  cases e
  exact ⟨rfl, rfl, rfl⟩
theorem perm_end {α : Type} {l₁ l₂ own own9 : List α} {d k x p : α} (h : p ∈ d :: x :: (l₁ ++ (l₂ ++ (k :: own)))) : p ∈ d :: (l₁ ++ (l₂ ++ (k :: x :: (own ++ own9)))) := by
  simp only [List.mem_append, List.mem_cons] at h ⊢
  rcases h with h | h | h | h | h | h
  · exact .inl h
  · exact .inr (.inr (.inr (.inr (.inl h))))
  · exact .inr (.inl h)
  · exact .inr (.inr (.inl h))
  · exact .inr (.inr (.inr (.inl h)))
  · exact .inr (.inr (.inr (.inr (.inr (.inl h)))))
theorem readP_0 {kind : Int} {ks : List Int} {st : PS} (h : kind = 0) : readP kind ks st = (u1P ks st).map fun r => (.n r.1, r.2) := by rw [readP, if_pos h]
theorem readP_1 {kind : Int} {ks : List Int} {st : PS} (h : kind = 1) : readP kind ks st = (d1P msgS ks st).map fun r => (.s r.1, r.2) := by rw [readP, if_neg (by omega), if_pos h]
theorem readP_2 {kind : Int} {ks : List Int} {st : PS} (h : kind = 2) : readP kind ks st = (d1P msgB ks st).map fun r => (.d r.1, r.2) := by rw [readP, if_neg (by omega), if_neg (by omega)]
set_option maxRecDepth 100000 in
set_option maxHeartbeats 8000000 in
theorem runL {w : World} {dp un : Nat} {gd : Option (List Code)} {cn : Str} {cs : Scope} {a : Addr} {ccd : Value} {A₀ : Around} {base h₀ : Heap} {L : Addr} {m : Str → Option Value} {s : Shared}
    {p : Program} {loose : List Str} {mean : ExcName → Option Value} {mg mb : Str → Option Value}
    {Q E : Value → Shared → Prop} {c₀ : CS} {y : LyIds} {σ : StIds} {ks kinds : List Int} {KA : Addr} {kv : List Value} {kn tries : Nat} {tt : Tok} {own : List (Addr × Obj)}
    (G : Gr 7 w dp un cs [] A₀ base h₀ p loose mean mg mb) (F : Fr h₀ L s.heap m) (N : News h₀ L s.heap (σ.led w c₀.pos c₀.tp ++ (y.led w c₀.b c₀.tb c₀.done ++ (KA, listOf kv.toArray kn) :: own))) (off : OwnOff ((KA, listOf kv.toArray kn) :: own) [σ.d, y.l]) (S : σ.Ok ks) (Y : y.Ok σ) (hp : c₀.abs.Ok ks)
    (hkv : IntsAre kv kinds) (hk0 : 0 < kinds.length) (hk1 : kinds.length ≤ 100) (hk2 : ∀ k ∈ kinds, 0 ≤ k ∧ k < 3) (ht : tries ≤ 100) {told : List Item} {msg : Str} {stF : PS} (hrun : runsP ks kinds tries c₀.abs = .error (told, msg, stF))
    (hQ : ∀ h' tk' D l vs nn t (c : CS), ItemsAre vs told → c.abs = stF → Fr h₀ L h' m → News h₀ L h' ((D, ({ cls := .type "tuple", data := .seq #[.ref l, .str msg t] } : Obj)) :: (l, listOf vs.toArray nn) :: (σ.led w c.pos c.tp ++ (y.led w c.b c.tb c.done ++ ((KA, listOf kv.toArray kn) :: own)))) → Q (.ref D) { s with heap := h', toks := tk' }) :
    wpAny (model Challenge.rw_dw0039_01.row.prog w) (ktrTop dp un gd cn cs L a ccd [] []) (call (.ref 77) [.ref y.x, .ref KA, .int tries tt]) Q E s := by
  obtain ⟨B, X, T, XB, TB, hk, C1, C2, hd0, hu⟩ := G
  revert X
  k_fill
  intro X
  obtain ⟨ck, cnm, cg, cc, cm⟩ := cs
  cases hk
  obtain ⟨Y1, Y2, Y3, Y4, Y5, Y6, Y7⟩ := id Y
  have S5 := S.ne
  have S6 := S.len
  dsimp only [stDict, List.cons_append, List.nil_append] at N ⊢
  (k_with "pyIter ref" => (k_here; (rename Fr _ _ _ _ => lF'); (rename News _ _ _ _ => lN'); (rename IsRange _ _ _ _ _ _ _ _ => rgX); (obtain ⟨l9, hl9⟩ := got_head lN'); subst hl9; (rename @LT.lt Nat _ σ.x _ ∧ _ => l1'); (have lLt : AllLt l9 own := l1'.2.2.2.2.2.2.2.2.2.2.2.2.2.2); (with_unfolding_all refine' kst_range (σ := CS × List Value × Nat) (fun c => σ.led w c.1.pos c.1.tp ++ (y.led w c.1.b c.1.tb c.1.done ++ ((KA, listOf kv.toArray kn) :: (l9, listOf c.2.1.toArray c.2.2) :: own))) (fun _ => []) (fun _ => True) [Str.ofString "reader", Str.ofString "e"] (fun pre c => ∃ its, ItemsAre c.2.1 its ∧ runsP ks kinds pre.length c₀.abs = .ok (its, c.1.abs) ∧ c.1.abs.Ok ks ∧ c.2.1.length = pre.length) (c₀, [], 0) (by rfl) (by exact rgX) (by exact small_one (by omega) (by omega) (by omega) (by omega)) (by exact rangeSize_nat _ _) lF' (by exact kst_newsOf lN' (fun p hp => perm_told hp)) trivial (fun _ h9 => nomatch h9) ⟨[], trivial, rfl, hp, rfl⟩ ?turn ?done); (case' turn => (intro c9 pre9 k9 t9 u9 h9 tk9 own9 hk9 hlt9 hoff9 hf9 hP9 F9 N9; obtain ⟨c9, vs9, nn9⟩ := c9; obtain ⟨its9, hI9, hP9, hQ9, hR9⟩ := hP9; (have hl9 : OwnOff own [l9] := own_lt lLt); (have hoff2 : OwnOff (own ++ own9) [σ.d, y.l, l9] := ownOff_app (ownOff_three (ownOff_tl off) hl9) (ownOff_sub hoff9 (by simp))); obtain ⟨o2, ho2⟩ : ∃ o2, o2 = own ++ own9 := ⟨_, rfl⟩; rw [← ho2] at hoff2; (have hoff3 : OwnOff ((KA, listOf kv.toArray kn) :: (l9, listOf vs9.toArray nn9) :: o2) [σ.d, y.l] := ownOff_run off (by omega) (by omega) hoff2); (simp only [List.append_assoc, List.cons_append] at N9); rw [← ho2] at N9; (dsimp only [stDict, List.cons_append, List.nil_append] at N9 ⊢); dsimp only [kstB] at F9; k_whole)); (case' done => (intro c9 u9 h9 tk9 hf9 hP9 F9 N9; exfalso; obtain ⟨its9, hI9, hP9, hQ9, hR9⟩ := hP9; rw [rangeKs_length, show ((tries : Int) - 0).toNat = tries by omega, hrun] at hP9; cases hP9))))
  k_steps
  · rename Fr h₀ L _ m => kF
    rename News h₀ L _ _ => kN
    rename CS => cX
    rename u1P _ _ = _ => hr
    rename List.getD _ _ _ = _ => hk
    rw [fmod_nat hk9] at hk
    obtain ⟨rfl, rfl, rfl⟩ := run_end hrun hP9 ((readP_0 hk).trans (by rw [hr]; rfl)) (by omega)
    subst ho2
    exact hQ _ _ _ _ _ _ _ cX hI9 rfl kF (kst_newsOf kN fun p hp => perm_end hp)
  · rename News _ _ _ _ => kN
    rename Fr _ _ _ _ => kF
    rename CS => cX
    rename u1P _ _ = _ => hr
    rename List.getD _ _ _ = _ => hk
    rename cX.abs.Ok ks => ho
    rw [fmod_nat hk9] at hk
    rw [List.push_toArray] at kN
    subst ho2
    have kN2 : News _ _ _ (σ.led w cX.pos cX.tp ++ (y.led w cX.b cX.tb cX.done ++ (((KA, listOf kv.toArray kn) :: (l9, listOf (vs9 ++ [_]).toArray (nn9 + 1)) :: own) ++ own9))) := kN
    refine kst_end (cX, vs9 ++ [_], nn9 + 1) kF kN2 (fun p hp => mem_l hp) (fun p hp => mem_r hp) rfl trivial (fun _ h9 => nomatch h9) (fun z h1 _ h2 => ?_) ⟨_, ItemsAre.snoc (item_n (v := _) (t := _)) hI9, ?_, ho, ?_⟩
    · have h3 : z ≠ Str.ofString "reader" := by rintro rfl; exact absurd h2 (by decide)
      simp only [h1, h2, h3, if_false, Bool.false_eq_true]
    · rw [List.length_append]
      exact runsP_next hP9 ((readP_0 hk).trans (by rw [hr]; rfl))
    · show (vs9 ++ [_]).length = _
      rw [List.length_append, List.length_append]
      exact congrArg (· + 1) hR9
  · rename Fr h₀ L _ m => kF
    rename News h₀ L _ _ => kN
    rename CS => cX
    rename d1P _ _ _ = _ => hr
    rename List.getD _ _ _ = _ => hk
    rw [fmod_nat hk9] at hk
    obtain ⟨rfl, rfl, rfl⟩ := run_end hrun hP9 ((readP_1 hk).trans (by rw [hr]; rfl)) (by omega)
    subst ho2
    exact hQ _ _ _ _ _ _ _ cX hI9 rfl kF (kst_newsOf kN fun p hp => perm_end hp)
  · rename News _ _ _ _ => kN
    rename Fr _ _ _ _ => kF
    rename CS => cX
    rename d1P _ _ _ = _ => hr
    rename List.getD _ _ _ = _ => hk
    rename cX.abs.Ok ks => ho
    rw [fmod_nat hk9] at hk
    rw [List.push_toArray] at kN
    subst ho2
    have kN2 : News _ _ _ (σ.led w cX.pos cX.tp ++ (y.led w cX.b cX.tb cX.done ++ (((KA, listOf kv.toArray kn) :: (l9, listOf (vs9 ++ [_]).toArray (nn9 + 1)) :: own) ++ own9))) := kN
    refine kst_end (cX, vs9 ++ [_], nn9 + 1) kF kN2 (fun p hp => mem_l hp) (fun p hp => mem_r hp) rfl trivial (fun _ h9 => nomatch h9) (fun z h1 _ h2 => ?_) ⟨_, ItemsAre.snoc (item_s (b := _) (t := _)) hI9, ?_, ho, ?_⟩
    · have h3 : z ≠ Str.ofString "reader" := by rintro rfl; exact absurd h2 (by decide)
      simp only [h1, h2, h3, if_false, Bool.false_eq_true]
    · rw [List.length_append]
      exact runsP_next hP9 ((readP_1 hk).trans (by rw [hr]; rfl))
    · show (vs9 ++ [_]).length = _
      rw [List.length_append, List.length_append]
      exact congrArg (· + 1) hR9
  · rename Fr h₀ L _ m => kF
    rename News h₀ L _ _ => kN
    rename CS => cX
    rename d1P _ _ _ = _ => hr
    rename List.getD _ _ _ = _ => hk
    rw [fmod_nat hk9] at hk
    obtain ⟨rfl, rfl, rfl⟩ := run_end hrun hP9 ((readP_2 hk).trans (by rw [hr]; rfl)) (by omega)
    subst ho2
    exact hQ _ _ _ _ _ _ _ cX hI9 rfl kF (kst_newsOf kN fun p hp => perm_end hp)
  · rename News _ _ _ _ => kN
    rename Fr _ _ _ _ => kF
    rename CS => cX
    rename d1P _ _ _ = _ => hr
    rename List.getD _ _ _ = _ => hk
    rename cX.abs.Ok ks => ho
    rw [fmod_nat hk9] at hk
    rw [List.push_toArray] at kN
    subst ho2
    have kN2 : News _ _ _ (σ.led w cX.pos cX.tp ++ (y.led w cX.b cX.tb cX.done ++ (((KA, listOf kv.toArray kn) :: (l9, listOf (vs9 ++ [_]).toArray (nn9 + 1)) :: own) ++ own9))) := kN
    refine kst_end (cX, vs9 ++ [_], nn9 + 1) kF kN2 (fun p hp => mem_l hp) (fun p hp => mem_r hp) rfl trivial (fun _ h9 => nomatch h9) (fun z h1 _ h2 => ?_) ⟨_, ItemsAre.snoc (item_d (b := _) (t := _)) hI9, ?_, ho, ?_⟩
    · have h3 : z ≠ Str.ofString "reader" := by rintro rfl; exact absurd h2 (by decide)
      simp only [h1, h2, h3, if_false, Bool.false_eq_true]
    · rw [List.length_append]
      exact runsP_next hP9 ((readP_2 hk).trans (by rw [hr]; rfl))
    · show (vs9 ++ [_]).length = _
      rw [List.length_append, List.length_append]
      exact congrArg (· + 1) hR9
end
section
local macro_rules | `(tactic| k_lt $h:ident) => `(tactic| ((first | (with_reducible rename OwnLt _ _ => hA9) | ((have hA9 := OwnLt.start $h); (repeat (replace hA9 := OwnLt.tail hA9)))); (replace $h := allLt_of $h); (simp only [AllLt, and_true] at $h:ident)))
local macro_rules | `(tactic| k_all) => `(tactic| (refine OwnLt.ne (by assumption) ?_; omega))
section
open PySem PySem.W PyProof.Rows PySem.Spec PySem.Calls
theorem freshMkL : True := by
  w_top off
  k_with_none
  exact trivial
theorem ownOff_new {own : List (Addr × Obj)} {a d : Nat} {b l : Nat} (h : OwnOff own [d]) (k : OwnLt a own) (hl : a ≤ l) : OwnOff own [d, l] := fun p hp x hx => by
  rcases List.mem_cons.mp hx with rfl | hx
  · exact h p hp _ (.head _)
  · rw [List.mem_singleton.mp hx]; exact Nat.ne_of_lt (Nat.lt_of_lt_of_le (k.lt p hp) hl)
theorem ownOff_cons2 {a : Addr × Obj} {r : List (Addr × Obj)} {d l : Nat} (h : @Ne Nat a.1 d) (h' : @Ne Nat a.1 l) (k : OwnOff r [d, l]) : OwnOff (a :: r) [d, l] := fun p hp b hb => by
  rcases List.mem_cons.mp hp with rfl | hp
  · rcases List.mem_cons.mp hb with rfl | hb
    · exact h
    · rw [List.mem_singleton.mp hb]; exact h'
  · exact k p hp b hb
/-- a layer made anew upon own -/
structure LyNew (y : LyIds) (x : Addr) (own : List (Addr × Obj)) : Prop where
  oc : y.oc.data = .fields y.vs
  vs : y.vs[1]? = some (.str plQual y.t0)
  ocg : y.ocg.data = .cell (some (.ref y.x))
  ocf : y.ocf.data = .cell (some (.ref x))
  ne : @Ne Nat y.l y.x ∧ @Ne Nat y.l y.d ∧ @Ne Nat y.l y.fn ∧ @Ne Nat y.l y.c ∧ @Ne Nat y.l y.cg ∧ @Ne Nat y.l y.cf
  lt : OwnLt y.cf own
  up : @LT.lt Nat _ 65 y.cf ∧ @LT.lt Nat _ y.cf y.cg ∧ @LT.lt Nat _ y.cg y.l ∧ @LT.lt Nat _ y.l y.d ∧ @LT.lt Nat _ y.d y.x ∧ @LT.lt Nat _ y.x y.fn
set_option maxRecDepth 100000 in
set_option maxHeartbeats 8000000 in
theorem mkLa {w : World} {dp un : Nat} {gd : Option (List Code)} {cn : Str} {cs : Scope} {a : Addr} {ccd : Value} {cl : List (Str × Addr)} {outer : List Env} {A₀ : Around} {base h₀ : Heap} {L : Addr} {m : Str → Option Value} {s : Shared}
    {p : Program} {loose : List Str} {mean : ExcName → Option Value} {mg mb : Str → Option Value}
    {Q E : Value → Shared → Prop} {x : Addr} {own : List (Addr × Obj)}
    (G : Gr 3 w dp un cs outer A₀ base h₀ p loose mean mg mb) (F : Fr h₀ L s.heap m) (N : News h₀ L s.heap ((65, tabObj #[]) :: own)) (off : OwnOff own [65])
    (hQ : ∀ h' tk' tb (y : LyIds), LyNew y x own → @LT.lt Nat _ y.x y.c → Fr h₀ L h' m → News h₀ L h' (y.led w #[] tb false ++ ((65, tabL y.c) :: own)) → Q (.ref y.x) { s with heap := h', toks := tk' }) :
    wpAny (model Challenge.rw_dw0039_01.row.prog w) (ktrTop dp un gd cn cs L a ccd cl outer) (call (.ref 70) [.ref x]) Q E s := by
  obtain ⟨B, X, T, XB, TB, hk, C1, C2, hd0, hu⟩ := G
  revert X
  k_fill
  intro X
  obtain ⟨ck, cnm, cg, cc, cm⟩ := cs
  cases hk
  k_steps
  rename Fr h₀ L _ m => kF
  rename News h₀ L _ _ => kN
  rename OwnLt _ own => kO
  refine' hQ _ _ _ ⟨_, _, _, _, _, _, _, _, _, _, _, _, _, _, _, _, _⟩ ?ok ?up kF ?n
  (case n => exact news_cons (kN _ (by k_mem)) (news_cons (kN _ (by k_mem)) (news_cons (kN _ (by k_mem)) (news_cons (kN _ (by k_mem)) (news_cons (kN _ (by k_mem)) (news_cons (kN _ (by k_mem)) (news_cons (kN _ (by k_mem)) (news_cons (kN _ (by k_mem)) (news_tail (news_tail (news_tail (news_tail (news_tail (news_tail (news_tail (news_tail kN))))))))))))))))
  (case ok => (refine ⟨by (dsimp only; assumption), by (dsimp only; assumption), by (dsimp only; assumption), by (dsimp only; assumption), ?_, ?_, ?_⟩; (· dsimp only; omega); (· refine kO.le ?_; dsimp only; omega); (· dsimp only; omega)))
  (case up => (dsimp only; omega))
end
section
open PySem PySem.W PyProof.Rows PySem.Spec PySem.Calls
theorem freshMkM : True := by
  w_top off
  k_with_none
  exact trivial
set_option maxRecDepth 100000 in
set_option maxHeartbeats 8000000 in
theorem mkLb {w : World} {dp un : Nat} {gd : Option (List Code)} {cn : Str} {cs : Scope} {a : Addr} {ccd : Value} {cl : List (Str × Addr)} {outer : List Env} {A₀ : Around} {base h₀ : Heap} {L : Addr} {m : Str → Option Value} {s : Shared}
    {p : Program} {loose : List Str} {mean : ExcName → Option Value} {mg mb : Str → Option Value}
    {Q E : Value → Shared → Prop} {x c : Addr} {oc : Obj} {vs : Array Value} {t0 : Tok} {own : List (Addr × Obj)}
    (G : Gr 3 w dp un cs outer A₀ base h₀ p loose mean mg mb) (F : Fr h₀ L s.heap m) (N : News h₀ L s.heap ((65, tabL c) :: (c, oc) :: own)) (hoc : oc.data = .fields vs) (hvs : vs[1]? = some (.str plQual t0))
    (hQ : ∀ h' tk' tb (y : LyIds), LyNew y x own → Fr h₀ L h' m → News h₀ L h' (y.led w #[] tb false ++ ((65, tabL c) :: own)) → Q (.ref y.x) { s with heap := h', toks := tk' }) :
    wpAny (model Challenge.rw_dw0039_01.row.prog w) (ktrTop dp un gd cn cs L a ccd cl outer) (call (.ref 70) [.ref x]) Q E s := by
  obtain ⟨B, X, T, XB, TB, hk, C1, C2, hd0, hu⟩ := G
  revert X
  k_fill
  intro X
  obtain ⟨ck, cnm, cg, cc, cm⟩ := cs
  cases hk
  k_steps
  rename Fr h₀ L _ m => kF
  rename News h₀ L _ _ => kN
  rename OwnLt _ own => kO
  refine' hQ _ _ _ ⟨_, _, _, _, c, _, _, oc, _, _, vs, t0, _, _, _, _, _⟩ ?kok kF ?knw
  (case knw => exact news_cons (kN _ (by k_mem)) (news_cons (kN _ (by k_mem)) (news_cons (kN _ (by k_mem)) (news_cons (kN _ (by k_mem)) (news_cons (kN _ (by k_mem)) (news_cons (kN _ (by k_mem)) (news_cons (kN _ (by k_mem)) (news_cons (kN _ (by k_mem)) (news_tail (news_tail (news_tail (news_tail (news_tail (news_tail (news_tail (news_tail kN))))))))))))))))
  (case kok => (refine ⟨by (dsimp only; assumption), by (dsimp only; assumption), by (dsimp only; assumption), by (dsimp only; assumption), ?_, ?_, ?_⟩; (· dsimp only; omega); (· refine kO.le ?_; dsimp only; omega); (· dsimp only; omega)))
set_option maxRecDepth 100000 in
set_option maxHeartbeats 8000000 in
theorem mkSb {w : World} {dp un : Nat} {gd : Option (List Code)} {cn : Str} {cs : Scope} {a : Addr} {ccd : Value} {cl : List (Str × Addr)} {outer : List Env} {A₀ : Around} {base h₀ : Heap} {L : Addr} {m : Str → Option Value} {s : Shared}
    {p : Program} {loose : List Str} {mean : ExcName → Option Value} {mg mb : Str → Option Value}
    {Q E : Value → Shared → Prop} {O : Array UInt8} {tk : Tok} {ks : List Int} {c : Addr} {oc : Obj} {vs : Array Value} {t0 : Tok} {own : List (Addr × Obj)}
    (G : Gr 3 w dp un cs outer A₀ base h₀ p loose mean mg mb) (F : Fr h₀ L s.heap m) (N : News h₀ L s.heap ((58, tabS c) :: (c, oc) :: own)) (hoc : oc.data = .fields vs) (hvs : vs[1]? = some (.str rdQual t0)) (hO : KBw.bInts O = ks) (hl : ks.length ≤ 1000)
    (hQ : ∀ h' tk' t' (σ : StIds), σ.Ok ks → OwnLt σ.d own → @LT.lt Nat _ 58 σ.d → Fr h₀ L h' m → News h₀ L h' (σ.led w 0 t' ++ (58, tabS c) :: own) → Q (.ref σ.x) { s with heap := h', toks := tk' }) :
    wpAny (model Challenge.rw_dw0039_01.row.prog w) (ktrTop dp un gd cn cs L a ccd cl outer) (call (.ref 63) [.bytes O tk]) Q E s := by
  obtain ⟨B, X, T, XB, TB, hk, C1, C2, hd0, hu⟩ := G
  revert X
  k_fill
  intro X
  obtain ⟨ck, cnm, cg, cc, cm⟩ := cs
  cases hk
  k_steps
  rename Fr h₀ L _ m => kF
  rename News h₀ L _ _ => kN
  rename OwnLt _ own => kO
  refine' hQ _ _ _ ⟨_, _, _, c, _, _, oc, _, _, O, vs, t0, _, _, _, _, _, _⟩ ?kok ?klt ?kl58 kF ?knw
  (case knw => exact news_cons (kN _ (by k_mem)) (news_cons (kN _ (by k_mem)) (news_cons (kN _ (by k_mem)) (news_cons (kN _ (by k_mem)) (news_cons (kN _ (by k_mem)) (news_cons (kN _ (by k_mem)) (news_cons (kN _ (by k_mem)) (news_tail (news_tail (news_tail (news_tail (news_tail (news_tail (news_tail kN))))))))))))))
  (case klt => (refine kO.le ?_; dsimp only; omega))
  (case kl58 => (dsimp only; omega))
  (case kok => (refine ⟨by (dsimp only; assumption), by (dsimp only; assumption), by (dsimp only; assumption), by (dsimp only; assumption), hO, hl, ?_⟩; dsimp only; omega))
end
section
open PySem PySem.W PyProof.Rows PySem.Spec PySem.Calls
theorem freshMkN : True := by
  w_top off
  k_with_none
  exact trivial
/-- a stream made anew upon own -/
structure StNew (σ : StIds) (own : List (Addr × Obj)) : Prop where
  x : OwnLt σ.x own
  d : OwnLt σ.d own
  fn : OwnLt σ.fn own
  c : OwnLt σ.c own
  cf : OwnLt σ.cf own
  co : OwnLt σ.co own
set_option maxRecDepth 100000 in
set_option maxHeartbeats 8000000 in
theorem mkSa {w : World} {dp un : Nat} {gd : Option (List Code)} {cn : Str} {cs : Scope} {a : Addr} {ccd : Value} {cl : List (Str × Addr)} {outer : List Env} {A₀ : Around} {base h₀ : Heap} {L : Addr} {m : Str → Option Value} {s : Shared}
    {p : Program} {loose : List Str} {mean : ExcName → Option Value} {mg mb : Str → Option Value}
    {Q E : Value → Shared → Prop} {O : Array UInt8} {tk : Tok} {ks : List Int} {own : List (Addr × Obj)}
    (G : Gr 3 w dp un cs outer A₀ base h₀ p loose mean mg mb) (F : Fr h₀ L s.heap m) (N : News h₀ L s.heap ((58, tabObj #[]) :: own)) (off : OwnOff own [58]) (hO : KBw.bInts O = ks) (hl : ks.length ≤ 1000)
    (hQ : ∀ h' tk' t' (σ : StIds), σ.Ok ks → StNew σ own → @LT.lt Nat _ 58 σ.d → Fr h₀ L h' m → News h₀ L h' (σ.led w 0 t' ++ (58, tabS σ.c) :: own) → Q (.ref σ.x) { s with heap := h', toks := tk' }) :
    wpAny (model Challenge.rw_dw0039_01.row.prog w) (ktrTop dp un gd cn cs L a ccd cl outer) (call (.ref 63) [.bytes O tk]) Q E s := by
  obtain ⟨B, X, T, XB, TB, hk, C1, C2, hd0, hu⟩ := G
  revert X
  k_fill
  intro X
  obtain ⟨ck, cnm, cg, cc, cm⟩ := cs
  cases hk
  k_steps
  rename Fr h₀ L _ m => kF
  rename News h₀ L _ _ => kN
  rename OwnLt _ own => kO
  refine' hQ _ _ _ ⟨_, _, _, _, _, _, _, _, _, _, _, _, _, _, _, _, _, _⟩ ?ok ?lt ?l58 kF ?n
  (case n => exact news_cons (kN _ (by k_mem)) (news_cons (kN _ (by k_mem)) (news_cons (kN _ (by k_mem)) (news_cons (kN _ (by k_mem)) (news_cons (kN _ (by k_mem)) (news_cons (kN _ (by k_mem)) (news_cons (kN _ (by k_mem)) (news_tail (news_tail (news_tail (news_tail (news_tail (news_tail (news_tail kN)))))))))))))) 
  (case lt => (refine ⟨?_, ?_, ?_, ?_, ?_, ?_⟩ <;> (refine kO.le ?_; dsimp only; omega)))
  (case l58 => (dsimp only; omega))
  (case ok => (refine ⟨by (dsimp only; assumption), by (dsimp only; assumption), by (dsimp only; assumption), by (dsimp only; assumption), hO, hl, ?_⟩; dsimp only; omega))
end
end
section
open PySem PySem.W PyProof.Rows PySem.Spec PySem.Calls
abbrev msgD (nm : Str) (v n : Nat) : Str := Str.ofString "expected " ++ Str.ofString (toString (v : Int)) ++ Str.ofString " bytes in a " ++ nm ++ Str.ofString ", but only " ++ Str.ofString (toString (n : Int)) ++ Str.ofString " remain"
set_option maxRecDepth 100000 in
set_option maxHeartbeats 8000000 in
theorem pctD {prog : Program} {w : World} {A : Around} {E : Value → Shared → Prop} {s : Shared} {t t1 t2 t3 : Tok} {Q : Value → Shared → Prop} {b L : Addr} {k : Nat} {h₀ : Heap} {news : List (Addr × Obj)} {v n : Nat} {nm : Str}
    (N : News h₀ L s.heap news) (hb : (b, ({ cls := .type "tuple", data := .seq #[.int (v : Int) t1, .str nm t3, .int (n : Int) t2] k } : Obj)) ∈ news) (hv : v < 100000) (hn : n < 100000) (hl : nm.length ≤ 10)
    (h : ∀ t' k, Q (.str (msgD nm v n) t') { s with toks := k }) :
    wpAny (model prog w) A (binaryOp .Mod (.str (Str.ofString "expected %d bytes in a %s, but only %d remain") t) (.ref b)) Q E s := by
  refine' KPt.mod_tuple N hb ?kptF ?kptm ?kpth
  case kptF => kpt_eq
  case kpth => exact h
  case kptm =>
    apply KPt.meets_tup
    intro _ _ _ _ _ _ kptH _
    obtain ⟨kptO, kptG, kptC, kptN, kptD⟩ := kptH
    rw [KPt.entry_is_r]
    unfold Builtin.Str.percentFormat
    refine wpAny_bind (wpAny_isInstance (T := "tuple") ⟨kptO, kptG, kptC⟩ KPt.sub_tt ?_)
    refine wpAny_bind (KPt.asStr_ref kptG kptD ?_)
    refine wpAny_bind (KPt.fills_ref ⟨kptO, kptG, kptC⟩ ?_)
    intro _
    kpc_if
    refine wpAny_bind (wpAny_seqItems kptG kptD ?_)
    refine wpAny_bind (wpAny_pure ?_)
    refine wpAny_bind ?_
    rw [KPc.range_list]
    refine KPc.start ?_
    intro _ _
    refine KPc.turn ?_
    kpc_check
    (repeat kpc_if)
    refine wpAny_pure ?_
    refine KPc.after_add0 (by kpc_g) (by kpc_text) (by kpc_obj) ?_
    intro _ _
    refine KPc.turn ?_
    kpc_check
    (repeat kpc_if)
    refine wpAny_bind ?_
    refine wpAny_holding ?_
    (repeat kpc_if)
    refine wpAny_bind (wpAny_of_eq (a := _) rfl ?_)
    (repeat kpc_if)
    refine wpAny_bind (wpAny_mkInt ?_)
    refine wpAny_bind (call_gives F.slot_int_repr (typeIs_int _ _ _) F.entry_int_repr (F.args_int_repr_1 _) (gives_int_repr _ _ (KPt.hd2 (by kpt_hd))) ⟨int_text_fits (KPt.hd2 (by kpt_hd)), ?_⟩)
    with_reducible refine wpAny_bind ?_
    with_reducible refine wpAny_of_eq (asStr_eq _ _) ?_
    refine wpAny_pure ?_
    refine wpAny_pure ?_
    refine' KPc.after_int ?g1 ?g2 ?g3 ?g4 ?g5 ?g6 ?g7 ?g8 ?_
    case g1 => kpc_g
    case g2 => rfl
    case g3 => kpc_kind
    case g4 => rfl
    case g5 => kpt_fact
    case g6 => kpt_fact
    case g7 => rfl
    case g8 => kpc_none
    intro _ _
    refine KPc.turn ?_
    kpc_check
    (repeat kpc_if)
    refine wpAny_pure ?_
    refine KPc.after_add (by kpc_g) (by kpc_text) (by kpc_obj) ?_
    intro _ _
    refine KPc.turn ?_
    kpc_check
    (repeat kpc_if)
    refine wpAny_bind ?_
    refine wpAny_holding ?_
    (repeat kpc_if)
    refine wpAny_bind ?_
    kpc_if
    refine wpAny_of_eq (KPc.strOf_str _ _) ?_
    with_reducible refine wpAny_bind ?_
    with_reducible refine wpAny_of_eq (asStr_eq _ _) ?_
    refine wpAny_pure ?_
    refine wpAny_pure ?_
    refine KPc.after_str (by kpc_g) (by kpt_len) (by kpc_obj) ?_
    intro _ _
    refine KPc.turn ?_
    kpc_check
    (repeat kpc_if)
    refine wpAny_pure ?_
    refine KPc.after_add (by kpc_g) (by kpc_text) (by kpc_obj) ?_
    intro _ _
    refine KPc.turn ?_
    kpc_check
    (repeat kpc_if)
    refine wpAny_bind ?_
    refine wpAny_holding ?_
    (repeat kpc_if)
    refine wpAny_bind (wpAny_of_eq (a := _) rfl ?_)
    (repeat kpc_if)
    refine wpAny_bind (wpAny_mkInt ?_)
    refine wpAny_bind (call_gives F.slot_int_repr (typeIs_int _ _ _) F.entry_int_repr (F.args_int_repr_1 _) (gives_int_repr _ _ (KPt.hd2 (by kpt_hd))) ⟨int_text_fits (KPt.hd2 (by kpt_hd)), ?_⟩)
    with_reducible refine wpAny_bind ?_
    with_reducible refine wpAny_of_eq (asStr_eq _ _) ?_
    refine wpAny_pure ?_
    refine wpAny_pure ?_
    refine' KPc.after_int ?g1 ?g2 ?g3 ?g4 ?g5 ?g6 ?g7 ?g8 ?_
    case g1 => kpc_g
    case g2 => rfl
    case g3 => kpc_kind
    case g4 => rfl
    case g5 => kpt_fact
    case g6 => kpt_fact
    case g7 => rfl
    case g8 => kpc_none
    intro _ _
    refine KPc.turn ?_
    kpc_check
    (repeat kpc_if)
    refine wpAny_pure ?_
    refine KPc.after_add (by kpc_g) (by kpc_text) (by kpc_obj) ?_
    intro _ _
    refine KPc.turn ?_
    kpc_check
    (repeat kpc_if)
    kpc_close
end
section
open PySem PySem.W PyProof.Rows PySem.Spec PySem.Calls
def chrOf (k : Int) : Str := ⟨#[k.toNat]⟩
theorem str_assoc (x y z : Str) : x ++ y ++ z = x ++ (y ++ z) := by
  cases x; cases y; cases z
  exact congrArg Str.mk (Array.append_assoc ..)
theorem msgD_S (v n : Nat) : msgD (Str.ofString "string1") v n = msgS v n := by
  have e : Str.ofString " bytes in a " ++ Str.ofString "string1" ++ Str.ofString ", but only " = Str.ofString " bytes in a string1, but only " := by decide +kernel
  unfold msgD msgS
  rw [← e]
  simp only [str_assoc]
theorem msgD_B (v n : Nat) : msgD (Str.ofString "bytes1") v n = msgB v n := by
  have e : Str.ofString " bytes in a " ++ Str.ofString "bytes1" ++ Str.ofString ", but only " = Str.ofString " bytes in a bytes1, but only " := by decide +kernel
  unfold msgD msgB
  rw [← e]
  simp only [str_assoc]
theorem joined (l : List Int) : Str.join (Str.ofString "") (l.map chrOf) = ⟨(l.map (·.toNat)).toArray⟩ := by
  induction l with
  | nil => rfl
  | cons a r ih =>
    cases r with
    | nil => rfl
    | cons b r =>
      have e0 : Str.ofString "" = ⟨#[]⟩ := by decide +kernel
      have : Str.join (Str.ofString "") ((a :: b :: r).map chrOf) = chrOf a ++ Str.ofString "" ++ Str.join (Str.ofString "") ((b :: r).map chrOf) := rfl
      rw [this, ih, e0]
      show Str.mk ((#[a.toNat] ++ #[]) ++ _) = _
      congr 1
      simp
theorem join_latin {l : List Int} (h : KBa.In l) : Txt.join (Str.ofString "") (l.map chrOf) = latinStr (byteArr l) := by
  show Builtin.Str.glued (Str.ofString "") (l.map chrOf) = _
  rw [StrLaws.glued_eq_join, joined]
  unfold latinStr byteArr
  congr 2
  simp only [List.map_map]
  apply List.map_congr_left
  intro k hk
  have := h k hk
  simp only [Function.comp]
  rw [show (k.toNat.toUInt8).toNat = k.toNat % 256 from UInt8.toNat_ofNat' .., Nat.mod_eq_of_lt (by omega)]
end
section
open PySem PySem.W PyProof.Rows PySem.Spec PySem.Calls
theorem freshDu : True := by
  w_top off
  k_with_none
  (k_with "subscriptTail Name Name ref int!" => (k_here; (with_reducible show wpAny _ _ (subscriptTail _ _ (Value.ref _) (Value.int (Nat.cast _) _)) _ _ _); k_dflt (refine' oct_item ?k0Zz ?k1Zz ?k2Zz ?k3Zz ?k4Zz ?k5Zz ?_ ?k6Zz; (case k0Zz => k_asm); (case k1Zz => k_mem); (case k2Zz => assumption); (case k3Zz => assumption); (case k4Zz => omega); (case k5Zz => omega); (case k6Zz => with_unfolding_all rfl)); k_whole; intro t'Zz v'Zz hv'Zz hw'Zz))
  (k_with "subscriptTail Name Name ref int!" => (k_here; (with_reducible show wpAny _ _ (subscriptTail _ _ (Value.ref _) (Value.int (Nat.cast _) _)) _ _ _); k_dflt (refine' oct_item2 ?k0Zz ?k1Zz ?k2Zz ?k3Zz ?k4Zz ?k5Zz ?k7Zz ?_ ?k6Zz; (case k0Zz => k_asm); (case k1Zz => k_mem); (case k2Zz => assumption); (case k3Zz => assumption); (case k4Zz => omega); (case k5Zz => omega); (case k7Zz => assumption); (case k6Zz => with_unfolding_all rfl)); k_whole; intro t'Zz))
  (k_with "subscriptTail Name Slice ref ref!" => (k_here; (with_reducible show wpAny _ _ (subscriptTail _ (PySem.Expr.Slice _ _ none _) (Value.ref _) (Value.ref _)) _ _ _); k_dflt (refine' kmk_slice_ints ?FZz ?NZz ?lZz ?pZz ?qZz ?iZz ?mZz ?cZz ?_ ?sZz ?tZz ?zZz; (case FZz => k_asm); (case NZz => k_asm); (case lZz => kmk_list); (case pZz => kmk_part); (case qZz => kmk_part); (case iZz => l_ints); (case mZz => (refine due_cutE ?ppZz ?pvZz (by assumption) ?pxZz ?pyZz; (case pxZz => exact rfl); (case pyZz => first | exact rfl | (show _ = _ + (((0 : Nat) : Int)); exact rfl)))); (case cZz => exact rfl); (case sZz => with_unfolding_all rfl); (case tZz => kmk_pure); (case zZz => kmk_size)); intro D'Zz ws'Zz h'Zz F'Zz N'Zz l1Zz hI'Zz hC'Zz hL'Zz; (try k_lt l1Zz); (try k_sweep)))
  (k_with "eval ListComp!" => (k_here; k_dflt (refine LCg.ListComp_U (F₀ := by k_asm) (by with_unfolding_all rfl) (by decide) (by rfl) (by decide) (by rfl) ?_)))
  (k_with "CompSrc!" => (k_here; k_dflt (refine LCg.CompSrc.ledger (by rfl) (by k_asm) (by k_asm) (by k_mem) (by kmk_size) ?_; intro g'Zz; (refine' kct_list chrOf (by assumption) (fun k'Zz t'Zz I'Zz oI'Zz C'Zz oC'Zz D'Zz m'Zz ys'Zz h'Zz tk'Zz E'Zz hk'Zz hC'Zz hx'Zz F'Zz N'Zz off'Zz ne'Zz => ?_) ?_); (all_goals (try ((show KPfMark → _); intro hMark'Zz))); (all_goals (try (have hin'Zz := due_in (by assumption) _ hk'Zz))); kcf_last)))
  (k_with "subscriptTail!" => (k_here; (with_reducible show wpAny _ _ (subscriptTail _ _ (Value.ref _) (Value.int (List.getD _ _ 0) _)) _ _ _); k_dflt (refine' pick3 ?k0Zz ?k1Zz ?k2Zz ?_ ?_ ?_ ?k6Zz; (case k0Zz => k_asm); (case k1Zz => k_mem); (case k2Zz => exact kind_in (by assumption) _); (case k6Zz => (intro _ _; with_unfolding_all rfl))); (all_goals k_whole); (all_goals intro hk'Zz); (all_goals (try (exfalso; omega)))))
  (k_with "CompEnd!" => (k_here; k_dflt (exact ⟨_, _, _, rfl, by k_asm, by k_asm, by assumption, .inr ⟨_, (by k_mem), rfl, _, rfl⟩, rfl, _, rfl⟩)))
  (k_with "call type:bytes!" => (k_here; (with_reducible show wpAny _ _ (call (Value.type "bytes") [Value.ref _]) _ _ _); k_dflt (refine' KBa.make_K ?kbaFZz ?kbaNZz ?kbahZz ?kbalZz ?kbaiZz ?kbarZz ?kbanZz ?_; (case kbaFZz => k_asm); (case kbaNZz => k_asm); (case kbahZz => rfl); (case kbalZz => exact News.isList (by k_asm) (by k_mem)); (case kbaiZz => assumption); (case kbarZz => exact due_in (by assumption)); (case kbanZz => omega)); intro h'Zz t'Zz k'Zz F'Zz N'Zz kbaInZz))
  (k_with "storeName!" => (k_here; (with_reducible show wpAny _ _ (storeName _ (Str.ofString "size") (Value.int 0 _)) _ _ _); refine store_zero ?_; intro v'Zz hv'Zz))
  (k_with "binaryOp Mod str ref!" => (k_here; k_dflt (refine' pctD ?kNZz ?kbZz ?kvZz ?knZz ?klZz ?_; (case kNZz => k_asm); (case kbZz => k_mem); (case kvZz => omega); (case knZz => omega); (case klZz => decide +kernel)); k_whole; intro t'Zz k'Zz))
  exact trivial
def dueItem (kind : Int) (v : Int) (item : List Int) : Item := if kind = 0 then .n v else if kind = 1 then .s item else .d item
def dueSize (kind v : Int) : Nat := if 0 < kind then v.toNat else 0
def duesP (oc kinds : List Int) : Nat → Except (List Item × Str) (List Item × Nat)
  | 0 => .ok ([], 0)
  | k + 1 => match duesP oc kinds k with
    | .error e => .error e
    | .ok r =>
      if r.2 = oc.length then .error (r.1, msgU)
      else if ((oc.drop (r.2 + 1)).take (dueSize (kinds.getD (k % kinds.length) 0) (oc.getD r.2 0))).length < dueSize (kinds.getD (k % kinds.length) 0) (oc.getD r.2 0) then
        .error (r.1, (if kinds.getD (k % kinds.length) 0 = 1 then msgS else msgB) (dueSize (kinds.getD (k % kinds.length) 0) (oc.getD r.2 0)) ((oc.drop (r.2 + 1)).take (dueSize (kinds.getD (k % kinds.length) 0) (oc.getD r.2 0))).length)
      else .ok (r.1 ++ [dueItem (kinds.getD (k % kinds.length) 0) (oc.getD r.2 0) ((oc.drop (r.2 + 1)).take (dueSize (kinds.getD (k % kinds.length) 0) (oc.getD r.2 0)))], r.2 + 1 + dueSize (kinds.getD (k % kinds.length) 0) (oc.getD r.2 0))
theorem three {k : Int} (h : 0 ≤ k ∧ k < 3) : k = 0 ∨ k = 1 ∨ k = 2 := by omega
theorem perm_due {α : Type} {o k x p : α} {r : List α} (h : p ∈ o :: k :: x :: r) : p ∈ x :: o :: k :: r := by
  simp only [List.mem_cons] at h ⊢
  rcases h with h | h | h | h
  · exact .inr (.inl h)
  · exact .inr (.inr (.inl h))
  · exact .inl h
  · exact .inr (.inr (.inr h))
theorem oct_item {prog : Program} {w : World} {A : Around} {E : Value → Shared → Prop} {s : Shared} {h₀ : Heap} {L : Addr} {value slice : PySem.Expr} {l : Addr} {vs : List Value} {ns : List Int} {news : List (Addr × Obj)} {c k : Nat} {u : Tok} {Q : Value → Shared → Prop}
    (N : News h₀ L s.heap news) (hm : (l, listOf vs.toArray c) ∈ news) (hi : IntsAre vs ns) (hb : ∀ k ∈ ns, 0 ≤ k ∧ k < 256) (hk : k < ns.length) (hk2 : k < 1000) (h : ∀ t (v : Nat), (v : Int) = ns.getD k 0 → v < 256 → Q (.int (v : Int) t) s)
    (hs : subscripted slice false (.ref l) (.int (k : Int) u) = operate [.ref l, .int (k : Int) u] (getItem (.ref l) (.int (k : Int) u)) := by with_unfolding_all rfl) :
    wpAny (model prog w) A (subscriptTail value slice (.ref l) (.int (k : Int) u)) Q E s := by
  obtain ⟨t, ht⟩ := hi.get k ns[k] (by simp [hk])
  have hin := hb ns[k] (List.getElem_mem hk)
  have hd : ns.getD k 0 = ns[k] := by simp [hk]
  refine ly_item N hm (Int.natCast_nonneg k) (by omega) ht ?_ hs
  rw [← Int.toNat_of_nonneg hin.1]
  exact h t ns[k].toNat (by rw [Int.toNat_of_nonneg hin.1, hd]) (by omega)
theorem oct_item2 {prog : Program} {w : World} {A : Around} {E : Value → Shared → Prop} {s : Shared} {h₀ : Heap} {L : Addr} {value slice : PySem.Expr} {l : Addr} {vs : List Value} {ns : List Int} {news : List (Addr × Obj)} {c k v : Nat} {u : Tok} {Q : Value → Shared → Prop}
    (N : News h₀ L s.heap news) (hm : (l, listOf vs.toArray c) ∈ news) (hi : IntsAre vs ns) (hb : ∀ k ∈ ns, 0 ≤ k ∧ k < 256) (hk : k < ns.length) (hk2 : k < 1000) (hv : (v : Int) = ns.getD k 0) (h : ∀ t, Q (.int (v : Int) t) s)
    (hs : subscripted slice false (.ref l) (.int (k : Int) u) = operate [.ref l, .int (k : Int) u] (getItem (.ref l) (.int (k : Int) u)) := by with_unfolding_all rfl) :
    wpAny (model prog w) A (subscriptTail value slice (.ref l) (.int (k : Int) u)) Q E s :=
  oct_item N hm hi hb hk hk2 (fun t v' hv' _ => by rw [hv', ← hv]; exact h t) hs
theorem due_cut {vs : List Value} {ns : List Int} {p v : Nat} (h : IntsAre vs ns) : IntsAre (slicePick vs.toArray (some ((p : Int) + 1)) (some ((p : Int) + 1 + (v : Int))) none).toList ((ns.drop (p + 1)).take v) := by
  have := kmk_run h (x := (p : Int) + 1) (y := (p : Int) + 1 + (v : Int)) (by omega) (by omega)
  rw [show ((p : Int) + 1).toNat = p + 1 by omega, show ((p : Int) + 1 + (v : Int)).toNat = p + 1 + v by omega] at this
  have e : (ns.drop (p + 1)).take (min (p + 1 + v) ns.length - (p + 1)) = (ns.drop (p + 1)).take v := by
    by_cases hv : p + 1 + v ≤ ns.length
    · rw [Nat.min_eq_left hv, Nat.add_sub_cancel_left]
    · rw [Nat.min_eq_right (by omega), List.take_of_length_le (by simp), List.take_of_length_le (by simp; omega)]
  rw [e] at this
  exact this
theorem due_cut0 {vs : List Value} {ns : List Int} {p : Nat} (h : IntsAre vs ns) : IntsAre (slicePick vs.toArray (some ((p : Int) + 1)) (some ((p : Int) + 1 + 0)) none).toList ((ns.drop (p + 1)).take 0) := due_cut (v := 0) h
theorem due_cutE {vs : List Value} {ns : List Int} {X Y : Int} (p v : Nat) (h : IntsAre vs ns) (hX : X = (p : Int) + 1) (hY : Y = (p : Int) + 1 + (v : Int)) : IntsAre (slicePick vs.toArray (some X) (some Y) none).toList ((ns.drop (p + 1)).take v) := by
  subst hX hY; exact due_cut h
theorem due_in {ns : List Int} {p v : Nat} (h : ∀ k ∈ ns, 0 ≤ k ∧ k < 256) : ∀ k ∈ (ns.drop p).take v, 0 ≤ k ∧ k < 256 := fun k hk => h k (List.mem_of_mem_drop (List.mem_of_mem_take hk))
theorem store_zero {M : Model} {A : Around} {env : Env} {x : Str} {t : Tok} {Q : Unit → Shared → Prop} {E : Value → Shared → Prop} {s : Shared} (h : ∀ v : Nat, v = 0 → wpAny M A (storeName env x (.int (v : Int) t)) Q E s) : wpAny M A (storeName env x (.int 0 t)) Q E s := h 0 rfl
theorem due_norm (oc : List Int) (p v : Nat) : List.take (min ((p : Int) + 1 + (v : Int)).toNat oc.length - ((p : Int) + 1).toNat) (List.drop ((p : Int) + 1).toNat oc) = (oc.drop (p + 1)).take v := by
  rw [show ((p : Int) + 1).toNat = p + 1 by omega, show ((p : Int) + 1 + (v : Int)).toNat = p + 1 + v by omega]
  by_cases hv : p + 1 + v ≤ oc.length
  · rw [Nat.min_eq_left hv, Nat.add_sub_cancel_left]
  · rw [Nat.min_eq_right (by omega), List.take_of_length_le (by simp), List.take_of_length_le (by simp; omega)]
theorem item_sJ {l : List Int} {t : Tok} (h : KBa.In l) : ItemIs (.str (Txt.join (Str.ofString "") (l.map chrOf)) t) (.s l) := ⟨byteArr l, join_latin h, KBa.ints_make h⟩
theorem item_dJ {l : List Int} {t : Tok} (h : KBa.In l) : ItemIs (.bytes (byteArr l) t) (.d l) := KBa.ints_make h
theorem item_d0 {x : Int} {v : Nat} {l : List Int} {t : Tok} (h : (v : Int) = x) : ItemIs (.int (v : Int) t) (dueItem 0 x l) := h
theorem item_d1 {x : Int} {l : List Int} {t : Tok} (h : KBa.In l) : ItemIs (.str (Txt.join (Str.ofString "") (l.map chrOf)) t) (dueItem 1 x l) := item_sJ h
theorem item_d2 {x : Int} {l : List Int} {t : Tok} (h : KBa.In l) : ItemIs (.bytes (byteArr l) t) (dueItem 2 x l) := item_dJ h
theorem due_le {oc : List Int} {p v : Nat} (h : ¬ ((oc.drop (p + 1)).take v).length < v) (hp : p < oc.length) : p + 1 + v ≤ oc.length := by
  rw [List.length_take, List.length_drop] at h; omega
theorem due_nlt {v : Nat} (h : v = 0) (l : List Int) : ¬ (l.take v).length < v := by omega
theorem len_snoc {α β : Type} {vs : List α} {pre : List β} {v : α} {k : β} (h : vs.length = pre.length) : (vs ++ [v]).length = (pre ++ [k]).length := by simp [h]
theorem duesP_err {oc kinds : List Int} {k : Nat} {e : List Item × Str} (h : duesP oc kinds k = .error e) : ∀ j, duesP oc kinds (k + j) = .error e
  | 0 => h
  | j + 1 => by
    have h' := duesP_err h j
    rw [← Nat.add_assoc, duesP, h']
theorem due_end {oc kinds : List Int} {k n : Nat} {e e' : List Item × Str} (hrun : duesP oc kinds n = .error e) (h : duesP oc kinds k = .error e') (hk : k ≤ n) : e = e' := by
  have := duesP_err h (n - k)
  rw [Nat.add_sub_of_le hk, hrun] at this
  cases this
  rfl
theorem dues_stop {oc kinds : List Int} {k pl : Nat} {its : List Item} (h : duesP oc kinds k = .ok (its, pl)) (hp : pl = oc.length) : duesP oc kinds (k + 1) = .error (its, msgU) := by
  rw [duesP, h]; exact if_pos hp
theorem dues_cut {oc kinds : List Int} {k pl v : Nat} {kind : Int} {its : List Item} (h : duesP oc kinds k = .ok (its, pl)) (hp : pl ≠ oc.length) (hk : kinds.getD (k % kinds.length) 0 = kind) (hv : dueSize kind (oc.getD pl 0) = v) (hl : ((oc.drop (pl + 1)).take v).length < v) :
    duesP oc kinds (k + 1) = .error (its, (if kind = 1 then msgS else msgB) v ((oc.drop (pl + 1)).take v).length) := by
  rw [duesP, h]
  dsimp only
  rw [hk, hv, if_neg hp, if_pos hl]
theorem dues_next {oc kinds : List Int} {k pl v : Nat} {kind : Int} {its : List Item} (h : duesP oc kinds k = .ok (its, pl)) (hp : pl ≠ oc.length) (hk : kinds.getD (k % kinds.length) 0 = kind) (hv : dueSize kind (oc.getD pl 0) = v) (hl : ¬ ((oc.drop (pl + 1)).take v).length < v) :
    duesP oc kinds (k + 1) = .ok (its ++ [dueItem kind (oc.getD pl 0) ((oc.drop (pl + 1)).take v)], pl + 1 + v) := by
  rw [duesP, h]
  dsimp only
  rw [hk, hv, if_neg hp, if_neg hl]
theorem size_0 {x : Int} {v : Nat} (h : v = 0) : dueSize 0 x = v := by rw [h]; rfl
theorem size_1 {x : Int} {v : Nat} (h : (v : Int) = x) : dueSize 1 x = v := by rw [← h]; rfl
theorem size_2 {x : Int} {v : Nat} (h : (v : Int) = x) : dueSize 2 x = v := by rw [← h]; rfl
theorem mem3l {α : Type} {o k x p : α} {own own9 : List α} (h : p ∈ o :: k :: x :: own) : p ∈ o :: k :: x :: (own ++ own9) := by
  simp only [List.mem_cons, List.mem_append] at h ⊢
  rcases h with h | h | h | h
  · exact .inl h
  · exact .inr (.inl h)
  · exact .inr (.inr (.inl h))
  · exact .inr (.inr (.inr (.inl h)))
theorem mem3r {α : Type} {o k x p : α} {own own9 : List α} (h : p ∈ own9) : p ∈ o :: k :: x :: (own ++ own9) := .tail _ (.tail _ (.tail _ (List.mem_append_right _ h)))
theorem perm_dend2 {α : Type} {o k x p d d1 d2 d3 : α} {own own9 : List α} (h : p ∈ d :: x :: o :: k :: own) : p ∈ d :: d1 :: d2 :: d3 :: o :: k :: x :: (own ++ own9) := by
  simp only [List.mem_cons, List.mem_append] at h ⊢
  rcases h with h | h | h | h | h
  · exact .inl h
  · exact .inr (.inr (.inr (.inr (.inr (.inr (.inl h))))))
  · exact .inr (.inr (.inr (.inr (.inl h))))
  · exact .inr (.inr (.inr (.inr (.inr (.inl h)))))
  · exact .inr (.inr (.inr (.inr (.inr (.inr (.inr (.inl h)))))))
theorem perm_dend {α : Type} {o k x p d : α} {own own9 : List α} (h : p ∈ d :: x :: o :: k :: own) : p ∈ d :: o :: k :: x :: (own ++ own9) := by
  simp only [List.mem_cons, List.mem_append] at h ⊢
  rcases h with h | h | h | h | h
  · exact .inl h
  · exact .inr (.inr (.inr (.inl h)))
  · exact .inr (.inl h)
  · exact .inr (.inr (.inl h))
  · exact .inr (.inr (.inr (.inr (.inl h))))
set_option maxRecDepth 100000 in
set_option maxHeartbeats 8000000 in
theorem dueL {w : World} {dp un : Nat} {gd : Option (List Code)} {cn : Str} {cs : Scope} {a : Addr} {ccd : Value} {cl : List (Str × Addr)} {outer : List Env} {A₀ : Around} {base h₀ : Heap} {L : Addr} {m : Str → Option Value} {s : Shared}
    {p : Program} {loose : List Str} {mean : ExcName → Option Value} {mg mb : Str → Option Value}
    {Q E : Value → Shared → Prop} {oc kinds : List Int} {OA KA : Addr} {ov kv : List Value} {on kn : Nat} {own : List (Addr × Obj)}
    (G : Gr 2 w dp un cs outer A₀ base h₀ p loose mean mg mb) (F : Fr h₀ L s.heap m) (N : News h₀ L s.heap ((OA, listOf ov.toArray on) :: (KA, listOf kv.toArray kn) :: own))
    (hov : IntsAre ov oc) (ho1 : oc.length ≤ 100) (ho2 : ∀ k ∈ oc, 0 ≤ k ∧ k < 256)
    (hkv : IntsAre kv kinds) (hk0 : 0 < kinds.length) (hk1 : kinds.length ≤ 100) (hk2 : ∀ k ∈ kinds, 0 ≤ k ∧ k < 3)
    {told : List Item} {msg : Str} (hrun : duesP oc kinds (oc.length + 1) = .error (told, msg))
    (hQ : ∀ h' tk' D l vs nn t, ItemsAre vs told → Fr h₀ L h' m → News h₀ L h' ((D, ({ cls := .type "tuple", data := .seq #[.ref l, .str msg t] } : Obj)) :: (l, listOf vs.toArray nn) :: (OA, listOf ov.toArray on) :: (KA, listOf kv.toArray kn) :: own) → Q (.ref D) { s with heap := h', toks := tk' }) :
    wpAny (model Challenge.rw_dw0039_01.row.prog w) (ktrTop dp un gd cn cs L a ccd cl outer) (call (.ref 82) [.ref OA, .ref KA]) Q E s := by
  obtain ⟨B, X, T, XB, TB, hk, C1, C2, hd0, hu⟩ := G
  revert X
  k_fill
  intro X
  obtain ⟨ck, cnm, cg, cc, cm⟩ := cs
  cases hk
  (k_with "pyIter ref" => (k_here; (rename Fr _ _ _ _ => lF'); (rename News _ _ _ _ => lN'); (rename IsRange _ _ _ _ _ _ _ _ => rgX); (obtain ⟨l9, hl9⟩ := got_head lN'); subst hl9; (rename @LT.lt Nat _ OA _ ∧ _ => l1'); (have lLt : AllLt l9 own := l1'.2.2); (with_unfolding_all refine' kst_range (σ := Nat × Tok × List Value × Nat) (fun c => (OA, listOf ov.toArray on) :: (KA, listOf kv.toArray kn) :: (l9, listOf c.2.2.1.toArray c.2.2.2) :: own) (fun c => [(Str.ofString "place", .int (c.1 : Int) c.2.1)]) (fun _ => True) [Str.ofString "kind", Str.ofString "size", Str.ofString "item", Str.ofString "name"] (fun pre c => ∃ its, ItemsAre c.2.2.1 its ∧ duesP oc kinds pre.length = .ok (its, c.1) ∧ c.1 ≤ oc.length ∧ c.2.2.1.length = pre.length) (0, _, [], 0) (by rfl) (by exact rgX) (by exact small_one (by omega) (by omega) (by omega) (by omega)) (by exact rangeSize_nat _ _) lF' (by exact kst_newsOf lN' (fun p hp => perm_due hp)) trivial (by kst_all) ⟨[], trivial, rfl, Nat.zero_le _, rfl⟩ ?turn ?done); (case' turn => (intro c9 pre9 k9 t9 u9 h9 tk9 own9 hk9 hlt9 hoff9 hf9 hP9 F9 N9; obtain ⟨pl9, tp9, vs9, nn9⟩ := c9; obtain ⟨its9, hI9, hP9, hQ9, hR9⟩ := hP9; (have hl9 : OwnOff own [l9] := own_lt lLt); (have hoff2 : OwnOff (own ++ own9) [l9] := ownOff_app hl9 (ownOff_sub hoff9 (by simp))); obtain ⟨o2, ho2'⟩ : ∃ o2, o2 = own ++ own9 := ⟨_, rfl⟩; rw [← ho2'] at hoff2; (simp only [List.cons_append] at N9); rw [← ho2'] at N9; dsimp only [kstB] at F9; (dsimp only at hP9 hQ9 hR9); (obtain hk' | hk' | hk' := three (kind_in hk2 (k9.fmod (kinds.length : Int)).toNat)); (all_goals k_whole))); (case' done => (intro c9 u9 h9 tk9 hf9 hP9 F9 N9; exfalso; obtain ⟨its9, hI9, hP9, hQ9, hR9⟩ := hP9; rw [rangeKs_length, show ((oc.length : Int) + 1 - 0).toNat = oc.length + 1 by omega, hrun] at hP9; cases hP9))))
  k_steps
  · rename Fr h₀ L _ m => kF
    rename News h₀ L _ _ => kN
    obtain ⟨rfl, rfl⟩ := Prod.mk.inj (due_end hrun (dues_stop hP9 (by omega)) (by omega))
    subst ho2'
    exact hQ _ _ _ _ _ _ _ hI9 kF (kst_newsOf kN fun p hp => perm_dend hp)
  · rename Fr _ _ _ _ => kF
    rename News _ _ _ _ => kN
    rename (_ : Int) = oc.getD _ 0 => hv
    rename (_ : Nat) = 0 => hz
    rename KBa.In _ => hIn
    rw [fmod_nat hk9] at hk'
    have hne : pl9 < oc.length := by omega
    have h3 := dues_next hP9 (by omega) hk' (size_0 hz) (by omega)
    try simp only [due_norm] at kN hIn
    rw [List.push_toArray] at kN
    subst ho2'
    refine' kst_end (pl9 + 1 + _, _, vs9 ++ [_], nn9 + 1) kF kN (fun p hp => .tail _ (.tail _ (.tail _ (mem3l hp)))) (fun p hp => .tail _ (.tail _ (.tail _ (mem3r hp)))) rfl trivial ?hk1 ?hr1 ⟨_, ItemsAre.snoc (item_d0 hv) hI9, by rw [List.length_append]; exact h3, due_le (by first | omega | (rw [← due_norm]; omega)) hne, len_snoc hR9⟩
    case hk1 =>
      intro p hp
      rw [List.mem_singleton.mp hp]
      show _ = some (Value.int ((pl9 + 1 + _ : Nat) : Int) _)
      rw [Int.natCast_add, Int.natCast_add]
      exact if_pos rfl
    case hr1 =>
      intro z h1 h2 h4
      have z0 : z ≠ Str.ofString "place" := h2 _ (List.mem_singleton.mpr rfl)
      have z1 : z ≠ Str.ofString "item" := by rintro rfl; exact absurd h4 (by decide)
      have z2 : z ≠ Str.ofString "size" := by rintro rfl; exact absurd h4 (by decide)
      have z3 : z ≠ Str.ofString "kind" := by rintro rfl; exact absurd h4 (by decide)
      simp only [h1, z0, z1, z2, z3, h4, if_false, Bool.false_eq_true]
  · rename Fr h₀ L _ m => kF
    rename News h₀ L _ _ => kN
    obtain ⟨rfl, rfl⟩ := Prod.mk.inj (due_end hrun (dues_stop hP9 (by omega)) (by omega))
    subst ho2'
    exact hQ _ _ _ _ _ _ _ hI9 kF (kst_newsOf kN fun p hp => perm_dend hp)
  · rename Fr h₀ L _ m => kF
    rename News h₀ L _ _ => kN
    rename (_ : Int) = oc.getD _ 0 => hv
    rw [fmod_nat hk9] at hk'
    have h3 := dues_cut hP9 (by omega) hk' (size_1 hv) (by first | omega | (rw [← due_norm]; omega))
    obtain ⟨rfl, rfl⟩ := Prod.mk.inj (due_end hrun h3 (by omega))
    subst ho2'
    simp only [due_norm, msgD_S] at kN
    exact hQ _ _ _ _ _ _ _ hI9 kF (kst_newsOf kN fun p hp => perm_dend2 hp)
  · rename Fr _ _ _ _ => kF
    rename News _ _ _ _ => kN
    rename (_ : Int) = oc.getD _ 0 => hv
    rename KBa.In _ => hIn
    rw [fmod_nat hk9] at hk'
    have hne : pl9 < oc.length := by omega
    have h3 := dues_next hP9 (by omega) hk' (size_1 hv) (by first | omega | (rw [← due_norm]; omega))
    try simp only [due_norm] at kN hIn
    rw [List.push_toArray] at kN
    subst ho2'
    refine' kst_end (pl9 + 1 + _, _, vs9 ++ [_], nn9 + 1) kF kN (fun p hp => .tail _ (.tail _ (.tail _ (mem3l hp)))) (fun p hp => .tail _ (.tail _ (.tail _ (mem3r hp)))) rfl trivial ?hk1 ?hr1 ⟨_, ItemsAre.snoc (item_d1 hIn) hI9, by rw [List.length_append]; exact h3, due_le (by first | omega | (rw [← due_norm]; omega)) hne, len_snoc hR9⟩
    case hk1 =>
      intro p hp
      rw [List.mem_singleton.mp hp]
      show _ = some (Value.int ((pl9 + 1 + _ : Nat) : Int) _)
      rw [Int.natCast_add, Int.natCast_add]
      exact if_pos rfl
    case hr1 =>
      intro z h1 h2 h4
      have z0 : z ≠ Str.ofString "place" := h2 _ (List.mem_singleton.mpr rfl)
      have z1 : z ≠ Str.ofString "item" := by rintro rfl; exact absurd h4 (by decide)
      have z2 : z ≠ Str.ofString "size" := by rintro rfl; exact absurd h4 (by decide)
      have z3 : z ≠ Str.ofString "kind" := by rintro rfl; exact absurd h4 (by decide)
      simp only [h1, z0, z1, z2, z3, h4, if_false, Bool.false_eq_true]
  · rename Fr h₀ L _ m => kF
    rename News h₀ L _ _ => kN
    obtain ⟨rfl, rfl⟩ := Prod.mk.inj (due_end hrun (dues_stop hP9 (by omega)) (by omega))
    subst ho2'
    exact hQ _ _ _ _ _ _ _ hI9 kF (kst_newsOf kN fun p hp => perm_dend hp)
  · rename Fr h₀ L _ m => kF
    rename News h₀ L _ _ => kN
    rename (_ : Int) = oc.getD _ 0 => hv
    rw [fmod_nat hk9] at hk'
    have h3 := dues_cut hP9 (by omega) hk' (size_2 hv) (by first | omega | (rw [← due_norm]; omega))
    obtain ⟨rfl, rfl⟩ := Prod.mk.inj (due_end hrun h3 (by omega))
    subst ho2'
    simp only [due_norm, msgD_B] at kN
    exact hQ _ _ _ _ _ _ _ hI9 kF (kst_newsOf kN fun p hp => perm_dend2 hp)
  · rename Fr _ _ _ _ => kF
    rename News _ _ _ _ => kN
    rename (_ : Int) = oc.getD _ 0 => hv
    rename KBa.In _ => hIn
    rw [fmod_nat hk9] at hk'
    have hne : pl9 < oc.length := by omega
    have h3 := dues_next hP9 (by omega) hk' (size_2 hv) (by first | omega | (rw [← due_norm]; omega))
    try simp only [due_norm] at kN hIn
    rw [List.push_toArray] at kN
    subst ho2'
    refine' kst_end (pl9 + 1 + _, _, vs9 ++ [_], nn9 + 1) kF kN (fun p hp => .tail _ (.tail _ (.tail _ (mem3l hp)))) (fun p hp => .tail _ (.tail _ (.tail _ (mem3r hp)))) rfl trivial ?hk1 ?hr1 ⟨_, ItemsAre.snoc (item_d2 hIn) hI9, by rw [List.length_append]; exact h3, due_le (by first | omega | (rw [← due_norm]; omega)) hne, len_snoc hR9⟩
    case hk1 =>
      intro p hp
      rw [List.mem_singleton.mp hp]
      show _ = some (Value.int ((pl9 + 1 + _ : Nat) : Int) _)
      rw [Int.natCast_add, Int.natCast_add]
      exact if_pos rfl
    case hr1 =>
      intro z h1 h2 h4
      have z0 : z ≠ Str.ofString "place" := h2 _ (List.mem_singleton.mpr rfl)
      have z1 : z ≠ Str.ofString "item" := by rintro rfl; exact absurd h4 (by decide)
      have z2 : z ≠ Str.ofString "size" := by rintro rfl; exact absurd h4 (by decide)
      have z3 : z ≠ Str.ofString "kind" := by rintro rfl; exact absurd h4 (by decide)
      simp only [h1, z0, z1, z2, z3, h4, if_false, Bool.false_eq_true]
end
section
open PySem PySem.W PyProof.Rows PySem.Spec PySem.Calls
def topDef (p : Program) (i : Nat) : List Stmt × Scope :=
  match p.main.body[i]? with
  | some (.FunctionDef _ _ body _ _ _ sc _ _ _) => (body, sc)
  | _ => default
def lawDef := topDef Challenge.pw_dw0039_01 10
def lawS (i : Nat) : Stmt := (lawDef.1[i]?).getD (.Pass default)
def lawScope : Scope := lawDef.2
def plainOf (x : Int) : Int := if (x.fdiv 9).fmod 3 = 0 then (x.fdiv 9).fmod 256 else (x.fdiv 9).fmod 5
def kindOf (x : Int) : Int := x.fmod 3
theorem fr_kst {h₀ h : Heap} {L : Addr} {m : Str → Option Value} {ps : List (Str × Value)} (h1 : ∀ p ∈ ps, m p.1 = some p.2) (F : Fr h₀ L h m) : Fr h₀ L h (kstB m ps) := by
  have : kstB m ps = m := funext fun z => kstB_eq h1 fun _ => rfl
  rw [this]; exact F
theorem carried_plain : ∀ {ys : List Value} {l : List Int}, CarriedAll ys (List.map (fun a => if ((a.fdiv 9).fmod 3 == 0) = true then PyData.int ((a.fdiv 9).fmod 256) else PyData.int ((a.fdiv 9).fmod 5)) (List.filter (fun _ => true) l)) → IntsAre ys (l.map plainOf) := by
  intro ys l h
  rw [List.filter_eq_self.mpr (fun _ _ => rfl)] at h
  have e : List.map (fun a => if ((a.fdiv 9).fmod 3 == 0) = true then PyData.int ((a.fdiv 9).fmod 256) else PyData.int ((a.fdiv 9).fmod 5)) l = l.map (fun a => PyData.int (plainOf a)) := by
    apply List.map_congr_left
    intro a _
    simp only [plainOf, beq_iff_eq]
    split <;> rfl
  rw [e] at h
  exact CarriedAll.intsOf h
theorem carried_kind : ∀ {ys : List Value} {l : List Int}, CarriedAll ys (List.map (fun a => PyData.int (a.fmod 3)) (List.filter (fun _ => true) l)) → IntsAre ys (l.map kindOf) := by
  intro ys l h
  rw [List.filter_eq_self.mpr (fun _ _ => rfl)] at h
  exact CarriedAll.intsOf (f := kindOf) h
end
section
open PySem PySem.W PyProof.Rows PySem.Spec PySem.Calls
/-- a turn's end where the ledger may grow -/
def GrowEnd (h₀ : Heap) (L : Addr) (J : (Str → Option Value) → List (Addr × Obj) → Prop) (own : List (Addr × Obj)) (I : Addr) (s₁ s₂ : Shared) : Prop :=
  ∃ h' tk m' nx news', s₂ = { s₁ with heap := h', toks := tk } ∧ Fr h₀ L h' m' ∧ News h₀ L h' news' ∧ (∀ p ∈ nx, p ∈ news') ∧ (∀ p ∈ own, p ∈ news') ∧ (∀ p ∈ nx, p.1 ≠ I) ∧ J m' nx
def GrowPost (h₀ : Heap) (L : Addr) (J : (Str → Option Value) → List (Addr × Obj) → Prop) (own : List (Addr × Obj)) (I : Addr) (s₁ : Shared) (Q : Flow → Shared → Prop) (f : Flow) (s₂ : Shared) : Prop :=
  match f with
  | .ret v => Q (.ret v) s₂
  | .brk => Q .next s₂
  | _ => GrowEnd h₀ L J own I s₁ s₂
section
variable {prog : Program} {w : World} {A : Around} {E : Value → Shared → Prop} {s : Shared} {env : Env} {h₀ : Heap} {x : Str} {body : List Stmt} {Q : Flow → Shared → Prop}
theorem range_grow {r : Addr} {a₀ b₀ : Int} {t₀ u₀ v₀ : Tok} {n : Nat} {m₀ : Str → Option Value} {news : List (Addr × Obj)} (J : Nat → (Str → Option Value) → List (Addr × Obj) → Prop)
    (hh : A.handled = none) (hr : IsRange s.heap r a₀ b₀ 1 t₀ u₀ v₀) (hsmall : Builtin.Range.small a₀ b₀ 1 = true) (hn : Builtin.Range.rangeSize a₀ b₀ 1 = (n : Int)) (F : Fr h₀ env.locals s.heap m₀) (N : News h₀ env.locals s.heap news) (hj : J 0 m₀ news)
    (turn : ∀ i t m₁ news₁ h tk own (I : Addr), i < n → (∀ p ∈ own, p.1 = I) → (∃ oI, (I, oI) ∈ own) → (∀ p ∈ news₁, p.1 ≠ I) → J i m₁ news₁ →
      Fr h₀ env.locals h (fun y => if y = x then some (.int (a₀ + (i : Nat)) t) else m₁ y) → News h₀ env.locals h (news₁ ++ own) →
      wpAny (model prog w) A (execs body env) (GrowPost h₀ env.locals (J (i + 1)) own I { s with heap := h, toks := tk } Q) E { s with heap := h, toks := tk })
    (done : ∀ m₁ news₁ h tk, J n m₁ news₁ → Fr h₀ env.locals h m₁ → News h₀ env.locals h news₁ → Q .next { s with heap := h, toks := tk }) :
    wpAny (model prog w) A (pyIter (.ref r)) (fun it s₂ => LoopAtV prog w A h₀ env x body Q E it s₂) E s := by
  refine wpAny_pyIter_range hr hsmall ?_
  have W : Walks prog w A s.heap.objs.size [s.heap.objs.size] [s.heap.objs.size] n (fun i v => i < n ∧ ∃ t, v = .int (a₀ + i * 1) t)
      (fun i h => IsRangeIter h s.heap.objs.size (a₀ + (i : Nat) * 1) ((n : Int) - (i : Nat)) 1) := (Walks.range hh _ a₀ 1 n).bound
  have hI : ∀ p ∈ news, p.1 ∉ [s.heap.objs.size] := fun p hp hI => absurd (Heap.lt_size (N p hp).1) ((List.mem_singleton.mp hI) ▸ Nat.lt_irrefl _)
  refine ⟨_, _, _, n, _, _, m₀, news, J, rfl, W, ?_, ?_, hI, (by show IsRangeIter _ _ _ _ _; rw [hn]; simpa using Heap.get?_push_size _ rfl), F.push _, (fun p hp => ⟨Heap.get?_push_of_some _ (N p hp).1, (N p hp).2⟩), hj, ?_, ?_⟩
  · intro hm
    exact absurd F.ns.lt ((List.mem_singleton.mp hm) ▸ Nat.lt_irrefl _)
  · intro b hb
    rw [List.mem_singleton.mp hb]
    exact next_is_new F
  · rintro i v m₁ news₁ s₁ own ⟨hh', tk', rfl⟩ hin ⟨_, t, rfl⟩ hJ hoff hown hget hfp hst F₁ N₁
    have e1 : a₀ + (i : Int) * 1 = a₀ + (i : Int) := by omega
    rw [e1] at F₁
    have N₂ : News h₀ env.locals hh' (news₁ ++ own) := fun p hp => N₁ p ((List.mem_append.mp hp).elim (fun h => List.mem_append.mpr (.inr h)) fun h => List.mem_append.mpr (.inl h))
    have hIn : ∃ oI, (s.heap.objs.size, oI) ∈ own := ⟨_, hfp _ (.head _) (next_is_new F) _ hst⟩
    refine wpAny_mono (turn i t m₁ news₁ hh' tk' own s.heap.objs.size hin (fun p hp => List.mem_singleton.mp (hown p hp)) hIn (fun p hp e => hoff p hp (List.mem_singleton.mpr e)) hJ F₁ N₂) (fun f s₂ p => ?_) fun _ _ e => e
    have fin : GrowEnd h₀ env.locals (J (i + 1)) own s.heap.objs.size { s with heap := hh', toks := tk' } s₂ → LoopStepU h₀ env.locals [s.heap.objs.size] own (J (i + 1)) { s with heap := hh', toks := tk' } .next s₂ := by
      rintro ⟨h', tk, m', nx, news', e, F', N', hn, ho, hne, hm⟩
      exact ⟨rfl, h', tk, m', nx, e, F', fun p hp => N' p ((List.mem_append.mp hp).elim (ho p) (hn p)), fun p hp hq => hne p hp (List.mem_singleton.mp hq), hm⟩
    cases f with
    | ret v => exact .ret p
    | brk => exact .brk p
    | next => exact .next (fin p)
    | cont => exact .cont (fin p)
  · rintro h' tk m' news' F' N' _ hJ
    exact done m' news' h' tk hJ F' N'
theorem list_grow {l : Addr} {vs : List Value} {nn : Nat} {m₀ : Str → Option Value} {news : List (Addr × Obj)} (J : Nat → (Str → Option Value) → List (Addr × Obj) → Prop)
    (hh : A.handled = none) (hl : (l, listOf vs.toArray nn) ∈ news) (hJl : ∀ i m nx, J i m nx → (l, listOf vs.toArray nn) ∈ nx) (F : Fr h₀ env.locals s.heap m₀) (N : News h₀ env.locals s.heap news) (hj : J 0 m₀ news)
    (turn : ∀ i v m₁ news₁ h tk own (I : Addr), vs[i]? = some v → (∀ p ∈ own, p.1 = I) → (∃ oI, (I, oI) ∈ own) → (∀ p ∈ news₁, p.1 ≠ I) → J i m₁ news₁ →
      Fr h₀ env.locals h (fun y => if y = x then some v else m₁ y) → News h₀ env.locals h (news₁ ++ own) →
      wpAny (model prog w) A (execs body env) (GrowPost h₀ env.locals (J (i + 1)) own I { s with heap := h, toks := tk } Q) E { s with heap := h, toks := tk })
    (done : ∀ m₁ news₁ h tk, J vs.length m₁ news₁ → Fr h₀ env.locals h m₁ → News h₀ env.locals h news₁ → Q .next { s with heap := h, toks := tk }) :
    wpAny (model prog w) A (pyIter (.ref l)) (fun it s₂ => LoopAtV prog w A h₀ env x body Q E it s₂) E s := by
  have hol : s.heap.get? l = some (listOf vs.toArray nn) := (N _ hl).1
  have hls : s.heap.IsList l vs.toArray := ⟨_, hol, rfl, nn, rfl⟩
  have hne : l ≠ s.heap.objs.size := Nat.ne_of_lt (Heap.lt_size hol)
  refine wpAny_pyIter_list hls ?_
  have W := Walks.list (prog := prog) (w := w) hh s.heap.objs.size l hne vs.toArray
  rw [List.size_toArray] at W
  have hI : ∀ p ∈ news, p.1 ∉ [s.heap.objs.size] := fun p hp hI => absurd (Heap.lt_size (N p hp).1) ((List.mem_singleton.mp hI) ▸ Nat.lt_irrefl _)
  refine ⟨_, _, _, vs.length, _, _, m₀, news, J, rfl, W, ?_, ?_, hI, ⟨⟨_, Heap.get?_push_size _ rfl, rfl, rfl⟩, hls.at fun o e => Heap.get?_push_of_some _ e⟩, F.push _, (fun p hp => ⟨Heap.get?_push_of_some _ (N p hp).1, (N p hp).2⟩), hj, ?_, ?_⟩
  · intro hm
    rcases List.mem_cons.mp hm with e | hm
    · exact absurd F.ns.lt (e ▸ Nat.lt_irrefl _)
    · exact (N _ hl).2.1 ((List.mem_singleton.mp hm).symm)
  · intro b hb
    rw [List.mem_singleton.mp hb]
    exact next_is_new F
  · rintro i v m₁ news₁ s₁ own ⟨hh', tk', rfl⟩ hin hP hJ hoff hown hget hfp hst F₁ N₁
    have N₂ : News h₀ env.locals hh' (news₁ ++ own.filter fun p => decide (p.1 = s.heap.objs.size)) := fun p hp => N₁ p ((List.mem_append.mp hp).elim (fun h => List.mem_append.mpr (.inr h)) fun h => List.mem_append.mpr (.inl ((List.mem_filter.mp h).1)))
    have hlo : hh'.get? l = some (listOf vs.toArray nn) := (N₁ _ (List.mem_append.mpr (.inr (hJl _ _ _ hJ)))).1
    have hP' : vs[i]? = some v := by simpa using hP
    obtain ⟨oI, hoI, _⟩ := hst.1
    have hIn : ∃ oI, (s.heap.objs.size, oI) ∈ own.filter fun p => decide (p.1 = s.heap.objs.size) := ⟨oI, List.mem_filter.mpr ⟨hfp _ (.head _) (next_is_new F) _ hoI, by simp⟩⟩
    refine wpAny_mono (turn i v m₁ news₁ hh' tk' _ s.heap.objs.size hP' (fun p hp => by simpa using (List.mem_filter.mp hp).2) hIn (fun p hp e => hoff p hp (List.mem_singleton.mpr e)) hJ F₁ N₂) (fun f s₂ p => ?_) fun _ _ e => e
    have fin : GrowEnd h₀ env.locals (J (i + 1)) (own.filter fun p => decide (p.1 = s.heap.objs.size)) s.heap.objs.size { s with heap := hh', toks := tk' } s₂ → LoopStepU h₀ env.locals [s.heap.objs.size] own (J (i + 1)) { s with heap := hh', toks := tk' } .next s₂ := by
      rintro ⟨h', tk, m', nx, news', e, F', N', hn, ho, hne', hm⟩
      refine ⟨rfl, h', tk, m', nx, e, F', fun p hp => ?_, fun p hp hq => hne' p hp (List.mem_singleton.mp hq), hm⟩
      rcases List.mem_append.mp hp with h | h
      · by_cases hI' : p.1 = s.heap.objs.size
        · exact N' p (ho p (List.mem_filter.mpr ⟨h, by simpa using hI'⟩))
        · have h1 : p.1 = l := by
            rcases List.mem_cons.mp (hown p h) with h2 | h2
            · exact absurd h2 hI'
            · exact List.mem_singleton.mp h2
          have h2 := hget p h
          rw [h1] at h2
          have h2 : hh'.get? l = some p.2 := h2
          rw [hlo] at h2
          have h3 : p = (l, listOf vs.toArray nn) := Prod.ext h1 (Option.some.inj h2).symm
          rw [h3]
          exact N' _ (hn _ (hJl _ _ _ hm))
      · exact N' p (hn p h)
    cases f with
    | ret v => exact .ret p
    | brk => exact .brk p
    | next => exact .next (fin p)
    | cont => exact .cont (fin p)
  · rintro h' tk m' news' F' N' _ hJ
    exact done m' news' h' tk hJ F' N'
end
end
section
open PySem PySem.W PyProof.Rows PySem.Spec PySem.Calls
theorem freshS1 : True := by
  w_top off
  k_with_none
  (k_with "binaryOp Add ref ref!" => (k_here; (with_reducible show wpAny _ _ (binaryOp _ (Value.ref _) (Value.ref _)) _ _ _); (with_reducible rename CarriedAll _ (List.map (fun aZz => ite _ _ _) _) => hcAZz); (have hcIZz := carried_plain hcAZz); clear hcAZz; k_dflt (refine' kmk_add_ints ?FZz ?NZz ?aZz ?bZz ?iZz ?jZz ?_ ?zZz; (case FZz => k_asm); (case NZz => k_asm); (case aZz => kmk_list); (case bZz => kmk_list); (case iZz => l_ints); (case jZz => exact hcIZz); (case zZz => kmk_sum)); intro D'Zz ws'Zz h'Zz F'Zz N'Zz l1Zz hI'Zz; (try k_lt l1Zz); (try k_sweep)))
  (k_with "binaryOp Add ref ref!" => (k_here; (with_reducible show wpAny _ _ (binaryOp _ (Value.ref _) (Value.ref _)) _ _ _); (with_reducible rename CarriedAll _ (List.map (fun aZz => PyData.int (Int.fmod _ _)) _) => hcAZz); (have hcIZz := carried_kind hcAZz); clear hcAZz; k_dflt (refine' kmk_add_ints ?FZz ?NZz ?aZz ?bZz ?iZz ?jZz ?_ ?zZz; (case FZz => k_asm); (case NZz => k_asm); (case aZz => kmk_list); (case bZz => kmk_list); (case iZz => l_ints); (case jZz => exact hcIZz); (case zZz => kmk_sum)); intro D'Zz ws'Zz h'Zz F'Zz N'Zz l1Zz hI'Zz; (try k_lt l1Zz); (try k_sweep)))
  exact trivial
set_option maxRecDepth 100000 in
set_option maxHeartbeats 8000000 in
theorem seg1 {w : World} {dp un : Nat} {gd : Option (List Code)} {a : Addr} {ccd : Value} {A₀ : Around} {base h₀ : Heap} {L : Addr} {m : Str → Option Value} {s : Shared}
    {p : Program} {loose : List Str} {mean : ExcName → Option Value} {mg mb : Str → Option Value}
    {Q : Flow → Shared → Prop} {E : Value → Shared → Prop} {rest : List Stmt} {SA : Addr} {sv : List Value} {ns : List Int}
    (G : Gr 10 w dp un lawScope [] A₀ base h₀ p loose mean mg mb) (F : Fr h₀ L s.heap m) (hm : ∀ p ∈ [(Str.ofString "script", Value.ref SA)], m p.1 = some p.2) (N : News h₀ L s.heap [(65, tabObj #[]), (58, tabObj #[])])
    (hl : h₀.IsList SA sv.toArray) (hi : IntsAre sv ns) (hn : ns.length ≤ 63)
    (hQ : ∀ h' tk' m' (NA PA KA : Nat) nv pv kv, 65 < NA → NA < PA → PA < KA → IntsAre nv (ns.take 60) → IntsAre pv ([1, 200, 3] ++ (ns.take 60).map plainOf) → IntsAre kv ([2] ++ (ns.take 60).map kindOf) →
      (∀ p ∈ [(Str.ofString "numbers", Value.ref NA), (Str.ofString "plain", Value.ref PA), (Str.ofString "kinds", Value.ref KA)], m' p.1 = some p.2) → Fr h₀ L h' m' → News h₀ L h' [(KA, listOf kv.toArray 0), (PA, listOf pv.toArray 0), (NA, listOf nv.toArray 0), (65, tabObj #[]), (58, tabObj #[])] →
      wpAny (model Challenge.rw_dw0039_01.row.prog w) (ktrTop dp un gd (Str.ofString "law") lawScope L a ccd [] []) (execs rest (envX (Str.ofString "law") lawScope L a ccd [])) Q E { s with heap := h', toks := tk' }) :
    wpAny (model Challenge.rw_dw0039_01.row.prog w) (ktrTop dp un gd (Str.ofString "law") lawScope L a ccd [] []) (execs (lawS 0 :: lawS 1 :: lawS 2 :: rest) (envX (Str.ofString "law") lawScope L a ccd [])) Q E s := by
  obtain ⟨B, X, T, XB, TB, hk, C1, C2, hd0, hu⟩ := G
  revert X
  k_fill
  intro X
  replace F := fr_kst hm F
  dsimp only [kstB] at F
  dsimp only [lawScope, lawS, lawDef, topDef, Challenge.pw_dw0039_01, List.getElem?_cons_succ, List.getElem?_cons_zero, Option.getD_some] at hQ ⊢
  k_steps
  rename Fr h₀ L _ _ => kF
  rename News h₀ L _ _ => kN
  refine' hQ _ _ _ _ _ _ _ _ _ ?kl1 ?kl2 ?kl3 (by assumption) (by assumption) (by assumption) ?knm kF ?knw
  (case knw => exact news_cons (kN _ (by k_mem)) (news_cons (kN _ (by k_mem)) (news_cons (kN _ (by k_mem)) (news_cons (kN _ (by k_mem)) (news_cons (kN _ (by k_mem)) News.nil)))))
  (case kl1 => omega)
  (case kl2 => omega)
  (case kl3 => omega)
  (case knm => (intro p hp; simp only [List.mem_cons, List.not_mem_nil, or_false] at hp; rcases hp with rfl | rfl | rfl <;> rfl))
end
section
open PySem PySem.W PyProof.Rows PySem.Spec PySem.Calls
theorem freshS2 : True := by
  w_top off
  k_with_none
  (k_with "subscriptTail!" => (k_here; (with_reducible show wpAny _ _ (subscriptTail _ _ (Value.ref _) (Value.int _ _)) _ _ _); k_dflt (refine' int_item ?k0Zz ?k1Zz ?k2Zz ?k3Zz ?k4Zz ?k5Zz ?_ ?k6Zz; (case k0Zz => k_asm); (case k1Zz => k_mem); (case k2Zz => assumption); (case k3Zz => omega); (case k4Zz => omega); (case k5Zz => omega); (case k6Zz => with_unfolding_all rfl)); k_whole; intro t'Zz))
  (k_with "subscriptTail!" => (k_here; (with_reducible show wpAny _ _ (subscriptTail _ _ (Value.ref _) (Value.int (-1) _)) _ _ _); k_dflt (refine' last_item ?k0Zz ?k1Zz ?k2Zz ?_ ?k6Zz; (case k0Zz => k_asm); (case k1Zz => k_mem); (case k2Zz => first | exact rfl | decide); (case k6Zz => with_unfolding_all rfl)); k_whole))
  exact trivial
def piecesP (pl nu : List Int) : Nat → List (List Int) × List Int
  | 0 => ([[1]], [])
  | i + 1 =>
    if 2 < i + 1 ∧ ((nu.getD (i + 1 - 3) 0).fdiv 3).fmod 3 = 0 then ((piecesP pl nu i).1 ++ [(piecesP pl nu i).2 ++ [pl.getD (i + 1) 0]], [])
    else ((piecesP pl nu i).1, (piecesP pl nu i).2 ++ [pl.getD (i + 1) 0])
/-- a made list of ints: where it lies, its values, its count of turns -/
abbrev Pc := Addr × List Value × Nat
abbrev pcLed (pcs : List Pc) : List (Addr × Obj) := pcs.map fun q => (q.1, listOf q.2.1.toArray q.2.2)
abbrev pcRefs (pcs : List Pc) : List Value := pcs.map fun q => Value.ref q.1
def PcsAre : List Pc → List (List Int) → Prop
  | [], [] => True
  | q :: r, l :: ls => IntsAre q.2.1 l ∧ PcsAre r ls
  | _, _ => False
theorem PcsAre.snoc {q : Pc} {l : List Int} (h : IntsAre q.2.1 l) : ∀ {r : List Pc} {ls : List (List Int)}, PcsAre r ls → PcsAre (r ++ [q]) (ls ++ [l])
  | [], [], _ => ⟨h, trivial⟩
  | _ :: _, _ :: _, k => ⟨k.1, PcsAre.snoc h k.2⟩
theorem last_item {prog : Program} {w : World} {A : Around} {E : Value → Shared → Prop} {s : Shared} {h₀ : Heap} {L : Addr} {value slice : PySem.Expr} {l : Addr} {vs : List Value} {v : Value} {news : List (Addr × Obj)} {c : Nat} {k : Int} {u : Tok} {Q : Value → Shared → Prop}
    (N : News h₀ L s.heap news) (hm : (l, listOf (vs ++ [v]).toArray c) ∈ news) (hk : k = -1) (h : Q v s)
    (hs : subscripted slice false (.ref l) (.int k u) = operate [.ref l, .int k u] (getItem (.ref l) (.int k u)) := by with_unfolding_all rfl) :
    wpAny (model prog w) A (subscriptTail value slice (.ref l) (.int k u)) Q E s := by
  subst hk
  refine kde_neg (vs := vs ++ [v]) (j := vs.length) ⟨_, (N _ hm).1, rfl, c, rfl⟩ (by decide) (by decide) ?_ (by simp) h hs
  rw [PySem.seqIndex_neg (by decide) (by simp; omega)]
  simp
  omega
theorem int_item {prog : Program} {w : World} {A : Around} {E : Value → Shared → Prop} {s : Shared} {h₀ : Heap} {L : Addr} {value slice : PySem.Expr} {l : Addr} {vs : List Value} {ns : List Int} {news : List (Addr × Obj)} {c : Nat} {k : Int} {u : Tok} {Q : Value → Shared → Prop}
    (N : News h₀ L s.heap news) (hm : (l, listOf vs.toArray c) ∈ news) (hi : IntsAre vs ns) (h0 : 0 ≤ k) (hk : k < ns.length) (hk2 : k < 1000) (h : ∀ t, Q (.int (ns.getD k.toNat 0) t) s)
    (hs : subscripted slice false (.ref l) (.int k u) = operate [.ref l, .int k u] (getItem (.ref l) (.int k u)) := by with_unfolding_all rfl) :
    wpAny (model prog w) A (subscriptTail value slice (.ref l) (.int k u)) Q E s := by
  have hk' : k.toNat < ns.length := by omega
  obtain ⟨t, ht⟩ := hi.get k.toNat ns[k.toNat] (by simp [hk'])
  have hd : ns.getD k.toNat 0 = ns[k.toNat] := by simp [hk']
  refine ly_item N hm h0 (by omega) ht ?_ hs
  rw [← hd]; exact h t
def Stop (p : Prop) : Prop := p
theorem stop_at {p : Prop} (h : Stop p) : p := h
abbrev lawNames (NA PA KA : Nat) : List (Str × Value) := [(Str.ofString "numbers", Value.ref NA), (Str.ofString "plain", Value.ref PA), (Str.ofString "kinds", Value.ref KA)]
abbrev lawLed (NA PA KA PL : Nat) (kv pv nv : List Value) (pcs : List Pc) (la : Nat) (lv : List Value) (ln pn : Nat) : List (Addr × Obj) :=
  (PL, listOf (pcRefs pcs ++ [Value.ref la]).toArray pn) :: (la, listOf lv.toArray ln) :: (pcLed pcs ++ [(KA, listOf kv.toArray 0), (PA, listOf pv.toArray 0), (NA, listOf nv.toArray 0), (65, tabObj #[]), (58, tabObj #[])])
theorem ownOff_it {own : List (Addr × Obj)} {I a b : Nat} (h : ∀ p ∈ own, p.1 = I) (ha : @Ne Nat a I) (hb : @Ne Nat b I) : OwnOff own [a, b] := fun p hp x hx => by
  rw [h p hp]
  rcases List.mem_cons.mp hx with rfl | hx
  · exact ha.symm
  · rw [List.mem_singleton.mp hx]; exact hb.symm
theorem perm_pc {α : Type} {a b c d e f g p : α} {r q : List α} (h : p ∈ a :: b :: c :: d :: e :: f :: g :: (r ++ q)) : p ∈ (a :: b :: (r ++ [c, d, e, f, g])) ++ q := by
  simp only [List.mem_cons, List.mem_append, List.not_mem_nil, or_false] at h ⊢
  rcases h with h | h | h | h | h | h | h | h | h <;> simp only [h, true_or, or_true]
/-- between two turns of the loop that makes the pieces -/
abbrev PiecesJ (h₀ : Heap) (nu pl : List Int) (NA PA KA PL : Nat) (kv pv nv : List Value) (i : Nat) (m : Str → Option Value) (nx : List (Addr × Obj)) : Prop :=
  ∃ (pcs : List Pc) (la : Nat) (lv : List Value) (ln pn : Nat),
    nx = lawLed NA PA KA PL kv pv nv pcs la lv ln pn ∧
    PcsAre pcs (piecesP pl nu i).1 ∧ IntsAre lv (piecesP pl nu i).2 ∧ lv.length ≤ i ∧ pcs.length ≤ i + 1 ∧ @Ne Nat la PL ∧ KA < la ∧ OwnOff (pcLed pcs) [PL, la] ∧ OwnOff (pcLed pcs) [65, 58] ∧
    (∀ p ∈ (Str.ofString "pieces", Value.ref PL) :: lawNames NA PA KA, m p.1 = some p.2)
theorem pcs_start {h₀ : Heap} {nu pl : List Int} {NA PA KA PL la p0 : Nat} {kv pv nv : List Value} {t : Tok} {m : Str → Option Value} (l1 : p0 < la) (l2 : la < PL) (l3 : KA < p0) (l4 : 65 < KA)
    (hm : ∀ p ∈ (Str.ofString "pieces", Value.ref PL) :: lawNames NA PA KA, m p.1 = some p.2) :
    PiecesJ h₀ nu pl NA PA KA PL kv pv nv 0 m [(PL, listOf #[Value.ref p0, Value.ref la] 0), (la, listOf #[] 0), (p0, listOf #[Value.int 1 t] 0), (KA, listOf kv.toArray 0), (PA, listOf pv.toArray 0), (NA, listOf nv.toArray 0), (65, tabObj #[]), (58, tabObj #[])] := by
  refine ⟨[(p0, [Value.int 1 t], 0)], la, [], 0, 0, rfl, ⟨.cons 1 t .nil, trivial⟩, .nil, Nat.le_refl _, Nat.le_refl _, Nat.ne_of_lt l2, by omega, fun p hp x hx => ?_, fun p hp x hx => ?_, hm⟩
  · rw [List.mem_singleton.mp hp]
    rcases List.mem_cons.mp hx with hx | hx
    · rw [hx]; exact Nat.ne_of_lt (show p0 < PL by omega)
    · rw [List.mem_singleton.mp hx]; exact Nat.ne_of_lt l1
  · rw [List.mem_singleton.mp hp]
    rcases List.mem_cons.mp hx with rfl | hx
    · exact Nat.ne_of_gt (show 65 < p0 by omega)
    · rw [List.mem_singleton.mp hx]; exact Nat.ne_of_gt (show 58 < p0 by omega)
theorem piecesP_cut {pl nu : List Int} {i : Nat} (h : 2 < i + 1 ∧ ((nu.getD (i + 1 - 3) 0).fdiv 3).fmod 3 = 0) : piecesP pl nu (i + 1) = ((piecesP pl nu i).1 ++ [(piecesP pl nu i).2 ++ [pl.getD (i + 1) 0]], []) := by rw [piecesP, if_pos h]
theorem piecesP_on {pl nu : List Int} {i : Nat} (h : ¬ (2 < i + 1 ∧ ((nu.getD (i + 1 - 3) 0).fdiv 3).fmod 3 = 0)) : piecesP pl nu (i + 1) = ((piecesP pl nu i).1, (piecesP pl nu i).2 ++ [pl.getD (i + 1) 0]) := by rw [piecesP, if_neg h]
theorem ints_snoc {k : Int} {t : Tok} : ∀ {vs : List Value} {l : List Int}, IntsAre vs l → IntsAre (vs ++ [.int k t]) (l ++ [k])
  | _, _, .nil => .cons k t .nil
  | _, _, .cons z u r => .cons z u (ints_snoc r)
theorem perm_on {α : Type} {a b c d e f g p : α} {r q : List α} (h : p ∈ a :: b :: (r ++ [c, d, e, f, g])) : p ∈ a :: b :: c :: d :: e :: f :: g :: (r ++ q) := by
  simp only [List.mem_cons, List.mem_append, List.not_mem_nil, or_false] at h ⊢
  rcases h with h | h | h | h | h | h | h | h <;> simp only [h, true_or, or_true]
theorem perm_cut {α : Type} {x a b c d e f g p : α} {r q : List α} (h : p ∈ a :: x :: ((r ++ [b]) ++ [c, d, e, f, g])) : p ∈ x :: a :: b :: c :: d :: e :: f :: g :: (r ++ q) := by
  simp only [List.mem_cons, List.mem_append, List.not_mem_nil, or_false] at h ⊢
  rcases h with h | h | (h | h) | h | h | h | h | h <;> simp only [h, true_or, or_true]
section
variable {h₀ h' : Heap} {L : Addr} {m' : Str → Option Value} {nu pl : List Int} {NA PA KA PL la I i ln pn : Nat} {kv pv nv lv : List Value} {pcs : List Pc} {own : List (Addr × Obj)} {v : Value} {t tk : Tok} {s₁ : Shared}
theorem pcs_on (F : Fr h₀ L h' m') (N : News h₀ L h' ((PL, listOf (pcRefs pcs ++ [Value.ref la]).toArray pn) :: (la, listOf (lv.toArray.push v) (ln + 1)) :: (KA, listOf kv.toArray 0) :: (PA, listOf pv.toArray 0) :: (NA, listOf nv.toArray 0) :: (65, tabObj #[]) :: (58, tabObj #[]) :: (pcLed pcs ++ own)))
    (hv : v = .int (pl.getD (i + 1) 0) t) (hP : PcsAre pcs (piecesP pl nu i).1) (hL : IntsAre lv (piecesP pl nu i).2) (hz : lv.length ≤ i) (hw : pcs.length ≤ i + 1) (hn : @Ne Nat la PL) (hK : KA < la) (hoff : OwnOff (pcLed pcs) [PL, la]) (hoffT : OwnOff (pcLed pcs) [65, 58])
    (hne : ∀ p ∈ lawLed NA PA KA PL kv pv nv pcs la lv ln pn, p.1 ≠ I) (hc : ¬ (2 < i + 1 ∧ ((nu.getD (i + 1 - 3) 0).fdiv 3).fmod 3 = 0))
    (hm : ∀ p ∈ (Str.ofString "pieces", Value.ref PL) :: lawNames NA PA KA, m' p.1 = some p.2) :
    GrowEnd h₀ L (PiecesJ h₀ nu pl NA PA KA PL kv pv nv (i + 1)) own I s₁ { s₁ with heap := h', toks := tk } := by
  subst hv
  rw [List.push_toArray] at N
  refine ⟨h', tk, m', lawLed NA PA KA PL kv pv nv pcs la (lv ++ [Value.int (pl.getD (i + 1) 0) t]) (ln + 1) pn, _, rfl, F, N, fun p hp => perm_on hp, fun p hp => ?_, fun p hp => ?_, pcs, la, _, _, pn, rfl, ?_, ?_, ?_, ?_, hn, hK, hoff, hoffT, hm⟩
  · exact .tail _ (.tail _ (.tail _ (.tail _ (.tail _ (.tail _ (.tail _ (List.mem_append_right _ hp)))))))
  · rcases List.mem_cons.mp hp with rfl | hp
    · exact hne _ (.head _)
    · rcases List.mem_cons.mp hp with rfl | hp
      · exact hne (la, listOf lv.toArray ln) (.tail _ (.head _))
      · exact hne p (.tail _ (.tail _ hp))
  · rw [piecesP_on hc]; exact hP
  · rw [piecesP_on hc]; exact ints_snoc hL
  · simp; omega
  · omega
theorem pcs_cut {nl : Nat} (F : Fr h₀ L h' m') (N : News h₀ L h' ((nl, listOf #[] 0) :: (PL, listOf ((pcRefs pcs ++ [Value.ref la]).toArray.push (.ref nl)) (pn + 1)) :: (la, listOf (lv.toArray.push v) (ln + 1)) :: (KA, listOf kv.toArray 0) :: (PA, listOf pv.toArray 0) :: (NA, listOf nv.toArray 0) :: (65, tabObj #[]) :: (58, tabObj #[]) :: (pcLed pcs ++ own)))
    (hv : v = .int (pl.getD (i + 1) 0) t) (hP : PcsAre pcs (piecesP pl nu i).1) (hL : IntsAre lv (piecesP pl nu i).2) (hz : lv.length ≤ i) (hw : pcs.length ≤ i + 1) (hn : @Ne Nat la PL) (hK : KA < la) (hoff : OwnOff (pcLed pcs) [PL, la]) (hoffT : OwnOff (pcLed pcs) [65, 58])
    (hne : ∀ p ∈ lawLed NA PA KA PL kv pv nv pcs la lv ln pn, p.1 ≠ I) (hc : 2 < i + 1 ∧ ((nu.getD (i + 1 - 3) 0).fdiv 3).fmod 3 = 0)
    (hm : ∀ p ∈ (Str.ofString "pieces", Value.ref PL) :: lawNames NA PA KA, m' p.1 = some p.2) (hI : ∃ oI, (I, oI) ∈ own) (hlt : PL < nl ∧ la < nl ∧ 65 < KA ∧ AllLt nl (pcLed pcs ++ own)) :
    GrowEnd h₀ L (PiecesJ h₀ nu pl NA PA KA PL kv pv nv (i + 1)) own I s₁ { s₁ with heap := h', toks := tk } := by
  subst hv
  rw [List.push_toArray, List.push_toArray] at N
  obtain ⟨oI, hI⟩ := hI
  obtain ⟨hl1, hl2, hl3, hl4⟩ := hlt
  have hnI : nl ≠ I := Nat.ne_of_gt (kst_ltOf hl4 (I, oI) (List.mem_append_right _ hI))
  have hpn : ∀ p ∈ pcLed pcs, p.1 < nl := fun p hp => kst_ltOf hl4 p (List.mem_append_left _ hp)
  have eR : (pcRefs pcs ++ [Value.ref la]) ++ [Value.ref nl] = pcRefs (pcs ++ [(la, lv ++ [Value.int (pl.getD (i + 1) 0) t], ln + 1)]) ++ [Value.ref nl] := by simp
  have eL : pcLed (pcs ++ [(la, lv ++ [Value.int (pl.getD (i + 1) 0) t], ln + 1)]) = pcLed pcs ++ [(la, listOf (lv ++ [Value.int (pl.getD (i + 1) 0) t]).toArray (ln + 1))] := by simp
  rw [eR] at N
  refine ⟨h', tk, m', lawLed NA PA KA PL kv pv nv (pcs ++ [(la, lv ++ [Value.int (pl.getD (i + 1) 0) t], ln + 1)]) nl [] 0 (pn + 1), _, rfl, F, N, fun p hp => ?_, fun p hp => ?_, fun p hp => ?_, _, nl, [], 0, pn + 1, rfl, ?_, ?_, ?_, ?_, ?_, ?_, ?_, ?_, hm⟩
  · unfold lawLed at hp
    rw [eL] at hp
    exact perm_cut hp
  · exact .tail _ (.tail _ (.tail _ (.tail _ (.tail _ (.tail _ (.tail _ (.tail _ (List.mem_append_right _ hp))))))))
  · unfold lawLed at hp
    rw [eL] at hp
    simp only [List.mem_cons, List.mem_append, List.not_mem_nil, or_false] at hp
    rcases hp with rfl | rfl | (hp | rfl) | rfl | rfl | rfl | rfl | rfl
    · exact hne (PL, listOf (pcRefs pcs ++ [Value.ref la]).toArray pn) (.head _)
    · exact hnI
    · exact hne p (.tail _ (.tail _ (List.mem_append_left _ hp)))
    · exact hne (la, listOf lv.toArray ln) (.tail _ (.head _))
    all_goals exact hne _ (.tail _ (.tail _ (List.mem_append_right _ (by simp))))
  · rw [piecesP_cut hc]; exact PcsAre.snoc (ints_snoc hL) hP
  · rw [piecesP_cut hc]; exact .nil
  · simp
  · simp; omega
  · exact Nat.ne_of_gt hl1
  · omega
  · rw [eL]
    refine ownOff_app (fun p hp x hx => ?_) (fun p hp x hx => ?_)
    · rcases List.mem_cons.mp hx with rfl | hx
      · exact hoff p hp _ (.head _)
      · rw [List.mem_singleton.mp hx]; exact Nat.ne_of_lt (hpn p hp)
    · rw [List.mem_singleton.mp hp]
      rcases List.mem_cons.mp hx with rfl | hx
      · exact hn
      · rw [List.mem_singleton.mp hx]; exact Nat.ne_of_lt hl2
  · rw [eL]
    refine ownOff_app hoffT (fun p hp x hx => ?_)
    rw [List.mem_singleton.mp hp]
    rcases List.mem_cons.mp hx with rfl | hx
    · exact Nat.ne_of_gt (show 65 < la by omega)
    · rw [List.mem_singleton.mp hx]; exact Nat.ne_of_gt (show 58 < la by omega)
end
set_option maxRecDepth 100000 in
set_option maxHeartbeats 8000000 in
theorem seg2 {w : World} {dp un : Nat} {gd : Option (List Code)} {a : Addr} {ccd : Value} {A₀ : Around} {base h₀ : Heap} {L : Addr} {m : Str → Option Value} {s : Shared}
    {p : Program} {loose : List Str} {mean : ExcName → Option Value} {mg mb : Str → Option Value}
    {Q : Flow → Shared → Prop} {rest : List Stmt} {NA PA KA : Nat} {nv pv kv : List Value} {nu pl ki : List Int}
    (G : Gr 10 w dp un lawScope [] A₀ base h₀ p loose mean mg mb) (F : Fr h₀ L s.heap m) (hm : ∀ p ∈ lawNames NA PA KA, m p.1 = some p.2)
    (N : News h₀ L s.heap [(KA, listOf kv.toArray 0), (PA, listOf pv.toArray 0), (NA, listOf nv.toArray 0), (65, tabObj #[]), (58, tabObj #[])])
    (l1 : 65 < NA) (l2 : NA < PA) (l3 : PA < KA) (hnv : IntsAre nv nu) (hpv : IntsAre pv pl) (hkv : IntsAre kv ki) (hpl : pl.length = nu.length + 3) (hnu : nu.length ≤ 60)
    (hQ : ∀ h' tk' m' PL nx, PiecesJ h₀ nu pl NA PA KA PL kv pv nv (pl.length - 1) m' nx → Fr h₀ L h' m' → News h₀ L h' nx →
      wpAny (model Challenge.rw_dw0039_01.row.prog w) (ktrTop dp un gd (Str.ofString "law") lawScope L a ccd [] []) (execs rest (envX (Str.ofString "law") lawScope L a ccd [])) Q (fun _ _ => False) { s with heap := h', toks := tk' }) :
    wpAny (model Challenge.rw_dw0039_01.row.prog w) (ktrTop dp un gd (Str.ofString "law") lawScope L a ccd [] []) (execs (lawS 3 :: lawS 4 :: rest) (envX (Str.ofString "law") lawScope L a ccd [])) Q (fun _ _ => False) s := by
  obtain ⟨B, X, T, XB, TB, hk, C1, C2, hd0, hu⟩ := G
  revert X
  k_fill
  intro X
  replace F := fr_kst hm F
  dsimp only [kstB, lawNames] at F
  dsimp only [lawScope, lawS, lawDef, topDef, Challenge.pw_dw0039_01, List.getElem?_cons_succ, List.getElem?_cons_zero, Option.getD_some]
  (k_with "pyIter ref" => (k_here; (rename Fr _ _ _ _ => lF'); (rename News _ _ _ _ => lN'); (rename IsRange _ _ _ _ _ _ _ _ => rgX); (obtain ⟨PL, hPL⟩ := got_head lN'); subst hPL; (obtain ⟨la, hla⟩ := got_head (news_tail lN')); subst hla; (obtain ⟨p0, hp0⟩ := got_head (news_tail (news_tail lN'))); subst hp0; (with_unfolding_all refine' range_grow (PiecesJ h₀ nu pl NA PA KA PL kv pv nv) (by rfl) (by exact rgX) (by exact small_one (by omega) (by omega) (by omega) (by omega)) (by exact rangeSize_nat _ _) lF' lN' ?start ?turn ?done); (case' start => k_dflt (exact pcs_start (by omega) (by omega) (by omega) (by omega) (by intro p hp; simp only [List.mem_cons, List.not_mem_nil, or_false] at hp; rcases hp with rfl | rfl | rfl | rfl <;> rfl))); (case' turn => (k_dflt (intro i9 t9 m9 nx9 h9 tk9 own9 I9 hi9 hown9 hI9 hne9 hJ9 F9 N9; obtain ⟨pcs9, la9, lv9, ln9, pn9, hnx9, hP9, hL9, hz9, hw9, hn9, hKA9, hoff9, hoffT9, hm9⟩ := hJ9; subst hnx9; (have hoff2 : OwnOff (pcLed pcs9 ++ own9) [PL, la9] := ownOff_app hoff9 (ownOff_it hown9 (hne9 _ (.head _)) (hne9 _ (.tail _ (.head _))))); obtain ⟨o2, ho2⟩ : ∃ o2, o2 = pcLed pcs9 ++ own9 := ⟨_, rfl⟩; rw [← ho2] at hoff2; (replace N9 : News _ _ _ ((PL, listOf (pcRefs pcs9 ++ [Value.ref la9]).toArray pn9) :: (la9, listOf lv9.toArray ln9) :: (KA, listOf kv.toArray 0) :: (PA, listOf pv.toArray 0) :: (NA, listOf nv.toArray 0) :: (65, tabObj #[]) :: (58, tabObj #[]) :: (pcLed pcs9 ++ own9)) := kst_newsOf N9 (fun p hp => perm_pc hp)); rw [← ho2] at N9; rw [(funext fun z => kstB_eq hm9 fun _ => rfl : kstB m9 _ = m9).symm] at F9; dsimp only [kstB, lawNames] at F9); k_whole)); (case' done => (intro m9 nx9 h9 tk9 hJ9 F9 N9; refine stop_at ?_))))
  k_steps
  · unfold Stop
    rw [show ((pl.length : Int) - 1).toNat = pl.length - 1 by omega] at hJ9
    exact hQ _ _ _ _ _ hJ9 F9 N9
  · rename Fr _ _ _ _ => kF
    rename News _ _ _ _ => kN
    subst ho2
    rw [show (1 + (i9 : Int)).toNat = i9 + 1 by omega] at kN
    rename _ = (0 : Int) => hc
    rw [show (1 + (i9 : Int) - 3).toNat = i9 + 1 - 3 by omega] at hc
    rename @LT.lt Nat _ PL _ ∧ _ => hlt
    exact pcs_cut kF kN rfl hP9 hL9 hz9 hw9 hn9 hKA9 hoff9 hoffT9 hne9 ⟨by omega, hc⟩ (by intro p hp; simp only [List.mem_cons, List.not_mem_nil, or_false] at hp; rcases hp with rfl | rfl | rfl | rfl <;> rfl) hI9 ⟨hlt.1, hlt.2.1, by omega, hlt.2.2.2.2.2.2.2⟩
  · rename Fr _ _ _ _ => kF
    rename News _ _ _ _ => kN
    subst ho2
    rw [show (1 + (i9 : Int)).toNat = i9 + 1 by omega] at kN
    exact pcs_on kF kN rfl hP9 hL9 hz9 hw9 hn9 hKA9 hoff9 hoffT9 hne9 (fun hc => by rw [show i9 + 1 - 3 = (1 + (i9 : Int) - 3).toNat by omega] at hc; omega) (by intro p hp; simp only [List.mem_cons, List.not_mem_nil, or_false] at hp; rcases hp with rfl | rfl | rfl | rfl <;> rfl)
  · rename Fr _ _ _ _ => kF
    rename News _ _ _ _ => kN
    subst ho2
    rw [show (1 + (i9 : Int)).toNat = i9 + 1 by omega] at kN
    exact pcs_on kF kN rfl hP9 hL9 hz9 hw9 hn9 hKA9 hoff9 hoffT9 hne9 (fun hc => by omega) (by intro p hp; simp only [List.mem_cons, List.not_mem_nil, or_false] at hp; rcases hp with rfl | rfl | rfl | rfl <;> rfl)
end
section
open PySem PySem.W PyProof.Rows PySem.Spec PySem.Calls
theorem freshS3 : True := by
  w_top off
  k_with_none
  (k_with "exec Assign cons ListComp!" => (k_here; k_dflt (refine LCt.Assign_ListComp_T (F₀ := by k_asm) (by rfl) (by with_unfolding_all rfl) (by with_unfolding_all rfl) (by decide) (by rfl) (by decide) (by rfl) (by rfl) (by rfl) ?_)))
  (k_with "compareOp NotEq ref ref!" => (k_here; (with_reducible show wpAny _ _ (compareOp CmpOp.NotEq (Value.ref _) (Value.ref _)) _ _ _); k_dflt (refine' ne_nilK ?k1Zz ?k2Zz ?k3Zz ?k4Zz ?k5Zz ?_; (case k1Zz => k_asm); (case k2Zz => (repeat (first | assumption | refine List.Mem.tail _ ?_))); (case k3Zz => assumption); (case k4Zz => k_mem); (case k5Zz => ktr_units)); k_whole))
  exact trivial
abbrev pcAll (pcs : List Pc) : List Pc := pcs.filter fun q => !q.2.1.isEmpty
theorem pcAll_t {pcs : List Pc} {q : Pc} (h : (!q.2.1.isEmpty) = true) : pcRefs (pcAll (pcs ++ [q])) = pcRefs (pcAll pcs) ++ [Value.ref q.1] := by
  unfold pcRefs pcAll
  rw [List.filter_append, List.map_append, List.filter_cons_of_pos (by simpa using h)]
  rfl
theorem pcAll_f {pcs : List Pc} {q : Pc} (h : (!q.2.1.isEmpty) = false) : pcRefs (pcAll (pcs ++ [q])) = pcRefs (pcAll pcs) := by
  unfold pcRefs pcAll
  rw [List.filter_append, List.filter_cons_of_neg (by simpa using h), List.filter_nil, List.append_nil]
def FiltEl (h₀ : Heap) (L : Addr) (m : Str → Option Value) (s : Shared) (news : List (Addr × Obj)) (q : Pc) (I : Addr) (oI : Obj) (C : Addr) (oC : Obj) (D : Addr) (ys : List Value) (y : Value) (s'' : Shared) : Prop :=
  y = .ref q.1 ∧ ∃ h' tk', s'' = { s with heap := h', toks := tk' } ∧ Fr h₀ L h' m ∧ News h₀ L h' ((I, oI) :: (C, oC) :: (D, LCg.lst ys) :: news)
def FiltPost (prog : Program) (w : World) (A : Around) (h₀ : Heap) (L : Addr) (m : Str → Option Value) (env : Env) (elt : PySem.Expr) (scope : Scope) (cl : List (Str × Addr)) (s : Shared) (news : List (Addr × Obj)) (q : Pc) (I : Addr) (oI : Obj) (C : Addr) (oC : Obj) (D : Addr) (ys : List Value) (E' : Value → Shared → Prop) (ok : Bool) (s' : Shared) : Prop :=
  ok = (!q.2.1.isEmpty) ∧ (ok = true → wpAny (model prog w) A (eval elt (compEnvC scope cl C env)) (FiltEl h₀ L m s news q I oI C oC D ys) E' s') ∧ ∃ h' tk', s' = { s with heap := h', toks := tk' } ∧ Fr h₀ L h' m ∧ News h₀ L h' ((I, oI) :: (C, oC) :: (D, LCg.lst ys) :: news)
section
variable {prog : Program} {w : World} {A : Around} {h₀ : Heap} {L : Addr} {m : Str → Option Value} {env : Env} {ct elt : PySem.Expr} {x : Str} {scope : Scope} {cl : List (Str × Addr)} {s : Shared} {S : List (Addr × Obj) → Prop} {Fin : List Value → List (Addr × Obj) → Prop} {news : List (Addr × Obj)}
theorem filt_rest {pcs : List Pc} (hS : S news)
    (turn : ∀ q I oI C oC D m₂ ys h tk (E' : Value → Shared → Prop), q ∈ pcs → LCg.NsObj oC m₂ → m₂ x = some (.ref q.1) → Fr h₀ L h m → News h₀ L h ((I, oI) :: (C, oC) :: (D, LCg.lst ys) :: news) → LCg.Off3 I C D news → ((@Ne Nat I C) ∧ (@Ne Nat I D) ∧ (@Ne Nat C D)) →
      wpAny (model prog w) A (isTrue ct (compEnvC scope cl C env) (eval ct (compEnvC scope cl C env))) (FiltPost prog w A h₀ L m env elt scope cl s news q I oI C oC D ys E') E' { s with heap := h, toks := tk })
    (fin : Fin (pcRefs (pcAll pcs)) news) : LCt.CompRestT prog w A h₀ L m env ct elt x scope cl s S (fun i v => (pcRefs pcs).toArray[i]? = some v) Fin (pcRefs pcs).toArray.size 0 [] news := by
  have key : ∀ (j i : Nat), i + j = pcs.length → LCt.CompRestT prog w A h₀ L m env ct elt x scope cl s S (fun i v => (pcRefs pcs).toArray[i]? = some v) Fin j i (pcRefs (pcAll (pcs.take i))) news := by
    intro j
    induction j with
    | zero =>
      intro i hi
      have e : i = pcs.length := by omega
      subst e
      rw [List.take_length]
      exact LCt.CompRestT.zero fin
    | succ j ih =>
      intro i hi
      refine LCt.CompRestT.succ ?_
      intro v I oI C oC D m₂ h tk E' hv hC hx F N off ne
      have hlt : i < pcs.length := by omega
      have hv' : v = .ref (pcs[i]).1 := by
        have : (pcRefs pcs)[i]? = some v := by simpa using hv
        rw [List.getElem?_map, List.getElem?_eq_getElem hlt] at this
        exact (Option.some.inj this).symm
      subst hv'
      have et : pcs.take (i + 1) = pcs.take i ++ [pcs[i]] := by rw [List.take_add_one, List.getElem?_eq_getElem hlt]; rfl
      refine wpAny_mono (turn pcs[i] I oI C oC D m₂ _ h tk E' (List.getElem_mem hlt) hC hx F N off ne) (fun ok s' hq => ?_) fun _ _ e => e
      obtain ⟨hok, hel, h', tk', rfl, F', N'⟩ := hq
      by_cases hb : ok = true
      · rw [if_pos hb]
        refine wpAny_mono (hel hb) (fun y s'' hq => ?_) fun _ _ e => e
        obtain ⟨rfl, h'', tk'', rfl, F'', N''⟩ := hq
        refine ⟨h'', tk'', news, rfl, F'', N'', off, hS, ?_⟩
        have := ih (i + 1) (by omega)
        rw [et, pcAll_t (hok ▸ hb)] at this
        exact this
      · rw [if_neg hb]
        refine ⟨h', tk', news, rfl, F', N', off, hS, ?_⟩
        have := ih (i + 1) (by omega)
        have hf : ok = false := by simpa using hb
        rw [et, pcAll_f (hok ▸ hf)] at this
        exact this
  have := key pcs.length 0 (by omega)
  simpa using this
end
theorem ne_nilK {prog : Program} {w : World} {A : Around} {E : Value → Shared → Prop} {s : Shared} {h₀ : Heap} {L : Addr} {news : List (Addr × Obj)} {a b : Addr} {vs : List Value} {ns : List Int} {n n' : Nat} {Q : Value → Shared → Prop}
    (N : News h₀ L s.heap news) (ha : (a, listOf vs.toArray n) ∈ news) (hi : IntsAre vs ns) (hb : (b, listOf #[] n') ∈ news) (hu : A.units + 64 < cLine) (h : Q (.bool (!vs.isEmpty)) s) : wpAny (model prog w) A (compareOp .NotEq (.ref a) (.ref b)) Q E s := by
  refine ne_intsK ⟨_, (N _ ha).1, rfl, n, rfl⟩ hi (us := []) ⟨_, (N _ hb).1, rfl, n', rfl⟩ .nil hu ?_
  have e : (!decide (ns = [])) = !vs.isEmpty := by cases hi <;> rfl
  rw [e]; exact h
theorem pcs_get {pcs : List Pc} {ls : List (List Int)} {q : Pc} (hq : q ∈ pcs) (h : PcsAre pcs ls) : ∃ l, IntsAre q.2.1 l := by
  induction pcs generalizing ls with
  | nil => cases hq
  | cons a r ih =>
    cases ls with
    | nil => exact h.elim
    | cons l ls =>
      rcases List.mem_cons.mp hq with rfl | hq
      · exact ⟨l, h.1⟩
      · exact ih hq h.2
theorem pcLed_mem {pcs : List Pc} {q : Pc} (hq : q ∈ pcs) : (q.1, listOf q.2.1.toArray q.2.2) ∈ pcLed pcs := List.mem_map.mpr ⟨q, hq, rfl⟩
abbrev base5 (NA PA KA : Nat) (kv pv nv : List Value) : List (Addr × Obj) := [(KA, listOf kv.toArray 0), (PA, listOf pv.toArray 0), (NA, listOf nv.toArray 0), (65, tabObj #[]), (58, tabObj #[])]
set_option maxRecDepth 100000 in
set_option maxHeartbeats 8000000 in
theorem seg3 {w : World} {dp un : Nat} {gd : Option (List Code)} {a : Addr} {ccd : Value} {A₀ : Around} {base h₀ : Heap} {L : Addr} {m : Str → Option Value} {s : Shared}
    {p : Program} {loose : List Str} {mean : ExcName → Option Value} {mg mb : Str → Option Value}
    {Q : Flow → Shared → Prop} {rest : List Stmt} {NA PA KA PL pn : Nat} {kv pv nv : List Value} {pcs : List Pc} {ls : List (List Int)}
    (G : Gr 10 w dp un lawScope [] A₀ base h₀ p loose mean mg mb) (F : Fr h₀ L s.heap m) (hm : ∀ p ∈ (Str.ofString "pieces", Value.ref PL) :: lawNames NA PA KA, m p.1 = some p.2)
    (N : News h₀ L s.heap ((PL, listOf (pcRefs pcs).toArray pn) :: (base5 NA PA KA kv pv nv ++ pcLed pcs))) (hP : PcsAre pcs ls) (hz : pcs.length ≤ 100)
    (hQ : ∀ h' tk' m' (PB : Nat), LCg.Off1 PB ((PL, listOf (pcRefs pcs).toArray pn) :: (base5 NA PA KA kv pv nv ++ pcLed pcs)) → (∀ p ∈ (Str.ofString "pieces", Value.ref PB) :: lawNames NA PA KA, m' p.1 = some p.2) → Fr h₀ L h' m' → News h₀ L h' ((PB, listOf (pcRefs (pcAll pcs)).toArray (pcRefs (pcAll pcs)).length) :: (base5 NA PA KA kv pv nv ++ pcLed pcs)) →
      wpAny (model Challenge.rw_dw0039_01.row.prog w) (ktrTop dp un gd (Str.ofString "law") lawScope L a ccd [] []) (execs rest (envX (Str.ofString "law") lawScope L a ccd [])) Q (fun _ _ => False) { s with heap := h', toks := tk' }) :
    wpAny (model Challenge.rw_dw0039_01.row.prog w) (ktrTop dp un gd (Str.ofString "law") lawScope L a ccd [] []) (execs (lawS 5 :: rest) (envX (Str.ofString "law") lawScope L a ccd [])) Q (fun _ _ => False) s := by
  obtain ⟨B, X, T, XB, TB, hk, C1, C2, hd0, hu⟩ := G
  revert X
  k_fill
  intro X
  replace F := fr_kst hm F
  dsimp only [kstB, lawNames] at F
  dsimp only [lawScope, lawS, lawDef, topDef, Challenge.pw_dw0039_01, List.getElem?_cons_succ, List.getElem?_cons_zero, Option.getD_some]
  (k_with "CompSrcT" => (k_here; k_dflt (refine LCt.CompSrcT.ledger (by rfl) (by k_asm) N (List.Mem.head _) (by rw [List.size_toArray, List.length_map, sizeLine_eq]; omega) ?_); intro g9; k_dflt (refine' filt_rest ?hS ?turn ?fin); (case' hS => k_dflt (exact .inr ⟨_, List.Mem.head _, rfl, _, rfl⟩)); (case' turn => (k_dflt (intro q9 I9 oI9 C9 oC9 D9 m9 ys9 h9 tk9 E9 hq9 hC9 hx9 F9 N9 off9 ne9; obtain ⟨ql9, hql9⟩ := pcs_get hq9 hP; (have hmem9 := pcLed_mem hq9); dsimp only [base5, List.cons_append, List.nil_append] at N9); k_whole)); (case' fin => (intro D9 h9 tk9 F9 N9 off9; refine stop_at ?_))))
  k_steps
  · unfold Stop
    exact hQ _ _ _ D9 off9 (by intro p hp; simp only [List.mem_cons, List.not_mem_nil, or_false] at hp; rcases hp with rfl | rfl | rfl | rfl <;> rfl) F9 (news_cons (N9 _ (.head _)) (news_tail (news_tail N9)))
  · rename Fr _ _ _ _ => kF
    rename News _ _ _ _ => kN
    refine ⟨rfl, fun _ => ?_, _, _, rfl, kF, news_tail kN⟩
    k_steps
    exact ⟨rfl, _, _, rfl, kF, news_tail kN⟩
end
section
open PySem PySem.W PyProof.Rows PySem.Spec PySem.Calls
theorem freshS4 : True := by
  w_top off
  k_with_none
  (k_with "call builtin:len!" => (k_here; (with_reducible show wpAny _ _ (call (Value.builtin "len") [Value.ref _]) _ _ _); k_dflt (refine' len_mem ?k1Zz ?k2Zz ?k3Zz ?k4Zz ?_; (case k1Zz => k_asm); (case k2Zz => (repeat (first | assumption | refine List.Mem.tail _ ?_))); (case k3Zz => assumption); (case k4Zz => omega)); k_whole))
  (k_with "binaryOp Add ref ref!" => (k_here; (with_reducible show wpAny _ _ (binaryOp _ (Value.ref _) (Value.ref _)) _ _ _); k_dflt (refine' add_mem ?kFZz ?k1Zz ?k2Zz ?k3Zz ?k4Zz ?k5Zz ?k6Zz ?_; (case kFZz => k_asm); (case k1Zz => k_asm); (case k3Zz => (repeat (first | assumption | refine List.Mem.tail _ ?_))); (case k2Zz => k_mem); (case k5Zz => assumption); (case k4Zz => first | exact .cons _ _ .nil | l_ints); (case k6Zz => (simp only [List.length_cons, List.length_nil]; omega))); intro D'Zz us'Zz h'Zz F'Zz N'Zz l1Zz hI'Zz; (try k_lt l1Zz)))
  (k_with "call builtin:list.extend!" => (k_here; (with_reducible show wpAny _ _ (call (Value.builtin "list.extend") [Value.ref _, Value.ref _]) _ _ _); k_dflt (refine' ext_mem ?FZz ?NZz ?bZz ?UZz ?jZz ?h0Zz ?hvZz ?hmZz ?_; (case FZz => k_asm); (case NZz => k_asm); (case bZz => k_mem); (case UZz => k_upd); (case jZz => assumption); (case h0Zz => (simp only [List.length_append, List.length_cons, List.length_nil]; omega)); (case hvZz => omega); (case hmZz => (simp only [List.length_append, List.length_cons, List.length_nil]; omega))); intro h'Zz F'Zz N'Zz; (try dsimp only [List.nil_append, List.cons_append] at N'Zz)))
  exact trivial
def laidP (ls : List (List Int)) : List Int := ls.flatMap fun l => (l.length : Int) :: l
theorem laidP_snoc (ls : List (List Int)) (l : List Int) : laidP (ls ++ [l]) = laidP ls ++ ([(l.length : Int)] ++ l) := by simp [laidP]
theorem len_mem {prog : Program} {w : World} {A : Around} {E : Value → Shared → Prop} {s : Shared} {h₀ : Heap} {L : Addr} {news : List (Addr × Obj)} {a : Addr} {vs : List Value} {ns : List Int} {n : Nat} {Q : Value → Shared → Prop}
    (N : News h₀ L s.heap news) (ha : (a, listOf vs.toArray n) ∈ news) (hi : IntsAre vs ns) (hz : ns.length < 100000) (h : Q (.int (ns.length : Int) (s.toks + 1)) { s with toks := s.toks + 1 + 1 }) : wpAny (model prog w) A (call (.builtin "len") [.ref a]) Q E s :=
  kst_len N ha hi.length (by omega) h
theorem add_mem {prog : Program} {w : World} {A : Around} {E : Value → Shared → Prop} {s : Shared} {h₀ : Heap} {L : Addr} {m : Str → Option Value} {news : List (Addr × Obj)} {a b : Addr} {vs ws : List Value} {ns ms : List Int} {n n' : Nat} {Q : Value → Shared → Prop}
    (F : Fr h₀ L s.heap m) (N : News h₀ L s.heap news) (ha : (a, listOf vs.toArray n) ∈ news) (hb : (b, listOf ws.toArray n') ∈ news) (hi : IntsAre vs ns) (hj : IntsAre ws ms) (hz : ns.length + ms.length ≤ 16777216)
    (h : ∀ D us h', Fr h₀ L h' m → News h₀ L h' ((D, listOf (List.toArray us) 0) :: news) → (∀ p ∈ news, p.1 < D) → IntsAre us (ns ++ ms) → Q (.ref D) { s with heap := h' }) :
    wpAny (model prog w) A (binaryOp .Add (.ref a) (.ref b)) Q E s :=
  kmk_add_ints F N ⟨_, (N _ ha).1, rfl, n, rfl⟩ ⟨_, (N _ hb).1, rfl, n', rfl⟩ hi hj (fun D us h' F' N' l hI => h D us h' F' N' l hI) (by rw [sizeLine_eq]; exact hz)
abbrev law5 (PB LA NA PA KA : Nat) : List (Str × Value) := (Str.ofString "laid", Value.ref LA) :: (Str.ofString "pieces", Value.ref PB) :: lawNames NA PA KA
abbrev LaidJ (ls : List (List Int)) (NA PA KA PB LA : Nat) (kv pv nv pv' : List Value) (pn : Nat) (pcs : List Pc) (i : Nat) (m : Str → Option Value) (nx : List (Addr × Obj)) : Prop :=
  ∃ (lv : List Value) (ln : Nat), nx = (LA, listOf lv.toArray ln) :: (PB, listOf pv'.toArray pn) :: (base5 NA PA KA kv pv nv ++ pcLed pcs) ∧ IntsAre lv (laidP (ls.take i)) ∧ (∀ p ∈ law5 PB LA NA PA KA, m p.1 = some p.2)
theorem pcs_at {ps : List Pc} {ls : List (List Int)} (h : PcsAre ps ls) : ∀ {i : Nat} {v : Value}, (pcRefs ps)[i]? = some v → ∃ q l, ps[i]? = some q ∧ ls[i]? = some l ∧ v = .ref q.1 ∧ IntsAre q.2.1 l := by
  induction ps generalizing ls with
  | nil => intro i v hv; simp at hv
  | cons a r ih =>
    cases ls with
    | nil => exact h.elim
    | cons l ls =>
      intro i v hv
      cases i with
      | zero => exact ⟨a, l, rfl, rfl, by simpa using hv.symm, h.1⟩
      | succ i => exact ih h.2 (by simpa using hv)
theorem laid_take {ls : List (List Int)} {i : Nat} {l : List Int} (h : ls[i]? = some l) : laidP (ls.take (i + 1)) = laidP (ls.take i) ++ ([(l.length : Int)] ++ l) := by
  rw [List.take_add_one, h]; exact laidP_snoc _ _
theorem laid_le (ls : List (List Int)) (i : Nat) : (laidP (ls.take i)).length ≤ (laidP ls).length := by
  have : laidP ls = laidP (ls.take i) ++ laidP (ls.drop i) := by
    rw [laidP, laidP, laidP, ← List.flatMap_append, List.take_append_drop]
  rw [this, List.length_append]; omega
theorem laid_one {ls : List (List Int)} {i : Nat} {l : List Int} (h : ls[i]? = some l) (k : (laidP ls).length ≤ 200) : l.length ≤ 200 := by
  have := laid_le ls (i + 1)
  rw [laid_take h] at this
  simp at this
  omega
theorem ownOff_it1 {own : List (Addr × Obj)} {I a : Nat} (h : ∀ p ∈ own, p.1 = I) (ha : @Ne Nat a I) : OwnOff own [a] := fun p hp x hx => by
  rw [h p hp, List.mem_singleton.mp hx]; exact ha.symm
theorem pcs_len : ∀ {ps : List Pc} {ls : List (List Int)}, PcsAre ps ls → ps.length = ls.length
  | [], [], _ => rfl
  | _ :: _, _ :: _, h => congrArg (· + 1) (pcs_len h.2)
theorem pcs_take {ps : List Pc} {ls : List (List Int)} (h : PcsAre ps ls) : ls.take (pcRefs ps).length = ls := by
  rw [List.length_map, pcs_len h, List.take_length]
theorem ints_append : ∀ {vs ws : List Value} {l k : List Int}, IntsAre vs l → IntsAre ws k → IntsAre (vs ++ ws) (l ++ k)
  | _, _, _, _, .nil, h => h
  | _, _, _, _, .cons z u r, h => .cons z u (ints_append r h)
theorem mem2l {α : Type} {a b p : α} {r q : List α} (h : p ∈ a :: b :: r) : p ∈ a :: b :: (r ++ q) := by
  simp only [List.mem_cons, List.mem_append] at h ⊢
  rcases h with h | h | h <;> simp only [h, true_or, or_true]
theorem not_long {its : Array Value} {n : Nat} (h : n ≤ 100000) : ¬(!its.isEmpty && Builtin.List.listTooLong n) = true := by
  have : Builtin.List.listTooLong n = false := by
    unfold Builtin.List.listTooLong
    rw [sizeLine_eq]
    simp
    omega
  rw [this, Bool.and_false]
  exact Bool.false_ne_true
theorem ext_mem {prog : Program} {w : World} {A : Around} {E : Value → Shared → Prop} {s : Shared} {h₀ : Heap} {L : Addr} {m : Str → Option Value} {news news' : List (Addr × Obj)} {D b : Addr} {vs ws : List Value} {ms : List Int} {n n2 : Nat} {Q : Value → Shared → Prop}
    (F : Fr h₀ L s.heap m) (N : News h₀ L s.heap news) (hb : (b, listOf ws.toArray n2) ∈ news) (U : Upd D (listOf vs.toArray n) (listOf (vs ++ ws).toArray (n + 1)) news news') (hj : IntsAre ws ms) (h0 : 0 < ms.length) (hv : vs.length ≤ 50000) (hm : ms.length ≤ 50000)
    (h : ∀ h', Fr h₀ L h' m → News h₀ L h' news' → Q .none { s with heap := h' }) : wpAny (model prog w) A (call (.builtin "list.extend") [.ref D, .ref b]) Q E s := by
  have hl := hj.length
  refine kl_extend F N hb (l := vs ++ ws) rfl ?_ U (not_long ?_) ?_ ?_ h
  · show ws.length ≠ 0
    omega
  · simp; omega
  · rw [sizeLine_eq]; show vs.length ≤ _; omega
  · rw [sizeLine_eq]; simp; omega
set_option maxRecDepth 100000 in
set_option maxHeartbeats 8000000 in
theorem seg4 {w : World} {dp un : Nat} {gd : Option (List Code)} {a : Addr} {ccd : Value} {A₀ : Around} {base h₀ : Heap} {L : Addr} {m : Str → Option Value} {s : Shared}
    {p : Program} {loose : List Str} {mean : ExcName → Option Value} {mg mb : Str → Option Value}
    {Q : Flow → Shared → Prop} {rest : List Stmt} {NA PA KA PB pn : Nat} {kv pv nv : List Value} {pcs ps : List Pc} {ls : List (List Int)}
    (G : Gr 10 w dp un lawScope [] A₀ base h₀ p loose mean mg mb) (F : Fr h₀ L s.heap m) (hm : ∀ p ∈ (Str.ofString "pieces", Value.ref PB) :: lawNames NA PA KA, m p.1 = some p.2)
    (N : News h₀ L s.heap ((PB, listOf (pcRefs ps).toArray pn) :: (base5 NA PA KA kv pv nv ++ pcLed pcs))) (hP : PcsAre ps ls) (hz : ps.length ≤ 100) (hsub : ∀ q ∈ ps, q ∈ pcs) (hlen : (laidP ls).length ≤ 200)
    (hQ : ∀ h' tk' m' (LA : Nat) lv ln, PB < LA → OwnOff (base5 NA PA KA kv pv nv ++ pcLed pcs) [LA] → IntsAre lv (laidP ls ++ [0]) → (∀ p ∈ law5 PB LA NA PA KA, m' p.1 = some p.2) → Fr h₀ L h' m' → News h₀ L h' ((LA, listOf lv.toArray ln) :: (PB, listOf (pcRefs ps).toArray pn) :: (base5 NA PA KA kv pv nv ++ pcLed pcs)) →
      wpAny (model Challenge.rw_dw0039_01.row.prog w) (ktrTop dp un gd (Str.ofString "law") lawScope L a ccd [] []) (execs rest (envX (Str.ofString "law") lawScope L a ccd [])) Q (fun _ _ => False) { s with heap := h', toks := tk' }) :
    wpAny (model Challenge.rw_dw0039_01.row.prog w) (ktrTop dp un gd (Str.ofString "law") lawScope L a ccd [] []) (execs (lawS 6 :: lawS 7 :: lawS 8 :: rest) (envX (Str.ofString "law") lawScope L a ccd [])) Q (fun _ _ => False) s := by
  obtain ⟨B, X, T, XB, TB, hk, C1, C2, hd0, hu⟩ := G
  revert X
  k_fill
  intro X
  replace F := fr_kst hm F
  dsimp only [kstB, lawNames] at F
  dsimp only [lawScope, lawS, lawDef, topDef, Challenge.pw_dw0039_01, List.getElem?_cons_succ, List.getElem?_cons_zero, Option.getD_some]
  obtain ⟨R, hR⟩ : ∃ R, R = base5 NA PA KA kv pv nv ++ pcLed pcs := ⟨_, rfl⟩
  rw [← hR] at N
  (k_with "pyIter ref" => (k_here; (rename Fr _ _ _ _ => lF'); (rename News _ _ _ _ => lN'); (obtain ⟨LA, hLA⟩ := got_head lN'); subst hLA; (rename @LT.lt Nat _ PB _ ∧ _ => l1'); k_dflt (refine' list_grow (fun i m nx => ∃ (lv : List Value) (ln : Nat), nx = (LA, listOf lv.toArray ln) :: (PB, listOf (pcRefs ps).toArray pn) :: R ∧ IntsAre lv (laidP (ls.take i)) ∧ (∀ p ∈ law5 PB LA NA PA KA, m p.1 = some p.2)) (by rfl) (List.Mem.tail _ (List.Mem.head _)) ?hJl lF' lN' ?start ?turn ?done); (case' hJl => k_dflt (intro i9 m9 nx9 hJ9; obtain ⟨lv9, ln9, hnx9, hI9, hm9⟩ := hJ9; subst hnx9; exact List.Mem.tail _ (List.Mem.head _))); (case' start => k_dflt (exact ⟨[], 0, rfl, .nil, (by intro p hp; simp only [List.mem_cons, List.not_mem_nil, or_false] at hp; rcases hp with rfl | rfl | rfl | rfl | rfl <;> rfl)⟩)); (case' turn => (k_dflt (intro i9 v9 m9 nx9 h9 tk9 own9 I9 hv9 hown9 hI9 hne9 hJ9 F9 N9; obtain ⟨lv9, ln9, hnx9, hL9, hm9⟩ := hJ9; subst hnx9; obtain ⟨q9, ql9, hq9, hl9, hvq9, hql9⟩ := pcs_at hP hv9; subst hvq9; (have hmem9 : (q9.1, listOf q9.2.1.toArray q9.2.2) ∈ R := by rw [hR]; exact List.mem_append_right _ (pcLed_mem (hsub _ (List.mem_of_getElem? hq9)))); (have hRL : OwnOff R [LA] := own_lt l1'.2); (have hoff2 : OwnOff (R ++ own9) [LA] := ownOff_app hRL (ownOff_it1 hown9 (hne9 _ (List.Mem.head _)))); (replace hmem9 : (q9.1, listOf q9.2.1.toArray q9.2.2) ∈ R ++ own9 := List.mem_append_left _ hmem9); obtain ⟨o2, ho2⟩ : ∃ o2, o2 = R ++ own9 := ⟨_, rfl⟩; rw [← ho2] at hoff2 hmem9; (simp only [List.cons_append] at N9); rw [← ho2] at N9; rw [(funext fun z => kstB_eq hm9 fun _ => rfl : kstB m9 _ = m9).symm] at F9; dsimp only [kstB, law5, lawNames] at F9; (have hlv9 : lv9.length ≤ 200 := by (rw [hL9.length]; exact Nat.le_trans (laid_le ls i9) hlen)); (have hqz9 : ql9.length ≤ 200 := laid_one hl9 hlen)); k_whole)); (case' done => (k_dflt (intro m9 nx9 h9 tk9 hJ9 F9 N9; obtain ⟨lv9, ln9, hnx9, hL9, hm9⟩ := hJ9; subst hnx9; rw [pcs_take hP] at hL9; (have hRL : OwnOff R [LA] := own_lt l1'.2); rw [(funext fun z => kstB_eq hm9 fun _ => rfl : kstB m9 _ = m9).symm] at F9; dsimp only [kstB, law5, lawNames] at F9; (have hlv9 : lv9.length ≤ 200 := by (rw [hL9.length]; exact hlen))); k_whole))))
  k_steps
  · rename Fr _ _ _ _ => kF
    rename News _ _ _ _ => kN
    rw [List.push_toArray] at kN
    subst hR
    exact hQ _ _ _ LA _ _ l1'.1 hRL (ints_snoc hL9) (by intro p hp; simp only [List.mem_cons, List.not_mem_nil, or_false] at hp; rcases hp with rfl | rfl | rfl | rfl | rfl <;> rfl) kF kN
  · rename Fr _ _ _ _ => kF
    rename News _ _ _ _ => kN
    rename IntsAre _ (_ ++ _) => hU
    subst ho2
    refine ⟨_, _, _, (LA, listOf (lv9 ++ _).toArray (ln9 + 1)) :: (PB, listOf (pcRefs ps).toArray pn) :: R, _, rfl, kF, kN, fun p hp => .tail _ (.tail _ (mem2l hp)), fun p hp => .tail _ (.tail _ (.tail _ (.tail _ (List.mem_append_right _ hp)))), fun p hp => ?_, _, _, rfl, ?_, (by intro p hp; simp only [List.mem_cons, List.not_mem_nil, or_false] at hp; rcases hp with rfl | rfl | rfl | rfl | rfl <;> rfl)⟩
    · rcases List.mem_cons.mp hp with rfl | hp
      · exact hne9 (LA, listOf lv9.toArray ln9) (.head _)
      · exact hne9 p (.tail _ hp)
    · rw [laid_take hl9]
      exact ints_append hL9 hU
end
section
open PySem PySem.W PyProof.Rows PySem.Spec PySem.Calls
theorem freshS5 : True := by
  w_top off
  k_with_none
  (k_with "call type:bytes!" => (k_here; (with_reducible show wpAny _ _ (call (Value.type "bytes") [Value.ref _]) _ _ _); k_dflt (refine' KBa.make_K ?kbaFZz ?kbaNZz ?kbahZz ?kbalZz ?kbaiZz ?kbarZz ?kbanZz ?_; (case kbaFZz => k_asm); (case kbaNZz => k_asm); (case kbahZz => rfl); (case kbalZz => exact News.isList (by k_asm) (by k_mem)); (case kbaiZz => assumption); (case kbarZz => exact lz_in (by assumption)); (case kbanZz => (simp only [List.length_append, List.length_cons, List.length_nil]; omega))); intro h'Zz t'Zz k'Zz F'Zz N'Zz kbaInZz))
  (k_with "call ref!" => (k_here; (with_reducible show wpAny _ _ (call (Value.ref 63) _) _ _ _); refine stop_at ?_))
  (k_with "call ref!" => (k_here; (with_reducible show wpAny _ _ (call (Value.ref 70) _) _ _ _); refine stop_at ?_))
  (k_with "call ref!" => (k_here; (with_reducible show wpAny _ _ (call (Value.ref 77) _) _ _ _); refine stop_at ?_))
  (k_with "call ref!" => (k_here; (with_reducible show wpAny _ _ (call (Value.ref 82) _) _ _ _); refine stop_at ?_))
  exact trivial
/-- the law's lists but the kinds -/
abbrev lists4 (LA PB PA NA : Nat) (lv pv' pv nv : List Value) (ln pn : Nat) : List (Addr × Obj) := [(LA, listOf lv.toArray ln), (PB, listOf pv'.toArray pn), (PA, listOf pv.toArray 0), (NA, listOf nv.toArray 0)]
theorem perm_first {w : World} {σ : StIds} {pos : Nat} {t : Tok} {a b : Addr × Obj} {r : List (Addr × Obj)} {p : Addr × Obj} (h : p ∈ a :: (σ.led w pos t ++ b :: r)) : p ∈ σ.led w pos t ++ b :: a :: r := by
  simp only [List.mem_cons, List.mem_append] at h ⊢
  rcases h with h | h | h | h <;> simp only [h, true_or, or_true]
theorem led_lt {w : World} {σ : StIds} {pos : Nat} {t : Tok} {r : List (Addr × Obj)} {d : Nat} (h : OwnLt d (σ.led w pos t ++ r)) : @LT.lt Nat _ σ.x d ∧ @LT.lt Nat _ σ.d d ∧ @LT.lt Nat _ σ.fn d ∧ @LT.lt Nat _ σ.c d ∧ @LT.lt Nat _ σ.cf d ∧ @LT.lt Nat _ σ.co d :=
  ⟨h.lt _ (.head _), h.lt _ (.tail _ (.head _)), h.lt _ (.tail _ (.tail _ (.head _))), h.lt _ (.tail _ (.tail _ (.tail _ (.head _)))), h.lt _ (.tail _ (.tail _ (.tail _ (.tail _ (.head _))))), h.lt _ (.tail _ (.tail _ (.tail _ (.tail _ (.tail _ (.head _))))))⟩
theorem ly_ok {w : World} {σ : StIds} {y : LyIds} {pos : Nat} {t : Tok} {r : List (Addr × Obj)} (h : LyNew y σ.x (σ.led w pos t ++ r)) (hc : @Ne Nat σ.d y.c) : y.Ok σ := by
  obtain ⟨h1, h2, h3, h4, h5, h6, h7⟩ := h
  have := led_lt h6
  exact ⟨h1, h2, h3, h4, h5, by omega, by omega⟩
theorem ly_off {w : World} {σ : StIds} {y : LyIds} {pos : Nat} {t : Tok} {r : List (Addr × Obj)} (h : LyNew y σ.x (σ.led w pos t ++ r)) (hd : OwnOff r [σ.d]) : OwnOff r [σ.d, y.l] := fun p hp x hx => by
  rcases List.mem_cons.mp hx with rfl | hx
  · exact hd p hp _ (.head _)
  · rw [List.mem_singleton.mp hx]
    have h1 : @LT.lt Nat _ p.1 y.cf := h.lt.lt p (List.mem_append_right _ hp)
    have h2 := h.up
    exact Nat.ne_of_lt (by omega)
theorem perm_run {α : Type} {A Y r : List α} {tab tab' k p : α} (h : p ∈ A ++ (Y ++ (k :: tab :: tab' :: r))) : p ∈ Y ++ (tab :: (A ++ (tab' :: k :: r))) := by
  simp only [List.mem_cons, List.mem_append] at h ⊢
  rcases h with h | h | h | h | h | h <;> simp only [h, true_or, or_true]
theorem perm_due5 {α : Type} {A Y r : List α} {d l k t u la pb pa na p : α} (h : p ∈ pa :: k :: l :: (A ++ (Y ++ (t :: u :: la :: pb :: na :: r)))) : p ∈ d :: l :: (A ++ (Y ++ (k :: t :: u :: la :: pb :: pa :: na :: r))) := by
  simp only [List.mem_cons, List.mem_append] at h ⊢
  rcases h with h | h | h | h | h | h | h | h | h | h | h <;> simp only [h, true_or, or_true]
theorem perm_end5 {α : Type} {A Y r : List α} {d l l' k t u la pb pa na p : α} (h : p ∈ l :: l' :: (A ++ (Y ++ (k :: t :: u :: la :: pb :: pa :: na :: r)))) : p ∈ d :: l' :: pa :: k :: l :: (A ++ (Y ++ (t :: u :: la :: pb :: na :: r))) := by
  simp only [List.mem_cons, List.mem_append] at h ⊢
  rcases h with h | h | h | h | h | h | h | h | h | h | h | h <;> simp only [h, true_or, or_true]
/-- what the law holds behind the first run -/
abbrev led6 (w : World) (σ : StIds) (y : LyIds) (c : CS) (TL DL KA LA PB PA NA : Nat) (vs us kv lv pv' pv nv : List Value) (nn un ln pn : Nat) (R : List (Addr × Obj)) : List (Addr × Obj) :=
  (TL, listOf vs.toArray nn) :: (DL, listOf us.toArray un) :: (σ.led w c.pos c.tp ++ (y.led w c.b c.tb c.done ++ ((KA, listOf kv.toArray 0) :: (65, tabL y.c) :: (58, tabS σ.c) :: (lists4 LA PB PA NA lv pv' pv nv ln pn ++ R))))
abbrev names6 (σ : StIds) (TL DL PB LA NA PA KA : Nat) (msg last : Str) (t t' : Tok) : List (Str × Value) := (Str.ofString "last", Value.str last t') :: (Str.ofString "due", Value.ref DL) :: (Str.ofString "words", Value.str msg t) :: (Str.ofString "told", Value.ref TL) :: (Str.ofString "f", Value.ref σ.x) :: law5 PB LA NA PA KA
theorem ownOff_obj {x : Addr} {o o' : Obj} {r : List (Addr × Obj)} {l : List Addr} (h : OwnOff ((x, o) :: r) l) : OwnOff ((x, o') :: r) l := fun p hp b hb => by
  rcases List.mem_cons.mp hp with rfl | hp
  · exact h (x, o) (.head _) b hb
  · exact h p (.tail _ hp) b hb
theorem run_off {a b k : Addr × Obj} {r : List (Addr × Obj)} {x y : Nat} (h : OwnOff (b :: k :: r) [x, y]) (h1 : @Ne Nat a.1 x) (h2 : @Ne Nat a.1 y) : OwnOff (k :: a :: b :: r) [x, y] := fun p hp z hz => by
  simp only [List.mem_cons] at hp
  rcases hp with rfl | rfl | rfl | hp
  · exact h _ (.tail _ (.head _)) z hz
  · rcases List.mem_cons.mp hz with rfl | hz
    · exact h1
    · rw [List.mem_singleton.mp hz]; exact h2
  · exact h _ (.head _) z hz
  · exact h _ (.tail _ (.tail _ hp)) z hz
theorem lz_in {lz : List Int} (h : ∀ k ∈ lz, 0 ≤ k ∧ k < 256) : KBa.In (lz ++ [5, 0, 9]) := fun k hk => by
  rcases List.mem_append.mp hk with hk | hk
  · exact h k hk
  · simp only [List.mem_cons, List.not_mem_nil, or_false] at hk
    rcases hk with rfl | rfl | rfl <;> decide
/-- own, and a new stream's objects, lie off the table -/
theorem st_off {w : World} {σ : StIds} {pos : Nat} {t : Tok} {a b : Addr × Obj} {r : List (Addr × Obj)} (h : StNew σ (a :: r)) (hb : OwnOff (b :: r) [a.1]) : OwnOff (σ.led w pos t ++ b :: r) [a.1] := fun p hp x hx => by
  rw [List.mem_singleton.mp hx]
  simp only [List.mem_append, List.mem_cons, List.not_mem_nil, or_false] at hp
  rcases hp with (rfl | rfl | rfl | rfl | rfl | rfl) | hp
  · exact Nat.ne_of_gt (h.x.lt a (.head _))
  · exact Nat.ne_of_gt (h.d.lt a (.head _))
  · exact Nat.ne_of_gt (h.fn.lt a (.head _))
  · exact Nat.ne_of_gt (h.c.lt a (.head _))
  · exact Nat.ne_of_gt (h.cf.lt a (.head _))
  · exact Nat.ne_of_gt (h.co.lt a (.head _))
  · exact hb p (List.mem_cons.mpr hp) _ (.head _)
theorem st_offd {σ : StIds} {a b : Addr × Obj} {r : List (Addr × Obj)} (h : StNew σ (a :: r)) (hb : @LT.lt Nat _ b.1 σ.d) : OwnOff (b :: r) [σ.d] := fun p hp x hx => by
  rw [List.mem_singleton.mp hx]
  rcases List.mem_cons.mp hp with rfl | hp
  · exact Nat.ne_of_lt hb
  · exact Nat.ne_of_lt (h.d.lt p (.tail _ hp))
theorem ownOff_swap {a b : Addr × Obj} {r : List (Addr × Obj)} {l : List Addr} (ha : ∀ x ∈ l, a.1 ≠ x) (h : OwnOff (b :: r) l) : OwnOff (b :: a :: r) l := fun p hp x hx => by
  rcases List.mem_cons.mp hp with rfl | hp
  · exact h _ (.head _) x hx
  · rcases List.mem_cons.mp hp with rfl | hp
    · exact ha x hx
    · exact h p (.tail _ hp) x hx
set_option maxRecDepth 100000 in
set_option maxHeartbeats 8000000 in
theorem seg5 {w : World} {dp un : Nat} {gd : Option (List Code)} {a : Addr} {ccd : Value} {A₀ : Around} {base h₀ : Heap} {L : Addr} {m : Str → Option Value} {s : Shared}
    {p : Program} {loose : List Str} {mean : ExcName → Option Value} {mg mb : Str → Option Value}
    {Q : Flow → Shared → Prop} {rest : List Stmt} {NA PA KA PB LA pn ln : Nat} {kv pv nv pv' lv : List Value} {R : List (Addr × Obj)} {pl ki lz : List Int}
    (G : Gr 10 w dp un lawScope [] A₀ base h₀ p loose mean mg mb) (F : Fr h₀ L s.heap m) (hm : ∀ p ∈ law5 PB LA NA PA KA, m p.1 = some p.2)
    (N : News h₀ L s.heap ((58, tabObj #[]) :: (65, tabObj #[]) :: (KA, listOf kv.toArray 0) :: (lists4 LA PB PA NA lv pv' pv nv ln pn ++ R)))
    (o58 : OwnOff ((65, tabObj #[]) :: (KA, listOf kv.toArray 0) :: (lists4 LA PB PA NA lv pv' pv nv ln pn ++ R)) [58]) (o65 : OwnOff ((58, tabObj #[]) :: (KA, listOf kv.toArray 0) :: (lists4 LA PB PA NA lv pv' pv nv ln pn ++ R)) [65])
    (hlv : IntsAre lv lz) (hpv : IntsAre pv pl) (hkv : IntsAre kv ki) (hlz : lz.length ≤ 300) (hlb : ∀ k ∈ lz, 0 ≤ k ∧ k < 256) (hpl : pl.length ≤ 90) (hpb : ∀ k ∈ pl, 0 ≤ k ∧ k < 256) (hki0 : 0 < ki.length) (hki1 : ki.length ≤ 100) (hki2 : ∀ k ∈ ki, 0 ≤ k ∧ k < 3)
    {told due : List Item} {msg last : Str} {stF : PS} (hrun : runsP (lz ++ [5, 0, 9]) ki (pl.length + 1) ⟨[], false, 0⟩ = .error (told, msg, stF)) (hdue : duesP pl ki (pl.length + 1) = .error (due, last))
    (hQ : ∀ h' tk' m' (σ : StIds) (y : LyIds) (c : CS) (TL DL : Nat) vs us nn mn t t', σ.Ok (lz ++ [5, 0, 9]) → y.Ok σ → c.abs = stF → ItemsAre vs told → ItemsAre us due → (∀ p ∈ names6 σ TL DL PB LA NA PA KA msg last t t', m' p.1 = some p.2) → Fr h₀ L h' m' → News h₀ L h' (led6 w σ y c TL DL KA LA PB PA NA vs us kv lv pv' pv nv nn mn ln pn R) →
      wpAny (model Challenge.rw_dw0039_01.row.prog w) (ktrTop dp un gd (Str.ofString "law") lawScope L a ccd [] []) (execs rest (envX (Str.ofString "law") lawScope L a ccd [])) Q (fun _ _ => False) { s with heap := h', toks := tk' }) :
    wpAny (model Challenge.rw_dw0039_01.row.prog w) (ktrTop dp un gd (Str.ofString "law") lawScope L a ccd [] []) (execs (lawS 9 :: lawS 10 :: lawS 11 :: rest) (envX (Str.ofString "law") lawScope L a ccd [])) Q (fun _ _ => False) s := by
  obtain ⟨B, X, T, XB, TB, hk, C1, C2, hd0, hu⟩ := G
  revert X
  k_fill
  intro X
  replace F := fr_kst hm F
  dsimp only [kstB, law5, lawNames] at F
  dsimp only [lists4, List.cons_append, List.nil_append] at N o58 o65
  dsimp only [lawScope, lawS, lawDef, topDef, Challenge.pw_dw0039_01, List.getElem?_cons_succ, List.getElem?_cons_zero, Option.getD_some]
  k_steps
  unfold Stop
  k_here
  refine' mkSa (Gr.mk (by k_asm) (by k_asm) (by k_asm) (by assumption) (by assumption) (by exact rfl) (by assumption) (by assumption) (by omega) (by omega)) (by k_asm) (news_tail (news_tail (by k_asm))) (by assumption) (KBa.ints_make (lz_in hlb)) ?kl ?_
  (case kl => (simp only [List.length_append, List.length_cons, List.length_nil]; omega))
  intro h5 tk5 t5 σ5 hσ5 hst5 h585 F5 N5
  k_steps
  unfold Stop
  k_here
  rename News _ _ _ _ => kN5
  refine' mkLa (Gr.mk (by k_asm) (by k_asm) (by k_asm) (by assumption) (by assumption) (by exact rfl) (by assumption) (by assumption) (by omega) (by omega)) (by k_asm) (kst_newsOf kN5 (fun p hp => perm_first hp)) (st_off hst5 (ownOff_obj o65)) ?_
  intro h6 tk6 tb6 y6 hy6 hyc6 F6 N6
  have hok6 : y6.Ok σ5 := ly_ok hy6 (by have h1 := led_lt hy6.lt; have h2 := hy6.up; omega)
  have off6 := ly_off hy6 (st_offd hst5 h585)
  have off7 := run_off (a := ((65 : Addr), tabL y6.c)) off6 (Nat.ne_of_lt (hst5.d.lt ((65 : Addr), tabObj #[]) (.head _))) (Nat.ne_of_lt (show @LT.lt Nat _ 65 y6.l by have h2 := hy6.up; omega))
  dsimp only [stDict, List.cons_append, List.nil_append] at N6
  k_steps
  unfold Stop
  k_here
  rename News _ _ _ _ => kN6
  refine' runL (c₀ := ⟨#[], tb6, false, 0, t5⟩) (tries := pl.length + 1) (Gr.mk (by k_asm) (by k_asm) (by k_asm) (by assumption) (by assumption) (by exact rfl) (by assumption) (by assumption) (by omega) (by omega)) (by k_asm) (kst_newsOf kN6 (fun p hp => perm_run (A := σ5.led w 0 t5) (Y := y6.led w #[] tb6 false) hp)) off7 hσ5 hok6 ?kp hkv hki0 hki1 hki2 ?kt hrun ?_
  (case kp => exact ⟨Nat.le_refl _, Nat.zero_le _⟩)
  (case kt => omega)
  intro h8 tk8 D8 l8 vs8 nn8 t8 c8 hI8 hc8 F8 N8
  k_steps
  unfold Stop
  k_here
  rename News _ _ _ _ => kN8
  refine' dueL (Gr.mk (by k_asm) (by k_asm) (by k_asm) (by assumption) (by assumption) (by exact rfl) (by assumption) (by assumption) (by omega) (by omega)) (by k_asm) (kst_newsOf kN8 (fun p hp => perm_due5 (A := σ5.led w c8.pos c8.tp) (Y := y6.led w c8.b c8.tb c8.done) hp)) hpv (by omega) hpb hkv hki0 hki1 hki2 hdue ?_
  intro h9 tk9 D9 l9 vs9 nn9 t9 hI9 F9 N9
  k_steps
  rename Fr _ _ _ _ => kF
  rename News _ _ _ _ => kN
  exact hQ _ _ _ σ5 y6 c8 l8 l9 vs8 vs9 nn8 nn9 t8 t9 hσ5 hok6 hc8 hI8 hI9 (by intro p hp; simp only [List.mem_cons, List.not_mem_nil, or_false] at hp; rcases hp with rfl | rfl | rfl | rfl | rfl | rfl | rfl | rfl | rfl | rfl <;> rfl) kF (kst_newsOf kN (fun p hp => perm_end5 (A := σ5.led w c8.pos c8.tp) (Y := y6.led w c8.b c8.tb c8.done) hp))
end
section
open PySem PySem.W PyProof.Rows PySem.Spec PySem.Calls PySem.MeetsSeq PySem.SeqAt
theorem rcAt_bytes {A : Around} {s : Shared} (a b : Array UInt8) (t u : Tok) : RcAt A s (.bytes a t) (.bytes b u) (a.toList == b.toList) := fun prog w E Q h =>
  richCompare_gives (typeIs_bytes s a t) (typeIs_bytes s b u) FB.slot_bytes_eq FB.entry_bytes_eq (FB.args_bytes_eq_2 _ _) (gives_bytes_eq a b t u) (by simp [Made.takes]) h
theorem eqAt_bytes {A : Around} {s : Shared} (a : Array UInt8) (t u : Tok) : EqAt A s (.bytes a t) (.bytes a u) true := fun prog w E Q h => by
  unfold eqBool
  refine wpAny_holding ?_
  refine wpAny_ite_split (fun _ => wpAny_bind (wpAny_rule (wpAny_pure h))) (fun _ => ?_)
  refine wpAny_bind (rcAt_bytes a a t u prog w E _ ?_)
  rw [beq_self_eq_true]
  exact wpAny_truthy_bool h
theorem map_inj {b c : List UInt8} (h : b.map (fun x => (x.toNat : Int)) = c.map (fun x => (x.toNat : Int))) : b = c := by
  induction b generalizing c with
  | nil => cases c with
    | nil => rfl
    | cons y c => simp at h
  | cons x b ih => cases c with
    | nil => simp at h
    | cons y c =>
      simp only [List.map_cons, List.cons.injEq] at h
      have h1 : x.toNat = y.toNat := by have := h.1; omega
      rw [UInt8.toNat_inj.mp h1, ih h.2]
theorem bytes_inj {b c : Array UInt8} (h : KBw.bInts b = KBw.bInts c) : b = c := Array.toList_inj.mp (map_inj h)
theorem item_eqAt {A : Around} {s : Shared} {v u : Value} {i : Item} (h : ItemIs v i) (k : ItemIs u i) : EqAt A s v u true := by
  cases i with
  | n z =>
    cases v <;> first | exact h.elim | skip
    cases u <;> first | exact k.elim | skip
    rename_i a t b t'
    obtain rfl : a = z := h
    obtain rfl : b = a := k
    have := EqAt.int_int (A := A) (s := s) b t b t'
    rwa [beq_self_eq_true] at this
  | s l =>
    cases v <;> first | exact h.elim | skip
    cases u <;> first | exact k.elim | skip
    rename_i a t b t'
    obtain ⟨b1, rfl, h1⟩ := h
    obtain ⟨b2, rfl, h2⟩ := k
    obtain rfl := bytes_inj (h1.trans h2.symm)
    have := EqAt.str_str (A := A) (s := s) (latinStr b1) t (latinStr b1) t'
    rwa [beq_self_eq_true] at this
  | d l =>
    cases v <;> first | exact h.elim | skip
    cases u <;> first | exact k.elim | skip
    rename_i a t b t'
    have h1 : KBw.bInts a = l := h
    have h2 : KBw.bInts b = l := k
    obtain rfl := bytes_inj (h1.trans h2.symm)
    exact eqAt_bytes a t t'
theorem items_len : ∀ {vs : List Value} {its : List Item}, ItemsAre vs its → vs.length = its.length
  | [], [], _ => rfl
  | _ :: _, _ :: _, h => congrArg (· + 1) (items_len h.2)
theorem items_get : ∀ {vs us : List Value} {its : List Item}, ItemsAre vs its → ItemsAre us its → ∀ j (h1 : j < vs.length) (h2 : j < us.length), ∃ i, ItemIs vs[j] i ∧ ItemIs us[j] i
  | v :: vs, u :: us, i :: its, h, k, 0, _, _ => ⟨i, h.1, k.1⟩
  | v :: vs, u :: us, i :: its, h, k, j + 1, h1, h2 => items_get h.2 k.2 j (Nat.lt_of_succ_lt_succ h1) (Nat.lt_of_succ_lt_succ h2)
theorem all_true {n : Nat} : (List.range n).all (fun _ => true) = true := List.all_eq_true.mpr fun _ _ => rfl
section
variable {prog : Program} {w : World} {A : Around} {E : Value → Shared → Prop} {s : Shared} {a b : Addr} {vs us : List Value} {its : List Item} {Q : Value → Shared → Prop}
theorem items_eq (ha : s.heap.IsList a vs.toArray) (hb : s.heap.IsList b us.toArray) (hv : ItemsAre vs its) (hu : ItemsAre us its) (hA : A.units < cLine) (h : Q (.bool true) s) : wpAny (model prog w) A (compareOp .Eq (.ref a) (.ref b)) Q E s := by
  refine eq_listAt (e := fun _ => true) ha hb (by simp [items_len hv, items_len hu]) hA (fun j h1 h2 => ?_) (by rw [all_true]; exact h)
  obtain ⟨i, h3, h4⟩ := items_get hv hu j (by simpa using h1) (by simpa using h2)
  simpa using item_eqAt h3 h4
theorem items_ne (ha : s.heap.IsList a vs.toArray) (hb : s.heap.IsList b us.toArray) (hv : ItemsAre vs its) (hu : ItemsAre us its) (hA : A.units < cLine) (h : Q (.bool false) s) : wpAny (model prog w) A (compareOp .NotEq (.ref a) (.ref b)) Q E s := by
  refine RcNeAt.lists (e := fun _ => true) ha hb (by simp [items_len hv, items_len hu]) hA (fun j h1 h2 => ?_) prog w E Q (by rw [all_true]; exact h)
  obtain ⟨i, h3, h4⟩ := items_get hv hu j (by simpa using h1) (by simpa using h2)
  simpa using item_eqAt h3 h4
end
end
section
open PySem PySem.W PyProof.Rows PySem.Spec PySem.Calls
theorem freshS6 : True := by
  w_top off
  k_with_none
  (k_with "compareOp NotEq ref ref!" => (k_here; (with_reducible show wpAny _ _ (compareOp CmpOp.NotEq (Value.ref _) (Value.ref _)) _ _ _); k_dflt (refine' items_ne ?k1Zz ?k2Zz ?k3Zz ?k4Zz ?k5Zz ?_; (case k1Zz => exact News.isList (by k_asm) (by k_mem)); (case k2Zz => exact News.isList (by k_asm) (by k_mem)); (case k3Zz => assumption); (case k4Zz => assumption); (case k5Zz => ktr_units)); k_whole))
  exact trivial
set_option maxRecDepth 100000 in
set_option maxHeartbeats 8000000 in
theorem seg6 {w : World} {dp un : Nat} {gd : Option (List Code)} {a : Addr} {ccd : Value} {A₀ : Around} {base h₀ : Heap} {L : Addr} {m : Str → Option Value} {s : Shared}
    {p : Program} {loose : List Str} {mean : ExcName → Option Value} {mg mb : Str → Option Value}
    {Q : Flow → Shared → Prop} {rest : List Stmt} {NA PA KA PB LA TL DL pn ln nn mn : Nat} {kv pv nv pv' lv vs us : List Value} {R : List (Addr × Obj)} {lz : List Int} {σ : StIds} {y : LyIds} {c : CS} {its : List Item} {msg : Str} {t t' : Tok}
    (G : Gr 10 w dp un lawScope [] A₀ base h₀ p loose mean mg mb) (F : Fr h₀ L s.heap m) (hm : ∀ p ∈ names6 σ TL DL PB LA NA PA KA msg msg t t', m p.1 = some p.2)
    (N : News h₀ L s.heap (led6 w σ y c TL DL KA LA PB PA NA vs us kv lv pv' pv nv nn mn ln pn R)) (hlv : IntsAre lv lz) (hlz : lz.length ≤ 300) (hv : ItemsAre vs its) (hu' : ItemsAre us its) (hc : c.pos = lz.length)
    (hQ : ∀ h' tk' m', (∀ p ∈ names6 σ TL DL PB LA NA PA KA msg msg t t', m' p.1 = some p.2) → Fr h₀ L h' m' → News h₀ L h' (led6 w σ y c TL DL KA LA PB PA NA vs us kv lv pv' pv nv nn mn ln pn R) →
      wpAny (model Challenge.rw_dw0039_01.row.prog w) (ktrTop dp un gd (Str.ofString "law") lawScope L a ccd [] []) (execs rest (envX (Str.ofString "law") lawScope L a ccd [])) Q (fun _ _ => False) { s with heap := h', toks := tk' }) :
    wpAny (model Challenge.rw_dw0039_01.row.prog w) (ktrTop dp un gd (Str.ofString "law") lawScope L a ccd [] []) (execs (lawS 12 :: rest) (envX (Str.ofString "law") lawScope L a ccd [])) Q (fun _ _ => False) s := by
  obtain ⟨B, X, T, XB, TB, hk, C1, C2, hd0, hu⟩ := G
  revert X
  k_fill
  intro X
  replace F := fr_kst hm F
  dsimp only [kstB, names6, law5, lawNames] at F
  dsimp only [led6, lists4, stDict, List.cons_append, List.nil_append] at N
  dsimp only [lawScope, lawS, lawDef, topDef, Challenge.pw_dw0039_01, List.getElem?_cons_succ, List.getElem?_cons_zero, Option.getD_some]
  k_steps
  · exact absurd (by assumption : (msg != msg) = true) (by simp)
  · omega
  · rename Fr _ _ _ _ => kF
    rename News _ _ _ _ => kN
    exact hQ _ _ _ (by intro p hp; simp only [List.mem_cons, List.not_mem_nil, or_false] at hp; rcases hp with rfl | rfl | rfl | rfl | rfl | rfl | rfl | rfl | rfl | rfl <;> rfl) kF kN
end
section
open PySem PySem.W PyProof.Rows PySem.Spec PySem.Calls
theorem freshS7 : True := by
  w_top off
  k_with_none
  (k_with "eval ListComp!" => (k_here; k_dflt (refine LCg.ListComp_U (F₀ := by k_asm) (by with_unfolding_all rfl) (by decide) (by rfl) (by decide) (by rfl) ?_)))
  (k_with "CompSrc!" => (k_here; k_dflt (refine LCg.CompSrc.ledger (by rfl) (by k_asm) (by k_asm) (by k_mem) (by (rw [List.size_toArray, sizeLine_eq]; omega)) ?_; intro g'Zz; k_dflt (refine' type_rest (by assumption) (fun z'Zz t'Zz I'Zz oI'Zz C'Zz oC'Zz D'Zz m'Zz ys'Zz h'Zz tk'Zz E'Zz hC'Zz hx'Zz F'Zz N'Zz off'Zz ne'Zz => ?_) (fun z'Zz t'Zz I'Zz oI'Zz C'Zz oC'Zz D'Zz m'Zz ys'Zz h'Zz tk'Zz E'Zz hC'Zz hx'Zz F'Zz N'Zz off'Zz ne'Zz => ?_) (fun z'Zz t'Zz I'Zz oI'Zz C'Zz oC'Zz D'Zz m'Zz ys'Zz h'Zz tk'Zz E'Zz hC'Zz hx'Zz F'Zz N'Zz off'Zz ne'Zz => ?_) ?_); (try k_dflt (show LCg.FinE _ _ _ _ _ _ _)); (all_goals k_whole))))
  (k_with "call type:type!" => (k_here; (with_reducible show wpAny _ _ (call _ [Value.bytes _ _]) _ _ _); k_dflt (refine PySem.call_type_of (Tx := "bytes") rfl (by decide +kernel) ?_)))
  (k_with "CompEnd!" => (k_here; k_dflt (exact ⟨_, _, _, rfl, by k_asm, by k_asm, by assumption, .inr ⟨_, (by k_mem), rfl, _, rfl⟩, rfl, rfl⟩)))
  (k_with "compareOp NotEq ref ref!" => (k_here; (with_reducible show wpAny _ _ (compareOp CmpOp.NotEq (Value.ref _) (Value.ref _)) _ _ _); k_dflt (refine' types_ne ?k1Zz ?k2Zz ?k5Zz ?_; (case k1Zz => exact lst_at (by k_asm) (by k_mem)); (case k2Zz => exact lst_at (by k_asm) (by k_mem)); (case k5Zz => ktr_units)); k_whole))
  exact trivial
def kindV : Item → Value
  | .n _ => .type "int"
  | .s _ => .type "str"
  | .d _ => .type "bytes"
theorem items_at : ∀ {vs : List Value} {its : List Item}, ItemsAre vs its → ∀ {i : Nat} {v : Value}, vs[i]? = some v → ∃ t, its[i]? = some t ∧ ItemIs v t
  | [], [], _, i, v, hv => by simp at hv
  | a :: vs, t :: its, h, 0, v, hv => ⟨t, rfl, by have := Option.some.inj (show some a = some v by simpa using hv); rw [← this]; exact h.1⟩
  | a :: vs, t :: its, h, i + 1, v, hv => items_at h.2 (i := i) (v := v) (by simpa using hv)
section
variable {prog : Program} {w : World} {A : Around} {h₀ : Heap} {L : Addr} {m : Str → Option Value} {env : Env} {elt : PySem.Expr} {x : Str} {scope : Scope} {cl : List (Str × Addr)} {s : Shared} {S : List (Addr × Obj) → Prop} {Fin : List Value → List (Addr × Obj) → Prop} {news : List (Addr × Obj)}
abbrev TypeTurn (prog : Program) (w : World) (A : Around) (h₀ : Heap) (L : Addr) (m : Str → Option Value) (env : Env) (elt : PySem.Expr) (x : Str) (scope : Scope) (cl : List (Str × Addr)) (s : Shared) (S : List (Addr × Obj) → Prop) (news : List (Addr × Obj)) (v r : Value) : Prop :=
  ∀ I oI C oC D m₂ ys h tk (E' : Value → Shared → Prop), LCg.NsObj oC m₂ → m₂ x = some v → Fr h₀ L h m → News h₀ L h ((I, oI) :: (C, oC) :: (D, LCg.lst ys) :: news) → LCg.Off3 I C D news → ((@Ne Nat I C) ∧ (@Ne Nat I D) ∧ (@Ne Nat C D)) →
      wpAny (model prog w) A (eval elt (compEnvC scope cl C env)) (LCg.CompEnd h₀ L m { s with heap := h, toks := tk } I oI C oC D (LCg.lst ys) S (fun y news' => news' = news ∧ y = r)) E' { s with heap := h, toks := tk }
theorem type_rest {vs : List Value} {its : List Item} (hv : ItemsAre vs its)
    (tn : ∀ z t, TypeTurn prog w A h₀ L m env elt x scope cl s S news (.int z t) (.type "int"))
    (ts : ∀ z t, TypeTurn prog w A h₀ L m env elt x scope cl s S news (.str z t) (.type "str"))
    (td : ∀ z t, TypeTurn prog w A h₀ L m env elt x scope cl s S news (.bytes z t) (.type "bytes"))
    (fin : Fin (its.map kindV) news) : LCg.CompRest prog w A h₀ L m env elt x scope cl s S (fun i v => vs.toArray[i]? = some v) Fin vs.toArray.size 0 [] news := by
  have key : ∀ (j i : Nat), i + j = vs.length → LCg.CompRest prog w A h₀ L m env elt x scope cl s S (fun i v => vs.toArray[i]? = some v) Fin j i ((its.take i).map kindV) news := by
    intro j
    induction j with
    | zero =>
      intro i hi
      have e : i = its.length := by rw [← items_len hv]; omega
      subst e
      rw [List.take_length]
      exact LCg.CompRest.zero fin
    | succ j ih =>
      intro i hi
      refine LCg.CompRest.succ ?_
      intro v I oI C oC D m₂ h tk E' hv' hC hx F N off ne
      obtain ⟨t, h1, h2⟩ := items_at hv (i := i) (v := v) (by simpa using hv')
      have turn : TypeTurn prog w A h₀ L m env elt x scope cl s S news v (kindV t) := by
        cases t with
        | n z => cases v <;> first | exact h2.elim | exact tn _ _
        | s z => cases v <;> first | exact h2.elim | exact ts _ _
        | d z => cases v <;> first | exact h2.elim | exact td _ _
      refine wpAny_mono (turn I oI C oC D m₂ _ h tk E' hC hx F N off ne) (fun y s₂ hq => ?_) fun _ _ e => e
      obtain ⟨h', tk', nw, e, F', N', off', hS, rfl, rfl⟩ := hq
      refine ⟨h', tk', nw, e, F', N', off', hS, ?_⟩
      have := ih (i + 1) (by omega)
      rw [List.take_add_one, h1] at this
      simpa using this
  simpa using key vs.length 0 (by omega)
end
theorem types_ne {prog : Program} {w : World} {A : Around} {E : Value → Shared → Prop} {s : Shared} {a b : Addr} {l : List Value} {Q : Value → Shared → Prop}
    (ha : s.heap.IsList a l.toArray) (hb : s.heap.IsList b l.toArray) (hA : A.units < cLine) (h : Q (.bool false) s) : wpAny (model prog w) A (compareOp .NotEq (.ref a) (.ref b)) Q E s := by
  refine PySem.SeqAt.RcNeAt.lists (e := fun _ => true) ha hb rfl hA (fun j h1 h2 => PySem.SeqAt.EqAt.same _) prog w E Q (by rw [all_true]; exact h)
theorem lst_at {h₀ h : Heap} {L D : Addr} {ys : List Value} {news : List (Addr × Obj)} (N : News h₀ L h news) (hm : (D, LCg.lst ys) ∈ news) : h.IsList D ys.toArray := ⟨_, (N _ hm).1, rfl, ys.length, rfl⟩
set_option maxRecDepth 100000 in
set_option maxHeartbeats 8000000 in
theorem seg7 {w : World} {dp un : Nat} {gd : Option (List Code)} {a : Addr} {ccd : Value} {A₀ : Around} {base h₀ : Heap} {L : Addr} {m : Str → Option Value} {s : Shared}
    {p : Program} {loose : List Str} {mean : ExcName → Option Value} {mg mb : Str → Option Value}
    {Q : Flow → Shared → Prop} {rest : List Stmt} {NA PA KA PB LA TL DL pn ln nn mn : Nat} {kv pv nv pv' lv vs us : List Value} {R : List (Addr × Obj)} {σ : StIds} {y : LyIds} {c : CS} {its : List Item} {msg msg' : Str} {t t' : Tok}
    (G : Gr 10 w dp un lawScope [] A₀ base h₀ p loose mean mg mb) (F : Fr h₀ L s.heap m) (hm : ∀ p ∈ names6 σ TL DL PB LA NA PA KA msg msg' t t', m p.1 = some p.2)
    (N : News h₀ L s.heap (led6 w σ y c TL DL KA LA PB PA NA vs us kv lv pv' pv nv nn mn ln pn R)) (hv : ItemsAre vs its) (hu' : ItemsAre us its) (hz : its.length ≤ 100)
    (hQ : ∀ h' tk' m', (∀ p ∈ names6 σ TL DL PB LA NA PA KA msg msg' t t', m' p.1 = some p.2) → Fr h₀ L h' m' → News h₀ L h' (led6 w σ y c TL DL KA LA PB PA NA vs us kv lv pv' pv nv nn mn ln pn R) →
      wpAny (model Challenge.rw_dw0039_01.row.prog w) (ktrTop dp un gd (Str.ofString "law") lawScope L a ccd [] []) (execs rest (envX (Str.ofString "law") lawScope L a ccd [])) Q (fun _ _ => False) { s with heap := h', toks := tk' }) :
    wpAny (model Challenge.rw_dw0039_01.row.prog w) (ktrTop dp un gd (Str.ofString "law") lawScope L a ccd [] []) (execs (lawS 13 :: rest) (envX (Str.ofString "law") lawScope L a ccd [])) Q (fun _ _ => False) s := by
  obtain ⟨B, X, T, XB, TB, hk, C1, C2, hd0, hu⟩ := G
  revert X
  k_fill
  intro X
  replace F := fr_kst hm F
  dsimp only [kstB, names6, law5, lawNames] at F
  dsimp only [led6, lists4, stDict, List.cons_append, List.nil_append] at N
  dsimp only [lawScope, lawS, lawDef, topDef, Challenge.pw_dw0039_01, List.getElem?_cons_succ, List.getElem?_cons_zero, Option.getD_some]
  have hvz := items_len hv
  have huz := items_len hu'
  k_steps
  · rename Fr _ _ _ _ => kF
    rename News _ _ _ _ => kN
    exact hQ _ _ _ (by intro p hp; simp only [List.mem_cons, List.not_mem_nil, or_false] at hp; rcases hp with rfl | rfl | rfl | rfl | rfl | rfl | rfl | rfl | rfl | rfl <;> rfl) kF (news_tail (news_tail kN))
end
section
open PySem PySem.W PyProof.Rows PySem.Spec PySem.Calls
/-- a stream of whole pieces, and what the layer meets behind them -/
structure Laid (ks : List Int) (ws : List (List Int)) (en : Except (Str × Nat) (List Int × Nat)) : Prop where
  one : ∀ as l bs, ws = as ++ l :: bs → b1P ks (laidP as).length = .ok (l, (laidP (as ++ [l])).length)
  last : b1P ks (laidP ws).length = en
  ne : ∀ l ∈ ws, l ≠ []
  nil : ∀ d p, en = .ok (d, p) → d = []
/-- a layer that still holds the octets rem -/
def Holds (ws : List (List Int)) (en : Except (Str × Nat) (List Int × Nat)) (rem : List Int) (st : PS) : Prop :=
  ∃ as bs, ws = as ++ bs ∧ rem = st.buf ++ bs.flatten ∧ ((st.done = false ∧ st.pos = (laidP as).length) ∨ (st.done = true ∧ bs = [] ∧ en = .ok ([], st.pos)))
section
variable {ks : List Int} {ws : List (List Int)} {en : Except (Str × Nat) (List Int × Nat)}
theorem turns_spec (H : Laid ks ws en) {n : Nat} {rem : List Int} {st : PS} (hs : Holds ws en rem st) : ∀ k,
    (∃ st', turnsP ks n k st = .ok st' ∧ Holds ws en rem st' ∧ (n ≤ st'.buf.length ∨ st'.done = true ∨ k ≤ st'.buf.length)) ∨
    (∃ m p st', en = .error (m, p) ∧ rem.length < n ∧ turnsP ks n k st = .error (m, st'))
  | 0 => .inl ⟨st, rfl, hs, .inr (.inr (Nat.zero_le _))⟩
  | k + 1 => by
    rcases turns_spec H (n := n) hs k with ⟨st', h1, h2, h3⟩ | ⟨m, p, st', h1, h2, h3⟩
    · by_cases hb : st'.buf.length < n ∧ st'.done = false
      · obtain ⟨as, bs, e1, e2, e3⟩ := h2
        rcases e3 with ⟨e3, e4⟩ | ⟨e3, _⟩
        · cases bs with
          | nil =>
            rw [List.append_nil] at e1
            subst e1
            have h4 := H.last
            rw [← e4] at h4
            cases hen : en with
            | error e =>
              rw [hen] at h4
              refine .inr ⟨e.1, e.2, ⟨st'.buf, st'.done, e.2⟩, rfl, ?_, ?_⟩
              · rw [e2]; simp; exact hb.1
              · simp only [turnsP, h1, turnP]; rw [if_pos hb, h4]
            | ok r =>
              rw [hen] at h4
              have h5 := H.nil r.1 r.2 hen
              refine .inl ⟨⟨st'.buf ++ r.1, decide (r.1 = []), r.2⟩, ?_, ⟨ws, [], by simp, ?_, .inr ⟨by simpa using h5, rfl, ?_⟩⟩, .inr (.inl (by simpa using h5))⟩
              · simp only [turnsP, h1, turnP]; rw [if_pos hb, h4]
              · simpa [h5] using e2
              · show Except.ok r = Except.ok ([], r.2)
                rw [← h5]
          | cons l bs =>
            have h4 := H.one as l bs e1
            rw [← e4] at h4
            have h5 : l ≠ [] := H.ne l (by rw [e1]; simp)
            have h6 : 0 < l.length := List.length_pos_iff.mpr h5
            refine .inl ⟨⟨st'.buf ++ l, decide (l = []), (laidP (as ++ [l])).length⟩, ?_, ⟨as ++ [l], bs, by simp [e1], by simp [e2], .inl ⟨by simpa using h5, rfl⟩⟩, ?_⟩
            · simp only [turnsP, h1, turnP]; rw [if_pos hb, h4]
            · rcases h3 with h3 | h3 | h3
              · omega
              · rw [hb.2] at h3; cases h3
              · refine .inr (.inr ?_); simp; omega
        · rw [hb.2] at e3; cases e3
      · refine .inl ⟨st', ?_, h2, ?_⟩
        · simp only [turnsP, h1, turnP]; rw [if_neg hb]
        · cases hd : st'.done with
          | true => exact .inr (.inl rfl)
          | false => exact .inl (Nat.not_lt.mp fun h => hb ⟨h, hd⟩)
    · refine .inr ⟨m, p, st', h1, h2, ?_⟩
      simp only [turnsP, h3]
theorem pull_spec (H : Laid ks ws en) (n : Nat) {rem : List Int} {st : PS} (hs : Holds ws en rem st) :
    (∃ st', pullP ks n st = .ok (rem.take n, st') ∧ Holds ws en (rem.drop n) st' ∧ (rem.length < n → st'.done = true)) ∨
    (∃ m p st', en = .error (m, p) ∧ rem.length < n ∧ pullP ks n st = .error (m, st')) := by
  rcases turns_spec H hs n (n := n) with ⟨st', h1, h2, h3⟩ | ⟨m, p, st', h1, h2, h3⟩
  · obtain ⟨as, bs, e1, e2, e3⟩ := h2
    refine .inl ⟨⟨st'.buf.drop n, st'.done, st'.pos⟩, ?_, ?_, ?_⟩
    · rw [pullP, h1, e2]
      dsimp only
      congr 2
      by_cases hn : n ≤ st'.buf.length
      · rw [List.take_append_of_le_length hn]
      · rcases e3 with ⟨e3, _⟩ | ⟨_, e3, _⟩
        · rcases h3 with h3 | h3 | h3
          · exact absurd h3 hn
          · rw [e3] at h3; cases h3
          · exact absurd h3 hn
        · rw [e3]; simp
    · refine ⟨as, bs, e1, ?_, e3⟩
      dsimp only
      rw [e2]
      by_cases hn : n ≤ st'.buf.length
      · rw [List.drop_append_of_le_length hn]
      · rcases e3 with ⟨e3, _⟩ | ⟨_, e3, _⟩
        · rcases h3 with h3 | h3 | h3
          · exact absurd h3 hn
          · rw [e3] at h3; cases h3
          · exact absurd h3 hn
        · rw [e3]; simp
    · intro hl
      dsimp only
      rw [e2, List.length_append] at hl
      rcases h3 with h3 | h3 | h3
      · omega
      · exact h3
      · omega
  · refine .inr ⟨m, p, st', h1, h2, ?_⟩
    rw [pullP, h3]
theorem holds_end {rem : List Int} {st : PS} (h : Holds ws en rem st) (hd : st.done = true) : en = .ok ([], st.pos) := by
  obtain ⟨_, _, _, _, h3⟩ := h
  rcases h3 with ⟨h3, _⟩ | ⟨_, _, h3⟩
  · rw [hd] at h3; cases h3
  · exact h3
/-- how a run ends whose plain words are msg -/
def Ends (en : Except (Str × Nat) (List Int × Nat)) (msg msg' : Str) (st : PS) : Prop := (msg' = msg ∧ en = .ok ([], st.pos)) ∨ ∃ p, en = .error (msg', p)
theorem u1_spec (H : Laid ks ws en) {rem : List Int} {st : PS} (hs : Holds ws en rem st) :
    (∃ v r st', rem = v :: r ∧ u1P ks st = .ok (v, st') ∧ Holds ws en r st') ∨ (rem = [] ∧ ∃ m st', u1P ks st = .error (m, st') ∧ Ends en msgU m st') := by
  rcases pull_spec H 1 hs with ⟨st', h1, h2, h3⟩ | ⟨m, p, st', h1, h2, h3⟩
  · cases rem with
    | nil =>
      refine .inr ⟨rfl, msgU, st', ?_, .inl ⟨rfl, holds_end h2 (h3 (by simp))⟩⟩
      rw [u1P, h1]; rfl
    | cons v r =>
      refine .inl ⟨v, r, st', rfl, ?_, by simpa using h2⟩
      rw [u1P, h1]; rfl
  · refine .inr ⟨List.length_eq_zero_iff.mp (by omega), m, st', ?_, .inr ⟨p, h1⟩⟩
    rw [u1P, h3]
theorem d1_spec (H : Laid ks ws en) (mk : Nat → Nat → Str) {rem : List Int} {st : PS} (hs : Holds ws en rem st) :
    (∃ v r st', rem = v :: r ∧ v.toNat ≤ r.length ∧ d1P mk ks st = .ok (r.take v.toNat, st') ∧ Holds ws en (r.drop v.toNat) st') ∨
    (∃ v r m st', rem = v :: r ∧ r.length < v.toNat ∧ d1P mk ks st = .error (m, st') ∧ Ends en (mk v.toNat r.length) m st') ∨
    (rem = [] ∧ ∃ m st', d1P mk ks st = .error (m, st') ∧ Ends en msgU m st') := by
  rcases u1_spec H hs with ⟨v, r, st1, e, h1, h2⟩ | ⟨e, m, st', h1, h2⟩
  · rcases pull_spec H v.toNat h2 with ⟨st', h3, h4, h5⟩ | ⟨m, p, st', h3, h4, h5⟩
    · by_cases hl : v.toNat ≤ r.length
      · refine .inl ⟨v, r, st', e, hl, ?_, h4⟩
        simp only [d1P, h1, h3]
        rw [if_pos (by rw [List.length_take]; omega)]
      · refine .inr (.inl ⟨v, r, mk v.toNat r.length, st', e, by omega, ?_, .inl ⟨rfl, holds_end h4 (h5 (by omega))⟩⟩)
        simp only [d1P, h1, h3]
        rw [if_neg (by rw [List.length_take]; omega), List.length_take, Nat.min_eq_right (by omega)]
    · refine .inr (.inl ⟨v, r, m, st', e, h4, ?_, .inr ⟨p, h3⟩⟩)
      simp only [d1P, h1, h5]
  · refine .inr (.inr ⟨e, m, st', ?_, h2⟩)
    simp only [d1P, h1]
/-- one turn of the two: the layer's reader, and what is due -/
theorem read_spec (H : Laid ks ws en) {kind : Int} (hk : 0 ≤ kind ∧ kind < 3) {oc : List Int} {p : Nat} (hp : p ≤ oc.length) {st : PS} (hs : Holds ws en (oc.drop p) st) :
    (p = oc.length ∧ ∃ m st', readP kind ks st = .error (m, st') ∧ Ends en msgU m st') ∨
    (p ≠ oc.length ∧ ((oc.drop (p + 1)).take (dueSize kind (oc.getD p 0))).length < dueSize kind (oc.getD p 0) ∧ ∃ m st', readP kind ks st = .error (m, st') ∧ Ends en ((if kind = 1 then msgS else msgB) (dueSize kind (oc.getD p 0)) ((oc.drop (p + 1)).take (dueSize kind (oc.getD p 0))).length) m st') ∨
    (p ≠ oc.length ∧ ¬ ((oc.drop (p + 1)).take (dueSize kind (oc.getD p 0))).length < dueSize kind (oc.getD p 0) ∧ ∃ st', readP kind ks st = .ok (dueItem kind (oc.getD p 0) ((oc.drop (p + 1)).take (dueSize kind (oc.getD p 0))), st') ∧ Holds ws en (oc.drop (p + 1 + dueSize kind (oc.getD p 0))) st' ∧ p + 1 + dueSize kind (oc.getD p 0) ≤ oc.length) := by
  have hnil : oc.drop p = [] → p = oc.length := fun h => by rw [List.drop_eq_nil_iff] at h; omega
  have hcons : ∀ v r, oc.drop p = v :: r → p ≠ oc.length ∧ oc.getD p 0 = v ∧ oc.drop (p + 1) = r ∧ r.length = oc.length - (p + 1) := fun v r h => by
    have h1 : p < oc.length := by
      have := congrArg List.length h
      rw [List.length_drop, List.length_cons] at this
      omega
    have h2 : oc[p] :: oc.drop (p + 1) = v :: r := (List.drop_eq_getElem_cons h1).symm.trans h
    obtain ⟨h3, h4⟩ := List.cons.inj h2
    refine ⟨Nat.ne_of_lt h1, ?_, h4, ?_⟩
    · rw [List.getD_eq_getElem?_getD, List.getElem?_eq_getElem h1]; exact h3
    · rw [← h4, List.length_drop]
  have hk' : kind = 0 ∨ kind = 1 ∨ kind = 2 := by omega
  rcases hk' with rfl | rfl | rfl
  · rcases u1_spec H hs with ⟨v, r, st', e, h1, h2⟩ | ⟨e, m, st', h1, h2⟩
    · obtain ⟨c1, c2, c3, c4⟩ := hcons v r e
      rw [c2, c3]
      refine .inr (.inr ⟨c1, ?_, st', ?_, ?_, ?_⟩)
      · exact Nat.not_lt_zero _
      · simp [readP, h1, Except.map, dueItem]
      · show Holds ws en (oc.drop (p + 1)) st'
        rw [c3]; exact h2
      · show p + 1 ≤ oc.length
        omega
    · exact .inl ⟨hnil e, m, st', by simp [readP, h1, Except.map], h2⟩
  · rcases d1_spec H msgS hs with ⟨v, r, st', e, hl, h1, h2⟩ | ⟨v, r, m, st', e, hl, h1, h2⟩ | ⟨e, m, st', h1, h2⟩
    · obtain ⟨c1, c2, c3, c4⟩ := hcons v r e
      rw [c2, c3]
      refine .inr (.inr ⟨c1, ?_, st', ?_, ?_, ?_⟩)
      · show ¬ (r.take v.toNat).length < v.toNat
        rw [List.length_take]; omega
      · simp [readP, h1, Except.map, dueItem, dueSize]
      · show Holds ws en (oc.drop (p + 1 + v.toNat)) st'
        rw [← List.drop_drop, c3]; exact h2
      · show p + 1 + v.toNat ≤ oc.length
        omega
    · obtain ⟨c1, c2, c3, c4⟩ := hcons v r e
      rw [c2, c3]
      refine .inr (.inl ⟨c1, ?_, m, st', by simp [readP, h1, Except.map], ?_⟩)
      · show (r.take v.toNat).length < v.toNat
        rw [List.length_take]; omega
      · show Ends en (msgS v.toNat (r.take v.toNat).length) m st'
        rw [List.length_take, Nat.min_eq_right (by omega)]; exact h2
    · exact .inl ⟨hnil e, m, st', by simp [readP, h1, Except.map], h2⟩
  · rcases d1_spec H msgB hs with ⟨v, r, st', e, hl, h1, h2⟩ | ⟨v, r, m, st', e, hl, h1, h2⟩ | ⟨e, m, st', h1, h2⟩
    · obtain ⟨c1, c2, c3, c4⟩ := hcons v r e
      rw [c2, c3]
      refine .inr (.inr ⟨c1, ?_, st', ?_, ?_, ?_⟩)
      · show ¬ (r.take v.toNat).length < v.toNat
        rw [List.length_take]; omega
      · simp [readP, h1, Except.map, dueItem, dueSize]
      · show Holds ws en (oc.drop (p + 1 + v.toNat)) st'
        rw [← List.drop_drop, c3]; exact h2
      · show p + 1 + v.toNat ≤ oc.length
        omega
    · obtain ⟨c1, c2, c3, c4⟩ := hcons v r e
      rw [c2, c3]
      refine .inr (.inl ⟨c1, ?_, m, st', by simp [readP, h1, Except.map], ?_⟩)
      · show (r.take v.toNat).length < v.toNat
        rw [List.length_take]; omega
      · show Ends en (msgB v.toNat (r.take v.toNat).length) m st'
        rw [List.length_take, Nat.min_eq_right (by omega)]; exact h2
    · exact .inl ⟨hnil e, m, st', by simp [readP, h1, Except.map], h2⟩
theorem kind_in' {kinds : List Int} (h : ∀ k ∈ kinds, 0 ≤ k ∧ k < 3) (i : Nat) : 0 ≤ kinds.getD i 0 ∧ kinds.getD i 0 < 3 := by
  rw [List.getD_eq_getElem?_getD]
  cases e : kinds[i]? with
  | none => decide
  | some k => exact h k (List.mem_of_getElem? e)
/-- the two runs, turn by turn -/
theorem runs_spec (H : Laid ks ws en) {oc kinds : List Int} (hoc : oc = ws.flatten) (hk : ∀ k ∈ kinds, 0 ≤ k ∧ k < 3) : ∀ k,
    (∃ its p st, duesP oc kinds k = .ok (its, p) ∧ runsP ks kinds k ⟨[], false, 0⟩ = .ok (its, st) ∧ k ≤ p ∧ p ≤ oc.length ∧ Holds ws en (oc.drop p) st) ∨
    (∃ its msg m st, duesP oc kinds k = .error (its, msg) ∧ runsP ks kinds k ⟨[], false, 0⟩ = .error (its, m, st) ∧ Ends en msg m st)
  | 0 => .inl ⟨[], 0, ⟨[], false, 0⟩, rfl, rfl, Nat.le_refl _, Nat.zero_le _, [], ws, rfl, by simpa using hoc, .inl ⟨rfl, rfl⟩⟩
  | k + 1 => by
    rcases runs_spec H hoc hk k with ⟨its, p, st, h1, h2, h3, h4, h5⟩ | ⟨its, msg, m, st, h1, h2, h3⟩
    · rcases read_spec H (kind_in' hk (k % kinds.length)) h4 h5 with ⟨c1, m, st', c2, c3⟩ | ⟨c1, c2, m, st', c3, c4⟩ | ⟨c1, c2, st', c3, c4, c5⟩
      · refine .inr ⟨its, msgU, m, st', ?_, ?_, c3⟩
        · simp only [duesP, h1]; rw [if_pos c1]
        · simp only [runsP, h2, c2]
      · refine .inr ⟨its, _, m, st', ?_, ?_, c4⟩
        · simp only [duesP, h1]; rw [if_neg c1, if_pos c2]
        · simp only [runsP, h2, c3]
      · refine .inl ⟨its ++ [dueItem (kinds.getD (k % kinds.length) 0) (oc.getD p 0) ((oc.drop (p + 1)).take (dueSize (kinds.getD (k % kinds.length) 0) (oc.getD p 0)))], _, st', ?_, ?_, ?_, c5, c4⟩
        · simp only [duesP, h1]; rw [if_neg c1, if_neg c2]
        · simp only [runsP, h2, c3]
        · omega
    · refine .inr ⟨its, msg, m, st, ?_, ?_, h3⟩
      · simp only [duesP, h1]
      · simp only [runsP, h2]
theorem runs_end (H : Laid ks ws en) {oc kinds : List Int} (hoc : oc = ws.flatten) (hk : ∀ k ∈ kinds, 0 ≤ k ∧ k < 3) {n : Nat} (hn : oc.length ≤ n) :
    ∃ its msg m st, duesP oc kinds (oc.length + 1) = .error (its, msg) ∧ runsP ks kinds (n + 1) ⟨[], false, 0⟩ = .error (its, m, st) ∧ Ends en msg m st := by
  rcases runs_spec H hoc hk (oc.length + 1) with ⟨its, p, st, h1, h2, h3, h4, h5⟩ | ⟨its, msg, m, st, h1, h2, h3⟩
  · omega
  · refine ⟨its, msg, m, st, h1, ?_, h3⟩
    have := runsP_err h2 (n - oc.length)
    rwa [show oc.length + 1 + (n - oc.length) = n + 1 by omega] at this
end
theorem laid_app (as bs : List (List Int)) : laidP (as ++ bs) = laidP as ++ laidP bs := by simp [laidP]
theorem laid_cons (l : List Int) (bs : List (List Int)) : laidP (l :: bs) = (l.length : Int) :: (l ++ laidP bs) := by simp [laidP]
theorem b1_whole {as : List (List Int)} {l tl : List Int} : b1P (laidP as ++ (l.length : Int) :: (l ++ tl)) (laidP as).length = .ok (l, (laidP (as ++ [l])).length) := by
  have e1 : (laidP as ++ (l.length : Int) :: (l ++ tl)).getD (laidP as).length 0 = (l.length : Int) := by simp
  have e2 : (laidP as ++ (l.length : Int) :: (l ++ tl)).drop ((laidP as).length + 1) = l ++ tl := by simp
  unfold b1P
  rw [e1, e2, Int.toNat_natCast, if_neg (by simp), if_neg (by simp; omega)]
  rw [laidP_snoc]
  simp only [List.take_left', List.length_append, List.length_singleton]
  rw [Nat.add_assoc]
/-- the whole: the pieces, an empty one, and what lies behind it -/
theorem laid_whole {ls : List (List Int)} (hne : ∀ l ∈ ls, l ≠ []) (tl : List Int) : Laid (laidP ls ++ [0] ++ tl) ls (.ok ([], (laidP ls).length + 1)) where
  one := fun as l bs e => by
    subst e
    rw [laid_app, laid_cons, List.append_assoc, List.append_assoc, List.cons_append, List.append_assoc]
    exact b1_whole
  last := by
    unfold b1P
    have e1 : (laidP ls ++ [0] ++ tl).getD (laidP ls).length 0 = 0 := by simp
    rw [e1, if_neg (by simp), if_neg (by simp)]
    simp
  ne := hne
  nil := fun d p h => by cases h; rfl
/-- what the cut stream's last piece is refused with -/
def cutMsg (place cut : Nat) : List (List Int) → Str
  | [] => msgU
  | l :: _ => if place < cut then msgB l.length (cut - place - 1) else msgU
/-- the cut: whole pieces, and one that is cut, or none -/
theorem laid_cut {ws bs : List (List Int)} {cut : Nat} (hne : ∀ l ∈ ws, l ≠ []) (h1 : (laidP ws).length ≤ cut) (h2 : ∀ l r, bs = l :: r → cut < (laidP ws).length + 1 + l.length) (h3 : bs = [] → cut = (laidP ws).length) :
    ∃ p, Laid ((laidP (ws ++ bs) ++ [0]).take cut) ws (.error (cutMsg (laidP ws).length cut bs, p)) := by
  have hlen : ((laidP (ws ++ bs) ++ [0]).take cut).length = cut := by
    rw [List.length_take, laid_app, List.length_append, List.length_append]
    cases bs with
    | nil => have := h3 rfl; simp; omega
    | cons l r => have := h2 l r rfl; rw [laid_cons]; simp; omega
  have hpre : ∀ as l cs, ws = as ++ l :: cs → ∃ tl, (laidP (ws ++ bs) ++ [0]).take cut = laidP as ++ (l.length : Int) :: (l ++ tl) := fun as l cs e => by
    subst e
    refine ⟨(laidP cs ++ (laidP bs ++ [0])).take (cut - (laidP as).length - 1 - l.length), ?_⟩
    rw [laid_app, laid_cons, List.length_append, List.length_cons, List.length_append] at h1
    rw [laid_app, laid_app, laid_cons, List.append_assoc, List.append_assoc, List.take_append, List.take_of_length_le (by omega)]
    congr 1
    obtain ⟨j, hj⟩ : ∃ j, cut - (laidP as).length = j + 1 := ⟨cut - (laidP as).length - 1, by omega⟩
    rw [hj, List.cons_append, List.take_succ_cons, List.append_assoc, List.take_append, List.take_of_length_le (by omega), Nat.add_sub_cancel]
  by_cases hc : cut ≤ (laidP ws).length
  · have hc' : cut = (laidP ws).length := by omega
    refine ⟨(laidP ws).length, ⟨fun as l cs e => ?_, ?_, hne, fun d p h => by cases h⟩⟩
    · obtain ⟨tl, ht⟩ := hpre as l cs e
      rw [ht]; exact b1_whole
    · unfold b1P
      rw [hlen, if_pos hc]
      cases bs with
      | nil => rfl
      | cons l r => rw [show cutMsg (laidP ws).length cut (l :: r) = msgU from if_neg (by omega)]
  · cases bs with
    | nil => have := h3 rfl; omega
    | cons l r =>
      have h2' := h2 l r rfl
      refine ⟨cut, ⟨fun as l cs e => ?_, ?_, hne, fun d p h => by cases h⟩⟩
      · obtain ⟨tl, ht⟩ := hpre as l cs e
        rw [ht]; exact b1_whole
      · have e1 : ((laidP (ws ++ l :: r) ++ [0]).take cut).getD (laidP ws).length 0 = (l.length : Int) := by
          rw [List.getD_eq_getElem?_getD, List.getElem?_take, if_pos (by omega), laid_app, laid_cons]
          simp
        unfold b1P
        rw [hlen, e1, Int.toNat_natCast, if_neg hc, if_pos (by omega)]
        rw [show cutMsg (laidP ws).length cut (l :: r) = msgB l.length (cut - (laidP ws).length - 1) from if_pos (by omega), Nat.sub_sub]
theorem flatten_filter : ∀ ls : List (List Int), (ls.filter fun l => !l.isEmpty).flatten = ls.flatten
  | [] => rfl
  | [] :: r => by simpa using flatten_filter r
  | (a :: l) :: r => by simp [flatten_filter r]
theorem pieces_flat (pl nu : List Int) (h0 : pl.getD 0 0 = 1) (hl : 0 < pl.length) : ∀ i, i < pl.length → (piecesP pl nu i).1.flatten ++ (piecesP pl nu i).2 = pl.take (i + 1)
  | 0, _ => by
    cases pl with
    | nil => cases hl
    | cons a r => simp at h0; simp [piecesP, h0]
  | i + 1, hi => by
    have ih := pieces_flat pl nu h0 hl i (by omega)
    have e : pl.take (i + 1 + 1) = pl.take (i + 1) ++ [pl.getD (i + 1) 0] := by
      rw [List.take_add_one, List.getElem?_eq_getElem hi, List.getD_eq_getElem?_getD, List.getElem?_eq_getElem hi]; rfl
    rw [e, ← ih, piecesP]
    split <;> simp
/-- the pieces that the law lays -/
def lawLs (pl nu : List Int) : List (List Int) := ((piecesP pl nu (pl.length - 1)).1 ++ [(piecesP pl nu (pl.length - 1)).2]).filter fun l => !l.isEmpty
theorem lawLs_flat {pl nu : List Int} (h0 : pl.getD 0 0 = 1) (hl : 0 < pl.length) : (lawLs pl nu).flatten = pl := by
  rw [lawLs, flatten_filter, List.flatten_append]
  have := pieces_flat pl nu h0 hl (pl.length - 1) (by omega)
  rw [show pl.length - 1 + 1 = pl.length by omega, List.take_length] at this
  simpa using this
theorem lawLs_ne {pl nu : List Int} : ∀ l ∈ lawLs pl nu, l ≠ [] := fun l hl => by
  have := (List.mem_filter.mp hl).2
  simpa using this
theorem laid_len : ∀ ls : List (List Int), (laidP ls).length = ls.length + ls.flatten.length
  | [] => rfl
  | l :: r => by rw [laid_cons, List.length_cons, List.length_append, laid_len r, List.flatten_cons, List.length_append, List.length_cons]; omega
theorem flat_le : ∀ {ls : List (List Int)}, (∀ l ∈ ls, l ≠ []) → ls.length ≤ ls.flatten.length
  | [], _ => Nat.le_refl _
  | l :: r, h => by
    have := flat_le (ls := r) fun x hx => h x (.tail _ hx)
    have h1 : 0 < l.length := List.length_pos_iff.mpr (h l (.head _))
    rw [List.flatten_cons, List.length_append, List.length_cons]
    omega
theorem laid_in : ∀ {ls : List (List Int)}, (∀ k ∈ ls.flatten, 0 ≤ k ∧ k < 256) → ls.flatten.length < 256 → ∀ k ∈ laidP ls, 0 ≤ k ∧ k < 256
  | [], _, _, k, hk => by cases hk
  | l :: r, h, hz, k, hk => by
    rw [List.flatten_cons] at h
    rw [List.flatten_cons, List.length_append] at hz
    rw [laid_cons] at hk
    rcases List.mem_cons.mp hk with rfl | hk
    · omega
    · rcases List.mem_append.mp hk with hk | hk
      · exact h k (List.mem_append_left _ hk)
      · exact laid_in (fun z hz => h z (List.mem_append_right _ hz)) (by omega) k hk
theorem law_whole {ls : List (List Int)} {pl ki : List Int} (hne : ∀ l ∈ ls, l ≠ []) (hpl : ls.flatten = pl) (hk : ∀ k ∈ ki, 0 ≤ k ∧ k < 3) :
    ∃ told msg st, runsP ((laidP ls ++ [0]) ++ [5, 0, 9]) ki (pl.length + 1) ⟨[], false, 0⟩ = .error (told, msg, st) ∧ duesP pl ki (pl.length + 1) = .error (told, msg) ∧ st.pos = (laidP ls ++ [0]).length := by
  obtain ⟨its, msg, m, st, h1, h2, h3⟩ := runs_end (laid_whole hne [5, 0, 9]) hpl.symm hk (Nat.le_refl _)
  rcases h3 with ⟨rfl, h3⟩ | ⟨p, h3⟩
  · refine ⟨its, m, st, h2, h1, ?_⟩
    have := (Prod.mk.inj (Except.ok.inj h3)).2
    rw [← this]; simp
  · cases h3
theorem law_cut {ws bs : List (List Int)} {ki : List Int} {cut n : Nat} (hne : ∀ l ∈ ws, l ≠ []) (hk : ∀ k ∈ ki, 0 ≤ k ∧ k < 3) (h1 : (laidP ws).length ≤ cut) (h2 : ∀ l r, bs = l :: r → cut < (laidP ws).length + 1 + l.length) (h3 : bs = [] → cut = (laidP ws).length) (hn : ws.flatten.length ≤ n) :
    ∃ told last st, runsP ((laidP (ws ++ bs) ++ [0]).take cut) ki (n + 1) ⟨[], false, 0⟩ = .error (told, cutMsg (laidP ws).length cut bs, st) ∧ duesP ws.flatten ki (ws.flatten.length + 1) = .error (told, last) := by
  obtain ⟨p, H⟩ := laid_cut hne h1 h2 h3
  obtain ⟨its, msg, m, st, h4, h5, h6⟩ := runs_end H rfl hk hn
  refine ⟨its, msg, st, ?_, h4⟩
  rcases h6 with ⟨_, h6⟩ | ⟨q, h6⟩
  · cases h6
  · rw [h5, (Prod.mk.inj (Except.error.inj h6)).1]
end
section
open PySem PySem.W PyProof.Rows PySem.Spec PySem.Calls
theorem freshS8 : True := by
  w_top off
  k_with_none
  exact trivial
/-- the law's names behind the cut -/
abbrev names8 (cz pz : Int) (ct pt : Tok) (HV PB LA NA PA KA : Nat) (msg : Str) (t : Tok) : List (Str × Value) := (Str.ofString "last", Value.str msg t) :: (Str.ofString "place", Value.int pz pt) :: (Str.ofString "have", Value.ref HV) :: (Str.ofString "cut", Value.int cz ct) :: law5 PB LA NA PA KA
abbrev led8 (HV LA PB NA : Nat) (hv lv pv' nv : List Value) (hn ln pn : Nat) (R : List (Addr × Obj)) : List (Addr × Obj) := (HV, listOf hv.toArray hn) :: (LA, listOf lv.toArray ln) :: (PB, listOf pv'.toArray pn) :: (NA, listOf nv.toArray 0) :: R
set_option maxRecDepth 100000 in
set_option maxHeartbeats 8000000 in
theorem seg8 {w : World} {dp un : Nat} {gd : Option (List Code)} {a : Addr} {ccd : Value} {A₀ : Around} {base h₀ : Heap} {L : Addr} {m : Str → Option Value} {s : Shared}
    {p : Program} {loose : List Str} {mean : ExcName → Option Value} {mg mb : Str → Option Value}
    {Q : Flow → Shared → Prop} {rest : List Stmt} {NA PA KA PB LA pn ln : Nat} {nv pv' lv : List Value} {R : List (Addr × Obj)} {lz nu : List Int}
    (G : Gr 10 w dp un lawScope [] A₀ base h₀ p loose mean mg mb) (F : Fr h₀ L s.heap m) (hm : ∀ p ∈ law5 PB LA NA PA KA, m p.1 = some p.2)
    (N : News h₀ L s.heap ((LA, listOf lv.toArray ln) :: (PB, listOf pv'.toArray pn) :: (NA, listOf nv.toArray 0) :: R)) (hlv : IntsAre lv lz) (hnv : IntsAre nv nu) (h0 : 0 < lz.length) (h1 : lz.length ≤ 300) (h2 : nu.length ≤ 60)
    (hQ : ∀ h' tk' m' (HV : Nat) cz ct pt t, 0 ≤ cz → cz < (lz.length : Int) → @LT.lt Nat _ LA HV ∧ @LT.lt Nat _ PB HV ∧ @LT.lt Nat _ NA HV ∧ AllLt HV R → (∀ p ∈ names8 cz 0 ct pt HV PB LA NA PA KA msgU t, m' p.1 = some p.2) → Fr h₀ L h' m' → News h₀ L h' (led8 HV LA PB NA [] lv pv' nv 0 ln pn R) →
      wpAny (model Challenge.rw_dw0039_01.row.prog w) (ktrTop dp un gd (Str.ofString "law") lawScope L a ccd [] []) (execs rest (envX (Str.ofString "law") lawScope L a ccd [])) Q (fun _ _ => False) { s with heap := h', toks := tk' }) :
    wpAny (model Challenge.rw_dw0039_01.row.prog w) (ktrTop dp un gd (Str.ofString "law") lawScope L a ccd [] []) (execs (lawS 14 :: lawS 15 :: lawS 16 :: lawS 17 :: rest) (envX (Str.ofString "law") lawScope L a ccd [])) Q (fun _ _ => False) s := by
  obtain ⟨B, X, T, XB, TB, hk, C1, C2, hd0, hu⟩ := G
  revert X
  k_fill
  intro X
  replace F := fr_kst hm F
  dsimp only [kstB, law5, lawNames] at F
  dsimp only [lawScope, lawS, lawDef, topDef, Challenge.pw_dw0039_01, List.getElem?_cons_succ, List.getElem?_cons_zero, Option.getD_some]
  have hl9 := hlv.length
  k_steps
  rename Fr _ _ _ _ => kF
  rename News _ _ _ _ => kN
  rename @LT.lt Nat _ LA _ ∧ _ => l1'
  exact hQ _ _ _ _ _ _ _ _ (Int.fmod_nonneg_of_pos _ (by omega)) (Int.fmod_lt_of_pos _ (by omega)) l1' (by intro p hp; simp only [List.mem_cons, List.not_mem_nil, or_false] at hp; rcases hp with rfl | rfl | rfl | rfl | rfl | rfl | rfl | rfl | rfl <;> rfl) kF kN
end
section
open PySem PySem.W PyProof.Rows PySem.Spec PySem.Calls
theorem freshS9 : True := by
  w_top off
  k_with_none
  (k_with "call builtin:len!" => (k_here; (with_reducible show wpAny _ _ (call (Value.builtin "len") [Value.ref _]) _ _ _); k_dflt (refine' len_mem ?k1Zz ?k2Zz ?k3Zz ?k4Zz ?_; (case k1Zz => k_asm); (case k2Zz => (repeat (first | assumption | refine List.Mem.tail _ ?_))); (case k3Zz => assumption); (case k4Zz => omega)); k_whole))
  (k_with "call builtin:list.extend!" => (k_here; (with_reducible show wpAny _ _ (call (Value.builtin "list.extend") [Value.ref _, Value.ref _]) _ _ _); k_dflt (refine' ext_mem ?FZz ?NZz ?bZz ?UZz ?jZz ?h0Zz ?hvZz ?hmZz ?_; (case FZz => k_asm); (case NZz => k_asm); (case bZz => (repeat (first | assumption | refine List.Mem.tail _ ?_))); (case UZz => k_upd); (case jZz => assumption); (case h0Zz => omega); (case hvZz => omega); (case hmZz => omega)); intro h'Zz F'Zz N'Zz; (try dsimp only [List.nil_append, List.cons_append] at N'Zz)))
  (k_with "binaryOp Mod str ref!" => (k_here; k_dflt (refine' pctB2 ?kNZz ?kbZz ?kXZz ?kYZz ?kvZz ?knZz ?_; (case kNZz => k_asm); (case kbZz => k_mem); (case kXZz => exact rfl); (case kYZz => exact (Int.toNat_of_nonneg (by omega)).symm); (case kvZz => omega); (case knZz => omega)); k_whole; intro t'Zz k'Zz))
  exact trivial
theorem pctB2 {prog : Program} {w : World} {A : Around} {E : Value → Shared → Prop} {s : Shared} {t t1 t2 : Tok} {Q : Value → Shared → Prop} {b L : Addr} {k : Nat} {h₀ : Heap} {news : List (Addr × Obj)} {v n : Nat} {X Y : Int}
    (N : News h₀ L s.heap news) (hb : (b, ({ cls := .type "tuple", data := .seq #[.int X t1, .int Y t2] k } : Obj)) ∈ news) (hX : X = (v : Int)) (hY : Y = (n : Int)) (hv : v < 100000) (hn : n < 100000)
    (h : ∀ t' k, Q (.str (msgB v n) t') { s with toks := k }) :
    wpAny (model prog w) A (binaryOp .Mod (.str (Str.ofString "expected %d bytes in a bytes1, but only %d remain") t) (.ref b)) Q E s := by
  subst hX hY
  exact pctB N hb hv hn h
/-- between two turns of the loop that seeks the cut -/
abbrev CutJ (ls : List (List Int)) (cz : Int) (ct : Tok) (HV PB LA NA PA KA : Nat) (lv pv' nv : List Value) (ln pn : Nat) (R : List (Addr × Obj)) (i : Nat) (m : Str → Option Value) (nx : List (Addr × Obj)) : Prop :=
  ∃ (hv : List Value) (hn : Nat) (pz : Int) (pt t : Tok), nx = led8 HV LA PB NA hv lv pv' nv hn ln pn R ∧ IntsAre hv (ls.take i).flatten ∧ pz = ((laidP (ls.take i)).length : Int) ∧ pz ≤ cz ∧ (∀ p ∈ names8 cz pz ct pt HV PB LA NA PA KA msgU t, m p.1 = some p.2)
/-- what the law has behind that loop -/
structure CutAt (ls : List (List Int)) (cz : Int) (ws bs : List (List Int)) (msg : Str) : Prop where
  ls : ls = ws ++ bs
  le : (laidP ws).length ≤ cz.toNat
  cut : ∀ l r, bs = l :: r → cz.toNat < (laidP ws).length + 1 + l.length
  whole : bs = [] → cz.toNat = (laidP ws).length
  msg : msg = cutMsg (laidP ws).length cz.toNat bs
theorem flat_take {ls : List (List Int)} {i : Nat} {l : List Int} (h : ls[i]? = some l) : (ls.take (i + 1)).flatten = (ls.take i).flatten ++ l := by
  rw [List.take_add_one, h, List.flatten_append]; simp
theorem drop_at {ls : List (List Int)} {i : Nat} {l : List Int} (h : ls[i]? = some l) : ls.drop i = l :: ls.drop (i + 1) := by
  obtain ⟨hi, e⟩ := List.getElem?_eq_some_iff.mp h
  rw [List.drop_eq_getElem_cons hi, e]
theorem cut_done {ls : List (List Int)} {cz pz : Int} (hp : pz = ((laidP ls).length : Int)) (hc : pz ≤ cz) (h1 : cz ≤ ((laidP ls).length : Int)) : CutAt ls cz ls [] msgU where
  ls := (List.append_nil ls).symm
  le := by omega
  cut := fun _ _ h => by cases h
  whole := fun _ => by omega
  msg := rfl
theorem cut_msg {ls : List (List Int)} {i : Nat} {l : List Int} {cz pz : Int} (h : ls[i]? = some l) (hp : pz = ((laidP (ls.take i)).length : Int)) (hc : pz ≤ cz) (hg : cz < pz + 1 + (l.length : Int)) (hl : pz < cz) :
    CutAt ls cz (ls.take i) (ls.drop i) (msgB l.length (cz - pz - 1).toNat) where
  ls := (List.take_append_drop i ls).symm
  le := by omega
  cut := fun a r e => by
    rw [drop_at h] at e
    obtain ⟨rfl, rfl⟩ := List.cons.inj e
    omega
  whole := fun e => by rw [drop_at h] at e; cases e
  msg := by
    rw [drop_at h, show cutMsg (laidP (ls.take i)).length cz.toNat (l :: ls.drop (i + 1)) = msgB l.length (cz.toNat - (laidP (ls.take i)).length - 1) from if_pos (by omega)]
    rw [show (cz - pz - 1).toNat = cz.toNat - (laidP (ls.take i)).length - 1 by omega]
theorem cut_none {ls : List (List Int)} {i : Nat} {l : List Int} {cz pz : Int} (h : ls[i]? = some l) (hp : pz = ((laidP (ls.take i)).length : Int)) (hc : pz ≤ cz) (hg : cz < pz + 1 + (l.length : Int)) (hl : ¬ pz < cz) :
    CutAt ls cz (ls.take i) (ls.drop i) msgU where
  ls := (List.take_append_drop i ls).symm
  le := by omega
  cut := fun a r e => by
    rw [drop_at h] at e
    obtain ⟨rfl, rfl⟩ := List.cons.inj e
    omega
  whole := fun e => by rw [drop_at h] at e; cases e
  msg := by
    rw [drop_at h, show cutMsg (laidP (ls.take i)).length cz.toNat (l :: ls.drop (i + 1)) = msgU from if_neg (by omega)]
theorem perm9 {α : Type} {a b c d p : α} {r o : List α} (h : p ∈ a :: b :: c :: d :: r) : p ∈ a :: b :: c :: d :: (r ++ o) := by
  simp only [List.mem_cons, List.mem_append] at h ⊢
  rcases h with h | h | h | h | h <;> simp only [h, true_or, or_true]
theorem perm9t {α : Type} {a b c d e p : α} {r o : List α} (h : p ∈ a :: b :: c :: d :: r) : p ∈ e :: a :: b :: c :: d :: (r ++ o) := .tail _ (perm9 h)
theorem mem4l {α : Type} {a b c d p : α} {r o : List α} (h : p ∈ a :: b :: c :: d :: r) : p ∈ a :: b :: c :: d :: (r ++ o) := perm9 h
set_option maxRecDepth 100000 in
set_option maxHeartbeats 8000000 in
theorem seg9 {w : World} {dp un : Nat} {gd : Option (List Code)} {a : Addr} {ccd : Value} {A₀ : Around} {base h₀ : Heap} {L : Addr} {m : Str → Option Value} {s : Shared}
    {p : Program} {loose : List Str} {mean : ExcName → Option Value} {mg mb : Str → Option Value}
    {Q : Flow → Shared → Prop} {rest : List Stmt} {NA PA KA PB LA HV pn ln : Nat} {nv lv : List Value} {R : List (Addr × Obj)} {ps : List Pc} {ls : List (List Int)} {cz : Int} {ct pt t : Tok}
    (G : Gr 10 w dp un lawScope [] A₀ base h₀ p loose mean mg mb) (F : Fr h₀ L s.heap m) (hm : ∀ p ∈ names8 cz 0 ct pt HV PB LA NA PA KA msgU t, m p.1 = some p.2)
    (N : News h₀ L s.heap (led8 HV LA PB NA [] lv (pcRefs ps) nv 0 ln pn R)) (hlt : @LT.lt Nat _ LA HV ∧ @LT.lt Nat _ PB HV ∧ @LT.lt Nat _ NA HV ∧ AllLt HV R) (hc0 : 0 ≤ cz) (hc1 : cz ≤ ((laidP ls).length : Int))
    (hP : PcsAre ps ls) (hz : ps.length ≤ 100) (hsub : ∀ q ∈ ps, (q.1, listOf q.2.1.toArray q.2.2) ∈ R) (hlen : (laidP ls).length ≤ 200) (hne : ∀ l ∈ ls, l ≠ [])
    (hQ : ∀ h' tk' m' hv hn pz pt t ws bs msg, CutAt ls cz ws bs msg → IntsAre hv ws.flatten → (∀ p ∈ names8 cz pz ct pt HV PB LA NA PA KA msg t, m' p.1 = some p.2) → Fr h₀ L h' m' → News h₀ L h' (led8 HV LA PB NA hv lv (pcRefs ps) nv hn ln pn R) →
      wpAny (model Challenge.rw_dw0039_01.row.prog w) (ktrTop dp un gd (Str.ofString "law") lawScope L a ccd [] []) (execs rest (envX (Str.ofString "law") lawScope L a ccd [])) Q (fun _ _ => False) { s with heap := h', toks := tk' }) :
    wpAny (model Challenge.rw_dw0039_01.row.prog w) (ktrTop dp un gd (Str.ofString "law") lawScope L a ccd [] []) (execs (lawS 18 :: rest) (envX (Str.ofString "law") lawScope L a ccd [])) Q (fun _ _ => False) s := by
  obtain ⟨B, X, T, XB, TB, hk, C1, C2, hd0, hu⟩ := G
  revert X
  k_fill
  intro X
  replace F := fr_kst hm F
  dsimp only [kstB, names8, law5, lawNames] at F
  dsimp only [led8] at N
  dsimp only [lawScope, lawS, lawDef, topDef, Challenge.pw_dw0039_01, List.getElem?_cons_succ, List.getElem?_cons_zero, Option.getD_some]
  (k_with "pyIter ref" => (k_here; (rename Fr _ _ _ _ => lF'); (rename News _ _ _ _ => lN'); k_dflt (refine' list_grow (CutJ ls cz ct HV PB LA NA PA KA lv (pcRefs ps) nv ln pn R) (by rfl) (List.Mem.tail _ (List.Mem.tail _ (List.Mem.head _))) ?hJl lF' lN' ?start ?turn ?done); (case' hJl => k_dflt (intro i9 m9 nx9 hJ9; obtain ⟨hv9, hn9, pz9, pt9, t9, hnx9, hI9, hpz9, hpc9, hm9⟩ := hJ9; subst hnx9; exact List.Mem.tail _ (List.Mem.tail _ (List.Mem.head _)))); (case' start => k_dflt (exact ⟨[], 0, 0, _, _, rfl, .nil, rfl, hc0, (by intro p hp; simp only [List.mem_cons, List.not_mem_nil, or_false] at hp; rcases hp with rfl | rfl | rfl | rfl | rfl | rfl | rfl | rfl | rfl <;> rfl)⟩)); (case' turn => (k_dflt (intro i9 v9 m9 nx9 h9 tk9 own9 I9 hv9 hown9 hI9 hne9 hJ9 F9 N9; obtain ⟨hv9', hn9, pz9, pt9, t9, hnx9, hL9, hpz9, hpc9, hm9⟩ := hJ9; subst hnx9; obtain ⟨q9, ql9, hq9, hl9, hvq9, hql9⟩ := pcs_at hP hv9; subst hvq9; (have hmem9 : (q9.1, listOf q9.2.1.toArray q9.2.2) ∈ R := hsub _ (List.mem_of_getElem? hq9)); (have hRL : OwnOff R [HV] := own_lt hlt.2.2.2); (have hoff2 : OwnOff (R ++ own9) [HV] := ownOff_app hRL (ownOff_it1 hown9 (hne9 _ (List.Mem.head _)))); (replace hmem9 : (q9.1, listOf q9.2.1.toArray q9.2.2) ∈ R ++ own9 := List.mem_append_left _ hmem9); obtain ⟨o2, ho2⟩ : ∃ o2, o2 = R ++ own9 := ⟨_, rfl⟩; rw [← ho2] at hoff2 hmem9; (simp only [led8, List.cons_append] at N9); rw [← ho2] at N9; rw [(funext fun z => kstB_eq hm9 fun _ => rfl : kstB m9 _ = m9).symm] at F9; dsimp only [kstB, names8, law5, lawNames] at F9; (have hlv9 : hv9'.length ≤ 200 := by (rw [hL9.length]; have h8 := laid_len (ls.take i9); have h9 := laid_le ls i9; omega)); (have hqz9 : ql9.length ≤ 200 := laid_one hl9 hlen); (have hq0 : 0 < ql9.length := List.length_pos_iff.mpr (hne _ (List.mem_of_getElem? hl9))); (have hpz0 : 0 ≤ pz9 := by omega)); k_whole)); (case' done => (k_dflt (intro m9 nx9 h9 tk9 hJ9 F9 N9); refine stop_at ?_))))
  k_steps
  · unfold Stop
    obtain ⟨hv9, hn9, pz9, pt9, t9, hnx9, hI9, hpz9, hpc9, hm9⟩ := hJ9
    subst hnx9
    rw [pcs_take hP] at hI9 hpz9
    exact hQ _ _ _ _ _ _ _ _ _ _ _ (cut_done hpz9 hpc9 hc1) hI9 hm9 F9 N9
  · rename Fr _ _ _ _ => kF
    rename News _ _ _ _ => kN
    rename cz < _ => hgt
    rename pz9 < cz => hlt2
    subst ho2
    exact hQ _ _ _ _ _ _ _ _ _ _ _ (cut_msg hl9 hpz9 hpc9 hgt hlt2) hL9 (by intro p hp; simp only [List.mem_cons, List.not_mem_nil, or_false] at hp; rcases hp with rfl | rfl | rfl | rfl | rfl | rfl | rfl | rfl | rfl <;> rfl) kF (kst_newsOf kN (fun p hp => perm9t hp))
  · rename Fr _ _ _ _ => kF
    rename News _ _ _ _ => kN
    rename cz < _ => hgt
    rename ¬ pz9 < cz => hlt2
    subst ho2
    exact hQ _ _ _ _ _ _ _ _ _ _ _ (cut_none hl9 hpz9 hpc9 hgt hlt2) hL9 (by intro p hp; simp only [List.mem_cons, List.not_mem_nil, or_false] at hp; rcases hp with rfl | rfl | rfl | rfl | rfl | rfl | rfl | rfl | rfl <;> rfl) kF (kst_newsOf kN (fun p hp => perm9 hp))
  · rename Fr _ _ _ _ => kF
    rename News _ _ _ _ => kN
    rename ¬ cz < _ => hgt
    subst ho2
    refine ⟨_, _, _, led8 HV LA PB NA (hv9' ++ _) lv (pcRefs ps) nv (hn9 + 1) ln pn R, _, rfl, kF, kN, fun p hp => mem4l hp, fun p hp => .tail _ (.tail _ (.tail _ (.tail _ (List.mem_append_right _ hp)))), fun p hp => ?_, _, _, _, _, _, rfl, ?_, ?_, ?_, (by intro p hp; simp only [List.mem_cons, List.not_mem_nil, or_false] at hp; rcases hp with rfl | rfl | rfl | rfl | rfl | rfl | rfl | rfl | rfl <;> rfl)⟩
    · rcases List.mem_cons.mp hp with rfl | hp
      · exact hne9 (HV, listOf hv9'.toArray hn9) (.head _)
      · exact hne9 p (.tail _ hp)
    · rw [flat_take hl9]
      exact ints_append hL9 hql9
    · rw [laid_take hl9, List.length_append, List.length_append, hpz9]
      simp only [List.length_singleton, Int.natCast_add]
      omega
    · omega
end
section
open PySem PySem.W PyProof.Rows PySem.Spec PySem.Calls
theorem freshS10 : True := by
  w_top off
  k_with_none
  (k_with "call type:bytes!" => (k_here; (with_reducible show wpAny _ _ (call (Value.type "bytes") [Value.ref _]) _ _ _); k_dflt (refine' KBa.make_K ?kbaFZz ?kbaNZz ?kbahZz ?kbalZz ?kbaiZz ?kbarZz ?kbanZz ?_; (case kbaFZz => k_asm); (case kbaNZz => k_asm); (case kbahZz => rfl); (case kbalZz => exact News.isList (by k_asm) (by k_mem)); (case kbaiZz => assumption); (case kbarZz => assumption); (case kbanZz => omega)); intro h'Zz t'Zz k'Zz F'Zz N'Zz kbaInZz))
  (k_with "call ref!" => (k_here; (with_reducible show wpAny _ _ (call (Value.ref 63) _) _ _ _); refine stop_at ?_))
  (k_with "call ref!" => (k_here; (with_reducible show wpAny _ _ (call (Value.ref 70) _) _ _ _); refine stop_at ?_))
  (k_with "call ref!" => (k_here; (with_reducible show wpAny _ _ (call (Value.ref 77) _) _ _ _); refine stop_at ?_))
  (k_with "call ref!" => (k_here; (with_reducible show wpAny _ _ (call (Value.ref 82) _) _ _ _); refine stop_at ?_))
  (k_with "compareOp Eq ref ref!" => (k_here; (with_reducible show wpAny _ _ (compareOp CmpOp.Eq (Value.ref _) (Value.ref _)) _ _ _); k_dflt (refine' items_eq ?k1Zz ?k2Zz ?k3Zz ?k4Zz ?k5Zz ?_; (case k1Zz => exact News.isList (by k_asm) (by k_mem)); (case k2Zz => exact News.isList (by k_asm) (by k_mem)); (case k3Zz => assumption); (case k4Zz => assumption); (case k5Zz => ktr_units)); k_whole))
  exact trivial
abbrev led10 (w : World) (σ : StIds) (y : LyIds) (KA HV LA PA : Nat) (kv hv lv pv : List Value) (hn ln : Nat) : List (Addr × Obj) :=
  (58, tabS σ.c) :: (σ.c, σ.oc) :: (65, tabL y.c) :: (y.c, y.oc) :: (KA, listOf kv.toArray 0) :: (HV, listOf hv.toArray hn) :: (LA, listOf lv.toArray ln) :: (PA, listOf pv.toArray 0) :: []
abbrev names10 (cz : Int) (ct : Tok) (HV LA PA KA : Nat) (msg : Str) (t : Tok) : List (Str × Value) := [(Str.ofString "last", Value.str msg t), (Str.ofString "have", Value.ref HV), (Str.ofString "cut", Value.int cz ct), (Str.ofString "laid", Value.ref LA), (Str.ofString "plain", Value.ref PA), (Str.ofString "kinds", Value.ref KA)]
theorem perm10 {α : Type} {t yc s k h l q p : α} {A : List α} (hp : p ∈ t :: yc :: (A ++ [s, k, h, l, q])) : p ∈ A ++ s :: t :: yc :: k :: h :: l :: q :: [] := by
  simp only [List.mem_cons, List.mem_append, List.not_mem_nil, or_false] at hp ⊢
  rcases hp with h | h | h | h | h | h | h | h <;> simp only [h, true_or, or_true]
theorem perm_due10 {α : Type} {A Y : List α} {d l k t u h la pa p : α} (hp : p ∈ h :: k :: l :: t :: u :: []) : p ∈ d :: l :: (A ++ (Y ++ (k :: t :: u :: h :: la :: pa :: []))) := by
  simp only [List.mem_cons, List.mem_append, List.not_mem_nil, or_false] at hp ⊢
  rcases hp with h | h | h | h | h <;> simp only [h, true_or, or_true]
set_option maxRecDepth 100000 in
set_option maxHeartbeats 8000000 in
theorem seg10 {w : World} {dp un : Nat} {gd : Option (List Code)} {a : Addr} {ccd : Value} {A₀ : Around} {base h₀ : Heap} {L : Addr} {m : Str → Option Value} {s : Shared}
    {p : Program} {loose : List Str} {mean : ExcName → Option Value} {mg mb : Str → Option Value}
    {Q : Flow → Shared → Prop} {PA KA LA HV hn ln : Nat} {kv pv hv lv : List Value} {σ : StIds} {y : LyIds} {ks0 pl ki lz hs : List Int} {cz : Int} {ct t : Tok}
    (G : Gr 10 w dp un lawScope [] A₀ base h₀ p loose mean mg mb) (F : Fr h₀ L s.heap m)
    {told : List Item} {msg last : Str} {stF : PS} (hm : ∀ p ∈ names10 cz ct HV LA PA KA msg t, m p.1 = some p.2)
    (N : News h₀ L s.heap (led10 w σ y KA HV LA PA kv hv lv pv hn ln)) (S : σ.Ok ks0) (Y : y.Ok σ)
    (hlv : IntsAre lv lz) (hpv : IntsAre pv pl) (hkv : IntsAre kv ki) (hhv : IntsAre hv hs) (hlz : lz.length ≤ 300) (hlb : ∀ k ∈ lz, 0 ≤ k ∧ k < 256) (hpl : pl.length ≤ 90) (hsl : hs.length ≤ 90) (hsb : ∀ k ∈ hs, 0 ≤ k ∧ k < 256)
    (hki0 : 0 < ki.length) (hki1 : ki.length ≤ 100) (hki2 : ∀ k ∈ ki, 0 ≤ k ∧ k < 3) (hc0 : 0 ≤ cz) (hc1 : cz ≤ (lz.length : Int))
    (hrun : runsP (lz.take cz.toNat) ki (pl.length + 1) ⟨[], false, 0⟩ = .error (told, msg, stF)) (hdue : duesP hs ki (hs.length + 1) = .error (told, last))
    (hQ : ∀ h' tk' m', Fr h₀ L h' m' → GrownAt 65 h' → GrownAt 58 h' → Q (.ret (.bool true)) { s with heap := h', toks := tk' }) :
    wpAny (model Challenge.rw_dw0039_01.row.prog w) (ktrTop dp un gd (Str.ofString "law") lawScope L a ccd [] []) (execs (lawS 19 :: lawS 20 :: []) (envX (Str.ofString "law") lawScope L a ccd [])) Q (fun _ _ => False) s := by
  obtain ⟨B, X, T, XB, TB, hk, C1, C2, hd0, hu⟩ := G
  revert X
  k_fill
  intro X
  replace F := fr_kst hm F
  dsimp only [kstB] at F
  dsimp only [led10] at N
  dsimp only [lawScope, lawS, lawDef, topDef, Challenge.pw_dw0039_01, List.getElem?_cons_succ, List.getElem?_cons_zero, Option.getD_some]
  have hcb : KBa.In (lz.take cz.toNat) := fun k hk => hlb k (List.mem_of_mem_take hk)
  k_steps
  unfold Stop
  k_here
  rename News _ _ _ _ => kN5
  refine' mkSb (ks := lz.take cz.toNat) (Gr.mk (by k_asm) (by k_asm) (by k_asm) (by assumption) (by assumption) (by exact rfl) (by assumption) (by assumption) (by omega) (by omega)) (by k_asm) (news_tail kN5) S.oc S.vs (KBa.ints_make hcb) ?kl ?_
  (case kl => (rw [List.length_take]; omega))
  intro h5 tk5 t5 σ5 hσ5 hst5 h585 F5 N5
  k_steps
  unfold Stop
  k_here
  rename News _ _ _ _ => kN6
  refine' mkLb (c := y.c) (oc := y.oc) (own := σ5.led w 0 t5 ++ [(58, tabS σ.c), (KA, listOf kv.toArray 0), (HV, listOf hv.toArray hn), (LA, listOf lv.toArray ln), (PA, listOf pv.toArray 0)]) (Gr.mk (by k_asm) (by k_asm) (by k_asm) (by assumption) (by assumption) (by exact rfl) (by assumption) (by assumption) (by omega) (by omega)) (by k_asm) ?kn6 Y.oc Y.vs ?_
  (case kn6 => exact kst_newsOf kN6 (fun p hp => perm10 hp))
  intro h6 tk6 tb6 y6 hy6 F6 N6
  have o5 : @LT.lt Nat _ 65 σ5.d ∧ @LT.lt Nat _ KA σ5.d ∧ @LT.lt Nat _ HV σ5.d ∧ @LT.lt Nat _ LA σ5.d ∧ @LT.lt Nat _ PA σ5.d := ⟨hst5.lt (65, tabL y.c) (by simp), hst5.lt (KA, listOf kv.toArray 0) (by simp), hst5.lt (HV, listOf hv.toArray hn) (by simp), hst5.lt (LA, listOf lv.toArray ln) (by simp), hst5.lt (PA, listOf pv.toArray 0) (by simp)⟩
  have o6 := led_lt hy6.lt
  have q6 := hy6.lt
  have up6 := hy6.up
  have u6 : @LT.lt Nat _ 58 y6.cf ∧ @LT.lt Nat _ KA y6.cf ∧ @LT.lt Nat _ HV y6.cf ∧ @LT.lt Nat _ LA y6.cf ∧ @LT.lt Nat _ PA y6.cf := ⟨q6.lt (58, tabS σ.c) (by simp), q6.lt (KA, listOf kv.toArray 0) (by simp), q6.lt (HV, listOf hv.toArray hn) (by simp), q6.lt (LA, listOf lv.toArray ln) (by simp), q6.lt (PA, listOf pv.toArray 0) (by simp)⟩
  have hne6 : @Ne Nat σ5.d y6.c := fun e => by
    have g1 := (N6 (σ5.d, stDict w σ5.t1 σ5.t3 (.int ((0 : Nat) : Int) t5) (.ref σ5.fn)) (by simp)).1
    have g2 := (N6 (y6.c, y6.oc) (by simp)).1
    rw [e, g2] at g1
    have g3 := congrArg Obj.data (Option.some.inj g1)
    rw [hy6.oc] at g3
    cases g3
  have hok6 : y6.Ok σ5 := ly_ok hy6 hne6
  have off6 : OwnOff [(KA, listOf kv.toArray 0), (65, tabL y.c), (58, tabS σ.c), (HV, listOf hv.toArray hn), (LA, listOf lv.toArray ln), (PA, listOf pv.toArray 0)] [σ5.d, y6.l] := fun p hp x hx => by
    simp only [List.mem_cons, List.not_mem_nil, or_false] at hp hx
    rcases hp with rfl | rfl | rfl | rfl | rfl | rfl <;> rcases hx with rfl | rfl <;> (apply Nat.ne_of_lt; dsimp only; omega)
  dsimp only [stDict, List.cons_append, List.nil_append] at N6
  k_steps
  unfold Stop
  k_here
  rename News _ _ _ _ => kN7
  refine' runL (c₀ := ⟨#[], tb6, false, 0, t5⟩) (tries := pl.length + 1) (Gr.mk (by k_asm) (by k_asm) (by k_asm) (by assumption) (by assumption) (by exact rfl) (by assumption) (by assumption) (by omega) (by omega)) (by k_asm) (kst_newsOf kN7 (fun p hp => perm_run (A := σ5.led w 0 t5) (Y := y6.led w #[] tb6 false) hp)) off6 hσ5 hok6 ?kp hkv hki0 hki1 hki2 ?kt hrun ?_
  (case kp => exact ⟨Nat.le_refl _, Nat.zero_le _⟩)
  (case kt => omega)
  intro h8 tk8 D8 l8 vs8 nn8 t8 c8 hI8 hc8 F8 N8
  k_steps
  unfold Stop
  k_here
  rename News _ _ _ _ => kN8
  refine' dueL (own := [(l8, listOf vs8.toArray nn8), (65, tabL y.c), (58, tabS σ.c)]) (Gr.mk (by k_asm) (by k_asm) (by k_asm) (by assumption) (by assumption) (by exact rfl) (by assumption) (by assumption) (by omega) (by omega)) (by k_asm) (kst_newsOf kN8 (fun p hp => perm_due10 (A := σ5.led w c8.pos c8.tp) (Y := y6.led w c8.b c8.tb c8.done) hp)) hhv (by omega) hsb hkv hki0 hki1 hki2 hdue ?_
  intro h9 tk9 D9 l9 vs9 nn9 t9 hI9 F9 N9
  k_steps
  rw [beq_self_eq_true]
  exact hQ _ _ _ F9 (GrownAt.of (ps := #[rawInt 38, rawInt 4, .ref y.c]) N9 (by simp)) (GrownAt.of (ps := #[rawInt 29, rawInt 4, .ref σ.c]) N9 (by simp))
end
section
open PySem PySem.W PyProof.Rows PySem.Spec PySem.Calls
theorem dues_len {oc ki : List Int} : ∀ k, (∀ its p, duesP oc ki k = .ok (its, p) → its.length ≤ k) ∧ (∀ its msg, duesP oc ki k = .error (its, msg) → its.length ≤ k)
  | 0 => ⟨fun its p h => by cases h; exact Nat.le_refl _, fun its msg h => by cases h⟩
  | k + 1 => by
    have ih := dues_len (oc := oc) (ki := ki) k
    cases h : duesP oc ki k with
    | error e =>
      refine ⟨fun its p h' => ?_, fun its msg h' => ?_⟩
      · simp only [duesP, h] at h'; cases h'
      · simp only [duesP, h] at h'; cases h'; exact Nat.le_succ_of_le (ih.2 _ _ h)
    | ok r =>
      have h1 := ih.1 r.1 r.2 h
      refine ⟨fun its p h' => ?_, fun its msg h' => ?_⟩
      · simp only [duesP, h] at h'
        split at h'
        · cases h'
        · split at h'
          · cases h'
          · cases h'; simp; omega
      · simp only [duesP, h] at h'
        split at h'
        · cases h'; omega
        · split at h'
          · cases h'; omega
          · cases h'
theorem pcAll_are : ∀ {pcs : List Pc} {ls : List (List Int)}, PcsAre pcs ls → PcsAre (pcAll pcs) (ls.filter fun l => !l.isEmpty)
  | [], [], _ => trivial
  | q :: r, l :: ls, h => by
    have e : q.2.1.isEmpty = l.isEmpty := by
      have := h.1.length
      cases h1 : q.2.1 <;> cases h2 : l <;> simp_all
    unfold pcAll
    rw [List.filter_cons, List.filter_cons, e]
    cases l.isEmpty with
    | true => exact pcAll_are h.2
    | false => exact ⟨h.1, pcAll_are h.2⟩
theorem plain_in {x : Int} : 0 ≤ plainOf x ∧ plainOf x < 256 := by
  unfold plainOf
  split
  · exact ⟨Int.fmod_nonneg_of_pos _ (by decide), Int.fmod_lt_of_pos _ (by decide)⟩
  · have := Int.fmod_lt_of_pos (x.fdiv 9) (show (0 : Int) < 5 by decide)
    exact ⟨Int.fmod_nonneg_of_pos _ (by decide), by omega⟩
theorem kind_lt {x : Int} : 0 ≤ kindOf x ∧ kindOf x < 3 := ⟨Int.fmod_nonneg_of_pos _ (by decide), Int.fmod_lt_of_pos _ (by decide)⟩
theorem pl_in {nu : List Int} : ∀ k ∈ [1, 200, 3] ++ nu.map plainOf, 0 ≤ k ∧ k < 256 := fun k hk => by
  rcases List.mem_append.mp hk with hk | hk
  · simp only [List.mem_cons, List.not_mem_nil, or_false] at hk
    rcases hk with rfl | rfl | rfl <;> decide
  · obtain ⟨x, _, rfl⟩ := List.mem_map.mp hk
    exact plain_in
theorem ki_in {nu : List Int} : ∀ k ∈ [2] ++ nu.map kindOf, 0 ≤ k ∧ k < 3 := fun k hk => by
  rcases List.mem_append.mp hk with hk | hk
  · rw [List.mem_singleton.mp hk]; decide
  · obtain ⟨x, _, rfl⟩ := List.mem_map.mp hk
    exact kind_lt
theorem perm_f2 {α : Type} {a b c d e f g p : α} {r : List α} (h : p ∈ a :: ([c, d, e, f, g] ++ (r ++ [b]))) : p ∈ a :: b :: (r ++ [c, d, e, f, g]) := by
  simp only [List.mem_cons, List.mem_append, List.not_mem_nil, or_false] at h ⊢
  rcases h with h | (h | h | h | h | h) | h | h <;> simp only [h, true_or, or_true]
theorem perm_f5 {α : Type} {la pb k pa na t u p : α} {r : List α} (h : p ∈ u :: t :: k :: ([la, pb, pa, na] ++ r)) : p ∈ la :: pb :: ([k, pa, na, t, u] ++ r) := by
  simp only [List.mem_cons, List.mem_append, List.not_mem_nil, or_false] at h ⊢
  rcases h with h | h | h | (h | h | h | h) | h <;> simp only [h, true_or, or_true]
theorem off1_mem {D : Addr} {l : List (Addr × Obj)} : LCg.Off1 D l → ∀ p ∈ l, @Ne Nat p.1 D := by
  induction l with
  | nil => intro _ p hp; cases hp
  | cons a r ih =>
    intro h p hp
    obtain ⟨h1, h2⟩ := h
    cases hp with
    | head => exact h1
    | tail _ hp => exact ih h2 p hp
abbrev rest8 (σ : StIds) (y : LyIds) (KA PA : Nat) (kv pv : List Value) (R : List (Addr × Obj)) : List (Addr × Obj) := (58, tabS σ.c) :: (σ.c, σ.oc) :: (65, tabL y.c) :: (y.c, y.oc) :: (KA, listOf kv.toArray 0) :: (PA, listOf pv.toArray 0) :: R
theorem perm_f8g {α : Type} {tl dl k t u la pb pa na sc yc p : α} {A Y R : List α} (hA : sc ∈ A) (hY : yc ∈ Y) (h : p ∈ la :: pb :: na :: u :: sc :: t :: yc :: k :: pa :: R) : p ∈ tl :: dl :: (A ++ (Y ++ (k :: t :: u :: ([la, pb, pa, na] ++ R)))) := by
  simp only [List.mem_cons, List.mem_append, List.not_mem_nil, or_false] at h ⊢
  rcases h with h | h | h | h | h | h | h | h | h | h
  all_goals first | (simp only [h, true_or, or_true]; done) | skip
  · rw [h]; exact .inr (.inr (.inl hA))
  · rw [h]; exact .inr (.inr (.inr (.inl hY)))
theorem perm_f8 {w : World} {σ : StIds} {y : LyIds} {c : CS} {TL DL KA LA PB PA NA nn mn ln pn : Nat} {vs us kv lv pv' pv nv : List Value} {R : List (Addr × Obj)} {p : Addr × Obj}
    (h : p ∈ (LA, listOf lv.toArray ln) :: (PB, listOf pv'.toArray pn) :: (NA, listOf nv.toArray 0) :: rest8 σ y KA PA kv pv R) : p ∈ led6 w σ y c TL DL KA LA PB PA NA vs us kv lv pv' pv nv nn mn ln pn R :=
  perm_f8g (.tail _ (.tail _ (.tail _ (.head _)))) (.tail _ (.tail _ (.tail _ (.tail _ (.head _))))) h
theorem perm_f10g {α : Type} {hv la pb na u sc t yc k pa p : α} {R : List α} (h : p ∈ u :: sc :: t :: yc :: k :: hv :: la :: pa :: []) : p ∈ hv :: la :: pb :: na :: u :: sc :: t :: yc :: k :: pa :: R := by
  simp only [List.mem_cons, List.not_mem_nil, or_false] at h ⊢
  rcases h with h | h | h | h | h | h | h | h <;> simp only [h, true_or, or_true]
theorem perm_f10 {w : World} {σ : StIds} {y : LyIds} {KA HV LA PB PA NA hn ln pn : Nat} {kv hv lv pv' pv nv : List Value} {R : List (Addr × Obj)} {p : Addr × Obj}
    (h : p ∈ led10 w σ y KA HV LA PA kv hv lv pv hn ln) : p ∈ led8 HV LA PB NA hv lv pv' nv hn ln pn (rest8 σ y KA PA kv pv R) := by
  exact perm_f10g h
set_option maxRecDepth 100000 in
set_option maxHeartbeats 8000000 in
theorem segs {w : World} {dp un : Nat} {gd : Option (List Code)} {a : Addr} {ccd : Value} {A₀ : Around} {base h₀ : Heap} {L : Addr} {m : Str → Option Value} {s : Shared}
    {p : Program} {loose : List Str} {mean : ExcName → Option Value} {mg mb : Str → Option Value}
    {Q : Flow → Shared → Prop} {SA : Addr} {sv : List Value} {ns : List Int}
    (G : Gr 10 w dp un lawScope [] A₀ base h₀ p loose mean mg mb) (F : Fr h₀ L s.heap m) (hm : ∀ p ∈ [(Str.ofString "script", Value.ref SA)], m p.1 = some p.2) (N : News h₀ L s.heap [(65, tabObj #[]), (58, tabObj #[])])
    (hl : h₀.IsList SA sv.toArray) (hi : IntsAre sv ns) (hn : ns.length ≤ 63)
    (hQ : ∀ h' tk' m', Fr h₀ L h' m' → GrownAt 65 h' → GrownAt 58 h' → Q (.ret (.bool true)) { s with heap := h', toks := tk' }) :
    wpAny (model Challenge.rw_dw0039_01.row.prog w) (ktrTop dp un gd (Str.ofString "law") lawScope L a ccd [] []) (execs (lawS 0 :: lawS 1 :: lawS 2 :: lawS 3 :: lawS 4 :: lawS 5 :: lawS 6 :: lawS 7 :: lawS 8 :: lawS 9 :: lawS 10 :: lawS 11 :: lawS 12 :: lawS 13 :: lawS 14 :: lawS 15 :: lawS 16 :: lawS 17 :: lawS 18 :: lawS 19 :: lawS 20 :: []) (envX (Str.ofString "law") lawScope L a ccd [])) Q (fun _ _ => False) s := by
  refine seg1 G F hm N hl hi hn fun h1 k1 m1 NA PA KA nv pv kv l1 l2 l3 hnv hpv hkv hm1 F1 N1 => ?_
  obtain ⟨nu, hnu⟩ : ∃ nu, nu = ns.take 60 := ⟨_, rfl⟩
  rw [← hnu] at hnv hpv hkv
  have znu : nu.length ≤ 60 := by rw [hnu, List.length_take]; omega
  obtain ⟨pl, hpl⟩ : ∃ pl, pl = [1, 200, 3] ++ nu.map plainOf := ⟨_, rfl⟩
  obtain ⟨ki, hki⟩ : ∃ ki, ki = [2] ++ nu.map kindOf := ⟨_, rfl⟩
  rw [← hpl] at hpv
  rw [← hki] at hkv
  have zpl : pl.length = nu.length + 3 := by rw [hpl, List.length_append, List.length_map]; simp; omega
  have zki : ki.length = nu.length + 1 := by rw [hki, List.length_append, List.length_map]; simp; omega
  have bpl : ∀ k ∈ pl, 0 ≤ k ∧ k < 256 := by rw [hpl]; exact pl_in
  have bki : ∀ k ∈ ki, 0 ≤ k ∧ k < 3 := by rw [hki]; exact ki_in
  have p0 : pl.getD 0 0 = 1 := by rw [hpl]; rfl
  obtain ⟨ls, hls⟩ : ∃ ls, ls = lawLs pl nu := ⟨_, rfl⟩
  have fls : ls.flatten = pl := by rw [hls]; exact lawLs_flat p0 (by omega)
  have nls : ∀ l ∈ ls, l ≠ [] := by rw [hls]; exact lawLs_ne
  have zls : (laidP ls).length ≤ 126 := by
    have h1 := laid_len ls
    have h2 := flat_le nls
    rw [fls] at h1 h2
    omega
  have bls : ∀ k ∈ laidP ls ++ [0], 0 ≤ k ∧ k < 256 := fun k hk => by
    rcases List.mem_append.mp hk with hk | hk
    · exact laid_in (by rw [fls]; exact bpl) (by rw [fls]; omega) k hk
    · rw [List.mem_singleton.mp hk]; decide
  refine seg2 G F1 hm1 N1 l1 l2 l3 hnv hpv hkv zpl znu fun h2 k2 m2 PL nx hJ F2 N2 => ?_
  obtain ⟨pcs, la, lv, ln, pn, rfl, hP, hL, hz, hw, hne, hKA, hoff, hoffT, hm2⟩ := hJ
  obtain ⟨qs, hqs⟩ : ∃ qs, qs = pcs ++ [((la, lv, ln) : Pc)] := ⟨_, rfl⟩
  have eR : pcRefs qs = pcRefs pcs ++ [Value.ref la] := by rw [hqs]; simp
  have eL : pcLed qs = pcLed pcs ++ [((la : Addr), listOf lv.toArray ln)] := by rw [hqs]; simp
  have zqs : qs.length ≤ 100 := by rw [hqs, List.length_append]; simp; omega
  have hP2 := PcsAre.snoc (q := (la, lv, ln)) hL hP
  rw [← hqs] at hP2
  have hP3 := pcAll_are hP2
  have zall : (pcAll qs).length ≤ 100 := Nat.le_trans (List.length_filter_le _ _) zqs
  have N2' : News h₀ L h2 ((PL, listOf (pcRefs qs).toArray pn) :: (base5 NA PA KA kv pv nv ++ pcLed qs)) := by
    rw [eR, eL]; exact kst_newsOf N2 fun p hp => perm_f2 hp
  refine seg3 G F2 hm2 N2' hP2 zqs fun h3 k3 m3 PB offB hm3 F3 N3 => ?_
  have hP4 : PcsAre (pcAll qs) ls := by rw [hls]; exact hP3
  refine seg4 G F3 hm3 N3 hP4 zall (fun q hq => (List.mem_filter.mp hq).1) (by omega) fun h4 k4 m4 LA lv4 ln4 lBA offLA hlv4 hm4 F4 N4 => ?_
  obtain ⟨told, msg, stF, hrun, hdue, hpos⟩ := law_whole nls fls bki
  have zlz : (laidP ls ++ [0]).length ≤ 127 := by rw [List.length_append]; simp; omega
  have ztold : told.length ≤ 100 := Nat.le_trans ((dues_len (oc := pl) (ki := ki) (pl.length + 1)).2 _ _ hdue) (by omega)
  have hB : @Ne Nat PB 65 ∧ @Ne Nat PB 58 := ⟨fun e => off1_mem offB ((65 : Addr), tabObj #[]) (by simp) e.symm, fun e => off1_mem offB ((58 : Addr), tabObj #[]) (by simp) e.symm⟩
  have hA : @Ne Nat LA 65 ∧ @Ne Nat LA 58 := ⟨fun e => offLA ((65 : Addr), tabObj #[]) (by simp) LA (.head _) e.symm, fun e => offLA ((58 : Addr), tabObj #[]) (by simp) LA (.head _) e.symm⟩
  have hq : ∀ p ∈ pcLed qs, @Ne Nat p.1 65 ∧ @Ne Nat p.1 58 := fun p hp => by
    rw [eL] at hp
    rcases List.mem_append.mp hp with hp | hp
    · exact ⟨hoffT p hp 65 (.head _), hoffT p hp 58 (.tail _ (.head _))⟩
    · rw [List.mem_singleton.mp hp]
      exact ⟨Nat.ne_of_gt (show 65 < la by omega), Nat.ne_of_gt (show 58 < la by omega)⟩
  have o58 : OwnOff ((65, tabObj #[]) :: (KA, listOf kv.toArray 0) :: (lists4 LA PB PA NA lv4 (pcRefs (pcAll qs)) pv nv ln4 (pcRefs (pcAll qs)).length ++ pcLed qs)) [58] := fun p hp x hx => by
    rw [List.mem_singleton.mp hx]
    simp only [lists4, List.mem_cons, List.mem_append, List.not_mem_nil, or_false] at hp
    rcases hp with rfl | rfl | (rfl | rfl | rfl | rfl) | hp
    · exact show @Ne Nat 65 58 by decide
    · exact Nat.ne_of_gt (show 58 < KA by omega)
    · exact hA.2
    · exact hB.2
    · exact Nat.ne_of_gt (show 58 < PA by omega)
    · exact Nat.ne_of_gt (show 58 < NA by omega)
    · exact (hq p hp).2
  have o65 : OwnOff ((58, tabObj #[]) :: (KA, listOf kv.toArray 0) :: (lists4 LA PB PA NA lv4 (pcRefs (pcAll qs)) pv nv ln4 (pcRefs (pcAll qs)).length ++ pcLed qs)) [65] := fun p hp x hx => by
    rw [List.mem_singleton.mp hx]
    simp only [lists4, List.mem_cons, List.mem_append, List.not_mem_nil, or_false] at hp
    rcases hp with rfl | rfl | (rfl | rfl | rfl | rfl) | hp
    · exact show @Ne Nat 58 65 by decide
    · exact Nat.ne_of_gt (show 65 < KA by omega)
    · exact hA.1
    · exact hB.1
    · exact Nat.ne_of_gt (show 65 < PA by omega)
    · exact Nat.ne_of_gt (show 65 < NA by omega)
    · exact (hq p hp).1
  refine seg5 (R := pcLed qs) G F4 hm4 (kst_newsOf N4 fun p hp => perm_f5 hp) o58 o65 hlv4 hpv hkv (by omega) bls (by omega) bpl (by omega) (by omega) bki hrun hdue fun h5 k5 m5 σ y c TL DL vs us nn mn t t' hσ hy hc hI hI' hm5 F5 N5 => ?_
  refine seg6 G F5 hm5 N5 hlv4 (by omega) hI hI' ((congrArg PS.pos hc).trans hpos) fun h6 k6 m6 hm6 F6 N6 => ?_
  refine seg7 G F6 hm6 N6 hI hI' ztold fun h7 k7 m7 hm7 F7 N7 => ?_
  refine seg8 (R := rest8 σ y KA PA kv pv (pcLed qs)) G F7 (fun p hp => hm7 p (.tail _ (.tail _ (.tail _ (.tail _ (.tail _ hp)))))) (kst_newsOf N7 fun p hp => perm_f8 hp) hlv4 hnv (by rw [List.length_append]; simp) (by omega) znu fun h8 k8 m8 HV cz ct pt t8 c0 c1 hlt hm8 F8 N8 => ?_
  have c2 : cz ≤ ((laidP ls).length : Int) := by
    rw [List.length_append] at c1
    simp only [List.length_singleton, Int.natCast_add] at c1
    omega
  refine seg9 G F8 hm8 N8 hlt c0 c2 hP4 zall (fun q hq => .tail _ (.tail _ (.tail _ (.tail _ (.tail _ (.tail _ (pcLed_mem (List.mem_filter.mp hq).1))))))) (by omega) nls fun h9 k9 m9 hv hn9 pz pt9 t9 ws bs msg9 hcut hhv hm9 F9 N9 => ?_
  obtain ⟨e1, e2, e3, e4, e5⟩ := hcut
  have zws : ws.flatten.length ≤ pl.length := by rw [← fls, e1, List.flatten_append, List.length_append]; omega
  obtain ⟨told2, last2, st2, hrun2, hdue2⟩ := law_cut (ki := ki) (n := pl.length) (fun l hl => nls l (by rw [e1]; exact List.mem_append_left _ hl)) bki e2 e3 e4 zws
  rw [← e1, ← e5] at hrun2
  refine seg10 (w := w) (ct := ct) (t := t9) (σ := σ) (y := y) (pl := pl) (lz := laidP ls ++ [0]) (hs := ws.flatten) G F9 (fun p hp => ?_) (kst_newsOf N9 fun p hp => perm_f10 (w := w) hp) hσ hy hlv4 hpv hkv hhv (by omega) bls (by omega) (by omega) (fun k hk => bpl k (by rw [← fls, e1, List.flatten_append]; exact List.mem_append_left _ hk)) (by omega) (by omega) bki c0 (by omega) hrun2 hdue2 fun h10 k10 m10 F10 g1 g2 => hQ h10 k10 m10 F10 g1 g2
  simp only [names10, List.mem_cons, List.not_mem_nil, or_false] at hp
  rcases hp with rfl | rfl | rfl | rfl | rfl | rfl <;> exact hm9 _ (by simp)
end
end Mine
namespace Mine
section
open PySem PySem.W PyProof.Rows PySem.Spec PySem.Calls
set_option maxRecDepth 100000 in
set_option maxHeartbeats 8000000 in
theorem holds : PySem.Challenge.rw_dw0039_01.Holds := hd (by
  k_go0
  rename Shared.gens _ = #[] => hg9
  show wpAny (model Challenge.rw_dw0039_01.row.prog _) (ktrTop _ _ _ (Str.ofString "law") lawScope _ _ _ [] []) (execs (lawS 0 :: lawS 1 :: lawS 2 :: lawS 3 :: lawS 4 :: lawS 5 :: lawS 6 :: lawS 7 :: lawS 8 :: lawS 9 :: lawS 10 :: lawS 11 :: lawS 12 :: lawS 13 :: lawS 14 :: lawS 15 :: lawS 16 :: lawS 17 :: lawS 18 :: lawS 19 :: lawS 20 :: []) (envX (Str.ofString "law") lawScope _ _ _ [])) _ _ _
  refine wpAny_mono (segs ⟨by assumption, by assumption, by assumption, by assumption, by assumption, rfl, by assumption, by assumption, by decide, by decide⟩ (by assumption) (fun p hp => by rw [List.mem_singleton.mp hp]; rfl) (by assumption) (by assumption) (by assumption) (by omega) ?_) (fun _ _ h => h) (fun _ _ h => h.elim)
  intro h9 k9 m9 F9 g1 g2
  exact ⟨goodW_bool F9 hg9 (fun _ => rfl) (by wrow_post), g1, g2, trivial⟩)
end
end Mine
theorem PySem.Challenge.cw_dw0039_01_holds : PySem.Challenge.rw_dw0039_01.Holds :=
  Mine.holds
