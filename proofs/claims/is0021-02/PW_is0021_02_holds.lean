import PyProof.Rows.All
import Wide.All
import OpenK.AllK
import Wide.FinOn
import PyProof.ExcBaseAll.Exception
import Lean
import PySem.Challenge.RW_is0021_02
set_option Elab.async false
set_option genSizeOf false
set_option genSizeOfSpec false
set_option genInjectivity false
set_option bootstrap.genMatcherCode false
set_option maxRecDepth 100000
set_option maxHeartbeats 0
set_option linter.unusedSimpArgs false
set_option linter.unusedVariables false
set_option linter.unusedSectionVars false
namespace Mine
theorem no_none {α : Type} {a : α} {C : Prop} (h : (none : Option α) = some a) : C := by cases h
theorem and_l {p q : Bool} (h : (p && q) = true) : p = true := ((Bool.and_eq_true _ _).mp h).1
theorem and_r {p q : Bool} (h : (p && q) = true) : q = true := ((Bool.and_eq_true _ _).mp h).2
theorem no_false {C : Prop} (h : false = true) : C := Bool.noConfusion h
inductive Fld where
  | current | cursor | limit | lb | bra | ket | pv | p1 | p2
  deriving DecidableEq
inductive Cst where
  | g_v | g_oux_ending | g_elision_char | g_keep_with_s | a_0 | a_1 | a_2 | a_3 | a_4 | a_5 | a_6 | a_7 | a_8 | a_9
  deriving DecidableEq
inductive Mth where
  | set_current | get_current | in_grouping | go_in_grouping | in_grouping_b | go_out_grouping | out_grouping_b | eq_s | eq_s_b | find_among | find_among_b | replace_s | slice_from | slice_del
  | r_elisions | r_prelude | r_mark_regions | r_postlude | r_RV | r_R1 | r_R2 | r_standard_suffix | r_i_verb_suffix | r_verb_suffix | r_residual_suffix | r_un_double | r_un_accent | stem | stemWord
  deriving DecidableEq
inductive Cmp where
  | lt | le | gt | ge | eq | ne | isin | notin
  deriving DecidableEq
set_option genCtorIdx false in
inductive CE where
  | int (n : Nat) | neg (n : Nat) | str (s : List Nat) | bool (b : Bool)
  | loc (x : Nat) | fld (a : Fld) | cst (k : Cst) | amS (x : Nat) | amI (x : Nat) | amR (x : Nat)
  | add (a b : CE) | sub (a b : CE) | shr (a b : CE)
  | idx (a b : CE) | item (x : Nat) (b : CE) | cut (a lo hi : CE) | cutL (a lo : CE)
  | call0 (m : Mth) | call1 (m : Mth) (a : CE) | call3 (m : Mth) (a b c : CE)
  | len (a : CE) | min (a b : CE) | ord (a : CE) | starts (a b : CE) | ends (a b : CE)
  | cmp (o : Cmp) (a b : CE)
set_option genCtorIdx false in
inductive CT where
  | not (t : CT) | or (s t : CT) | cmp (o : Cmp) (a b : CE) | ex (e : CE)
set_option genCtorIdx false in
inductive C where
  | nil | pass (k : C) | brk (k : C) | cont (k : C) | ret (e : CE) (k : C) | expr (e : CE) (k : C)
  | setl (x : Nat) (e : CE) (k : C) | setf (a : Fld) (e : CE) (k : C) | augl (x : Nat) (plus : Bool) (e : CE) (k : C) | augf (a : Fld) (plus : Bool) (e : CE) (k : C)
  | ite (t : CT) (a b : C) (k : C) | wh (t : CT) (c : C) (k : C) | forU (x : Nat) (lo hi : CE) (c : C) (k : C) | forD (x : Nat) (hi : CE) (c : C) (k : C)
  | asrt (t : CT) (k : C) | raise (n : Nat) (k : C) | tryc (n : Nat) (c : C) (k : C)
noncomputable abbrev AM := List Nat × Int × Int
inductive V where
  | none | bool (b : Bool) | int (i : Int) | str (s : List Nat) | self | set (l : List Nat) | tab (t : List AM) | among (a : AM)
  deriving DecidableEq
structure F where
  current : List Nat
  cursor : Int
  limit : Int
  lb : Int
  bra : Int
  ket : Int
  pv : Int
  p1 : Int
  p2 : Int
noncomputable def F.get (f : F) : Fld → V
  | .current => .str f.current | .cursor => .int f.cursor | .limit => .int f.limit | .lb => .int f.lb | .bra => .int f.bra | .ket => .int f.ket | .pv => .int f.pv | .p1 => .int f.p1 | .p2 => .int f.p2
noncomputable def F.put (f : F) : Fld → V → Option F
  | .current, .str s => some { f with current := s }
  | .cursor, .int i => some { f with cursor := i }
  | .limit, .int i => some { f with limit := i }
  | .lb, .int i => some { f with lb := i }
  | .bra, .int i => some { f with bra := i }
  | .ket, .int i => some { f with ket := i }
  | .pv, .int i => some { f with pv := i }
  | .p1, .int i => some { f with p1 := i }
  | .p2, .int i => some { f with p2 := i }
  | _, _ => Option.none
noncomputable abbrev Loc := List (Option V)
noncomputable def Loc.at (m : Loc) (x : Nat) : Option V := m.getD x Option.none
noncomputable abbrev Mu := Mth → List V → F → Option (V × F)
noncomputable abbrev Kap := Cst → V
noncomputable def addV : V → V → Option V
  | .int a, .int b => some (.int (a + b))
  | .str a, .str b => if a.length + b.length ≤ 1000 then some (.str (a ++ b)) else Option.none
  | _, _ => Option.none
noncomputable def subV : V → V → Option V
  | .int a, .int b => some (.int (a - b))
  | _, _ => Option.none
noncomputable def shrV : V → V → Option V
  | .int a, .int b => if 0 ≤ a ∧ b = 1 then some (.int (a / 2)) else Option.none
  | _, _ => Option.none
noncomputable def idxV : V → V → Option V
  | .str s, .int i => if 0 ≤ i then (s[i.toNat]?).map fun c => .str [c] else Option.none
  | _, _ => Option.none
noncomputable def itemV : V → V → Option V
  | .tab t, .int i => if 0 ≤ i then (t[i.toNat]?).map .among else Option.none
  | _, _ => Option.none
noncomputable def cutV : V → V → V → Option V
  | .str s, .int lo, .int hi => if 0 ≤ lo ∧ lo ≤ hi ∧ hi ≤ s.length then some (.str ((s.drop lo.toNat).take (hi - lo).toNat)) else Option.none
  | _, _, _ => Option.none
noncomputable def cutLV : V → V → Option V
  | .str s, .int lo => if 0 ≤ lo ∧ lo ≤ s.length then some (.str (s.drop lo.toNat)) else Option.none
  | _, _ => Option.none
noncomputable def lenV : V → Option V
  | .str s => some (.int s.length)
  | .tab t => some (.int t.length)
  | _ => Option.none
noncomputable def minV : V → V → Option V
  | .int a, .int b => some (.int (if b < a then b else a))
  | _, _ => Option.none
noncomputable def ordV : V → Option V
  | .str [c] => some (.int c)
  | _ => Option.none
noncomputable def startsV : V → V → Option V
  | .str a, .str b => some (.bool (b.isPrefixOf a))
  | _, _ => Option.none
noncomputable def endsV : V → V → Option V
  | .str a, .str b => some (.bool (b.isSuffixOf a))
  | _, _ => Option.none
noncomputable def cmpV (o : Cmp) : V → V → Option Bool
  | .int a, .int b => match o with
    | .lt => some (decide (a < b)) | .le => some (decide (a ≤ b)) | .gt => some (decide (a > b)) | .ge => some (decide (a ≥ b)) | .eq => some (decide (a = b)) | .ne => some (!decide (a = b))
    | _ => Option.none
  | .str a, .str b => match o with
    | .eq => some (a == b) | .ne => some (!(a == b))
    | _ => Option.none
  | .str [c], .set l => match o with
    | .isin => some (l.contains c) | .notin => some (!l.contains c)
    | _ => Option.none
  | _, _ => Option.none
section
variable (μ : Mu) (κ : Kap) (m : Loc)
noncomputable def evalE : CE → F → Option (V × F)
  | .int n, f => some (.int n, f)
  | .neg n, f => some (.int (-(n : Int)), f)
  | .str s, f => some (.str s, f)
  | .bool b, f => some (.bool b, f)
  | .loc x, f => (m.at x).map fun v => (v, f)
  | .fld a, f => if m.at 0 = some .self then some (f.get a, f) else Option.none
  | .cst k, f => some (κ k, f)
  | .amS x, f => match m.at x with | some (.among a) => some (.str a.1, f) | _ => Option.none
  | .amI x, f => match m.at x with | some (.among a) => some (.int a.2.1, f) | _ => Option.none
  | .amR x, f => match m.at x with | some (.among a) => some (.int a.2.2, f) | _ => Option.none
  | .add a b, f => (evalE a f).bind fun x => (evalE b x.2).bind fun y => (addV x.1 y.1).map fun v => (v, y.2)
  | .sub a b, f => (evalE a f).bind fun x => (evalE b x.2).bind fun y => (subV x.1 y.1).map fun v => (v, y.2)
  | .shr a b, f => (evalE a f).bind fun x => (evalE b x.2).bind fun y => (shrV x.1 y.1).map fun v => (v, y.2)
  | .idx a b, f => (evalE a f).bind fun x => (evalE b x.2).bind fun y => (idxV x.1 y.1).map fun v => (v, y.2)
  | .item x b, f => (m.at x).bind fun v => (evalE b f).bind fun y => (itemV v y.1).map fun v => (v, y.2)
  | .cut a b c, f => (evalE a f).bind fun x => (evalE b x.2).bind fun y => (evalE c y.2).bind fun z => (cutV x.1 y.1 z.1).map fun v => (v, z.2)
  | .cutL a b, f => (evalE a f).bind fun x => (evalE b x.2).bind fun y => (cutLV x.1 y.1).map fun v => (v, y.2)
  | .call0 n, f => if m.at 0 = some .self then μ n [] f else Option.none
  | .call1 n a, f => if m.at 0 = some .self then (evalE a f).bind fun x => μ n [x.1] x.2 else Option.none
  | .call3 n a b c, f => if m.at 0 = some .self then (evalE a f).bind fun x => (evalE b x.2).bind fun y => (evalE c y.2).bind fun z => μ n [x.1, y.1, z.1] z.2 else Option.none
  | .len a, f => (evalE a f).bind fun x => (lenV x.1).map fun v => (v, x.2)
  | .min a b, f => (evalE a f).bind fun x => (evalE b x.2).bind fun y => (minV x.1 y.1).map fun v => (v, y.2)
  | .ord a, f => (evalE a f).bind fun x => (ordV x.1).map fun v => (v, x.2)
  | .starts a b, f => (evalE a f).bind fun x => (evalE b x.2).bind fun y => (startsV x.1 y.1).map fun v => (v, y.2)
  | .ends a b, f => (evalE a f).bind fun x => (evalE b x.2).bind fun y => (endsV x.1 y.1).map fun v => (v, y.2)
  | .cmp o a b, f => (evalE a f).bind fun x => (evalE b x.2).bind fun y => (cmpV o x.1 y.1).map fun v => (.bool v, y.2)
noncomputable def test : CT → F → Option (Bool × F)
  | .not t, f => (test t f).map fun x => (!x.1, x.2)
  | .or s t, f => (test s f).bind fun x => if x.1 then some (true, x.2) else test t x.2
  | .cmp o a b, f => (evalE μ κ m a f).bind fun x => (evalE μ κ m b x.2).bind fun y => (cmpV o x.1 y.1).map fun v => (v, y.2)
  | .ex e, f => (evalE μ κ m e f).bind fun x => match x.1 with | .bool b => some (b, x.2) | _ => Option.none
end
section
variable {μ : Mu} {κ : Kap} {m : Loc} {f : F}
theorem ev_int {n : Nat} : evalE μ κ m (.int n) f = some (.int n, f) := rfl
theorem ev_neg {n : Nat} : evalE μ κ m (.neg n) f = some (.int (-(n : Int)), f) := rfl
theorem ev_str {s : List Nat} : evalE μ κ m (.str s) f = some (.str s, f) := rfl
theorem ev_bool {b : Bool} : evalE μ κ m (.bool b) f = some (.bool b, f) := rfl
theorem ev_loc {x : Nat} : evalE μ κ m (.loc x) f = (m.at x).map fun v => (v, f) := rfl
theorem ev_fld {a : Fld} : evalE μ κ m (.fld a) f = if m.at 0 = some .self then some (f.get a, f) else Option.none := rfl
theorem ev_cst {k : Cst} : evalE μ κ m (.cst k) f = some (κ k, f) := rfl
theorem ev_amS {x : Nat} : evalE μ κ m (.amS x) f = match m.at x with | some (.among a) => some (.str a.1, f) | _ => Option.none := rfl
theorem ev_amI {x : Nat} : evalE μ κ m (.amI x) f = match m.at x with | some (.among a) => some (.int a.2.1, f) | _ => Option.none := rfl
theorem ev_amR {x : Nat} : evalE μ κ m (.amR x) f = match m.at x with | some (.among a) => some (.int a.2.2, f) | _ => Option.none := rfl
theorem ev_add {a : CE} {b : CE} : evalE μ κ m (.add a b) f = (evalE μ κ m a f).bind fun x => (evalE μ κ m b x.2).bind fun y => (addV x.1 y.1).map fun v => (v, y.2) := rfl
theorem ev_sub {a : CE} {b : CE} : evalE μ κ m (.sub a b) f = (evalE μ κ m a f).bind fun x => (evalE μ κ m b x.2).bind fun y => (subV x.1 y.1).map fun v => (v, y.2) := rfl
theorem ev_shr {a : CE} {b : CE} : evalE μ κ m (.shr a b) f = (evalE μ κ m a f).bind fun x => (evalE μ κ m b x.2).bind fun y => (shrV x.1 y.1).map fun v => (v, y.2) := rfl
theorem ev_idx {a : CE} {b : CE} : evalE μ κ m (.idx a b) f = (evalE μ κ m a f).bind fun x => (evalE μ κ m b x.2).bind fun y => (idxV x.1 y.1).map fun v => (v, y.2) := rfl
theorem ev_item {x : Nat} {b : CE} : evalE μ κ m (.item x b) f = (m.at x).bind fun v => (evalE μ κ m b f).bind fun y => (itemV v y.1).map fun v => (v, y.2) := rfl
theorem ev_cut {a : CE} {b : CE} {c : CE} : evalE μ κ m (.cut a b c) f = (evalE μ κ m a f).bind fun x => (evalE μ κ m b x.2).bind fun y => (evalE μ κ m c y.2).bind fun z => (cutV x.1 y.1 z.1).map fun v => (v, z.2) := rfl
theorem ev_cutL {a : CE} {b : CE} : evalE μ κ m (.cutL a b) f = (evalE μ κ m a f).bind fun x => (evalE μ κ m b x.2).bind fun y => (cutLV x.1 y.1).map fun v => (v, y.2) := rfl
theorem ev_call0 {n : Mth} : evalE μ κ m (.call0 n) f = if m.at 0 = some .self then μ n [] f else Option.none := rfl
theorem ev_call1 {n : Mth} {a : CE} : evalE μ κ m (.call1 n a) f = if m.at 0 = some .self then (evalE μ κ m a f).bind fun x => μ n [x.1] x.2 else Option.none := rfl
theorem ev_call3 {n : Mth} {a : CE} {b : CE} {c : CE} : evalE μ κ m (.call3 n a b c) f = if m.at 0 = some .self then (evalE μ κ m a f).bind fun x => (evalE μ κ m b x.2).bind fun y => (evalE μ κ m c y.2).bind fun z => μ n [x.1, y.1, z.1] z.2 else Option.none := rfl
theorem ev_len {a : CE} : evalE μ κ m (.len a) f = (evalE μ κ m a f).bind fun x => (lenV x.1).map fun v => (v, x.2) := rfl
theorem ev_min {a : CE} {b : CE} : evalE μ κ m (.min a b) f = (evalE μ κ m a f).bind fun x => (evalE μ κ m b x.2).bind fun y => (minV x.1 y.1).map fun v => (v, y.2) := rfl
theorem ev_ord {a : CE} : evalE μ κ m (.ord a) f = (evalE μ κ m a f).bind fun x => (ordV x.1).map fun v => (v, x.2) := rfl
theorem ev_starts {a : CE} {b : CE} : evalE μ κ m (.starts a b) f = (evalE μ κ m a f).bind fun x => (evalE μ κ m b x.2).bind fun y => (startsV x.1 y.1).map fun v => (v, y.2) := rfl
theorem ev_ends {a : CE} {b : CE} : evalE μ κ m (.ends a b) f = (evalE μ κ m a f).bind fun x => (evalE μ κ m b x.2).bind fun y => (endsV x.1 y.1).map fun v => (v, y.2) := rfl
theorem ev_cmp {o : Cmp} {a : CE} {b : CE} : evalE μ κ m (.cmp o a b) f = (evalE μ κ m a f).bind fun x => (evalE μ κ m b x.2).bind fun y => (cmpV o x.1 y.1).map fun v => (.bool v, y.2) := rfl
theorem te_not {t : CT} : test μ κ m (.not t) f = (test μ κ m t f).map fun x => (!x.1, x.2) := rfl
theorem te_or {s : CT} {t : CT} : test μ κ m (.or s t) f = (test μ κ m s f).bind fun x => if x.1 then some (true, x.2) else test μ κ m t x.2 := rfl
theorem te_cmp {o : Cmp} {a : CE} {b : CE} : test μ κ m (.cmp o a b) f = (evalE μ κ m a f).bind fun x => (evalE μ κ m b x.2).bind fun y => (cmpV o x.1 y.1).map fun v => (v, y.2) := rfl
theorem te_ex {e : CE} : test μ κ m (.ex e) f = (evalE μ κ m e f).bind fun x => match x.1 with | .bool b => some (b, x.2) | _ => Option.none := rfl
end
inductive O where
  | next | brk | cont | ret (v : V) | exc (n : Nat)
noncomputable abbrev Res := Option (O × Loc × F)
noncomputable def andThen (r : Res) (k : Loc → F → Res) : Res := match r with
  | some (.next, m, f) => k m f
  | r => r
noncomputable def turned (r : Res) (k : Loc → F → Res) : Res := match r with
  | some (.next, m, f) => k m f
  | some (.cont, m, f) => k m f
  | some (.brk, m, f) => some (.next, m, f)
  | r => r
noncomputable def loop (tst : Loc → F → Option (Bool × F)) (body : Loc → F → Res) : Nat → Loc → F → Res
  | 0, _, _ => Option.none
  | n + 1, m, f => (tst m f).bind fun x => if x.1 then turned (body m x.2) (loop tst body n) else some (.next, m, x.2)
noncomputable def forL (x : Nat) (body : Loc → F → Res) : List Int → Loc → F → Res
  | [], m, f => some (.next, m, f)
  | i :: r, m, f => turned (body (m.set x (some (.int i))) f) (forL x body r)
noncomputable def upTo (lo hi : Int) : List Int := (List.range (hi - lo).toNat).map fun (i : Nat) => lo + (i : Int)
noncomputable def downTo (hi : Int) : List Int := (List.range (hi + 1).toNat).map fun (i : Nat) => hi - (i : Int)
noncomputable def caught (n : Nat) (r : Res) (k : Loc → F → Res) : Res := match r with
  | some (.next, m, f) => k m f
  | some (.exc j, m, f) => if j = n then k m f else Option.none
  | r => r
noncomputable def exec (N : Nat) (μ : Mu) (κ : Kap) : C → Loc → F → Res
  | .nil, m, f => some (.next, m, f)
  | .pass k, m, f => exec N μ κ k m f
  | .brk _, m, f => some (.brk, m, f)
  | .cont _, m, f => some (.cont, m, f)
  | .ret e _, m, f => (evalE μ κ m e f).map fun x => (.ret x.1, m, x.2)
  | .expr e k, m, f => (evalE μ κ m e f).bind fun x => exec N μ κ k m x.2
  | .setl x e k, m, f => (evalE μ κ m e f).bind fun y => if x < m.length ∧ x ≠ 0 then exec N μ κ k (m.set x (some y.1)) y.2 else Option.none
  | .setf a e k, m, f => (evalE μ κ m e f).bind fun y => if m.at 0 = some .self then (y.2.put a y.1).bind fun g => exec N μ κ k m g else Option.none
  | .augl x p e k, m, f => (m.at x).bind fun o => (evalE μ κ m e f).bind fun y => (if p then addV o y.1 else subV o y.1).bind fun v => if x < m.length ∧ x ≠ 0 then exec N μ κ k (m.set x (some v)) y.2 else Option.none
  | .augf a p e k, m, f => if m.at 0 = some .self then (evalE μ κ m e f).bind fun y => (if p then addV (f.get a) y.1 else subV (f.get a) y.1).bind fun v => (y.2.put a v).bind fun g => exec N μ κ k m g else Option.none
  | .ite t a b k, m, f => (test μ κ m t f).bind fun x => andThen (if x.1 then exec N μ κ a m x.2 else exec N μ κ b m x.2) (exec N μ κ k)
  | .wh t c k, m, f => andThen (loop (fun m f => test μ κ m t f) (exec N μ κ c) N m f) (exec N μ κ k)
  | .forU x lo hi c k, m, f => (evalE μ κ m lo f).bind fun a => (evalE μ κ m hi a.2).bind fun b => match a.1, b.1 with
    | .int i, .int j => if x < m.length ∧ x ≠ 0 ∧ -2000 ≤ i ∧ i ≤ 2000 ∧ -2000 ≤ j ∧ j ≤ 2000 then andThen (forL x (exec N μ κ c) (upTo i j) m b.2) (exec N μ κ k) else Option.none
    | _, _ => Option.none
  | .forD x hi c k, m, f => (evalE μ κ m hi f).bind fun b => match b.1 with
    | .int j => if x < m.length ∧ x ≠ 0 ∧ -2000 ≤ j ∧ j ≤ 2000 then andThen (forL x (exec N μ κ c) (downTo j) m b.2) (exec N μ κ k) else Option.none
    | _ => Option.none
  | .asrt t k, m, f => (test μ κ m t f).bind fun x => if x.1 then exec N μ κ k m x.2 else Option.none
  | .raise n _, m, f => some (.exc n, m, f)
  | .tryc n c k, m, f => caught n (exec N μ κ c m f) (exec N μ κ k)
section
variable {N : Nat} {μ : Mu} {κ : Kap} {m : Loc} {f : F}
theorem ex_nil  : exec N μ κ .nil m f = some (.next, m, f) := rfl
theorem ex_pass {k : C} : exec N μ κ (.pass k) m f = exec N μ κ k m f := rfl
theorem ex_brk {w0 : C} : exec N μ κ (.brk w0) m f = some (.brk, m, f) := rfl
theorem ex_cont {w0 : C} : exec N μ κ (.cont w0) m f = some (.cont, m, f) := rfl
theorem ex_ret {e : CE} {w1 : C} : exec N μ κ (.ret e w1) m f = (evalE μ κ m e f).map fun x => (.ret x.1, m, x.2) := rfl
theorem ex_expr {e : CE} {k : C} : exec N μ κ (.expr e k) m f = (evalE μ κ m e f).bind fun x => exec N μ κ k m x.2 := rfl
theorem ex_setl {x : Nat} {e : CE} {k : C} : exec N μ κ (.setl x e k) m f = (evalE μ κ m e f).bind fun y => if x < m.length ∧ x ≠ 0 then exec N μ κ k (m.set x (some y.1)) y.2 else Option.none := rfl
theorem ex_setf {a : Fld} {e : CE} {k : C} : exec N μ κ (.setf a e k) m f = (evalE μ κ m e f).bind fun y => if m.at 0 = some .self then (y.2.put a y.1).bind fun g => exec N μ κ k m g else Option.none := rfl
theorem ex_augl {x : Nat} {p : Bool} {e : CE} {k : C} : exec N μ κ (.augl x p e k) m f = (m.at x).bind fun o => (evalE μ κ m e f).bind fun y => (if p then addV o y.1 else subV o y.1).bind fun v => if x < m.length ∧ x ≠ 0 then exec N μ κ k (m.set x (some v)) y.2 else Option.none := rfl
theorem ex_augf {a : Fld} {p : Bool} {e : CE} {k : C} : exec N μ κ (.augf a p e k) m f = if m.at 0 = some .self then (evalE μ κ m e f).bind fun y => (if p then addV (f.get a) y.1 else subV (f.get a) y.1).bind fun v => (y.2.put a v).bind fun g => exec N μ κ k m g else Option.none := rfl
theorem ex_ite {t : CT} {a : C} {b : C} {k : C} : exec N μ κ (.ite t a b k) m f = (test μ κ m t f).bind fun x => andThen (if x.1 then exec N μ κ a m x.2 else exec N μ κ b m x.2) (exec N μ κ k) := rfl
theorem ex_wh {t : CT} {c : C} {k : C} : exec N μ κ (.wh t c k) m f = andThen (loop (fun m f => test μ κ m t f) (exec N μ κ c) N m f) (exec N μ κ k) := rfl
theorem ex_forU {x : Nat} {lo : CE} {hi : CE} {c : C} {k : C}  : exec N μ κ (.forU x lo hi c k) m f = ((evalE μ κ m lo f).bind fun a => (evalE μ κ m hi a.2).bind fun b => match a.1, b.1 with
    | .int i, .int j => if x < m.length ∧ x ≠ 0 ∧ -2000 ≤ i ∧ i ≤ 2000 ∧ -2000 ≤ j ∧ j ≤ 2000 then andThen (forL x (exec N μ κ c) (upTo i j) m b.2) (exec N μ κ k) else Option.none
    | _, _ => Option.none) := rfl
theorem ex_forD {x : Nat} {hi : CE} {c : C} {k : C}  : exec N μ κ (.forD x hi c k) m f = ((evalE μ κ m hi f).bind fun b => match b.1 with
    | .int j => if x < m.length ∧ x ≠ 0 ∧ -2000 ≤ j ∧ j ≤ 2000 then andThen (forL x (exec N μ κ c) (downTo j) m b.2) (exec N μ κ k) else Option.none
    | _ => Option.none) := rfl
theorem ex_asrt {t : CT} {k : C} : exec N μ κ (.asrt t k) m f = (test μ κ m t f).bind fun x => if x.1 then exec N μ κ k m x.2 else Option.none := rfl
theorem ex_raise {n : Nat} {w1 : C} : exec N μ κ (.raise n w1) m f = some (.exc n, m, f) := rfl
theorem ex_tryc {n : Nat} {c : C} {k : C} : exec N μ κ (.tryc n c k) m f = caught n (exec N μ κ c m f) (exec N μ κ k) := rfl
theorem xf_nil  : exec N μ κ .nil = fun m f => some (.next, m, f) := rfl
theorem xf_pass {k : C} : exec N μ κ (.pass k) = fun m f => exec N μ κ k m f := rfl
theorem xf_brk {w0 : C} : exec N μ κ (.brk w0) = fun m f => some (.brk, m, f) := rfl
theorem xf_cont {w0 : C} : exec N μ κ (.cont w0) = fun m f => some (.cont, m, f) := rfl
theorem xf_ret {e : CE} {w1 : C} : exec N μ κ (.ret e w1) = fun m f => (evalE μ κ m e f).map fun x => (.ret x.1, m, x.2) := rfl
theorem xf_expr {e : CE} {k : C} : exec N μ κ (.expr e k) = fun m f => (evalE μ κ m e f).bind fun x => exec N μ κ k m x.2 := rfl
theorem xf_setl {x : Nat} {e : CE} {k : C} : exec N μ κ (.setl x e k) = fun m f => (evalE μ κ m e f).bind fun y => if x < m.length ∧ x ≠ 0 then exec N μ κ k (m.set x (some y.1)) y.2 else Option.none := rfl
theorem xf_setf {a : Fld} {e : CE} {k : C} : exec N μ κ (.setf a e k) = fun m f => (evalE μ κ m e f).bind fun y => if m.at 0 = some .self then (y.2.put a y.1).bind fun g => exec N μ κ k m g else Option.none := rfl
theorem xf_augl {x : Nat} {p : Bool} {e : CE} {k : C} : exec N μ κ (.augl x p e k) = fun m f => (m.at x).bind fun o => (evalE μ κ m e f).bind fun y => (if p then addV o y.1 else subV o y.1).bind fun v => if x < m.length ∧ x ≠ 0 then exec N μ κ k (m.set x (some v)) y.2 else Option.none := rfl
theorem xf_augf {a : Fld} {p : Bool} {e : CE} {k : C} : exec N μ κ (.augf a p e k) = fun m f => if m.at 0 = some .self then (evalE μ κ m e f).bind fun y => (if p then addV (f.get a) y.1 else subV (f.get a) y.1).bind fun v => (y.2.put a v).bind fun g => exec N μ κ k m g else Option.none := rfl
theorem xf_ite {t : CT} {a : C} {b : C} {k : C} : exec N μ κ (.ite t a b k) = fun m f => (test μ κ m t f).bind fun x => andThen (if x.1 then exec N μ κ a m x.2 else exec N μ κ b m x.2) (exec N μ κ k) := rfl
theorem xf_wh {t : CT} {c : C} {k : C} : exec N μ κ (.wh t c k) = fun m f => andThen (loop (fun m f => test μ κ m t f) (exec N μ κ c) N m f) (exec N μ κ k) := rfl
theorem xf_forU {x : Nat} {lo : CE} {hi : CE} {c : C} {k : C}  : exec N μ κ (.forU x lo hi c k) = fun m f => ((evalE μ κ m lo f).bind fun a => (evalE μ κ m hi a.2).bind fun b => match a.1, b.1 with
    | .int i, .int j => if x < m.length ∧ x ≠ 0 ∧ -2000 ≤ i ∧ i ≤ 2000 ∧ -2000 ≤ j ∧ j ≤ 2000 then andThen (forL x (exec N μ κ c) (upTo i j) m b.2) (exec N μ κ k) else Option.none
    | _, _ => Option.none) := rfl
theorem xf_forD {x : Nat} {hi : CE} {c : C} {k : C}  : exec N μ κ (.forD x hi c k) = fun m f => ((evalE μ κ m hi f).bind fun b => match b.1 with
    | .int j => if x < m.length ∧ x ≠ 0 ∧ -2000 ≤ j ∧ j ≤ 2000 then andThen (forL x (exec N μ κ c) (downTo j) m b.2) (exec N μ κ k) else Option.none
    | _ => Option.none) := rfl
theorem xf_asrt {t : CT} {k : C} : exec N μ κ (.asrt t k) = fun m f => (test μ κ m t f).bind fun x => if x.1 then exec N μ κ k m x.2 else Option.none := rfl
theorem xf_raise {n : Nat} {w1 : C} : exec N μ κ (.raise n w1) = fun m f => some (.exc n, m, f) := rfl
theorem xf_tryc {n : Nat} {c : C} {k : C} : exec N μ κ (.tryc n c k) = fun m f => caught n (exec N μ κ c m f) (exec N μ κ k) := rfl
end
noncomputable def back (r : Res) : Option (V × F) := match r with
  | some (.ret v, _, f) => some (v, f)
  | some (.next, _, f) => some (.none, f)
  | _ => Option.none
noncomputable def enter (n : Nat) (args : List V) : Loc := some .self :: args.map some ++ List.replicate (n - 1 - args.length) Option.none
noncomputable def callC (N : Nat) (μ : Mu) (κ : Kap) (c : C) (n : Nat) (args : List V) (f : F) : Option (V × F) := back (exec N μ κ c (enter n args) f)
noncomputable def names_set_current : List String := ["self", "value"]
noncomputable def code_set_current : C := (.setf .current (.loc 1) (.setf .cursor (.int 0) (.setf .limit (.len (.fld .current)) (.setf .lb (.int 0) (.setf .bra (.fld .cursor) (.setf .ket (.fld .limit) .nil))))))
noncomputable def names_get_current : List String := ["self"]
noncomputable def code_get_current : C := (.ret (.fld .current) .nil)
noncomputable def names_in_grouping : List String := ["self", "s"]
noncomputable def code_in_grouping : C := (.ite (.cmp .ge (.fld .cursor) (.fld .limit)) (.ret (.bool false) .nil) .nil (.ite (.cmp .notin (.idx (.fld .current) (.fld .cursor)) (.loc 1)) (.ret (.bool false) .nil) .nil (.augf .cursor true (.int 1) (.ret (.bool true) .nil))))
noncomputable def names_go_in_grouping : List String := ["self", "s"]
noncomputable def code_go_in_grouping : C := (.wh (.cmp .lt (.fld .cursor) (.fld .limit)) (.ite (.cmp .notin (.idx (.fld .current) (.fld .cursor)) (.loc 1)) (.ret (.bool true) .nil) .nil (.augf .cursor true (.int 1) .nil)) (.ret (.bool false) .nil))
noncomputable def names_in_grouping_b : List String := ["self", "s"]
noncomputable def code_in_grouping_b : C := (.ite (.cmp .le (.fld .cursor) (.fld .lb)) (.ret (.bool false) .nil) .nil (.ite (.cmp .notin (.idx (.fld .current) (.sub (.fld .cursor) (.int 1))) (.loc 1)) (.ret (.bool false) .nil) .nil (.augf .cursor false (.int 1) (.ret (.bool true) .nil))))
noncomputable def names_go_out_grouping : List String := ["self", "s"]
noncomputable def code_go_out_grouping : C := (.wh (.cmp .lt (.fld .cursor) (.fld .limit)) (.ite (.cmp .isin (.idx (.fld .current) (.fld .cursor)) (.loc 1)) (.ret (.bool true) .nil) .nil (.augf .cursor true (.int 1) .nil)) (.ret (.bool false) .nil))
noncomputable def names_out_grouping_b : List String := ["self", "s"]
noncomputable def code_out_grouping_b : C := (.ite (.cmp .le (.fld .cursor) (.fld .lb)) (.ret (.bool false) .nil) .nil (.ite (.cmp .notin (.idx (.fld .current) (.sub (.fld .cursor) (.int 1))) (.loc 1)) (.augf .cursor false (.int 1) (.ret (.bool true) .nil)) .nil (.ret (.bool false) .nil)))
noncomputable def names_eq_s : List String := ["self", "s"]
noncomputable def code_eq_s : C := (.ite (.ex (.starts (.cut (.fld .current) (.fld .cursor) (.fld .limit)) (.loc 1))) (.augf .cursor true (.len (.loc 1)) (.ret (.bool true) .nil)) .nil (.ret (.bool false) .nil))
noncomputable def names_eq_s_b : List String := ["self", "s"]
noncomputable def code_eq_s_b : C := (.ite (.ex (.ends (.cut (.fld .current) (.fld .lb) (.fld .cursor)) (.loc 1))) (.augf .cursor false (.len (.loc 1)) (.ret (.bool true) .nil)) .nil (.ret (.bool false) .nil))
noncomputable def names_find_among : List String := ["self", "v", "i", "j", "c", "l", "common_i", "common_j", "first_key_inspected", "k", "diff", "common", "w", "i2"]
noncomputable def code_find_among : C := (.setl 2 (.int 0) (.setl 3 (.len (.loc 1)) (.setl 4 (.fld .cursor) (.setl 5 (.fld .limit) (.setl 6 (.int 0) (.setl 7 (.int 0) (.setl 8 (.bool false) (.wh (.ex (.bool true)) (.setl 9 (.add (.loc 2) (.shr (.sub (.loc 3) (.loc 2)) (.int 1))) (.setl 10 (.int 0) (.setl 11 (.min (.loc 6) (.loc 7)) (.setl 12 (.item 1 (.loc 9)) (.forU 13 (.loc 11) (.len (.amS 12)) (.ite (.cmp .eq (.add (.loc 4) (.loc 11)) (.loc 5)) (.setl 10 (.neg 1) (.brk .nil)) .nil (.setl 10 (.sub (.ord (.idx (.fld .current) (.add (.loc 4) (.loc 11)))) (.ord (.idx (.amS 12) (.loc 13)))) (.ite (.cmp .ne (.loc 10) (.int 0)) (.brk .nil) .nil (.augl 11 true (.int 1) .nil)))) (.ite (.cmp .lt (.loc 10) (.int 0)) (.setl 3 (.loc 9) (.setl 7 (.loc 11) .nil)) (.setl 2 (.loc 9) (.setl 6 (.loc 11) .nil)) (.ite (.cmp .le (.sub (.loc 3) (.loc 2)) (.int 1)) (.ite (.cmp .gt (.loc 2) (.int 0)) (.brk .nil) .nil (.ite (.cmp .eq (.loc 3) (.loc 2)) (.brk .nil) .nil (.ite (.ex (.loc 8)) (.brk .nil) .nil (.setl 8 (.bool true) .nil)))) .nil .nil))))))) (.wh (.ex (.bool true)) (.setl 12 (.item 1 (.loc 2)) (.ite (.cmp .ge (.loc 6) (.len (.amS 12))) (.setf .cursor (.add (.loc 4) (.len (.amS 12))) (.ret (.amR 12) .nil)) .nil (.setl 2 (.amI 12) (.ite (.cmp .lt (.loc 2) (.int 0)) (.ret (.int 0) .nil) .nil .nil)))) (.ret (.neg 1) .nil))))))))))
noncomputable def names_find_among_b : List String := ["self", "v", "i", "j", "c", "lb", "common_i", "common_j", "first_key_inspected", "k", "diff", "common", "w", "i2"]
noncomputable def code_find_among_b : C := (.setl 2 (.int 0) (.setl 3 (.len (.loc 1)) (.setl 4 (.fld .cursor) (.setl 5 (.fld .lb) (.setl 6 (.int 0) (.setl 7 (.int 0) (.setl 8 (.bool false) (.wh (.ex (.bool true)) (.setl 9 (.add (.loc 2) (.shr (.sub (.loc 3) (.loc 2)) (.int 1))) (.setl 10 (.int 0) (.setl 11 (.min (.loc 6) (.loc 7)) (.setl 12 (.item 1 (.loc 9)) (.forD 13 (.sub (.sub (.len (.amS 12)) (.int 1)) (.loc 11)) (.ite (.cmp .eq (.sub (.loc 4) (.loc 11)) (.loc 5)) (.setl 10 (.neg 1) (.brk .nil)) .nil (.setl 10 (.sub (.ord (.idx (.fld .current) (.sub (.sub (.loc 4) (.int 1)) (.loc 11)))) (.ord (.idx (.amS 12) (.loc 13)))) (.ite (.cmp .ne (.loc 10) (.int 0)) (.brk .nil) .nil (.augl 11 true (.int 1) .nil)))) (.ite (.cmp .lt (.loc 10) (.int 0)) (.setl 3 (.loc 9) (.setl 7 (.loc 11) .nil)) (.setl 2 (.loc 9) (.setl 6 (.loc 11) .nil)) (.ite (.cmp .le (.sub (.loc 3) (.loc 2)) (.int 1)) (.ite (.cmp .gt (.loc 2) (.int 0)) (.brk .nil) .nil (.ite (.cmp .eq (.loc 3) (.loc 2)) (.brk .nil) .nil (.ite (.ex (.loc 8)) (.brk .nil) .nil (.setl 8 (.bool true) .nil)))) .nil .nil))))))) (.wh (.ex (.bool true)) (.setl 12 (.item 1 (.loc 2)) (.ite (.cmp .ge (.loc 6) (.len (.amS 12))) (.setf .cursor (.sub (.loc 4) (.len (.amS 12))) (.ret (.amR 12) .nil)) .nil (.setl 2 (.amI 12) (.ite (.cmp .lt (.loc 2) (.int 0)) (.ret (.int 0) .nil) .nil .nil)))) (.ret (.neg 1) .nil))))))))))
noncomputable def names_replace_s : List String := ["self", "c_bra", "c_ket", "s", "adjustment"]
noncomputable def code_replace_s : C := (.setl 4 (.sub (.len (.loc 3)) (.sub (.loc 2) (.loc 1))) (.setf .current (.add (.add (.cut (.fld .current) (.int 0) (.loc 1)) (.loc 3)) (.cutL (.fld .current) (.loc 2))) (.augf .limit true (.loc 4) (.ite (.cmp .ge (.fld .cursor) (.loc 2)) (.augf .cursor true (.loc 4) .nil) (.ite (.cmp .gt (.fld .cursor) (.loc 1)) (.setf .cursor (.loc 1) .nil) .nil .nil) (.ret (.loc 4) .nil)))))
noncomputable def names_slice_from : List String := ["self", "s"]
noncomputable def code_slice_from : C := (.asrt (.cmp .ge (.fld .bra) (.int 0)) (.asrt (.cmp .le (.fld .bra) (.fld .ket)) (.asrt (.cmp .le (.fld .ket) (.fld .limit)) (.asrt (.cmp .le (.fld .limit) (.len (.fld .current))) (.expr (.call3 .replace_s (.fld .bra) (.fld .ket) (.loc 1)) (.setf .ket (.add (.fld .bra) (.len (.loc 1))) .nil))))))
noncomputable def names_slice_del : List String := ["self"]
noncomputable def code_slice_del : C := (.ret (.call1 .slice_from (.str [])) .nil)
noncomputable def names_stemWord : List String := ["self", "word"]
noncomputable def code_stemWord : C := (.expr (.call1 .set_current (.loc 1)) (.expr (.call0 .stem) (.ret (.call0 .get_current) .nil)))
noncomputable def names_r_elisions : List String := ["self"]
noncomputable def code_r_elisions : C := (.setf .bra (.fld .cursor) (.wh (.ex (.bool true)) (.tryc 0 (.ite (.not (.ex (.call1 .in_grouping (.cst .g_elision_char)))) (.raise 0 .nil) .nil (.brk .nil)) (.ite (.not (.ex (.call1 .eq_s (.str [113, 117])))) (.ret (.bool false) .nil) .nil (.brk .nil))) (.ite (.or (.cmp .eq (.fld .cursor) (.fld .limit)) (.cmp .ne (.idx (.fld .current) (.fld .cursor)) (.str [39]))) (.ret (.bool false) .nil) .nil (.augf .cursor true (.int 1) (.setf .ket (.fld .cursor) (.ite (.cmp .ge (.fld .cursor) (.fld .limit)) (.ret (.bool false) .nil) .nil (.expr (.call0 .slice_del) (.ret (.bool true) .nil))))))))
noncomputable def names_r_prelude : List String := ["self", "v_1", "v_2", "v_3", "v_4"]
noncomputable def code_r_prelude : C := (.wh (.ex (.bool true)) (.setl 1 (.fld .cursor) (.tryc 0 (.wh (.ex (.bool true)) (.setl 2 (.fld .cursor) (.tryc 1 (.wh (.ex (.bool true)) (.setl 3 (.fld .cursor) (.tryc 2 (.ite (.not (.ex (.call1 .in_grouping (.cst .g_v)))) (.raise 2 .nil) .nil (.setf .bra (.fld .cursor) (.wh (.ex (.bool true)) (.setl 4 (.fld .cursor) (.tryc 3 (.ite (.or (.cmp .eq (.fld .cursor) (.fld .limit)) (.cmp .ne (.idx (.fld .current) (.fld .cursor)) (.str [117]))) (.raise 3 .nil) .nil (.augf .cursor true (.int 1) (.setf .ket (.fld .cursor) (.ite (.not (.ex (.call1 .in_grouping (.cst .g_v)))) (.raise 3 .nil) .nil (.expr (.call1 .slice_from (.str [85])) (.brk .nil)))))) (.setf .cursor (.loc 4) (.tryc 3 (.ite (.or (.cmp .eq (.fld .cursor) (.fld .limit)) (.cmp .ne (.idx (.fld .current) (.fld .cursor)) (.str [105]))) (.raise 3 .nil) .nil (.augf .cursor true (.int 1) (.setf .ket (.fld .cursor) (.ite (.not (.ex (.call1 .in_grouping (.cst .g_v)))) (.raise 3 .nil) .nil (.expr (.call1 .slice_from (.str [73])) (.brk .nil)))))) (.setf .cursor (.loc 4) (.ite (.or (.cmp .eq (.fld .cursor) (.fld .limit)) (.cmp .ne (.idx (.fld .current) (.fld .cursor)) (.str [121]))) (.raise 2 .nil) .nil (.augf .cursor true (.int 1) (.setf .ket (.fld .cursor) (.expr (.call1 .slice_from (.str [89])) (.brk .nil)))))))))) (.brk .nil)))) (.setf .cursor (.loc 3) (.tryc 2 (.setf .bra (.fld .cursor) (.ite (.or (.cmp .eq (.fld .cursor) (.fld .limit)) (.cmp .ne (.idx (.fld .current) (.fld .cursor)) (.str [235]))) (.raise 2 .nil) .nil (.augf .cursor true (.int 1) (.setf .ket (.fld .cursor) (.expr (.call1 .slice_from (.str [72, 101])) (.brk .nil)))))) (.setf .cursor (.loc 3) (.tryc 2 (.setf .bra (.fld .cursor) (.ite (.or (.cmp .eq (.fld .cursor) (.fld .limit)) (.cmp .ne (.idx (.fld .current) (.fld .cursor)) (.str [239]))) (.raise 2 .nil) .nil (.augf .cursor true (.int 1) (.setf .ket (.fld .cursor) (.expr (.call1 .slice_from (.str [72, 105])) (.brk .nil)))))) (.setf .cursor (.loc 3) (.tryc 2 (.setf .bra (.fld .cursor) (.ite (.or (.cmp .eq (.fld .cursor) (.fld .limit)) (.cmp .ne (.idx (.fld .current) (.fld .cursor)) (.str [121]))) (.raise 2 .nil) .nil (.augf .cursor true (.int 1) (.setf .ket (.fld .cursor) (.ite (.not (.ex (.call1 .in_grouping (.cst .g_v)))) (.raise 2 .nil) .nil (.expr (.call1 .slice_from (.str [89])) (.brk .nil))))))) (.setf .cursor (.loc 3) (.ite (.or (.cmp .eq (.fld .cursor) (.fld .limit)) (.cmp .ne (.idx (.fld .current) (.fld .cursor)) (.str [113]))) (.raise 1 .nil) .nil (.augf .cursor true (.int 1) (.setf .bra (.fld .cursor) (.ite (.or (.cmp .eq (.fld .cursor) (.fld .limit)) (.cmp .ne (.idx (.fld .current) (.fld .cursor)) (.str [117]))) (.raise 1 .nil) .nil (.augf .cursor true (.int 1) (.setf .ket (.fld .cursor) (.expr (.call1 .slice_from (.str [85])) (.brk .nil))))))))))))))))) (.setf .cursor (.loc 2) (.brk .nil))) (.setf .cursor (.loc 2) (.ite (.cmp .ge (.fld .cursor) (.fld .limit)) (.raise 0 .nil) .nil (.augf .cursor true (.int 1) .nil))))) (.cont .nil)) (.setf .cursor (.loc 1) (.brk .nil)))) (.ret (.bool true) .nil))
noncomputable def names_r_mark_regions : List String := ["self", "v_1", "v_2", "among_var", "v_3"]
noncomputable def code_r_mark_regions : C := (.setf .pv (.fld .limit) (.setf .p1 (.fld .limit) (.setf .p2 (.fld .limit) (.setl 1 (.fld .cursor) (.tryc 0 (.wh (.ex (.bool true)) (.setl 2 (.fld .cursor) (.tryc 1 (.ite (.not (.ex (.call1 .in_grouping (.cst .g_v)))) (.raise 1 .nil) .nil (.ite (.not (.ex (.call1 .in_grouping (.cst .g_v)))) (.raise 1 .nil) .nil (.ite (.cmp .ge (.fld .cursor) (.fld .limit)) (.raise 1 .nil) .nil (.augf .cursor true (.int 1) (.brk .nil))))) (.setf .cursor (.loc 2) (.tryc 1 (.setl 3 (.call1 .find_among (.cst .a_0)) (.ite (.cmp .eq (.loc 3) (.int 0)) (.raise 1 .nil) .nil (.ite (.cmp .eq (.loc 3) (.int 1)) (.ite (.not (.ex (.call1 .in_grouping (.cst .g_v)))) (.raise 1 .nil) .nil .nil) .nil (.brk .nil)))) (.setf .cursor (.loc 2) (.ite (.cmp .ge (.fld .cursor) (.fld .limit)) (.raise 0 .nil) .nil (.augf .cursor true (.int 1) (.ite (.not (.ex (.call1 .go_out_grouping (.cst .g_v)))) (.raise 0 .nil) .nil (.augf .cursor true (.int 1) (.brk .nil)))))))))) (.setf .pv (.fld .cursor) .nil)) (.setf .cursor (.loc 1) (.setl 4 (.fld .cursor) (.tryc 0 (.ite (.not (.ex (.call1 .go_out_grouping (.cst .g_v)))) (.raise 0 .nil) .nil (.augf .cursor true (.int 1) (.ite (.not (.ex (.call1 .go_in_grouping (.cst .g_v)))) (.raise 0 .nil) .nil (.augf .cursor true (.int 1) (.setf .p1 (.fld .cursor) (.ite (.not (.ex (.call1 .go_out_grouping (.cst .g_v)))) (.raise 0 .nil) .nil (.augf .cursor true (.int 1) (.ite (.not (.ex (.call1 .go_in_grouping (.cst .g_v)))) (.raise 0 .nil) .nil (.augf .cursor true (.int 1) (.setf .p2 (.fld .cursor) .nil)))))))))) (.setf .cursor (.loc 4) (.ret (.bool true) .nil))))))))))
noncomputable def names_r_postlude : List String := ["self", "v_1", "among_var"]
noncomputable def code_r_postlude : C := (.wh (.ex (.bool true)) (.setl 1 (.fld .cursor) (.tryc 0 (.setf .bra (.fld .cursor) (.setl 2 (.call1 .find_among (.cst .a_1)) (.setf .ket (.fld .cursor) (.ite (.cmp .eq (.loc 2) (.int 1)) (.expr (.call1 .slice_from (.str [105])) .nil) (.ite (.cmp .eq (.loc 2) (.int 2)) (.expr (.call1 .slice_from (.str [117])) .nil) (.ite (.cmp .eq (.loc 2) (.int 3)) (.expr (.call1 .slice_from (.str [121])) .nil) (.ite (.cmp .eq (.loc 2) (.int 4)) (.expr (.call1 .slice_from (.str [235])) .nil) (.ite (.cmp .eq (.loc 2) (.int 5)) (.expr (.call1 .slice_from (.str [239])) .nil) (.ite (.cmp .eq (.loc 2) (.int 6)) (.expr (.call0 .slice_del) .nil) (.ite (.cmp .ge (.fld .cursor) (.fld .limit)) (.raise 0 .nil) .nil (.augf .cursor true (.int 1) .nil)) .nil) .nil) .nil) .nil) .nil) (.cont .nil))))) (.setf .cursor (.loc 1) (.brk .nil)))) (.ret (.bool true) .nil))
noncomputable def names_r_RV : List String := ["self"]
noncomputable def code_r_RV : C := (.ret (.cmp .le (.fld .pv) (.fld .cursor)) .nil)
noncomputable def names_r_R1 : List String := ["self"]
noncomputable def code_r_R1 : C := (.ret (.cmp .le (.fld .p1) (.fld .cursor)) .nil)
noncomputable def names_r_R2 : List String := ["self"]
noncomputable def code_r_R2 : C := (.ret (.cmp .le (.fld .p2) (.fld .cursor)) .nil)
noncomputable def names_r_standard_suffix : List String := ["self", "among_var", "v_1", "v_2", "v_3", "v_4", "v_5", "v_6", "v_7", "v_8", "v_9", "v_10", "v_11"]
noncomputable def code_r_standard_suffix : C := (.setf .ket (.fld .cursor) (.setl 1 (.call1 .find_among_b (.cst .a_4)) (.ite (.cmp .eq (.loc 1) (.int 0)) (.ret (.bool false) .nil) .nil (.setf .bra (.fld .cursor) (.ite (.cmp .eq (.loc 1) (.int 1)) (.ite (.not (.ex (.call0 .r_R2))) (.ret (.bool false) .nil) .nil (.expr (.call0 .slice_del) .nil)) (.ite (.cmp .eq (.loc 1) (.int 2)) (.ite (.not (.ex (.call0 .r_R2))) (.ret (.bool false) .nil) .nil (.expr (.call0 .slice_del) (.setl 2 (.sub (.fld .limit) (.fld .cursor)) (.tryc 0 (.setf .ket (.fld .cursor) (.ite (.not (.ex (.call1 .eq_s_b (.str [105, 99])))) (.setf .cursor (.sub (.fld .limit) (.loc 2)) (.raise 0 .nil)) .nil (.setf .bra (.fld .cursor) (.wh (.ex (.bool true)) (.setl 3 (.sub (.fld .limit) (.fld .cursor)) (.tryc 1 (.ite (.not (.ex (.call0 .r_R2))) (.raise 1 .nil) .nil (.expr (.call0 .slice_del) (.brk .nil))) (.setf .cursor (.sub (.fld .limit) (.loc 3)) (.expr (.call1 .slice_from (.str [105, 113, 85])) (.brk .nil))))) .nil)))) .nil)))) (.ite (.cmp .eq (.loc 1) (.int 3)) (.ite (.not (.ex (.call0 .r_R2))) (.ret (.bool false) .nil) .nil (.expr (.call1 .slice_from (.str [108, 111, 103])) .nil)) (.ite (.cmp .eq (.loc 1) (.int 4)) (.ite (.not (.ex (.call0 .r_R2))) (.ret (.bool false) .nil) .nil (.expr (.call1 .slice_from (.str [117])) .nil)) (.ite (.cmp .eq (.loc 1) (.int 5)) (.ite (.not (.ex (.call0 .r_R2))) (.ret (.bool false) .nil) .nil (.expr (.call1 .slice_from (.str [101, 110, 116])) .nil)) (.ite (.cmp .eq (.loc 1) (.int 6)) (.ite (.not (.ex (.call0 .r_RV))) (.ret (.bool false) .nil) .nil (.expr (.call0 .slice_del) (.setl 4 (.sub (.fld .limit) (.fld .cursor)) (.tryc 0 (.setf .ket (.fld .cursor) (.setl 1 (.call1 .find_among_b (.cst .a_2)) (.ite (.cmp .eq (.loc 1) (.int 0)) (.setf .cursor (.sub (.fld .limit) (.loc 4)) (.raise 0 .nil)) .nil (.setf .bra (.fld .cursor) (.ite (.cmp .eq (.loc 1) (.int 1)) (.ite (.not (.ex (.call0 .r_R2))) (.setf .cursor (.sub (.fld .limit) (.loc 4)) (.raise 0 .nil)) .nil (.expr (.call0 .slice_del) (.setf .ket (.fld .cursor) (.ite (.not (.ex (.call1 .eq_s_b (.str [97, 116])))) (.setf .cursor (.sub (.fld .limit) (.loc 4)) (.raise 0 .nil)) .nil (.setf .bra (.fld .cursor) (.ite (.not (.ex (.call0 .r_R2))) (.setf .cursor (.sub (.fld .limit) (.loc 4)) (.raise 0 .nil)) .nil (.expr (.call0 .slice_del) .nil))))))) (.ite (.cmp .eq (.loc 1) (.int 2)) (.wh (.ex (.bool true)) (.setl 5 (.sub (.fld .limit) (.fld .cursor)) (.tryc 1 (.ite (.not (.ex (.call0 .r_R2))) (.raise 1 .nil) .nil (.expr (.call0 .slice_del) (.brk .nil))) (.setf .cursor (.sub (.fld .limit) (.loc 5)) (.ite (.not (.ex (.call0 .r_R1))) (.setf .cursor (.sub (.fld .limit) (.loc 4)) (.raise 0 .nil)) .nil (.expr (.call1 .slice_from (.str [101, 117, 120])) (.brk .nil)))))) .nil) (.ite (.cmp .eq (.loc 1) (.int 3)) (.ite (.not (.ex (.call0 .r_R2))) (.setf .cursor (.sub (.fld .limit) (.loc 4)) (.raise 0 .nil)) .nil (.expr (.call0 .slice_del) .nil)) (.ite (.not (.ex (.call0 .r_RV))) (.setf .cursor (.sub (.fld .limit) (.loc 4)) (.raise 0 .nil)) .nil (.expr (.call1 .slice_from (.str [105])) .nil)) .nil) .nil) .nil))))) .nil)))) (.ite (.cmp .eq (.loc 1) (.int 7)) (.ite (.not (.ex (.call0 .r_R2))) (.ret (.bool false) .nil) .nil (.expr (.call0 .slice_del) (.setl 6 (.sub (.fld .limit) (.fld .cursor)) (.tryc 0 (.setf .ket (.fld .cursor) (.setl 1 (.call1 .find_among_b (.cst .a_3)) (.ite (.cmp .eq (.loc 1) (.int 0)) (.setf .cursor (.sub (.fld .limit) (.loc 6)) (.raise 0 .nil)) .nil (.setf .bra (.fld .cursor) (.ite (.cmp .eq (.loc 1) (.int 1)) (.wh (.ex (.bool true)) (.setl 7 (.sub (.fld .limit) (.fld .cursor)) (.tryc 1 (.ite (.not (.ex (.call0 .r_R2))) (.raise 1 .nil) .nil (.expr (.call0 .slice_del) (.brk .nil))) (.setf .cursor (.sub (.fld .limit) (.loc 7)) (.expr (.call1 .slice_from (.str [97, 98, 108])) (.brk .nil))))) .nil) (.ite (.cmp .eq (.loc 1) (.int 2)) (.wh (.ex (.bool true)) (.setl 8 (.sub (.fld .limit) (.fld .cursor)) (.tryc 1 (.ite (.not (.ex (.call0 .r_R2))) (.raise 1 .nil) .nil (.expr (.call0 .slice_del) (.brk .nil))) (.setf .cursor (.sub (.fld .limit) (.loc 8)) (.expr (.call1 .slice_from (.str [105, 113, 85])) (.brk .nil))))) .nil) (.ite (.not (.ex (.call0 .r_R2))) (.setf .cursor (.sub (.fld .limit) (.loc 6)) (.raise 0 .nil)) .nil (.expr (.call0 .slice_del) .nil)) .nil) .nil))))) .nil)))) (.ite (.cmp .eq (.loc 1) (.int 8)) (.ite (.not (.ex (.call0 .r_R2))) (.ret (.bool false) .nil) .nil (.expr (.call0 .slice_del) (.setl 9 (.sub (.fld .limit) (.fld .cursor)) (.tryc 0 (.setf .ket (.fld .cursor) (.ite (.not (.ex (.call1 .eq_s_b (.str [97, 116])))) (.setf .cursor (.sub (.fld .limit) (.loc 9)) (.raise 0 .nil)) .nil (.setf .bra (.fld .cursor) (.ite (.not (.ex (.call0 .r_R2))) (.setf .cursor (.sub (.fld .limit) (.loc 9)) (.raise 0 .nil)) .nil (.expr (.call0 .slice_del) (.setf .ket (.fld .cursor) (.ite (.not (.ex (.call1 .eq_s_b (.str [105, 99])))) (.setf .cursor (.sub (.fld .limit) (.loc 9)) (.raise 0 .nil)) .nil (.setf .bra (.fld .cursor) (.wh (.ex (.bool true)) (.setl 10 (.sub (.fld .limit) (.fld .cursor)) (.tryc 1 (.ite (.not (.ex (.call0 .r_R2))) (.raise 1 .nil) .nil (.expr (.call0 .slice_del) (.brk .nil))) (.setf .cursor (.sub (.fld .limit) (.loc 10)) (.expr (.call1 .slice_from (.str [105, 113, 85])) (.brk .nil))))) .nil))))))))) .nil)))) (.ite (.cmp .eq (.loc 1) (.int 9)) (.expr (.call1 .slice_from (.str [101, 97, 117])) .nil) (.ite (.cmp .eq (.loc 1) (.int 10)) (.ite (.not (.ex (.call0 .r_R1))) (.ret (.bool false) .nil) .nil (.expr (.call1 .slice_from (.str [97, 108])) .nil)) (.ite (.cmp .eq (.loc 1) (.int 11)) (.ite (.not (.ex (.call1 .in_grouping_b (.cst .g_oux_ending)))) (.ret (.bool false) .nil) .nil (.expr (.call1 .slice_from (.str [111, 117])) .nil)) (.ite (.cmp .eq (.loc 1) (.int 12)) (.wh (.ex (.bool true)) (.setl 11 (.sub (.fld .limit) (.fld .cursor)) (.tryc 0 (.ite (.not (.ex (.call0 .r_R2))) (.raise 0 .nil) .nil (.expr (.call0 .slice_del) (.brk .nil))) (.setf .cursor (.sub (.fld .limit) (.loc 11)) (.ite (.not (.ex (.call0 .r_R1))) (.ret (.bool false) .nil) .nil (.expr (.call1 .slice_from (.str [101, 117, 120])) (.brk .nil)))))) .nil) (.ite (.cmp .eq (.loc 1) (.int 13)) (.ite (.not (.ex (.call0 .r_R1))) (.ret (.bool false) .nil) .nil (.ite (.not (.ex (.call1 .out_grouping_b (.cst .g_v)))) (.ret (.bool false) .nil) .nil (.expr (.call0 .slice_del) .nil))) (.ite (.cmp .eq (.loc 1) (.int 14)) (.ite (.not (.ex (.call0 .r_RV))) (.ret (.bool false) .nil) .nil (.expr (.call1 .slice_from (.str [97, 110, 116])) (.ret (.bool false) .nil))) (.ite (.cmp .eq (.loc 1) (.int 15)) (.ite (.not (.ex (.call0 .r_RV))) (.ret (.bool false) .nil) .nil (.expr (.call1 .slice_from (.str [101, 110, 116])) (.ret (.bool false) .nil))) (.setl 12 (.sub (.fld .limit) (.fld .cursor)) (.ite (.not (.ex (.call1 .in_grouping_b (.cst .g_v)))) (.ret (.bool false) .nil) .nil (.ite (.not (.ex (.call0 .r_RV))) (.ret (.bool false) .nil) .nil (.setf .cursor (.sub (.fld .limit) (.loc 12)) (.expr (.call0 .slice_del) (.ret (.bool false) .nil)))))) .nil) .nil) .nil) .nil) .nil) .nil) .nil) .nil) .nil) .nil) .nil) .nil) .nil) .nil) (.ret (.bool true) .nil))))))
noncomputable def names_r_i_verb_suffix : List String := ["self", "v_2"]
noncomputable def code_r_i_verb_suffix : C := (.ite (.cmp .lt (.fld .cursor) (.fld .pv)) (.ret (.bool false) .nil) .nil (.setl 1 (.fld .lb) (.setf .lb (.fld .pv) (.setf .ket (.fld .cursor) (.ite (.cmp .eq (.call1 .find_among_b (.cst .a_5)) (.int 0)) (.setf .lb (.loc 1) (.ret (.bool false) .nil)) .nil (.setf .bra (.fld .cursor) (.tryc 0 (.ite (.or (.cmp .le (.fld .cursor) (.fld .lb)) (.cmp .ne (.idx (.fld .current) (.sub (.fld .cursor) (.int 1))) (.str [72]))) (.raise 0 .nil) .nil (.augf .cursor false (.int 1) (.setf .lb (.loc 1) (.ret (.bool false) .nil)))) (.ite (.not (.ex (.call1 .out_grouping_b (.cst .g_v)))) (.setf .lb (.loc 1) (.ret (.bool false) .nil)) .nil (.expr (.call0 .slice_del) (.setf .lb (.loc 1) (.ret (.bool true) .nil)))))))))))
noncomputable def names_r_verb_suffix : List String := ["self", "v_2", "among_var", "v_3", "v_4"]
noncomputable def code_r_verb_suffix : C := (.ite (.cmp .lt (.fld .cursor) (.fld .pv)) (.ret (.bool false) .nil) .nil (.setl 1 (.fld .lb) (.setf .lb (.fld .pv) (.setf .ket (.fld .cursor) (.setl 2 (.call1 .find_among_b (.cst .a_7)) (.ite (.cmp .eq (.loc 2) (.int 0)) (.setf .lb (.loc 1) (.ret (.bool false) .nil)) .nil (.setf .bra (.fld .cursor) (.setf .lb (.loc 1) (.ite (.cmp .eq (.loc 2) (.int 1)) (.ite (.not (.ex (.call0 .r_R2))) (.ret (.bool false) .nil) .nil (.expr (.call0 .slice_del) .nil)) (.ite (.cmp .eq (.loc 2) (.int 2)) (.expr (.call0 .slice_del) .nil) (.ite (.cmp .eq (.loc 2) (.int 3)) (.setl 3 (.sub (.fld .limit) (.fld .cursor)) (.tryc 0 (.ite (.or (.cmp .le (.fld .cursor) (.fld .lb)) (.cmp .ne (.idx (.fld .current) (.sub (.fld .cursor) (.int 1))) (.str [101]))) (.setf .cursor (.sub (.fld .limit) (.loc 3)) (.raise 0 .nil)) .nil (.augf .cursor false (.int 1) (.ite (.not (.ex (.call0 .r_RV))) (.setf .cursor (.sub (.fld .limit) (.loc 3)) (.raise 0 .nil)) .nil (.setf .bra (.fld .cursor) .nil)))) (.expr (.call0 .slice_del) .nil))) (.setl 4 (.sub (.fld .limit) (.fld .cursor)) (.tryc 0 (.setl 2 (.call1 .find_among_b (.cst .a_6)) (.ite (.cmp .eq (.loc 2) (.int 0)) (.raise 0 .nil) .nil (.ite (.cmp .eq (.loc 2) (.int 1)) (.ite (.cmp .le (.fld .cursor) (.fld .lb)) (.raise 0 .nil) .nil (.augf .cursor false (.int 1) (.ite (.cmp .gt (.fld .cursor) (.fld .lb)) (.raise 0 .nil) .nil .nil))) .nil (.ret (.bool false) .nil)))) (.setf .cursor (.sub (.fld .limit) (.loc 4)) (.expr (.call0 .slice_del) .nil)))) .nil) .nil) (.ret (.bool true) .nil))))))))))
noncomputable def names_r_residual_suffix : List String := ["self", "v_1", "v_2", "v_4", "among_var"]
noncomputable def code_r_residual_suffix : C := (.setl 1 (.sub (.fld .limit) (.fld .cursor)) (.tryc 0 (.setf .ket (.fld .cursor) (.ite (.or (.cmp .le (.fld .cursor) (.fld .lb)) (.cmp .ne (.idx (.fld .current) (.sub (.fld .cursor) (.int 1))) (.str [115]))) (.setf .cursor (.sub (.fld .limit) (.loc 1)) (.raise 0 .nil)) .nil (.augf .cursor false (.int 1) (.setf .bra (.fld .cursor) (.setl 2 (.sub (.fld .limit) (.fld .cursor)) (.wh (.ex (.bool true)) (.tryc 1 (.ite (.not (.ex (.call1 .eq_s_b (.str [72, 105])))) (.raise 1 .nil) .nil (.brk .nil)) (.ite (.not (.ex (.call1 .out_grouping_b (.cst .g_keep_with_s)))) (.setf .cursor (.sub (.fld .limit) (.loc 1)) (.raise 0 .nil)) .nil (.brk .nil))) (.setf .cursor (.sub (.fld .limit) (.loc 2)) (.expr (.call0 .slice_del) .nil)))))))) (.ite (.cmp .lt (.fld .cursor) (.fld .pv)) (.ret (.bool false) .nil) .nil (.setl 3 (.fld .lb) (.setf .lb (.fld .pv) (.setf .ket (.fld .cursor) (.setl 4 (.call1 .find_among_b (.cst .a_8)) (.ite (.cmp .eq (.loc 4) (.int 0)) (.setf .lb (.loc 3) (.ret (.bool false) .nil)) .nil (.setf .bra (.fld .cursor) (.ite (.cmp .eq (.loc 4) (.int 1)) (.ite (.not (.ex (.call0 .r_R2))) (.setf .lb (.loc 3) (.ret (.bool false) .nil)) .nil (.wh (.ex (.bool true)) (.tryc 0 (.ite (.or (.cmp .le (.fld .cursor) (.fld .lb)) (.cmp .ne (.idx (.fld .current) (.sub (.fld .cursor) (.int 1))) (.str [115]))) (.raise 0 .nil) .nil (.augf .cursor false (.int 1) (.brk .nil))) (.ite (.or (.cmp .le (.fld .cursor) (.fld .lb)) (.cmp .ne (.idx (.fld .current) (.sub (.fld .cursor) (.int 1))) (.str [116]))) (.setf .lb (.loc 3) (.ret (.bool false) .nil)) .nil (.augf .cursor false (.int 1) (.brk .nil)))) (.expr (.call0 .slice_del) .nil))) (.ite (.cmp .eq (.loc 4) (.int 2)) (.expr (.call1 .slice_from (.str [105])) .nil) (.expr (.call0 .slice_del) .nil) .nil) (.setf .lb (.loc 3) (.ret (.bool true) .nil))))))))))))
noncomputable def names_r_un_double : List String := ["self", "v_1"]
noncomputable def code_r_un_double : C := (.setl 1 (.sub (.fld .limit) (.fld .cursor)) (.ite (.cmp .eq (.call1 .find_among_b (.cst .a_9)) (.int 0)) (.ret (.bool false) .nil) .nil (.setf .cursor (.sub (.fld .limit) (.loc 1)) (.setf .ket (.fld .cursor) (.ite (.cmp .le (.fld .cursor) (.fld .lb)) (.ret (.bool false) .nil) .nil (.augf .cursor false (.int 1) (.setf .bra (.fld .cursor) (.expr (.call0 .slice_del) (.ret (.bool true) .nil)))))))))
noncomputable def names_r_un_accent : List String := ["self", "v_1"]
noncomputable def code_r_un_accent : C := (.setl 1 (.int 1) (.wh (.ex (.bool true)) (.tryc 0 (.ite (.not (.ex (.call1 .out_grouping_b (.cst .g_v)))) (.raise 0 .nil) .nil (.augl 1 false (.int 1) (.cont .nil))) (.brk .nil)) (.ite (.cmp .gt (.loc 1) (.int 0)) (.ret (.bool false) .nil) .nil (.setf .ket (.fld .cursor) (.wh (.ex (.bool true)) (.tryc 0 (.ite (.or (.cmp .le (.fld .cursor) (.fld .lb)) (.cmp .ne (.idx (.fld .current) (.sub (.fld .cursor) (.int 1))) (.str [233]))) (.raise 0 .nil) .nil (.augf .cursor false (.int 1) (.brk .nil))) (.ite (.or (.cmp .le (.fld .cursor) (.fld .lb)) (.cmp .ne (.idx (.fld .current) (.sub (.fld .cursor) (.int 1))) (.str [232]))) (.ret (.bool false) .nil) .nil (.augf .cursor false (.int 1) (.brk .nil)))) (.setf .bra (.fld .cursor) (.expr (.call1 .slice_from (.str [101])) (.ret (.bool true) .nil))))))))
noncomputable def names_stem : List String := ["self", "v_1", "v_2", "v_3", "v_4", "v_5", "v_6", "v_7", "v_8", "v_9", "v_10", "v_11"]
noncomputable def code_stem : C := (.setl 1 (.fld .cursor) (.expr (.call0 .r_elisions) (.setf .cursor (.loc 1) (.setl 2 (.fld .cursor) (.expr (.call0 .r_prelude) (.setf .cursor (.loc 2) (.expr (.call0 .r_mark_regions) (.setf .lb (.fld .cursor) (.setf .cursor (.fld .limit) (.setl 3 (.sub (.fld .limit) (.fld .cursor)) (.tryc 0 (.wh (.ex (.bool true)) (.setl 4 (.sub (.fld .limit) (.fld .cursor)) (.tryc 1 (.setl 5 (.sub (.fld .limit) (.fld .cursor)) (.wh (.ex (.bool true)) (.setl 6 (.sub (.fld .limit) (.fld .cursor)) (.tryc 2 (.ite (.not (.ex (.call0 .r_standard_suffix))) (.raise 2 .nil) .nil (.brk .nil)) (.setf .cursor (.sub (.fld .limit) (.loc 6)) (.tryc 2 (.ite (.not (.ex (.call0 .r_i_verb_suffix))) (.raise 2 .nil) .nil (.brk .nil)) (.setf .cursor (.sub (.fld .limit) (.loc 6)) (.ite (.not (.ex (.call0 .r_verb_suffix))) (.raise 1 .nil) .nil (.brk .nil))))))) (.setf .cursor (.sub (.fld .limit) (.loc 5)) (.setl 7 (.sub (.fld .limit) (.fld .cursor)) (.tryc 2 (.setf .ket (.fld .cursor) (.wh (.ex (.bool true)) (.setl 8 (.sub (.fld .limit) (.fld .cursor)) (.tryc 3 (.ite (.or (.cmp .le (.fld .cursor) (.fld .lb)) (.cmp .ne (.idx (.fld .current) (.sub (.fld .cursor) (.int 1))) (.str [89]))) (.raise 3 .nil) .nil (.augf .cursor false (.int 1) (.setf .bra (.fld .cursor) (.expr (.call1 .slice_from (.str [105])) (.brk .nil))))) (.setf .cursor (.sub (.fld .limit) (.loc 8)) (.ite (.or (.cmp .le (.fld .cursor) (.fld .lb)) (.cmp .ne (.idx (.fld .current) (.sub (.fld .cursor) (.int 1))) (.str [231]))) (.setf .cursor (.sub (.fld .limit) (.loc 7)) (.raise 2 .nil)) .nil (.augf .cursor false (.int 1) (.setf .bra (.fld .cursor) (.expr (.call1 .slice_from (.str [99])) (.brk .nil)))))))) .nil)) (.brk .nil)))))) (.setf .cursor (.sub (.fld .limit) (.loc 4)) (.ite (.not (.ex (.call0 .r_residual_suffix))) (.raise 0 .nil) .nil (.brk .nil))))) .nil) (.setf .cursor (.sub (.fld .limit) (.loc 3)) (.setl 9 (.sub (.fld .limit) (.fld .cursor)) (.expr (.call0 .r_un_double) (.setf .cursor (.sub (.fld .limit) (.loc 9)) (.setl 10 (.sub (.fld .limit) (.fld .cursor)) (.expr (.call0 .r_un_accent) (.setf .cursor (.sub (.fld .limit) (.loc 10)) (.setf .cursor (.fld .lb) (.setl 11 (.fld .cursor) (.expr (.call0 .r_postlude) (.setf .cursor (.loc 11) (.ret (.bool true) .nil)))))))))))))))))))))))
noncomputable def kap : Kap
  | .g_v => .set [97, 101, 105, 111, 117, 121, 224, 226, 232, 233, 234, 235, 238, 239, 244, 249, 251]
  | .g_oux_ending => .set [98, 104, 106, 108, 110, 112]
  | .g_elision_char => .set [99, 100, 106, 108, 109, 110, 115, 116]
  | .g_keep_with_s => .set [97, 105, 111, 115, 117, 232]
  | .a_0 => .tab [([99, 111, 108], -1, -1), ([110, 105], -1, 1), ([112, 97, 114], -1, -1), ([116, 97, 112], -1, -1)]
  | .a_1 => .tab [([], -1, 7), ([72], 0, 6), ([72, 101], 1, 4), ([72, 105], 1, 5), ([73], 0, 1), ([85], 0, 2), ([89], 0, 3)]
  | .a_2 => .tab [([105, 113, 85], -1, 3), ([97, 98, 108], -1, 3), ([73, 232, 114], -1, 4), ([105, 232, 114], -1, 4), ([101, 117, 115], -1, 2), ([105, 118], -1, 1)]
  | .a_3 => .tab [([105, 99], -1, 2), ([97, 98, 105, 108], -1, 1), ([105, 118], -1, 3)]
  | .a_4 => .tab [([105, 113, 85, 101], -1, 1), ([97, 116, 114, 105, 99, 101], -1, 2), ([97, 110, 99, 101], -1, 1), ([101, 110, 99, 101], -1, 5), ([108, 111, 103, 105, 101], -1, 3), ([97, 98, 108, 101], -1, 1), ([105, 115, 109, 101], -1, 1), ([101, 117, 115, 101], -1, 12), ([105, 115, 116, 101], -1, 1), ([105, 118, 101], -1, 8), ([105, 102], -1, 8), ([117, 115, 105, 111, 110], -1, 4), ([97, 116, 105, 111, 110], -1, 2), ([117, 116, 105, 111, 110], -1, 4), ([97, 116, 101, 117, 114], -1, 2), ([105, 113, 85, 101, 115], -1, 1), ([97, 116, 114, 105, 99, 101, 115], -1, 2), ([97, 110, 99, 101, 115], -1, 1), ([101, 110, 99, 101, 115], -1, 5), ([108, 111, 103, 105, 101, 115], -1, 3), ([97, 98, 108, 101, 115], -1, 1), ([105, 115, 109, 101, 115], -1, 1), ([101, 117, 115, 101, 115], -1, 12), ([105, 115, 116, 101, 115], -1, 1), ([105, 118, 101, 115], -1, 8), ([105, 102, 115], -1, 8), ([117, 115, 105, 111, 110, 115], -1, 4), ([97, 116, 105, 111, 110, 115], -1, 2), ([117, 116, 105, 111, 110, 115], -1, 4), ([97, 116, 101, 117, 114, 115], -1, 2), ([109, 101, 110, 116, 115], -1, 16), ([101, 109, 101, 110, 116, 115], 30, 6), ([105, 115, 115, 101, 109, 101, 110, 116, 115], 31, 13), ([105, 116, 233, 115], -1, 7), ([109, 101, 110, 116], -1, 16), ([101, 109, 101, 110, 116], 34, 6), ([105, 115, 115, 101, 109, 101, 110, 116], 35, 13), ([97, 109, 109, 101, 110, 116], 34, 14), ([101, 109, 109, 101, 110, 116], 34, 15), ([97, 117, 120], -1, 10), ([101, 97, 117, 120], 39, 9), ([101, 117, 120], -1, 1), ([111, 117, 120], -1, 11), ([105, 116, 233], -1, 7)]
  | .a_5 => .tab [([105, 114, 97], -1, 1), ([105, 101], -1, 1), ([105, 115, 115, 101], -1, 1), ([105, 115, 115, 97, 110, 116, 101], -1, 1), ([105], -1, 1), ([105, 114, 97, 105], 4, 1), ([105, 114], -1, 1), ([105, 114, 97, 115], -1, 1), ([105, 101, 115], -1, 1), ([238, 109, 101, 115], -1, 1), ([105, 115, 115, 101, 115], -1, 1), ([105, 115, 115, 97, 110, 116, 101, 115], -1, 1), ([238, 116, 101, 115], -1, 1), ([105, 115], -1, 1), ([105, 114, 97, 105, 115], 13, 1), ([105, 115, 115, 97, 105, 115], 13, 1), ([105, 114, 105, 111, 110, 115], -1, 1), ([105, 115, 115, 105, 111, 110, 115], -1, 1), ([105, 114, 111, 110, 115], -1, 1), ([105, 115, 115, 111, 110, 115], -1, 1), ([105, 115, 115, 97, 110, 116, 115], -1, 1), ([105, 116], -1, 1), ([105, 114, 97, 105, 116], 21, 1), ([105, 115, 115, 97, 105, 116], 21, 1), ([105, 115, 115, 97, 110, 116], -1, 1), ([105, 114, 97, 73, 101, 110, 116], -1, 1), ([105, 115, 115, 97, 73, 101, 110, 116], -1, 1), ([105, 114, 101, 110, 116], -1, 1), ([105, 115, 115, 101, 110, 116], -1, 1), ([105, 114, 111, 110, 116], -1, 1), ([238, 116], -1, 1), ([105, 114, 105, 101, 122], -1, 1), ([105, 115, 115, 105, 101, 122], -1, 1), ([105, 114, 101, 122], -1, 1), ([105, 115, 115, 101, 122], -1, 1)]
  | .a_6 => .tab [([97, 108], -1, 1), ([233, 112, 108], -1, -1), ([97, 117, 118], -1, -1)]
  | .a_7 => .tab [([97], -1, 3), ([101, 114, 97], 0, 2), ([97, 105, 115, 101], -1, 4), ([97, 115, 115, 101], -1, 3), ([97, 110, 116, 101], -1, 3), ([233, 101], -1, 2), ([97, 105], -1, 3), ([101, 114, 97, 105], 6, 2), ([101, 114], -1, 2), ([97, 115], -1, 3), ([101, 114, 97, 115], 9, 2), ([226, 109, 101, 115], -1, 3), ([97, 105, 115, 101, 115], -1, 4), ([97, 115, 115, 101, 115], -1, 3), ([97, 110, 116, 101, 115], -1, 3), ([226, 116, 101, 115], -1, 3), ([233, 101, 115], -1, 2), ([97, 105, 115], -1, 4), ([101, 97, 105, 115], 17, 2), ([101, 114, 97, 105, 115], 17, 2), ([105, 111, 110, 115], -1, 1), ([101, 114, 105, 111, 110, 115], 20, 2), ([97, 115, 115, 105, 111, 110, 115], 20, 3), ([101, 114, 111, 110, 115], -1, 2), ([97, 110, 116, 115], -1, 3), ([233, 115], -1, 2), ([97, 105, 116], -1, 3), ([101, 114, 97, 105, 116], 26, 2), ([97, 110, 116], -1, 3), ([97, 73, 101, 110, 116], -1, 3), ([101, 114, 97, 73, 101, 110, 116], 29, 2), ([232, 114, 101, 110, 116], -1, 2), ([97, 115, 115, 101, 110, 116], -1, 3), ([101, 114, 111, 110, 116], -1, 2), ([226, 116], -1, 3), ([101, 122], -1, 2), ([105, 101, 122], 35, 2), ([101, 114, 105, 101, 122], 36, 2), ([97, 115, 115, 105, 101, 122], 36, 3), ([101, 114, 101, 122], 35, 2), ([233], -1, 2)]
  | .a_8 => .tab [([101], -1, 3), ([73, 232, 114, 101], 0, 2), ([105, 232, 114, 101], 0, 2), ([105, 111, 110], -1, 1), ([73, 101, 114], -1, 2), ([105, 101, 114], -1, 2)]
  | .a_9 => .tab [([101, 108, 108], -1, -1), ([101, 105, 108, 108], -1, -1), ([101, 110, 110], -1, -1), ([111, 110, 110], -1, -1), ([101, 116, 116], -1, -1)]
noncomputable def codeOf : Mth → C
  | .set_current => code_set_current
  | .get_current => code_get_current
  | .in_grouping => code_in_grouping
  | .go_in_grouping => code_go_in_grouping
  | .in_grouping_b => code_in_grouping_b
  | .go_out_grouping => code_go_out_grouping
  | .out_grouping_b => code_out_grouping_b
  | .eq_s => code_eq_s
  | .eq_s_b => code_eq_s_b
  | .find_among => code_find_among
  | .find_among_b => code_find_among_b
  | .replace_s => code_replace_s
  | .slice_from => code_slice_from
  | .slice_del => code_slice_del
  | .r_elisions => code_r_elisions
  | .r_prelude => code_r_prelude
  | .r_mark_regions => code_r_mark_regions
  | .r_postlude => code_r_postlude
  | .r_RV => code_r_RV
  | .r_R1 => code_r_R1
  | .r_R2 => code_r_R2
  | .r_standard_suffix => code_r_standard_suffix
  | .r_i_verb_suffix => code_r_i_verb_suffix
  | .r_verb_suffix => code_r_verb_suffix
  | .r_residual_suffix => code_r_residual_suffix
  | .r_un_double => code_r_un_double
  | .r_un_accent => code_r_un_accent
  | .stem => code_stem
  | .stemWord => code_stemWord
noncomputable def namesOf : Mth → List String
  | .set_current => names_set_current
  | .get_current => names_get_current
  | .in_grouping => names_in_grouping
  | .go_in_grouping => names_go_in_grouping
  | .in_grouping_b => names_in_grouping_b
  | .go_out_grouping => names_go_out_grouping
  | .out_grouping_b => names_out_grouping_b
  | .eq_s => names_eq_s
  | .eq_s_b => names_eq_s_b
  | .find_among => names_find_among
  | .find_among_b => names_find_among_b
  | .replace_s => names_replace_s
  | .slice_from => names_slice_from
  | .slice_del => names_slice_del
  | .r_elisions => names_r_elisions
  | .r_prelude => names_r_prelude
  | .r_mark_regions => names_r_mark_regions
  | .r_postlude => names_r_postlude
  | .r_RV => names_r_RV
  | .r_R1 => names_r_R1
  | .r_R2 => names_r_R2
  | .r_standard_suffix => names_r_standard_suffix
  | .r_i_verb_suffix => names_r_i_verb_suffix
  | .r_verb_suffix => names_r_verb_suffix
  | .r_residual_suffix => names_r_residual_suffix
  | .r_un_double => names_r_un_double
  | .r_un_accent => names_r_un_accent
  | .stem => names_stem
  | .stemWord => names_stemWord
theorem co_set_current : codeOf .set_current = code_set_current := rfl
theorem co_get_current : codeOf .get_current = code_get_current := rfl
theorem co_in_grouping : codeOf .in_grouping = code_in_grouping := rfl
theorem co_go_in_grouping : codeOf .go_in_grouping = code_go_in_grouping := rfl
theorem co_in_grouping_b : codeOf .in_grouping_b = code_in_grouping_b := rfl
theorem co_go_out_grouping : codeOf .go_out_grouping = code_go_out_grouping := rfl
theorem co_out_grouping_b : codeOf .out_grouping_b = code_out_grouping_b := rfl
theorem co_eq_s : codeOf .eq_s = code_eq_s := rfl
theorem co_eq_s_b : codeOf .eq_s_b = code_eq_s_b := rfl
theorem co_find_among : codeOf .find_among = code_find_among := rfl
theorem co_find_among_b : codeOf .find_among_b = code_find_among_b := rfl
theorem co_replace_s : codeOf .replace_s = code_replace_s := rfl
theorem co_slice_from : codeOf .slice_from = code_slice_from := rfl
theorem co_slice_del : codeOf .slice_del = code_slice_del := rfl
theorem co_r_elisions : codeOf .r_elisions = code_r_elisions := rfl
theorem co_r_prelude : codeOf .r_prelude = code_r_prelude := rfl
theorem co_r_mark_regions : codeOf .r_mark_regions = code_r_mark_regions := rfl
theorem co_r_postlude : codeOf .r_postlude = code_r_postlude := rfl
theorem co_r_RV : codeOf .r_RV = code_r_RV := rfl
theorem co_r_R1 : codeOf .r_R1 = code_r_R1 := rfl
theorem co_r_R2 : codeOf .r_R2 = code_r_R2 := rfl
theorem co_r_standard_suffix : codeOf .r_standard_suffix = code_r_standard_suffix := rfl
theorem co_r_i_verb_suffix : codeOf .r_i_verb_suffix = code_r_i_verb_suffix := rfl
theorem co_r_verb_suffix : codeOf .r_verb_suffix = code_r_verb_suffix := rfl
theorem co_r_residual_suffix : codeOf .r_residual_suffix = code_r_residual_suffix := rfl
theorem co_r_un_double : codeOf .r_un_double = code_r_un_double := rfl
theorem co_r_un_accent : codeOf .r_un_accent = code_r_un_accent := rfl
theorem co_stem : codeOf .stem = code_stem := rfl
theorem co_stemWord : codeOf .stemWord = code_stemWord := rfl
theorem na_set_current : namesOf .set_current = names_set_current := rfl
theorem na_get_current : namesOf .get_current = names_get_current := rfl
theorem na_in_grouping : namesOf .in_grouping = names_in_grouping := rfl
theorem na_go_in_grouping : namesOf .go_in_grouping = names_go_in_grouping := rfl
theorem na_in_grouping_b : namesOf .in_grouping_b = names_in_grouping_b := rfl
theorem na_go_out_grouping : namesOf .go_out_grouping = names_go_out_grouping := rfl
theorem na_out_grouping_b : namesOf .out_grouping_b = names_out_grouping_b := rfl
theorem na_eq_s : namesOf .eq_s = names_eq_s := rfl
theorem na_eq_s_b : namesOf .eq_s_b = names_eq_s_b := rfl
theorem na_find_among : namesOf .find_among = names_find_among := rfl
theorem na_find_among_b : namesOf .find_among_b = names_find_among_b := rfl
theorem na_replace_s : namesOf .replace_s = names_replace_s := rfl
theorem na_slice_from : namesOf .slice_from = names_slice_from := rfl
theorem na_slice_del : namesOf .slice_del = names_slice_del := rfl
theorem na_r_elisions : namesOf .r_elisions = names_r_elisions := rfl
theorem na_r_prelude : namesOf .r_prelude = names_r_prelude := rfl
theorem na_r_mark_regions : namesOf .r_mark_regions = names_r_mark_regions := rfl
theorem na_r_postlude : namesOf .r_postlude = names_r_postlude := rfl
theorem na_r_RV : namesOf .r_RV = names_r_RV := rfl
theorem na_r_R1 : namesOf .r_R1 = names_r_R1 := rfl
theorem na_r_R2 : namesOf .r_R2 = names_r_R2 := rfl
theorem na_r_standard_suffix : namesOf .r_standard_suffix = names_r_standard_suffix := rfl
theorem na_r_i_verb_suffix : namesOf .r_i_verb_suffix = names_r_i_verb_suffix := rfl
theorem na_r_verb_suffix : namesOf .r_verb_suffix = names_r_verb_suffix := rfl
theorem na_r_residual_suffix : namesOf .r_residual_suffix = names_r_residual_suffix := rfl
theorem na_r_un_double : namesOf .r_un_double = names_r_un_double := rfl
theorem na_r_un_accent : namesOf .r_un_accent = names_r_un_accent := rfl
theorem na_stem : namesOf .stem = names_stem := rfl
theorem na_stemWord : namesOf .stemWord = names_stemWord := rfl
section
variable {N : Nat} {μ : Mu} {κ : Kap} {a b c d e' : Option V} {r : Loc} {f : F} {e : CE} {k : C}
theorem xs1 : exec N μ κ (.setl 1 e k) (a :: b :: r) f = (evalE μ κ (a :: b :: r) e f).bind fun y => exec N μ κ k (a :: some y.1 :: r) y.2 := rfl
theorem xs2 : exec N μ κ (.setl 2 e k) (a :: b :: c :: r) f = (evalE μ κ (a :: b :: c :: r) e f).bind fun y => exec N μ κ k (a :: b :: some y.1 :: r) y.2 := rfl
theorem xs3 : exec N μ κ (.setl 3 e k) (a :: b :: c :: d :: r) f = (evalE μ κ (a :: b :: c :: d :: r) e f).bind fun y => exec N μ κ k (a :: b :: c :: some y.1 :: r) y.2 := rfl
theorem xs4 : exec N μ κ (.setl 4 e k) (a :: b :: c :: d :: e' :: r) f = (evalE μ κ (a :: b :: c :: d :: e' :: r) e f).bind fun y => exec N μ κ k (a :: b :: c :: d :: some y.1 :: r) y.2 := rfl
theorem xsf {q : Fld} : exec N μ κ (.setf q e k) (some .self :: r) f = (evalE μ κ (some .self :: r) e f).bind fun y => (y.2.put q y.1).bind fun g => exec N μ κ k (some .self :: r) g := rfl
theorem xaf {q : Fld} {p : Bool} : exec N μ κ (.augf q p e k) (some .self :: r) f = (evalE μ κ (some .self :: r) e f).bind fun y => (if p then addV (f.get q) y.1 else subV (f.get q) y.1).bind fun v => (y.2.put q v).bind fun g => exec N μ κ k (some .self :: r) g := rfl
theorem evf {q : Fld} : evalE μ κ (some .self :: r) (.fld q) f = some (f.get q, f) := rfl
theorem evc0 {n : Mth} : evalE μ κ (some .self :: r) (.call0 n) f = μ n [] f := rfl
theorem evc1 {n : Mth} {x : CE} : evalE μ κ (some .self :: r) (.call1 n x) f = (evalE μ κ (some .self :: r) x f).bind fun x => μ n [x.1] x.2 := rfl
theorem c1 : ((1 : Nat) : Int) = 1 := rfl
theorem cau0 {m : Loc} {h : Loc → F → Res} : caught 0 (some (.exc 0, m, f)) h = h m f := rfl
theorem cau1 {m : Loc} {h : Loc → F → Res} : caught 1 (some (.exc 1, m, f)) h = h m f := rfl
theorem cau2 {m : Loc} {h : Loc → F → Res} : caught 2 (some (.exc 2, m, f)) h = h m f := rfl
theorem cau3 {m : Loc} {h : Loc → F → Res} : caught 3 (some (.exc 3, m, f)) h = h m f := rfl
theorem itt {α : Type} {A B : α} {f : F} : (if ((true, f) : Bool × F).1 = true then A else B) = A := rfl
theorem itf {α : Type} {A B : α} {f : F} : (if ((false, f) : Bool × F).1 = true then A else B) = B := rfl
end
section
theorem bind_some {α β : Type} (a : α) (g : α → Option β) : (some a).bind g = g a := rfl
theorem map_some {α β : Type} (a : α) (g : α → β) : (some a).map g = some (g a) := rfl
theorem put_cur (f : F) (s : List Nat) : f.put .current (.str s) = some { f with current := s } := rfl
theorem put_cursor (f : F) (i : Int) : f.put .cursor (.int i) = some { f with cursor := i } := rfl
theorem put_limit (f : F) (i : Int) : f.put .limit (.int i) = some { f with limit := i } := rfl
theorem put_lb (f : F) (i : Int) : f.put .lb (.int i) = some { f with lb := i } := rfl
theorem put_bra (f : F) (i : Int) : f.put .bra (.int i) = some { f with bra := i } := rfl
theorem put_ket (f : F) (i : Int) : f.put .ket (.int i) = some { f with ket := i } := rfl
theorem put_pv (f : F) (i : Int) : f.put .pv (.int i) = some { f with pv := i } := rfl
theorem put_p1 (f : F) (i : Int) : f.put .p1 (.int i) = some { f with p1 := i } := rfl
theorem put_p2 (f : F) (i : Int) : f.put .p2 (.int i) = some { f with p2 := i } := rfl
theorem get_cur (f : F) : f.get .current = .str f.current := rfl
theorem get_cursor (f : F) : f.get .cursor = .int f.cursor := rfl
theorem get_limit (f : F) : f.get .limit = .int f.limit := rfl
theorem get_lb (f : F) : f.get .lb = .int f.lb := rfl
theorem get_bra (f : F) : f.get .bra = .int f.bra := rfl
theorem get_ket (f : F) : f.get .ket = .int f.ket := rfl
theorem get_pv (f : F) : f.get .pv = .int f.pv := rfl
theorem get_p1 (f : F) : f.get .p1 = .int f.p1 := rfl
theorem get_p2 (f : F) : f.get .p2 = .int f.p2 := rfl
theorem addV_int (a b : Int) : addV (.int a) (.int b) = some (.int (a + b)) := rfl
theorem subV_int (a b : Int) : subV (.int a) (.int b) = some (.int (a - b)) := rfl
theorem and_next (m : Loc) (f : F) (k : Loc → F → Res) : andThen (some (.next, m, f)) k = k m f := rfl
theorem and_exc (n : Nat) (m : Loc) (f : F) (k : Loc → F → Res) : andThen (some (.exc n, m, f)) k = some (.exc n, m, f) := rfl
theorem and_brk (m : Loc) (f : F) (k : Loc → F → Res) : andThen (some (.brk, m, f)) k = some (.brk, m, f) := rfl
theorem and_cont (m : Loc) (f : F) (k : Loc → F → Res) : andThen (some (.cont, m, f)) k = some (.cont, m, f) := rfl
theorem and_ret (v : V) (m : Loc) (f : F) (k : Loc → F → Res) : andThen (some (.ret v, m, f)) k = some (.ret v, m, f) := rfl
theorem cau_next (n : Nat) (m : Loc) (f : F) (k : Loc → F → Res) : caught n (some (.next, m, f)) k = k m f := rfl
theorem cau_same (n : Nat) (m : Loc) (f : F) (k : Loc → F → Res) : caught n (some (.exc n, m, f)) k = k m f := if_pos rfl
theorem cau_brk (n : Nat) (m : Loc) (f : F) (k : Loc → F → Res) : caught n (some (.brk, m, f)) k = some (.brk, m, f) := rfl
theorem cau_cont (n : Nat) (m : Loc) (f : F) (k : Loc → F → Res) : caught n (some (.cont, m, f)) k = some (.cont, m, f) := rfl
theorem cau_ret (n : Nat) (v : V) (m : Loc) (f : F) (k : Loc → F → Res) : caught n (some (.ret v, m, f)) k = some (.ret v, m, f) := rfl
theorem tur_next (m : Loc) (f : F) (k : Loc → F → Res) : turned (some (.next, m, f)) k = k m f := rfl
theorem tur_cont (m : Loc) (f : F) (k : Loc → F → Res) : turned (some (.cont, m, f)) k = k m f := rfl
theorem tur_brk (m : Loc) (f : F) (k : Loc → F → Res) : turned (some (.brk, m, f)) k = some (.next, m, f) := rfl
theorem tur_exc (n : Nat) (m : Loc) (f : F) (k : Loc → F → Res) : turned (some (.exc n, m, f)) k = some (.exc n, m, f) := rfl
theorem tur_ret (v : V) (m : Loc) (f : F) (k : Loc → F → Res) : turned (some (.ret v, m, f)) k = some (.ret v, m, f) := rfl
theorem cV_lt {a b : Int} : cmpV .lt (.int a) (.int b) = some (decide (a < b)) := rfl
theorem cV_le {a b : Int} : cmpV .le (.int a) (.int b) = some (decide (a ≤ b)) := rfl
theorem cV_gt {a b : Int} : cmpV .gt (.int a) (.int b) = some (decide (a > b)) := rfl
theorem cV_ge {a b : Int} : cmpV .ge (.int a) (.int b) = some (decide (a ≥ b)) := rfl
theorem cV_eq {a b : Int} : cmpV .eq (.int a) (.int b) = some (decide (a = b)) := rfl
theorem cV_ne {a b : Int} : cmpV .ne (.int a) (.int b) = some (!decide (a = b)) := rfl
theorem cV_se {a b : List Nat} : cmpV .eq (.str a) (.str b) = some (a == b) := rfl
theorem cV_sn {a b : List Nat} : cmpV .ne (.str a) (.str b) = some (!(a == b)) := rfl
theorem cV_in {c : Nat} {l : List Nat} : cmpV .isin (.str [c]) (.set l) = some (l.contains c) := rfl
theorem cV_ni {c : Nat} {l : List Nat} : cmpV .notin (.str [c]) (.set l) = some (!l.contains c) := rfl
theorem addV_s {a b : List Nat} : addV (.str a) (.str b) = if a.length + b.length ≤ 1000 then some (.str (a ++ b)) else Option.none := rfl
theorem iV {s : List Nat} {i : Int} : idxV (.str s) (.int i) = if 0 ≤ i then (s[i.toNat]?).map fun c => .str [c] else Option.none := rfl
theorem itV {t : List AM} {i : Int} : itemV (.tab t) (.int i) = if 0 ≤ i then (t[i.toNat]?).map .among else Option.none := rfl
theorem ctV {s : List Nat} {lo hi : Int} : cutV (.str s) (.int lo) (.int hi) = if 0 ≤ lo ∧ lo ≤ hi ∧ hi ≤ s.length then some (.str ((s.drop lo.toNat).take (hi - lo).toNat)) else Option.none := rfl
theorem clV {s : List Nat} {lo : Int} : cutLV (.str s) (.int lo) = if 0 ≤ lo ∧ lo ≤ s.length then some (.str (s.drop lo.toNat)) else Option.none := rfl
theorem lnV_s {s : List Nat} : lenV (.str s) = some (.int s.length) := rfl
theorem lnV_t {s : List AM} : lenV (.tab s) = some (.int s.length) := rfl
theorem shV {a b : Int} : shrV (.int a) (.int b) = if 0 ≤ a ∧ b = 1 then some (.int (a / 2)) else Option.none := rfl
theorem mnV {a b : Int} : minV (.int a) (.int b) = some (.int (if b < a then b else a)) := rfl
theorem stV {a b : List Nat} : startsV (.str a) (.str b) = some (.bool (b.isPrefixOf a)) := rfl
theorem bk_r {v : V} {m : Loc} {f : F} : back (some (.ret v, m, f)) = some (v, f) := rfl
theorem bk_n {m : Loc} {f : F} : back (some (.next, m, f)) = some (.none, f) := rfl
end
noncomputable def arP : Mth → Nat
  | .set_current | .in_grouping | .go_in_grouping | .in_grouping_b | .go_out_grouping | .out_grouping_b | .eq_s | .eq_s_b | .find_among | .find_among_b | .slice_from | .stemWord => 2
  | .replace_s => 4
  | _ => 1
noncomputable def stepM (N : Nat) (μ : Mu) (κ : Kap) : Mu := fun n args f => if args.length + 1 = arP n then callC N μ κ (codeOf n) (namesOf n).length args f else none
noncomputable def runM (N : Nat) (κ : Kap) : Nat → Mu
  | 0 => fun _ _ _ => none
  | k + 1 => stepM N (runM N κ k) κ
theorem runM_succ (N κ k n args f) (h : args.length + 1 = arP n) : runM N κ (k + 1) n args f = callC N (runM N κ k) κ (codeOf n) (namesOf n).length args f := by
  show stepM N (runM N κ k) κ n args f = _
  unfold stepM
  rw [if_pos h]
theorem ge_dec {a b : Nat} : decide (a ≥ b) = !decide (a < b) := by
  by_cases h : a < b <;> simp [h] <;> lia
section
variable {N : Nat} {κ : Kap} {k : Nat}
noncomputable def inAt (W : List Nat) (i : Nat) (l : List Nat) : Bool := match W[i]? with
  | some a => l.contains a
  | none => false
theorem run_ig (W : List Nat) (i : Nat) (l : List Nat) (lb bra ket pv p1 p2 : Int) :
    runM N κ (k + 1) .in_grouping [.set l] ⟨W, i, W.length, lb, bra, ket, pv, p1, p2⟩ =
      some (.bool (inAt W i l), ⟨W, if inAt W i l then (i + 1 : Nat) else i, W.length, lb, bra, ket, pv, p1, p2⟩) := by
  rw [runM_succ (h := rfl)]
  by_cases h : i < W.length
  · have hx : W[i]? = some W[i] := List.getElem?_eq_getElem h
    have h1 : ¬ ((W.length : Int) ≤ i) := by lia
    by_cases hc : W[i] ∈ l
    · simp [callC, bk_r, bk_n, co_in_grouping, code_in_grouping, xf_nil, xf_ret, xf_augf, xf_ite, te_cmp, ev_int, ev_bool, ev_loc, ev_fld, ev_idx, enter, na_in_grouping, names_in_grouping, Loc.at, get_cur, get_cursor, get_limit, get_lb, get_bra, get_ket, get_pv, get_p1, get_p2, put_cur, put_cursor, put_limit, put_lb, put_bra, put_ket, put_pv, put_p1, put_p2, cV_lt, cV_le, cV_gt, cV_ge, cV_eq, cV_ne, cV_se, cV_sn, cV_in, cV_ni, iV, and_next, and_ret, and_exc, addV_int, addV_s, inAt, hx, hc, h1]
    · simp [callC, bk_r, bk_n, co_in_grouping, code_in_grouping, xf_nil, xf_ret, xf_augf, xf_ite, te_cmp, ev_int, ev_bool, ev_loc, ev_fld, ev_idx, enter, na_in_grouping, names_in_grouping, Loc.at, get_cur, get_cursor, get_limit, get_lb, get_bra, get_ket, get_pv, get_p1, get_p2, put_cur, put_cursor, put_limit, put_lb, put_bra, put_ket, put_pv, put_p1, put_p2, cV_lt, cV_le, cV_gt, cV_ge, cV_eq, cV_ne, cV_se, cV_sn, cV_in, cV_ni, iV, and_next, and_ret, and_exc, addV_int, addV_s, inAt, hx, hc, h1]
  · have hx : W[i]? = none := List.getElem?_eq_none (by lia)
    have h1 : ((W.length : Int) ≤ i) := by lia
    simp [callC, bk_r, bk_n, co_in_grouping, code_in_grouping, xf_nil, xf_ret, xf_augf, xf_ite, te_cmp, ev_int, ev_bool, ev_loc, ev_fld, ev_idx, enter, na_in_grouping, names_in_grouping, Loc.at, get_cur, get_cursor, get_limit, get_lb, get_bra, get_ket, get_pv, get_p1, get_p2, put_cur, put_cursor, put_limit, put_lb, put_bra, put_ket, put_pv, put_p1, put_p2, cV_lt, cV_le, cV_gt, cV_ge, cV_eq, cV_ne, cV_se, cV_sn, cV_in, cV_ni, iV, and_next, and_ret, and_exc, addV_int, addV_s, inAt, hx, h1]
theorem run_replace (W : List Nat) (cur lim lb bra ket pv p1 p2 : Int) (a b : Nat) (s : List Nat) (hab : a ≤ b) (hb : b ≤ W.length) (hW : W.length + s.length ≤ 1000) :
    runM N κ (k + 1) .replace_s [.int a, .int b, .str s] ⟨W, cur, lim, lb, bra, ket, pv, p1, p2⟩ =
      some (.int (s.length - (b - a)), ⟨W.take a ++ s ++ W.drop b, if cur ≥ b then cur + (s.length - (b - a)) else if cur > a then a else cur, lim + (s.length - (b - a)), lb, bra, ket, pv, p1, p2⟩) := by
  rw [runM_succ (h := rfl)]
  have e1 : a + s.length ≤ 1000 := by lia
  have e2 : a + s.length + (W.length - b) ≤ 1000 := by lia
  have e3 : a ≤ W.length := by lia
  have e4 : (b : Int) ≤ W.length := by lia
  have e5 : a + (s.length + (W.length - b)) ≤ 1000 := by lia
  by_cases h1 : (b : Int) ≤ cur
  · simp [callC, bk_r, bk_n, co_replace_s, code_replace_s, xf_nil, xf_ret, xf_setl, xf_setf, xf_augf, xf_ite, te_cmp, ev_int, ev_loc, ev_fld, ev_add, ev_sub, ev_cut, ev_cutL, ev_len, enter, na_replace_s, names_replace_s, Loc.at, get_cur, get_cursor, get_limit, get_lb, get_bra, get_ket, get_pv, get_p1, get_p2, put_cur, put_cursor, put_limit, put_lb, put_bra, put_ket, put_pv, put_p1, put_p2, cV_lt, cV_le, cV_gt, cV_ge, cV_eq, cV_ne, cV_se, cV_sn, cV_in, cV_ni, and_next, and_ret, and_exc, addV_int, addV_s, subV_int, lnV_s, lnV_t, ctV, clV, e1, hb, e2, e3, h1]
  · by_cases h2 : (a : Int) < cur
    · simp [callC, bk_r, bk_n, co_replace_s, code_replace_s, xf_nil, xf_ret, xf_setl, xf_setf, xf_augf, xf_ite, te_cmp, ev_int, ev_loc, ev_fld, ev_add, ev_sub, ev_cut, ev_cutL, ev_len, enter, na_replace_s, names_replace_s, Loc.at, get_cur, get_cursor, get_limit, get_lb, get_bra, get_ket, get_pv, get_p1, get_p2, put_cur, put_cursor, put_limit, put_lb, put_bra, put_ket, put_pv, put_p1, put_p2, cV_lt, cV_le, cV_gt, cV_ge, cV_eq, cV_ne, cV_se, cV_sn, cV_in, cV_ni, and_next, and_ret, and_exc, addV_int, addV_s, subV_int, lnV_s, lnV_t, ctV, clV, e1, hb, e2, e3, h1, h2]
    · simp [callC, bk_r, bk_n, co_replace_s, code_replace_s, xf_nil, xf_ret, xf_setl, xf_setf, xf_augf, xf_ite, te_cmp, ev_int, ev_loc, ev_fld, ev_add, ev_sub, ev_cut, ev_cutL, ev_len, enter, na_replace_s, names_replace_s, Loc.at, get_cur, get_cursor, get_limit, get_lb, get_bra, get_ket, get_pv, get_p1, get_p2, put_cur, put_cursor, put_limit, put_lb, put_bra, put_ket, put_pv, put_p1, put_p2, cV_lt, cV_le, cV_gt, cV_ge, cV_eq, cV_ne, cV_se, cV_sn, cV_in, cV_ni, and_next, and_ret, and_exc, addV_int, addV_s, subV_int, lnV_s, lnV_t, ctV, clV, e1, hb, e2, e3, h1, h2]
theorem run_slice_from (W : List Nat) (cur : Int) (lb pv p1 p2 : Int) (a b : Nat) (s : List Nat) (hab : a ≤ b) (hb : b ≤ W.length) (hW : W.length + s.length ≤ 1000) :
    runM N κ (k + 2) .slice_from [.str s] ⟨W, cur, W.length, lb, a, b, pv, p1, p2⟩ =
      some (.none, ⟨W.take a ++ s ++ W.drop b, if cur ≥ b then cur + (s.length - (b - a)) else if cur > a then a else cur, W.length + (s.length - (b - a)), lb, a, a + s.length, pv, p1, p2⟩) := by
  rw [runM_succ (h := rfl)]
  have e1 : (a : Int) ≤ b := by lia
  have e4 : (b : Int) ≤ W.length := by lia
  simp [callC, bk_r, bk_n, co_slice_from, code_slice_from, xf_nil, xf_expr, xf_setf, xf_asrt, te_cmp, ev_int, ev_loc, ev_fld, ev_add, ev_call3, ev_len, enter, na_slice_from, names_slice_from, Loc.at, get_cur, get_cursor, get_limit, get_lb, get_bra, get_ket, get_pv, get_p1, get_p2, put_cur, put_cursor, put_limit, put_lb, put_bra, put_ket, put_pv, put_p1, put_p2, cV_lt, cV_le, cV_gt, cV_ge, cV_eq, cV_ne, cV_se, cV_sn, cV_in, cV_ni, addV_int, addV_s, lnV_s, lnV_t, e1, e4, run_replace, hab, hb, hW]
theorem run_slice_del (W : List Nat) (cur : Int) (lb pv p1 p2 : Int) (a b : Nat) (hab : a ≤ b) (hb : b ≤ W.length) (hW : W.length ≤ 1000) :
    runM N κ (k + 3) .slice_del [] ⟨W, cur, W.length, lb, a, b, pv, p1, p2⟩ =
      some (.none, ⟨W.take a ++ W.drop b, if cur ≥ b then cur - (b - a) else if cur > a then a else cur, W.length - (b - a), lb, a, a, pv, p1, p2⟩) := by
  rw [runM_succ (h := rfl)]
  simp [callC, bk_r, bk_n, co_slice_del, code_slice_del, xf_ret, ev_str, ev_call1, enter, na_slice_del, names_slice_del, Loc.at, run_slice_from, hab, hb, hW]
  split <;> lia
end
noncomputable def gv : List Nat := [97, 101, 105, 111, 117, 121, 224, 226, 232, 233, 234, 235, 238, 239, 244, 249, 251]
theorem kap_gv : kap .g_v = .set gv := rfl
section
variable {N : Nat} {k : Nat}
noncomputable def isAt (W : List Nat) (i : Nat) (x : Nat) : Bool := match W[i]? with
  | some a => a == x
  | none => false
theorem isAt_lt {W : List Nat} {i x : Nat} (h : isAt W i x = true) : i < W.length := by
  unfold isAt at h
  split at h
  · rename_i a e; exact (List.getElem?_eq_some_iff.mp e).1
  · first | exact no_none h | exact no_false h | cases h
theorem inAt_lt {W : List Nat} {i : Nat} {l : List Nat} (h : inAt W i l = true) : i < W.length := by
  unfold inAt at h
  split at h
  · rename_i a e; exact (List.getElem?_eq_some_iff.mp e).1
  · first | exact no_none h | exact no_false h | cases h
theorem isz (a b : Nat) : (a : Int) + (b : Int) = ((a + b : Nat) : Int) := (Int.natCast_add a b).symm
theorem test_true (μ : Mu) (m : Loc) (f : F) : test μ kap m (.ex (.bool true)) f = some (true, f) := rfl
theorem test_ig (m : Loc) (hm : m.at 0 = some .self) (W : List Nat) (i : Nat) (lb bra ket pv p1 p2 : Int) :
    test (runM N kap (k + 1)) kap m (.not (.ex (.call1 .in_grouping (.cst .g_v)))) ⟨W, i, W.length, lb, bra, ket, pv, p1, p2⟩ =
      some (!inAt W i gv, ⟨W, if inAt W i gv then (i + 1 : Nat) else i, W.length, lb, bra, ket, pv, p1, p2⟩) := by
  simp only [te_not, te_ex, ev_cst, ev_call1, hm, if_true, kap_gv, bind_some, run_ig, map_some]
theorem test_sign (μ : Mu) (m : Loc) (hm : m.at 0 = some .self) (x : Nat) (W : List Nat) (i : Nat) (hi : i ≤ W.length) (lb bra ket pv p1 p2 : Int) :
    test μ kap m (.or (.cmp .eq (.fld .cursor) (.fld .limit)) (.cmp .ne (.idx (.fld .current) (.fld .cursor)) (.str [x]))) ⟨W, i, W.length, lb, bra, ket, pv, p1, p2⟩ =
      some (!isAt W i x, ⟨W, i, W.length, lb, bra, ket, pv, p1, p2⟩) := by
  by_cases h : i < W.length
  · have hx : W[i]? = some W[i] := List.getElem?_eq_getElem h
    have h1 : ¬ ((i : Int) = W.length) := by lia
    simp [te_or, te_cmp, ev_str, ev_fld, ev_idx, hm, get_cur, get_cursor, get_limit, get_lb, get_bra, get_ket, get_pv, get_p1, get_p2, cV_lt, cV_le, cV_gt, cV_ge, cV_eq, cV_ne, cV_se, cV_sn, cV_in, cV_ni, iV, isAt, hx, h1]
  · have e : i = W.length := by lia
    have hx : W[i]? = none := List.getElem?_eq_none (by lia)
    subst e
    simp [te_or, te_cmp, ev_str, ev_fld, ev_idx, hm, get_cur, get_cursor, get_limit, get_lb, get_bra, get_ket, get_pv, get_p1, get_p2, cV_lt, cV_le, cV_gt, cV_ge, cV_eq, cV_ne, cV_se, cV_sn, cV_in, cV_ni, iV, isAt]
theorem test_ge (μ : Mu) (m : Loc) (hm : m.at 0 = some .self) (W : List Nat) (i : Nat) (lb bra ket pv p1 p2 : Int) :
    test μ kap m (.cmp .ge (.fld .cursor) (.fld .limit)) ⟨W, i, W.length, lb, bra, ket, pv, p1, p2⟩ = some (decide (W.length ≤ i), ⟨W, i, W.length, lb, bra, ket, pv, p1, p2⟩) := by
  simp [te_cmp, ev_fld, hm, get_cur, get_cursor, get_limit, get_lb, get_bra, get_ket, get_pv, get_p1, get_p2, cV_lt, cV_le, cV_gt, cV_ge, cV_eq, cV_ne, cV_se, cV_sn, cV_in, cV_ni]
noncomputable def cInner : C :=
            (.setl 3 (.fld .cursor)
            (.tryc 2
              (.ite (.not (.ex (.call1 .in_grouping (.cst .g_v))))
                (.raise 2
                .nil)
                .nil
              (.setf .bra (.fld .cursor)
              (.wh (.ex (.bool true))
                (.setl 4 (.fld .cursor)
                (.tryc 3
                  (.ite (.or (.cmp .eq (.fld .cursor) (.fld .limit)) (.cmp .ne (.idx (.fld .current) (.fld .cursor)) (.str [117])))
                    (.raise 3
                    .nil)
                    .nil
                  (.augf .cursor true (.int 1)
                  (.setf .ket (.fld .cursor)
                  (.ite (.not (.ex (.call1 .in_grouping (.cst .g_v))))
                    (.raise 3
                    .nil)
                    .nil
                  (.expr (.call1 .slice_from (.str [85]))
                  (.brk
                  .nil))))))
                (.setf .cursor (.loc 4)
                (.tryc 3
                  (.ite (.or (.cmp .eq (.fld .cursor) (.fld .limit)) (.cmp .ne (.idx (.fld .current) (.fld .cursor)) (.str [105])))
                    (.raise 3
                    .nil)
                    .nil
                  (.augf .cursor true (.int 1)
                  (.setf .ket (.fld .cursor)
                  (.ite (.not (.ex (.call1 .in_grouping (.cst .g_v))))
                    (.raise 3
                    .nil)
                    .nil
                  (.expr (.call1 .slice_from (.str [73]))
                  (.brk
                  .nil))))))
                (.setf .cursor (.loc 4)
                (.ite (.or (.cmp .eq (.fld .cursor) (.fld .limit)) (.cmp .ne (.idx (.fld .current) (.fld .cursor)) (.str [121])))
                  (.raise 2
                  .nil)
                  .nil
                (.augf .cursor true (.int 1)
                (.setf .ket (.fld .cursor)
                (.expr (.call1 .slice_from (.str [89]))
                (.brk
                .nil))))))))))
              (.brk
              .nil))))
            (.setf .cursor (.loc 3)
            (.tryc 2
              (.setf .bra (.fld .cursor)
              (.ite (.or (.cmp .eq (.fld .cursor) (.fld .limit)) (.cmp .ne (.idx (.fld .current) (.fld .cursor)) (.str [235])))
                (.raise 2
                .nil)
                .nil
              (.augf .cursor true (.int 1)
              (.setf .ket (.fld .cursor)
              (.expr (.call1 .slice_from (.str [72, 101]))
              (.brk
              .nil))))))
            (.setf .cursor (.loc 3)
            (.tryc 2
              (.setf .bra (.fld .cursor)
              (.ite (.or (.cmp .eq (.fld .cursor) (.fld .limit)) (.cmp .ne (.idx (.fld .current) (.fld .cursor)) (.str [239])))
                (.raise 2
                .nil)
                .nil
              (.augf .cursor true (.int 1)
              (.setf .ket (.fld .cursor)
              (.expr (.call1 .slice_from (.str [72, 105]))
              (.brk
              .nil))))))
            (.setf .cursor (.loc 3)
            (.tryc 2
              (.setf .bra (.fld .cursor)
              (.ite (.or (.cmp .eq (.fld .cursor) (.fld .limit)) (.cmp .ne (.idx (.fld .current) (.fld .cursor)) (.str [121])))
                (.raise 2
                .nil)
                .nil
              (.augf .cursor true (.int 1)
              (.setf .ket (.fld .cursor)
              (.ite (.not (.ex (.call1 .in_grouping (.cst .g_v))))
                (.raise 2
                .nil)
                .nil
              (.expr (.call1 .slice_from (.str [89]))
              (.brk
              .nil)))))))
            (.setf .cursor (.loc 3)
            (.ite (.or (.cmp .eq (.fld .cursor) (.fld .limit)) (.cmp .ne (.idx (.fld .current) (.fld .cursor)) (.str [113])))
              (.raise 1
              .nil)
              .nil
            (.augf .cursor true (.int 1)
            (.setf .bra (.fld .cursor)
            (.ite (.or (.cmp .eq (.fld .cursor) (.fld .limit)) (.cmp .ne (.idx (.fld .current) (.fld .cursor)) (.str [117])))
              (.raise 1
              .nil)
              .nil
            (.augf .cursor true (.int 1)
            (.setf .ket (.fld .cursor)
            (.expr (.call1 .slice_from (.str [85]))
            (.brk
            .nil)))))))))))))))))
noncomputable def stepW (W : List Nat) (i : Nat) : Option (List Nat) :=
  if inAt W i gv && isAt W (i + 1) 117 && inAt W (i + 1 + 1) gv then some (W.take (i + 1) ++ [85] ++ W.drop (i + 1 + 1))
  else if inAt W i gv && isAt W (i + 1) 105 && inAt W (i + 1 + 1) gv then some (W.take (i + 1) ++ [73] ++ W.drop (i + 1 + 1))
  else if inAt W i gv && isAt W (i + 1) 121 then some (W.take (i + 1) ++ [89] ++ W.drop (i + 1 + 1))
  else if isAt W i 235 then some (W.take i ++ [72, 101] ++ W.drop (i + 1))
  else if isAt W i 239 then some (W.take i ++ [72, 105] ++ W.drop (i + 1))
  else if isAt W i 121 && inAt W (i + 1) gv then some (W.take i ++ [89] ++ W.drop (i + 1))
  else if isAt W i 113 && isAt W (i + 1) 117 then some (W.take (i + 1) ++ [85] ++ W.drop (i + 1 + 1))
  else none
noncomputable def PEnd (x1 x2 : Option V) (W : List Nat) (lb pv p1 p2 : Int) (r : Res) (s : Option (List Nat)) : Prop :=
  ∃ (x3 x4 : Option V) (c b k : Int), match s with
    | some W' => r = some (.brk, [some .self, x1, x2, x3, x4], ⟨W', c, W'.length, lb, b, k, pv, p1, p2⟩)
    | none => r = some (.exc 1, [some .self, x1, x2, x3, x4], ⟨W, c, W.length, lb, b, k, pv, p1, p2⟩)
theorem pend_some {x1 x2 : Option V} {W W' : List Nat} {lb pv p1 p2 : Int} {r : Res} {x3 x4 : Option V} {c l b k : Int} (h : r = some (.brk, [some .self, x1, x2, x3, x4], ⟨W', c, l, lb, b, k, pv, p1, p2⟩)) (hl : l = W'.length) :
    PEnd x1 x2 W lb pv p1 p2 r (some W') := ⟨x3, x4, c, b, k, by rw [h, hl]⟩
theorem pend_none {x1 x2 : Option V} {W : List Nat} {lb pv p1 p2 : Int} {r : Res} {x3 x4 : Option V} {c b k : Int} (h : r = some (.exc 1, [some .self, x1, x2, x3, x4], ⟨W, c, W.length, lb, b, k, pv, p1, p2⟩)) :
    PEnd x1 x2 W lb pv p1 p2 r none := ⟨x3, x4, c, b, k, h⟩
theorem not_at {W : List Nat} {i x y : Nat} (h : isAt W i x = true) (hn : x ≠ y) : isAt W i y = false := by
  unfold isAt at h ⊢
  split at h
  · rename_i a e
    have : a = x := by simpa using h
    subst this; simpa using hn
  · first | exact no_none h | exact no_false h | cases h
theorem loop_true (body : Loc → F → Res) (n : Nat) (m : Loc) (f : F) : loop (fun _ f => some (true, f)) body (n + 1) m f = turned (body m f) (loop (fun _ f => some (true, f)) body n) := rfl
theorem run_sl (W : List Nat) (c : Int) (i : Nat) (s : List Nat) (lb pv p1 p2 : Int) (h : i + 1 ≤ W.length) (hW : W.length + s.length ≤ 1000) {N : Nat} {k : Nat} :
    runM N kap (k + 2) .slice_from [.str s] ⟨W, c, W.length, lb, i, (i + 1 : Nat), pv, p1, p2⟩ =
      some (.none, ⟨W.take i ++ s ++ W.drop (i + 1), if c ≥ (i + 1 : Nat) then c + (s.length - ((i + 1 : Nat) - i)) else if c > i then i else c, (W.take i ++ s ++ W.drop (i + 1)).length, lb, i, i + s.length, pv, p1, p2⟩) := by
  rw [run_slice_from W c lb pv p1 p2 i (i + 1) s (by lia) h hW]
  have : (W.length + (s.length - ((i + 1 : Nat) - i)) : Int) = (W.take i ++ s ++ W.drop (i + 1)).length := by
    simp only [List.length_append, List.length_take, List.length_drop]; lia
  rw [this]
noncomputable def tryB : C → C | .tryc _ c _ => c | _ => .nil
noncomputable def tryK : C → C | .tryc _ _ k => k | _ => .nil
noncomputable def setlK : C → C | .setl _ _ k => k | _ => .nil
noncomputable def cFirst : C := tryB (setlK cInner)
noncomputable def cRest : C := tryK (setlK cInner)
theorem cInner_eq : cInner = .setl 3 (.fld .cursor) (.tryc 2 cFirst cRest) := rfl
noncomputable def stepA (W : List Nat) (i : Nat) : Option (List Nat) :=
  if inAt W i gv && isAt W (i + 1) 117 && inAt W (i + 1 + 1) gv then some (W.take (i + 1) ++ [85] ++ W.drop (i + 1 + 1))
  else if inAt W i gv && isAt W (i + 1) 105 && inAt W (i + 1 + 1) gv then some (W.take (i + 1) ++ [73] ++ W.drop (i + 1 + 1))
  else if inAt W i gv && isAt W (i + 1) 121 then some (W.take (i + 1) ++ [89] ++ W.drop (i + 1 + 1))
  else none
noncomputable def stepR (W : List Nat) (i : Nat) : Option (List Nat) :=
  if isAt W i 235 then some (W.take i ++ [72, 101] ++ W.drop (i + 1))
  else if isAt W i 239 then some (W.take i ++ [72, 105] ++ W.drop (i + 1))
  else if isAt W i 121 && inAt W (i + 1) gv then some (W.take i ++ [89] ++ W.drop (i + 1))
  else if isAt W i 113 && isAt W (i + 1) 117 then some (W.take (i + 1) ++ [85] ++ W.drop (i + 1 + 1))
  else none
theorem stepW_eq (W : List Nat) (i : Nat) : stepW W i = match stepA W i with | some x => some x | none => stepR W i := by
  unfold stepW stepA stepR
  split
  · rfl
  · split
    · rfl
    · split
      · rfl
      · rfl
noncomputable def PEnd2 (x1 x2 x3 : Option V) (W : List Nat) (lb pv p1 p2 : Int) (r : Res) (s : Option (List Nat)) : Prop :=
  ∃ (x4 : Option V) (c b k : Int), match s with
    | some W' => r = some (.brk, [some .self, x1, x2, x3, x4], ⟨W', c, W'.length, lb, b, k, pv, p1, p2⟩)
    | none => r = some (.exc 2, [some .self, x1, x2, x3, x4], ⟨W, c, W.length, lb, b, k, pv, p1, p2⟩)
theorem pend2_some {x1 x2 x3 : Option V} {W W' : List Nat} {lb pv p1 p2 : Int} {r : Res} {x4 : Option V} {c l b k : Int} (h : r = some (.brk, [some .self, x1, x2, x3, x4], ⟨W', c, l, lb, b, k, pv, p1, p2⟩)) (hl : l = W'.length) :
    PEnd2 x1 x2 x3 W lb pv p1 p2 r (some W') := ⟨x4, c, b, k, by rw [h, hl]⟩
theorem pend2_none {x1 x2 x3 : Option V} {W : List Nat} {lb pv p1 p2 : Int} {r : Res} {x4 : Option V} {c b k : Int} (h : r = some (.exc 2, [some .self, x1, x2, x3, x4], ⟨W, c, W.length, lb, b, k, pv, p1, p2⟩)) :
    PEnd2 x1 x2 x3 W lb pv p1 p2 r none := ⟨x4, c, b, k, h⟩
theorem pre_first (W : List Nat) (i : Nat) (hi : i ≤ W.length) (hW : W.length ≤ 900) (x1 x2 x3 x4 : Option V) (lb b t pv p1 p2 : Int) :
    PEnd2 x1 x2 x3 W lb pv p1 p2 (exec (N + 1) (runM (N + 1) kap (k + 3)) kap cFirst [some .self, x1, x2, x3, x4] ⟨W, i, W.length, lb, b, t, pv, p1, p2⟩) (stepA W i) := by
  have hm : ∀ (y1 y2 y3 y4 : Option V), Loc.at [some .self, y1, y2, y3, y4] 0 = some .self := fun _ _ _ _ => rfl
  have hat3 : ∀ (y1 y2 y3 y4 : Option V), Loc.at [some .self, y1, y2, y3, y4] 3 = y3 := fun _ _ _ _ => rfl
  have hat4 : ∀ (y1 y2 y3 y4 : Option V), Loc.at [some .self, y1, y2, y3, y4] 4 = y4 := fun _ _ _ _ => rfl
  have hW1 : ∀ x : Nat, W.length + ([x] : List Nat).length ≤ 1000 := fun x => by show W.length + 1 ≤ 1000; lia
  have hW2 : ∀ x y : Nat, W.length + ([x, y] : List Nat).length ≤ 1000 := fun x y => by show W.length + 2 ≤ 1000; lia
  cases h0 : inAt W i gv with
  | true =>
    have l0 : i + 1 ≤ W.length := inAt_lt h0
    cases h1 : isAt W (i + 1) 117 with
    | true =>
      have l1 : i + 1 + 1 ≤ W.length := isAt_lt h1
      have n1 := not_at h1 (y := 105) (by decide)
      have n2 := not_at h1 (y := 121) (by decide)
      cases h2 : inAt W (i + 1 + 1) gv with
      | true =>
        simp only [stepA, h0, h1, h2, Bool.and_self, Bool.and_true, if_true]
        simp only [cFirst, tryB, setlK, cInner, xf_nil, xf_brk, xf_expr, xs1, xs2, xs3, xs4, xsf, xaf, xf_ite, ↓itt, ↓itf, xf_wh, xf_raise, xf_tryc, loop_true, test_true, bind_some, ev_int, ev_str, ev_loc, evf, evc1, hm, if_true, get_cursor, put_cursor, put_bra, put_ket, List.set_cons_succ, List.set_cons_zero, List.length_cons, List.length_nil, Nat.reduceAdd, Nat.reduceLT, ne_eq, Nat.reduceEqDiff, not_false_eq_true, and_self, test_ig, Bool.not_true, Bool.false_eq_true, if_false, and_next, cau_brk, tur_brk, addV_int, isz, h0, test_sign _ _ (hm ..) _ _ _ l0, h1, h2, run_sl _ _ _ _ _ _ _ _ l1 (hW1 _)]
        exact pend2_some rfl rfl
      | false =>
        simp only [stepA, h0, h1, h2, n1, n2, Bool.and_self, Bool.and_false, if_false, Bool.false_eq_true]
        simp only [cFirst, tryB, setlK, cInner, xf_nil, xf_brk, xf_expr, xs1, xs2, xs3, xs4, xsf, xaf, xf_ite, ↓itt, ↓itf, xf_wh, xf_raise, xf_tryc, loop_true, test_true, bind_some, map_some, ev_int, ev_str, ev_loc, evf, evc1, hm, hat4, if_true, get_cursor, put_cursor, put_bra, put_ket, List.set_cons_succ, List.set_cons_zero, List.length_cons, List.length_nil, Nat.reduceAdd, Nat.reduceLT, ne_eq, Nat.reduceEqDiff, not_false_eq_true, and_self, test_ig, Bool.not_true, Bool.not_false, Bool.false_eq_true, if_false, and_next, and_exc, cau0, cau1, cau2, cau3, tur_exc, addV_int, isz, h0, test_sign _ _ (hm ..) _ _ _ l0, h1, h2, n1, n2]
        exact pend2_none rfl
    | false =>
      cases h3 : isAt W (i + 1) 105 with
      | true =>
        have l1 : i + 1 + 1 ≤ W.length := isAt_lt h3
        have n2 := not_at h3 (y := 121) (by decide)
        cases h2 : inAt W (i + 1 + 1) gv with
        | true =>
          simp only [stepA, h0, h1, h2, h3, Bool.and_self, Bool.and_true, Bool.and_false, Bool.true_and, if_true, if_false, Bool.false_eq_true]
          simp only [cFirst, tryB, setlK, cInner, xf_nil, xf_brk, xf_expr, xs1, xs2, xs3, xs4, xsf, xaf, xf_ite, ↓itt, ↓itf, xf_wh, xf_raise, xf_tryc, loop_true, test_true, bind_some, map_some, ev_int, ev_str, ev_loc, evf, evc1, hm, hat4, if_true, get_cursor, put_cursor, put_bra, put_ket, List.set_cons_succ, List.set_cons_zero, List.length_cons, List.length_nil, Nat.reduceAdd, Nat.reduceLT, ne_eq, Nat.reduceEqDiff, not_false_eq_true, and_self, test_ig, Bool.not_true, Bool.not_false, Bool.false_eq_true, if_false, and_next, and_exc, cau0, cau1, cau2, cau3, cau_brk, tur_brk, addV_int, isz, h0, test_sign _ _ (hm ..) _ _ _ l0, h1, h2, h3, run_sl _ _ _ _ _ _ _ _ l1 (hW1 _)]
          exact pend2_some rfl rfl
        | false =>
          simp only [stepA, h0, h1, h2, h3, n2, Bool.and_self, Bool.and_false, if_false, Bool.false_eq_true]
          simp only [cFirst, tryB, setlK, cInner, xf_nil, xf_brk, xf_expr, xs1, xs2, xs3, xs4, xsf, xaf, xf_ite, ↓itt, ↓itf, xf_wh, xf_raise, xf_tryc, loop_true, test_true, bind_some, map_some, ev_int, ev_str, ev_loc, evf, evc1, hm, hat4, if_true, get_cursor, put_cursor, put_bra, put_ket, List.set_cons_succ, List.set_cons_zero, List.length_cons, List.length_nil, Nat.reduceAdd, Nat.reduceLT, ne_eq, Nat.reduceEqDiff, not_false_eq_true, and_self, test_ig, Bool.not_true, Bool.not_false, Bool.false_eq_true, if_false, and_next, and_exc, cau0, cau1, cau2, cau3, tur_exc, addV_int, isz, h0, test_sign _ _ (hm ..) _ _ _ l0, h1, h2, h3, n2]
          exact pend2_none rfl
      | false =>
        cases h4 : isAt W (i + 1) 121 with
        | true =>
          have l1 : i + 1 + 1 ≤ W.length := isAt_lt h4
          simp only [stepA, h0, h1, h3, h4, Bool.and_self, Bool.and_false, Bool.false_and, if_true, if_false, Bool.false_eq_true]
          simp only [cFirst, tryB, setlK, cInner, xf_nil, xf_brk, xf_expr, xs1, xs2, xs3, xs4, xsf, xaf, xf_ite, ↓itt, ↓itf, xf_wh, xf_raise, xf_tryc, loop_true, test_true, bind_some, map_some, ev_int, ev_str, ev_loc, evf, evc1, hm, hat4, if_true, get_cursor, put_cursor, put_bra, put_ket, List.set_cons_succ, List.set_cons_zero, List.length_cons, List.length_nil, Nat.reduceAdd, Nat.reduceLT, ne_eq, Nat.reduceEqDiff, not_false_eq_true, and_self, test_ig, Bool.not_true, Bool.not_false, Bool.false_eq_true, if_false, and_next, and_exc, cau0, cau1, cau2, cau3, tur_brk, addV_int, isz, h0, test_sign _ _ (hm ..) _ _ _ l0, h1, h3, h4, run_sl _ _ _ _ _ _ _ _ l1 (hW1 _)]
          exact pend2_some rfl rfl
        | false =>
          simp only [stepA, h0, h1, h3, h4, Bool.and_false, Bool.false_and, if_false, Bool.false_eq_true]
          simp only [cFirst, tryB, setlK, cInner, xf_nil, xf_brk, xf_expr, xs1, xs2, xs3, xs4, xsf, xaf, xf_ite, ↓itt, ↓itf, xf_wh, xf_raise, xf_tryc, loop_true, test_true, bind_some, map_some, ev_int, ev_str, ev_loc, evf, evc1, hm, hat4, if_true, get_cursor, put_cursor, put_bra, List.set_cons_succ, List.set_cons_zero, List.length_cons, List.length_nil, Nat.reduceAdd, Nat.reduceLT, ne_eq, Nat.reduceEqDiff, not_false_eq_true, and_self, test_ig, Bool.not_true, Bool.not_false, Bool.false_eq_true, if_false, and_next, and_exc, cau0, cau1, cau2, cau3, tur_exc, addV_int, h0, test_sign _ _ (hm ..) _ _ _ l0, h1, h3, h4]
          exact pend2_none rfl
  | false =>
    simp only [stepA, h0, Bool.false_and, if_false, Bool.false_eq_true]
    simp only [cFirst, tryB, setlK, cInner, xf_nil, xf_brk, xf_expr, xs1, xs2, xs3, xs4, xsf, xaf, xf_ite, ↓itt, ↓itf, xf_wh, xf_raise, xf_tryc, loop_true, test_true, bind_some, ev_int, ev_str, ev_loc, evf, evc1, hm, if_true, get_cursor, put_cursor, ne_eq, Nat.reduceEqDiff, not_false_eq_true, test_ig, Bool.not_false, Bool.false_eq_true, if_false, and_exc, addV_int, h0]
    exact pend2_none rfl
theorem pre_rest (W : List Nat) (i : Nat) (hi : i ≤ W.length) (hW : W.length ≤ 900) (x1 x2 x4 : Option V) (c lb b t pv p1 p2 : Int) :
    PEnd x1 x2 W lb pv p1 p2 (exec (N + 1) (runM (N + 1) kap (k + 3)) kap cRest [some .self, x1, x2, some (.int i), x4] ⟨W, c, W.length, lb, b, t, pv, p1, p2⟩) (stepR W i) := by
  have hm : ∀ (y1 y2 y3 y4 : Option V), Loc.at [some .self, y1, y2, y3, y4] 0 = some .self := fun _ _ _ _ => rfl
  have hat3 : ∀ (y1 y2 y3 y4 : Option V), Loc.at [some .self, y1, y2, y3, y4] 3 = y3 := fun _ _ _ _ => rfl
  have hat4 : ∀ (y1 y2 y3 y4 : Option V), Loc.at [some .self, y1, y2, y3, y4] 4 = y4 := fun _ _ _ _ => rfl
  have hW1 : ∀ x : Nat, W.length + ([x] : List Nat).length ≤ 1000 := fun x => by show W.length + 1 ≤ 1000; lia
  have hW2 : ∀ x y : Nat, W.length + ([x, y] : List Nat).length ≤ 1000 := fun x y => by show W.length + 2 ≤ 1000; lia
  cases h1 : isAt W i 235 with
  | true =>
    have l1 : i + 1 ≤ W.length := isAt_lt h1
    simp only [stepR, h1, if_true]
    simp only [cRest, tryK, setlK, cInner, xf_nil, xf_brk, xf_expr, xsf, xaf, xf_ite, ↓itt, ↓itf, xf_raise, xf_tryc, bind_some, map_some, ev_int, ev_str, ev_loc, evf, evc1, hm, hat3, if_true, get_cursor, put_cursor, put_bra, put_ket, List.length_cons, List.length_nil, Nat.reduceAdd, Bool.not_true, Bool.false_eq_true, if_false, and_next, cau_brk, addV_int, isz, test_sign _ _ (hm ..) _ _ _ hi, h1, run_sl _ _ _ _ _ _ _ _ l1 (hW2 _ _)]
    exact pend_some rfl rfl
  | false =>
    cases h2 : isAt W i 239 with
    | true =>
      have l1 : i + 1 ≤ W.length := isAt_lt h2
      simp only [stepR, h1, h2, if_true, if_false, Bool.false_eq_true]
      simp only [cRest, tryK, setlK, cInner, xf_nil, xf_brk, xf_expr, xsf, xaf, xf_ite, ↓itt, ↓itf, xf_raise, xf_tryc, bind_some, map_some, ev_int, ev_str, ev_loc, evf, evc1, hm, hat3, if_true, get_cursor, put_cursor, put_bra, put_ket, List.length_cons, List.length_nil, Nat.reduceAdd, Bool.not_true, Bool.not_false, Bool.false_eq_true, if_false, and_next, and_exc, cau0, cau1, cau2, cau3, cau_brk, addV_int, isz, test_sign _ _ (hm ..) _ _ _ hi, h1, h2, run_sl _ _ _ _ _ _ _ _ l1 (hW2 _ _)]
      exact pend_some rfl rfl
    | false =>
      cases h3 : isAt W i 121 with
      | true =>
        have l1 : i + 1 ≤ W.length := isAt_lt h3
        have n2 := not_at h3 (y := 113) (by decide)
        cases h4 : inAt W (i + 1) gv with
        | true =>
          simp only [stepR, h1, h2, h3, h4, Bool.and_self, if_true, if_false, Bool.false_eq_true]
          simp only [cRest, tryK, setlK, cInner, xf_nil, xf_brk, xf_expr, xsf, xaf, xf_ite, ↓itt, ↓itf, xf_raise, xf_tryc, bind_some, map_some, ev_int, ev_str, ev_loc, evf, evc1, hm, hat3, if_true, get_cursor, put_cursor, put_bra, put_ket, List.length_cons, List.length_nil, Nat.reduceAdd, test_ig, Bool.not_true, Bool.not_false, Bool.false_eq_true, if_false, and_next, and_exc, cau0, cau1, cau2, cau3, cau_brk, addV_int, isz, test_sign _ _ (hm ..) _ _ _ hi, h1, h2, h3, h4, run_sl _ _ _ _ _ _ _ _ l1 (hW1 _)]
          exact pend_some rfl rfl
        | false =>
          simp only [stepR, h1, h2, h3, h4, n2, Bool.and_false, Bool.false_and, if_false, Bool.false_eq_true]
          simp only [cRest, tryK, setlK, cInner, xf_nil, xf_brk, xf_expr, xsf, xaf, xf_ite, ↓itt, ↓itf, xf_raise, xf_tryc, bind_some, map_some, ev_int, ev_str, ev_loc, evf, evc1, hm, hat3, if_true, get_cursor, put_cursor, put_bra, put_ket, test_ig, Bool.not_true, Bool.not_false, Bool.false_eq_true, if_false, and_next, and_exc, cau0, cau1, cau2, cau3, addV_int, isz, test_sign _ _ (hm ..) _ _ _ hi, h1, h2, h3, h4, n2]
          exact pend_none rfl
      | false =>
        cases h5 : isAt W i 113 with
        | true =>
          have l1 : i + 1 ≤ W.length := isAt_lt h5
          cases h6 : isAt W (i + 1) 117 with
          | true =>
            have l2 : i + 1 + 1 ≤ W.length := isAt_lt h6
            simp only [stepR, h1, h2, h3, h5, h6, Bool.and_self, Bool.false_and, if_true, if_false, Bool.false_eq_true]
            simp only [cRest, tryK, setlK, cInner, xf_nil, xf_brk, xf_expr, xsf, xaf, xf_ite, ↓itt, ↓itf, xf_raise, xf_tryc, bind_some, map_some, ev_int, ev_str, ev_loc, evf, evc1, hm, hat3, if_true, get_cursor, put_cursor, put_bra, put_ket, List.length_cons, List.length_nil, Nat.reduceAdd, Bool.not_true, Bool.not_false, Bool.false_eq_true, if_false, and_next, and_exc, cau0, cau1, cau2, cau3, addV_int, isz, test_sign _ _ (hm ..) _ _ _ hi, test_sign _ _ (hm ..) _ _ _ l1, h1, h2, h3, h5, h6, run_sl _ _ _ _ _ _ _ _ l2 (hW1 _)]
            exact pend_some rfl rfl
          | false =>
            simp only [stepR, h1, h2, h3, h5, h6, Bool.and_false, Bool.false_and, if_false, Bool.false_eq_true]
            simp only [cRest, tryK, setlK, cInner, xf_nil, xf_brk, xf_expr, xsf, xaf, xf_ite, ↓itt, ↓itf, xf_raise, xf_tryc, bind_some, map_some, ev_int, ev_str, ev_loc, evf, evc1, hm, hat3, if_true, get_cursor, put_cursor, put_bra, Bool.not_true, Bool.not_false, Bool.false_eq_true, if_false, and_next, and_exc, cau0, cau1, cau2, cau3, addV_int, isz, test_sign _ _ (hm ..) _ _ _ hi, test_sign _ _ (hm ..) _ _ _ l1, h1, h2, h3, h5, h6]
            exact pend_none rfl
        | false =>
          simp only [stepR, h1, h2, h3, h5, Bool.false_and, if_false, Bool.false_eq_true]
          simp only [cRest, tryK, setlK, cInner, xf_nil, xf_brk, xf_expr, xsf, xaf, xf_ite, ↓itt, ↓itf, xf_raise, xf_tryc, bind_some, map_some, ev_int, ev_str, ev_loc, evf, evc1, hm, hat3, if_true, get_cursor, put_cursor, put_bra, Bool.not_false, and_exc, cau0, cau1, cau2, cau3, addV_int, test_sign _ _ (hm ..) _ _ _ hi, h1, h2, h3, h5]
          exact pend_none rfl
theorem pre_inner (W : List Nat) (i : Nat) (hi : i ≤ W.length) (hW : W.length ≤ 900) (x1 x2 x3 x4 : Option V) (lb b t pv p1 p2 : Int) :
    PEnd x1 x2 W lb pv p1 p2 (exec (N + 1) (runM (N + 1) kap (k + 3)) kap cInner [some .self, x1, x2, x3, x4] ⟨W, i, W.length, lb, b, t, pv, p1, p2⟩) (stepW W i) := by
  have e : exec (N + 1) (runM (N + 1) kap (k + 3)) kap cInner [some .self, x1, x2, x3, x4] ⟨W, i, W.length, lb, b, t, pv, p1, p2⟩ =
      caught 2 (exec (N + 1) (runM (N + 1) kap (k + 3)) kap cFirst [some .self, x1, x2, some (.int i), x4] ⟨W, i, W.length, lb, b, t, pv, p1, p2⟩) (exec (N + 1) (runM (N + 1) kap (k + 3)) kap cRest) := by
    rw [cInner_eq]; rfl
  rw [e, stepW_eq]
  obtain ⟨y4, c, b', k', h⟩ := pre_first (N := N) (k := k) W i hi hW x1 x2 (some (.int i)) x4 lb b t pv p1 p2
  cases hs : stepA W i with
  | some W' =>
    rw [hs] at h
    rw [show exec _ _ _ _ _ _ = _ from h, cau_brk]
    exact pend_some rfl rfl
  | none =>
    rw [hs] at h
    rw [show exec _ _ _ _ _ _ = _ from h, cau_same]
    exact pre_rest W i hi hW x1 x2 y4 c lb b' k' pv p1 p2
end
section
variable {N : Nat} {k : Nat}
noncomputable def cMid : C := .setl 2 (.fld .cursor) (.tryc 1 (.wh (.ex (.bool true)) cInner (.setf .cursor (.loc 2) (.brk .nil))) (.setf .cursor (.loc 2) (.ite (.cmp .ge (.fld .cursor) (.fld .limit)) (.raise 0 .nil) .nil (.augf .cursor true (.int 1) .nil))))
noncomputable def cOutK : C := .setf .cursor (.loc 1) (.brk .nil)
noncomputable def cOut : C := .setl 1 (.fld .cursor) (.tryc 0 (.wh (.ex (.bool true)) cMid (.cont .nil)) cOutK)
theorem prelude_eq : code_r_prelude = .wh (.ex (.bool true)) cOut (.ret (.bool true) .nil) := rfl
inductive PreR : Nat → List Nat → Nat → List Nat → Prop
  | done {W i} : stepW W i = none → W.length ≤ i → i ≤ W.length → W.length ≤ 90 → PreR 0 W i W
  | move {n W i W'} : stepW W i = none → i < W.length → W.length ≤ 90 → PreR n W (i + 1) W' → PreR n W i W'
  | turn {n W i W1 W'} : stepW W i = some W1 → i ≤ W.length → W.length ≤ 90 → PreR n W1 i W' → PreR (n + 1) W i W'
theorem PreR.facts {n W i W'} (h : PreR n W i W') : i ≤ W.length ∧ W.length ≤ 90 := by
  cases h <;> constructor <;> lia
noncomputable abbrev L4 (x1 x2 x3 x4 : Option V) : Loc := [some .self, x1, x2, x3, x4]
theorem mid_some {W W' : List Nat} {i : Nat} (hs : stepW W i = some W') (hi : i ≤ W.length) (hW : W.length ≤ 90) (x1 x2 x3 x4 : Option V) (lb b t pv p1 p2 : Int) :
    ∃ x2' x3' x4' b' t', exec (N + 1) (runM (N + 1) kap (k + 3)) kap cMid (L4 x1 x2 x3 x4) ⟨W, i, W.length, lb, b, t, pv, p1, p2⟩ =
      some (.brk, L4 x1 x2' x3' x4', ⟨W', i, W'.length, lb, b', t', pv, p1, p2⟩) := by
  obtain ⟨y3, y4, c, b', t', h⟩ := pre_inner (N := N) (k := k) W i hi (by lia) x1 (some (.int i)) x3 x4 lb b t pv p1 p2
  rw [hs] at h
  refine ⟨some (.int i), y3, y4, b', t', ?_⟩
  have hm : ∀ (y1 y2 y3 y4 : Option V), Loc.at [some .self, y1, y2, y3, y4] 0 = some .self := fun _ _ _ _ => rfl
  have hat2 : ∀ (y1 y2 y3 y4 : Option V), Loc.at [some .self, y1, y2, y3, y4] 2 = y2 := fun _ _ _ _ => rfl
  simp only [cMid, xf_nil, xf_brk, xs1, xs2, xs3, xs4, xsf, xaf, xf_ite, ↓itt, ↓itf, xf_wh, xf_raise, xf_tryc, test_true, loop_true, ev_int, ev_loc, evf, hm, hat2, if_true, get_cursor, bind_some, map_some, List.set_cons_succ, List.set_cons_zero, List.length_cons, List.length_nil, Nat.reduceAdd, Nat.reduceLT, ne_eq, Nat.reduceEqDiff, not_false_eq_true, and_self, h, tur_brk, and_next, put_cursor, cau_brk]
theorem mid_none {W : List Nat} {i : Nat} (hs : stepW W i = none) (hi : i ≤ W.length) (hW : W.length ≤ 90) (x1 x2 x3 x4 : Option V) (lb b t pv p1 p2 : Int) :
    ∃ x2' x3' x4' b' t', exec (N + 1) (runM (N + 1) kap (k + 3)) kap cMid (L4 x1 x2 x3 x4) ⟨W, i, W.length, lb, b, t, pv, p1, p2⟩ =
      if W.length ≤ i then some (.exc 0, L4 x1 x2' x3' x4', ⟨W, i, W.length, lb, b', t', pv, p1, p2⟩) else some (.next, L4 x1 x2' x3' x4', ⟨W, (i + 1 : Nat), W.length, lb, b', t', pv, p1, p2⟩) := by
  obtain ⟨y3, y4, c, b', t', h⟩ := pre_inner (N := N) (k := k) W i hi (by lia) x1 (some (.int i)) x3 x4 lb b t pv p1 p2
  rw [hs] at h
  refine ⟨some (.int i), y3, y4, b', t', ?_⟩
  have hm : ∀ (y1 y2 y3 y4 : Option V), Loc.at [some .self, y1, y2, y3, y4] 0 = some .self := fun _ _ _ _ => rfl
  have hat2 : ∀ (y1 y2 y3 y4 : Option V), Loc.at [some .self, y1, y2, y3, y4] 2 = y2 := fun _ _ _ _ => rfl
  by_cases hl : W.length ≤ i
  · simp only [cMid, xf_nil, xf_brk, xs1, xs2, xs3, xs4, xsf, xaf, xf_ite, ↓itt, ↓itf, xf_wh, xf_raise, xf_tryc, test_true, loop_true, ev_int, ev_loc, evf, hm, hat2, if_true, get_cursor, bind_some, map_some, List.set_cons_succ, List.set_cons_zero, List.length_cons, List.length_nil, Nat.reduceAdd, Nat.reduceLT, ne_eq, Nat.reduceEqDiff, not_false_eq_true, and_self, h, tur_exc, and_exc, put_cursor, cau0, cau1, cau2, cau3, test_ge _ _ (hm ..), hl, decide_true]
  · simp only [cMid, xf_nil, xf_brk, xs1, xs2, xs3, xs4, xsf, xaf, xf_ite, ↓itt, ↓itf, xf_wh, xf_raise, xf_tryc, test_true, loop_true, ev_int, ev_loc, evf, hm, hat2, if_true, get_cursor, bind_some, map_some, List.set_cons_succ, List.set_cons_zero, List.length_cons, List.length_nil, Nat.reduceAdd, Nat.reduceLT, ne_eq, Nat.reduceEqDiff, not_false_eq_true, and_self, h, tur_exc, and_exc, and_next, put_cursor, cau0, cau1, cau2, cau3, test_ge _ _ (hm ..), hl, decide_false, Bool.false_eq_true, if_false, addV_int, isz]
noncomputable def Go (N k n o : Nat) (m : Loc) (f : F) : Res :=
  turned (caught 0 (andThen (loop (fun _ f => some (true, f)) (exec (N + 1) (runM (N + 1) kap (k + 3)) kap cMid) n m f) (fun m f => some (.cont, m, f))) (exec (N + 1) (runM (N + 1) kap (k + 3)) kap cOutK))
    (loop (fun _ f => some (true, f)) (exec (N + 1) (runM (N + 1) kap (k + 3)) kap cOut) o)
theorem out_go (o : Nat) (x1 x2 x3 x4 : Option V) (f : F) :
    loop (fun _ f => some (true, f)) (exec (N + 1) (runM (N + 1) kap (k + 3)) kap cOut) (o + 1) (L4 x1 x2 x3 x4) f = Go N k (N + 1) o (L4 (some (.int f.cursor)) x2 x3 x4) f := by
  have hm : ∀ (y1 y2 y3 y4 : Option V), Loc.at [some .self, y1, y2, y3, y4] 0 = some .self := fun _ _ _ _ => rfl
  rw [loop_true]
  unfold Go cOut
  simp only [xf_cont, xs1, xs2, xs3, xs4, xf_wh, xf_tryc, evf, hm, if_true, bind_some, get_cursor, List.set_cons_succ, List.set_cons_zero, List.length_cons, List.length_nil, Nat.reduceAdd, Nat.reduceLT, ne_eq, Nat.reduceEqDiff, not_false_eq_true, and_self, test_true]
theorem go_ok (hN : 100 ≤ N) {n : Nat} {W : List Nat} {i : Nat} {W' : List Nat} (h : PreR n W i W') : ∀ (q o : Nat), W.length - i < q → n ≤ o → ∀ (v : Int) (x2 x3 x4 : Option V) (lb b t pv p1 p2 : Int),
    ∃ x1' x2' x3' x4' c' b' t', Go N k q o (L4 (some (.int v)) x2 x3 x4) ⟨W, i, W.length, lb, b, t, pv, p1, p2⟩ = some (.next, L4 x1' x2' x3' x4', ⟨W', c', W'.length, lb, b', t', pv, p1, p2⟩) := by
  induction h with
  | @done W i hs hl hi hW =>
    intro q o hq ho v x2 x3 x4 lb b t pv p1 p2
    obtain ⟨q, rfl⟩ : ∃ q', q = q' + 1 := ⟨q - 1, by lia⟩
    obtain ⟨y2, y3, y4, b', t', h⟩ := mid_none (N := N) (k := k) hs hi hW (some (.int v)) x2 x3 x4 lb b t pv p1 p2
    rw [if_pos hl] at h
    refine ⟨some (.int v), y2, y3, y4, v, b', t', ?_⟩
    unfold Go
    rw [loop_true, h]
    rfl
  | @move n W i W' hs hi hW hr ih =>
    intro q o hq ho v x2 x3 x4 lb b t pv p1 p2
    obtain ⟨q, rfl⟩ : ∃ q', q = q' + 1 := ⟨q - 1, by lia⟩
    obtain ⟨y2, y3, y4, b', t', h⟩ := mid_none (N := N) (k := k) hs (by lia) hW (some (.int v)) x2 x3 x4 lb b t pv p1 p2
    rw [if_neg (by lia)] at h
    unfold Go
    rw [loop_true, h, tur_next]
    exact ih q o (by lia) ho v y2 y3 y4 lb b' t' pv p1 p2
  | @turn n W i W1 W' hs hi hW hr ih =>
    intro q o hq ho v x2 x3 x4 lb b t pv p1 p2
    obtain ⟨q, rfl⟩ : ∃ q', q = q' + 1 := ⟨q - 1, by lia⟩
    obtain ⟨o, rfl⟩ : ∃ o', o = o' + 1 := ⟨o - 1, by lia⟩
    obtain ⟨y2, y3, y4, b', t', h⟩ := mid_some (N := N) (k := k) hs hi hW (some (.int v)) x2 x3 x4 lb b t pv p1 p2
    unfold Go
    rw [loop_true, h, tur_brk, and_next, cau_cont, tur_cont, out_go]
    have := hr.facts
    exact ih (N + 1) o (by lia) (by lia) i y2 y3 y4 lb b' t' pv p1 p2
theorem run_prelude (hN : 100 ≤ N) {n : Nat} {W W' : List Nat} (h : PreR n W 0 W') (hn : n ≤ 90) (lb b t pv p1 p2 : Int) :
    ∃ c' b' t', runM (N + 1) kap (k + 4) .r_prelude [] ⟨W, 0, W.length, lb, b, t, pv, p1, p2⟩ = some (.bool true, ⟨W', c', W'.length, lb, b', t', pv, p1, p2⟩) := by
  rw [runM_succ (h := rfl)]
  have := h.facts
  obtain ⟨x1, x2, x3, x4, c', b', t', e⟩ := go_ok (k := k) hN h (N + 1) N (by lia) (by lia) 0 none none none lb b t pv p1 p2
  refine ⟨c', b', t', ?_⟩
  have e0 : enter (namesOf .r_prelude).length [] = L4 none none none none := rfl
  unfold callC
  rw [e0, show codeOf .r_prelude = code_r_prelude from rfl, prelude_eq]
  simp only [xf_ret, xf_wh, test_true]
  rw [out_go]
  show back (andThen (Go N k (N + 1) N (L4 (some (.int 0)) none none none) ⟨W, (0 : Nat), W.length, lb, b, t, pv, p1, p2⟩) _) = _
  rw [e, and_next]
  rfl
end
noncomputable def tSigns : List Nat := [97, 98, 99, 100, 101, 102, 103, 104, 105, 106, 107, 108, 109, 110, 111, 112, 113, 114, 115, 116, 117, 118, 119, 120, 121, 122, 224, 226, 231, 232, 233, 234, 235, 238, 239, 244, 249, 251, 339]
noncomputable def tHeads : List (List Nat) := [[], [99, 39], [100, 39], [106, 39], [108, 39], [109, 39], [110, 39], [115, 39], [116, 39], [113, 117, 39]]
noncomputable def tVows : List Nat := [97, 101, 111, 233, 232, 234]
noncomputable def tCloses : List (List Nat) := [[98], [99], [100], [102], [103], [104], [106], [107], [108], [109], [110], [112], [115], [116], [118], [119], [120], [122], [114, 98], [114, 99], [114, 100], [114, 102], [114, 103], [114, 108], [114, 109], [114, 110], [114, 112], [114, 115], [114, 116], [114, 118], [108, 98], [108, 100], [108, 103], [109, 98], [109, 112], [110, 100], [110, 103], [115, 116], [99, 116], [112, 116], [103, 110], [99, 104], [103, 108], [99, 108], [120, 112]]
noncomputable def tEnds : List (List Nat) := [[101, 114], [233], [233, 101], [233, 115], [233, 101, 115], [101], [101, 115], [101, 122], [97, 110, 116], [97, 110, 116, 115], [97, 110, 116, 101], [97, 110, 116, 101, 115], [97, 105, 115], [97, 105, 116], [97, 105, 101, 110, 116], [105, 101, 122], [97, 105, 115, 101], [97, 105, 115, 101, 115], [97, 105], [97, 115], [97], [226, 109, 101, 115], [226, 116, 101, 115], [232, 114, 101, 110, 116], [101, 114, 97, 105], [101, 114, 97, 115], [101, 114, 97], [101, 114, 111, 110, 115], [101, 114, 101, 122], [101, 114, 111, 110, 116], [101, 114, 97, 105, 115], [101, 114, 97, 105, 116], [101, 114, 105, 111, 110, 115], [101, 114, 105, 101, 122], [101, 114, 97, 105, 101, 110, 116], [97, 115, 115, 101], [97, 115, 115, 101, 115], [226, 116], [97, 115, 115, 105, 111, 110, 115], [97, 115, 115, 105, 101, 122], [97, 115, 115, 101, 110, 116], [101, 97], [101, 97, 105], [101, 97, 115], [101, 226, 109, 101, 115], [101, 226, 116, 101, 115], [101, 226, 116], [101, 97, 110, 116], [101, 97, 110, 116, 115], [101, 97, 110, 116, 101], [101, 97, 110, 116, 101, 115], [101, 97, 105, 115], [101, 97, 105, 116], [101, 97, 105, 101, 110, 116], [101, 97, 115, 115, 101], [101, 97, 115, 115, 101, 115], [101, 97, 115, 115, 105, 111, 110, 115], [101, 97, 115, 115, 105, 101, 122], [101, 97, 115, 115, 101, 110, 116], [105, 114], [105], [105, 101], [105, 115], [105, 101, 115], [105, 116], [105, 115, 115, 111, 110, 115], [105, 115, 115, 101, 122], [105, 115, 115, 101, 110, 116], [105, 115, 115, 97, 105, 115], [105, 115, 115, 97, 105, 116], [105, 115, 115, 105, 111, 110, 115], [105, 115, 115, 105, 101, 122], [105, 115, 115, 97, 105, 101, 110, 116], [105, 115, 115, 97, 110, 116], [105, 115, 115, 97, 110, 116, 101], [105, 115, 115, 97, 110, 116, 115], [105, 115, 115, 97, 110, 116, 101, 115], [238, 109, 101, 115], [238, 116, 101, 115], [238, 116], [105, 114, 101, 110, 116], [105, 114, 97, 105], [105, 114, 97, 115], [105, 114, 97], [105, 114, 111, 110, 115], [105, 114, 101, 122], [105, 114, 111, 110, 116], [105, 114, 97, 105, 115], [105, 114, 97, 105, 116], [105, 114, 105, 111, 110, 115], [105, 114, 105, 101, 122], [105, 114, 97, 105, 101, 110, 116], [105, 115, 115, 101], [105, 115, 115, 101, 115], [101, 109, 101, 110, 116], [101, 109, 101, 110, 116, 115], [105, 115, 115, 101, 109, 101, 110, 116], [105, 115, 115, 101, 109, 101, 110, 116, 115], [97, 109, 109, 101, 110, 116], [233, 109, 101, 110, 116], [105, 109, 101, 110, 116]]
noncomputable def postF : Bool → List Nat → List Nat
  | _, [] => []
  | h, c :: s => if h = true ∧ c = 101 then 235 :: postF false s else if h = true ∧ c = 105 then 239 :: postF false s else if c = 72 then postF true s
    else if c = 73 then 105 :: postF false s else if c = 85 then 117 :: postF false s else if c = 89 then 121 :: postF false s else c :: postF false s
noncomputable def post (x : List Nat) : List Nat := postF false x
noncomputable def Same (x y : List Nat) : Prop := ∀ h, postF h x = postF h y
theorem Same.refl (x : List Nat) : Same x x := fun _ => rfl
theorem Same.trans {x y z : List Nat} (a : Same x y) (b : Same y z) : Same x z := fun h => (a h).trans (b h)
theorem Same.cons {x y : List Nat} (h : Same x y) (c : Nat) : Same (c :: x) (c :: y) := fun b => by
  simp only [postF, h false, h true]
theorem Same.pre {x y : List Nat} (h : Same x y) : ∀ L : List Nat, Same (L ++ x) (L ++ y)
  | [] => h
  | c :: L => (h.pre L).cons c
theorem same_U (x : List Nat) : Same (85 :: x) (117 :: x) := fun b => by simp [postF]
theorem same_I (x : List Nat) : postF false (73 :: x) = postF false (105 :: x) := by simp [postF]
theorem same_Y (x : List Nat) : Same (89 :: x) (121 :: x) := fun b => by simp [postF]
theorem same_He (x : List Nat) : Same (72 :: 101 :: x) (235 :: x) := fun b => by simp [postF]
theorem same_Hi (x : List Nat) : Same (72 :: 105 :: x) (239 :: x) := fun b => by simp [postF]
theorem postF_ne (b : Bool) (c : Nat) (s t : List Nat) (hc : c ≠ 72) (h : postF false s = postF false t) : postF b (c :: s) = postF b (c :: t) := by
  simp only [postF, hc, if_false, h]
theorem same_aI (a : Nat) (x : List Nat) (ha : a ≠ 72) : Same (a :: 73 :: x) (a :: 105 :: x) := fun b => postF_ne b a _ _ ha (same_I x)
noncomputable def wt1 (c : Nat) : Nat := if c = 239 then 8 else if c = 235 then 4 else if c = 117 ∨ c = 105 ∨ c = 121 then 3 else 1
noncomputable def wt : List Nat → Nat
  | [] => 0
  | c :: s => wt1 c + wt s
theorem wt1_pos (c : Nat) : 1 ≤ wt1 c := by unfold wt1; repeat' split
                                            all_goals lia
theorem wt_len : ∀ z : List Nat, z.length ≤ wt z
  | [] => Nat.le_refl _
  | c :: s => by have := wt_len s; have := wt1_pos c; simp only [List.length_cons, wt]; lia
theorem wt1_le (c : Nat) : wt1 c ≤ 8 := by unfold wt1; repeat' split
                                           all_goals lia
theorem wt_le : ∀ z : List Nat, wt z ≤ 8 * z.length
  | [] => Nat.le_refl _
  | c :: s => by have := wt_le s; have := wt1_le c; simp only [List.length_cons, wt]; lia
theorem isAt_app (L r : List Nat) (j x : Nat) : isAt (L ++ r) (L.length + j) x = isAt r j x := by
  unfold isAt; rw [List.getElem?_append_right (by lia), Nat.add_sub_cancel_left]
theorem inAt_app (L r : List Nat) (j : Nat) (l : List Nat) : inAt (L ++ r) (L.length + j) l = inAt r j l := by
  unfold inAt; rw [List.getElem?_append_right (by lia), Nat.add_sub_cancel_left]
theorem take_app (L r : List Nat) (j : Nat) : (L ++ r).take (L.length + j) = L ++ r.take j := by
  rw [List.take_append, List.take_of_length_le (by lia), Nat.add_sub_cancel_left]
theorem drop_app (L r : List Nat) (j : Nat) : (L ++ r).drop (L.length + j) = r.drop j := by
  rw [List.drop_append, List.drop_of_length_le (by lia), Nat.add_sub_cancel_left, List.nil_append]
theorem ite_app {α : Type} {p q : Bool} {x x' : α} {o o' : Option α} {f : α → α} (hp : p = q) (hx : x = f x') (ho : o = o'.map f) : (if p = true then some x else o) = (if q = true then some x' else o').map f := by
  subst hp hx ho; cases p <;> rfl
theorem ite_el {α : Type} {c : Prop} [Decidable c] {a b : Option α} {r : α} {G : Prop} (h : (if c then a else b) = some r) (h1 : c → a = some r → G) (h2 : b = some r → G) : G := by
  by_cases q : c
  · rw [if_pos q] at h; exact h1 q h
  · rw [if_neg q] at h; exact h2 h
theorem stepW_app (L r : List Nat) : stepW (L ++ r) L.length = (stepW r 0).map (L ++ ·) := by
  have A0 : ∀ x, isAt (L ++ r) L.length x = isAt r 0 x := isAt_app L r 0
  have A1 : ∀ x, isAt (L ++ r) (L.length + 1) x = isAt r (0 + 1) x := isAt_app L r 1
  have I0 : ∀ x, inAt (L ++ r) L.length x = inAt r 0 x := inAt_app L r 0
  have I1 : ∀ x, inAt (L ++ r) (L.length + 1) x = inAt r (0 + 1) x := inAt_app L r 1
  have I2 : ∀ x, inAt (L ++ r) (L.length + 1 + 1) x = inAt r (0 + 1 + 1) x := inAt_app L r 2
  have T : ∀ j m k, (L ++ r).take (L.length + j) ++ m ++ (L ++ r).drop (L.length + k) = L ++ (r.take j ++ m ++ r.drop k) := fun j m k => by rw [take_app, drop_app, List.append_assoc, List.append_assoc, List.append_assoc]
  unfold stepW
  exact ite_app (by rw [I0, A1, I2]) (T 1 [85] 2) (ite_app (by rw [I0, A1, I2]) (T 1 [73] 2) (ite_app (by rw [I0, A1]) (T 1 [89] 2) (ite_app (A0 235) (T 0 [72, 101] 1) (ite_app (A0 239) (T 0 [72, 105] 1) (ite_app (by rw [A0, I1]) (T 0 [89] 1) (ite_app (by rw [A0, A1]) (T 1 [85] 2) rfl))))))
theorem gv_not72 {a : Nat} (h : gv.contains a = true) : a ≠ 72 := by rintro rfl; revert h; decide
structure StepIn (z s r' : List Nat) (v : Nat) : Prop where
  ex : ∃ z1, r' = z1 ++ v :: s ∧ wt z1 < wt z ∧ z.length ≤ z1.length ∧ ∀ x, Same (z1 ++ x) (z ++ x)
theorem StepIn.of {z s r' : List Nat} {v : Nat} (z1 : List Nat) (h : some (z1 ++ v :: s) = some r') (hw : wt z1 < wt z) (hl : z.length ≤ z1.length) (hx : ∀ x, Same (z1 ++ x) (z ++ x)) : StepIn z s r' v := ⟨z1, (Option.some.inj h).symm, hw, hl, hx⟩
theorem wt_hd {a b : Nat} {z : List Nat} (h : wt1 a < wt1 b) : wt (a :: z) < wt (b :: z) := Nat.add_lt_add_right h _
theorem wt_two {a b c : Nat} {z : List Nat} (h : wt1 a + wt1 b < wt1 c) : wt (a :: b :: z) < wt (c :: z) := Nat.lt_of_le_of_lt (Nat.le_of_eq (Nat.add_assoc _ _ _).symm) (Nat.add_lt_add_right h _)
theorem wt_mid {a b c : Nat} {z : List Nat} (h : wt1 b < wt1 c) : wt (a :: b :: z) < wt (a :: c :: z) := Nat.add_lt_add_left (wt_hd h) _
theorem not_v {b : Bool} {G : Prop} (h : b = false) (q : b = true) : G := no_false (h.symm.trans q)
theorem step_one {a v : Nat} {s r' : List Nat} (v117 : (v == 117) = false) (v105 : (v == 105) = false) (v121 : (v == 121) = false) (h : stepW ([a] ++ v :: s) 0 = some r') : StepIn [a] s r' v := by
  refine ite_el h (fun q _ => not_v v117 (and_r (and_l q))) fun h => ite_el h (fun q _ => not_v v105 (and_r (and_l q))) fun h => ite_el h (fun q _ => not_v v121 (and_r q)) fun h => ite_el h (fun q h => ?_) fun h => ite_el h (fun q h => ?_) fun h => ite_el h (fun q h => ?_) fun h => ite_el h (fun q _ => not_v v117 (and_r q)) fun h => no_none h
  · cases (eq_of_beq q : a = 235); exact .of [72, 101] h (by decide) (by decide) fun x => same_He x
  · cases (eq_of_beq q : a = 239); exact .of [72, 105] h (by decide) (by decide) fun x => same_Hi x
  · cases (eq_of_beq (and_l q) : a = 121); exact .of [89] h (by decide) (by decide) fun x => same_Y x
theorem step_more {a b v : Nat} {z s r' : List Nat} (h : stepW (a :: b :: z ++ v :: s) 0 = some r') : StepIn (a :: b :: z) s r' v := by
  refine ite_el h (fun q h => ?_) fun h => ite_el h (fun q h => ?_) fun h => ite_el h (fun q h => ?_) fun h => ite_el h (fun q h => ?_) fun h => ite_el h (fun q h => ?_) fun h => ite_el h (fun q h => ?_) fun h => ite_el h (fun q h => ?_) fun h => no_none h
  · cases (eq_of_beq (and_r (and_l q)) : b = 117); exact .of (a :: 85 :: z) h (wt_mid (by decide)) (Nat.le_refl _) fun x => (same_U _).cons a
  · cases (eq_of_beq (and_r (and_l q)) : b = 105); exact .of (a :: 73 :: z) h (wt_mid (by decide)) (Nat.le_refl _) fun x => same_aI a _ (gv_not72 (and_l (and_l q)))
  · cases (eq_of_beq (and_r q) : b = 121); exact .of (a :: 89 :: z) h (wt_mid (by decide)) (Nat.le_refl _) fun x => (same_Y _).cons a
  · cases (eq_of_beq q : a = 235); exact .of (72 :: 101 :: b :: z) h (wt_two (by decide)) (Nat.le_succ _) fun x => same_He _
  · cases (eq_of_beq q : a = 239); exact .of (72 :: 105 :: b :: z) h (wt_two (by decide)) (Nat.le_succ _) fun x => same_Hi _
  · cases (eq_of_beq (and_l q) : a = 121); exact .of (89 :: b :: z) h (wt_hd (by decide)) (Nat.le_refl _) fun x => same_Y _
  · cases (eq_of_beq (and_r q) : b = 117); exact .of (a :: 85 :: z) h (wt_mid (by decide)) (Nat.le_refl _) fun x => (same_U _).cons a
theorem step_in {z s r' : List Nat} {v : Nat} (hv : v ∈ tVows) (hz : z ≠ []) (h : stepW (z ++ v :: s) 0 = some r') : ∃ z1, r' = z1 ++ v :: s ∧ wt z1 < wt z ∧ z.length ≤ z1.length ∧ ∀ x, Same (z1 ++ x) (z ++ x) := by
  have v1 : (tVows.all fun v => ([117, 105, 121] : List Nat).all fun y => !(v == y)) = true := by decide
  have v2 := List.all_eq_true.mp (List.all_eq_true.mp v1 v hv)
  have v3 : ∀ y ∈ ([117, 105, 121] : List Nat), (v == y) = false := fun y hy => (Bool.not_eq_true' _).mp (v2 y hy)
  rcases z with _ | ⟨a, _ | ⟨b, z⟩⟩
  · exact absurd rfl hz
  · exact (step_one (v3 117 (by decide)) (v3 105 (by decide)) (v3 121 (by decide)) h).ex
  · exact (step_more h).ex
noncomputable def runP : Nat → List Nat → Option (List Nat × Nat)
  | 0, _ => none
  | n + 1, r => match stepW r 0 with
    | some r' => (runP n r').map fun x => (x.1, x.2 + 1)
    | none => match r with
      | [] => some ([], 0)
      | a :: s => (runP n s).map fun x => (a :: x.1, x.2)
theorem len_app (W m : List Nat) (i j : Nat) : (W.take i ++ m ++ W.drop j).length ≤ i + m.length + (W.length - j) := by
  rw [List.length_append, List.length_append, List.length_take, List.length_drop]
  exact Nat.add_le_add_right (Nat.add_le_add_right (Nat.min_le_left _ _) _) _
theorem len_of {W m W' : List Nat} {i j : Nat} (h : some (W.take i ++ m ++ W.drop j) = some W') (hm : m.length ≤ 2) (hj : i + m.length ≤ j + 1) (hi : i ≤ W.length) : W'.length ≤ W.length + 2 := by
  have := len_app W m i j
  rw [Option.some.inj h] at this
  clear h
  lia
theorem stepW_len {W W' : List Nat} {i : Nat} (hi : i ≤ W.length) (h : stepW W i = some W') : W'.length ≤ W.length + 2 := by
  have up : isAt W (i + 1) 117 = true → i + 1 ≤ W.length := fun q => Nat.le_of_lt (isAt_lt q)
  refine ite_el h (fun q h => len_of h (by decide) (Nat.le_succ _) (up (and_r (and_l q)))) fun h => ite_el h (fun q h => len_of h (by decide) (Nat.le_succ _) (Nat.le_of_lt (isAt_lt (and_r (and_l q))))) fun h => ite_el h (fun q h => len_of h (by decide) (Nat.le_succ _) (Nat.le_of_lt (isAt_lt (and_r q)))) fun h => ite_el h (fun q h => len_of h (by decide) (Nat.le_refl _) hi) fun h => ite_el h (fun q h => len_of h (by decide) (Nat.le_refl _) hi) fun h => ite_el h (fun q h => len_of h (by decide) (Nat.le_succ _) hi) fun h => ite_el h (fun q h => len_of h (by decide) (Nat.le_succ _) (up (and_r q))) fun h => no_none h
theorem runP_ok : ∀ (n : Nat) (r r' : List Nat) (t : Nat), runP n r = some (r', t) → ∀ L : List Nat, L.length + r.length + 2 * n ≤ 90 → PreR t (L ++ r) L.length (L ++ r')
  | 0, _, _, _, h, _, _ => by cases h
  | n + 1, r, r', t, h, L, hL => by
    unfold runP at h
    split at h
    · rename_i r1 hs
      obtain ⟨⟨x, y⟩, h1, h2⟩ := Option.map_eq_some_iff.mp h
      cases h2
      have hs' : stepW (L ++ r) L.length = some (L ++ r1) := by rw [stepW_app, hs]; rfl
      have := stepW_len (Nat.zero_le _) hs
      exact .turn hs' (by simp only [List.length_append]; lia) (by simp only [List.length_append]; lia) (runP_ok n r1 x y h1 L (by lia))
    · rename_i hs
      have hs' : stepW (L ++ r) L.length = none := by rw [stepW_app, hs]; rfl
      split at h
      · first | exact no_none h | exact no_false h | cases h
        exact .done hs' (by simp) (by simp) (by simp only [List.length_append, List.length_nil] at hL ⊢; lia)
      · rename_i a s
        obtain ⟨⟨x, y⟩, h1, h2⟩ := Option.map_eq_some_iff.mp h
        cases h2
        have hl : (L ++ [a]).length = L.length + 1 := by simp
        have := runP_ok n s x y h1 (L ++ [a]) (by rw [hl]; simp only [List.length_cons] at hL; lia)
        rw [hl, List.append_assoc, List.append_assoc] at this
        exact .move hs' (by simp) (by simp only [List.length_append, List.length_cons] at hL ⊢; lia) this
theorem pre_front {v t0 : Nat} {s s' : List Nat} (hv : v ∈ tVows) (B : Nat) (base : ∀ L : List Nat, L.length ≤ B → PreR t0 (L ++ v :: s) L.length (L ++ v :: s')) :
    ∀ (n : Nat) (z : List Nat), wt z ≤ n → ∀ L : List Nat, L.length + wt z ≤ B → L.length + wt z + 1 + s.length ≤ 90 →
      ∃ z' t, PreR t (L ++ (z ++ v :: s)) L.length (L ++ (z' ++ v :: s')) ∧ t ≤ wt z + t0 ∧ z.length ≤ z'.length ∧ z'.length ≤ wt z ∧ ∀ x, Same (z' ++ x) (z ++ x) := by
  intro n
  induction n with
  | zero =>
    intro z hz L hB hL
    have : z = [] := List.eq_nil_of_length_eq_zero (by have := wt_len z; lia)
    subst this
    exact ⟨[], t0, base L (by simp only [wt] at hB; lia), by simp [wt], by simp, by simp [wt], fun x => .refl _⟩
  | succ n ih =>
    intro z hz L hB hL
    rcases z with _ | ⟨a, z⟩
    · exact ⟨[], t0, base L (by simp only [wt] at hB; lia), by simp [wt], by simp, by simp [wt], fun x => .refl _⟩
    have hlen := wt_len (a :: z)
    have ha := wt1_pos a
    have hsz : (L ++ (a :: z ++ v :: s)).length = L.length + (a :: z).length + 1 + s.length := by simp only [List.length_append, List.length_cons]; lia
    cases hs : stepW (a :: z ++ v :: s) 0 with
    | some r' =>
      obtain ⟨z1, rfl, hw, hl, hx⟩ := step_in hv (by simp) hs
      obtain ⟨z', t, h1, h2, h3, h4, h5⟩ := ih z1 (by lia) L (by lia) (by lia)
      have hs' : stepW (L ++ (a :: z ++ v :: s)) L.length = some (L ++ (z1 ++ v :: s)) := by rw [stepW_app, hs]; rfl
      exact ⟨z', t + 1, .turn hs' (by lia) (by lia) h1, by lia, by lia, by lia, fun x => (h5 x).trans (hx x)⟩
    | none =>
      have hs' : stepW (L ++ (a :: z ++ v :: s)) L.length = none := by rw [stepW_app, hs]; rfl
      have hl : (L ++ [a]).length = L.length + 1 := by simp
      simp only [wt] at hz hB hL hlen
      obtain ⟨z', t, h1, h2, h3, h4, h5⟩ := ih z (by lia) (L ++ [a]) (by lia) (by lia)
      rw [hl, List.append_assoc, List.append_assoc] at h1
      exact ⟨a :: z', t, .move hs' (by lia) (by lia) h1, by simp only [wt]; lia, by simp only [List.length_cons]; lia, by simp only [wt, List.length_cons]; lia, fun x => (h5 x).cons a⟩
noncomputable def leL : List Nat → List Nat → Bool
  | [], _ => true
  | _ :: _, [] => false
  | a :: x, b :: y => decide (a < b) || (a == b && leL x y)
theorem leL_cons {a b : Nat} {x y : List Nat} : leL (a :: x) (b :: y) = true ↔ a < b ∨ (a = b ∧ leL x y = true) := by
  simp [leL]
theorem leL_trans : ∀ {x y z : List Nat}, leL x y = true → leL y z = true → leL x z = true
  | [], _, _, _, _ => rfl
  | _ :: _, [], _, h, _ => by cases h
  | _ :: _, _ :: _, [], _, h => by cases h
  | a :: x, b :: y, c :: z, h1, h2 => by
    rw [leL_cons] at *
    rcases h1 with h1 | ⟨rfl, h1⟩ <;> rcases h2 with h2 | ⟨rfl, h2⟩
    · exact .inl (by lia)
    · exact .inl h1
    · exact .inl h2
    · exact .inr ⟨rfl, leL_trans h1 h2⟩
theorem leL_mid : ∀ (c : Nat) {x y z : List Nat}, leL x y = true → leL y z = true → c ≤ x.length → x.take c = z.take c → y.take c = z.take c ∧ c ≤ y.length
  | 0, _, _, _, _, _, _, _ => by simp
  | c + 1, [], _, _, _, _, h, _ => by simp at h
  | c + 1, _ :: _, [], _, h, _, _, _ => by cases h
  | c + 1, _ :: _, _ :: _, [], _, h, _, _ => by cases h
  | c + 1, a :: x, b :: y, d :: z, h1, h2, hl, he => by
    rw [leL_cons] at *
    simp only [List.take_succ_cons, List.cons.injEq] at he ⊢
    obtain ⟨rfl, he⟩ := he
    rcases h1 with h1 | ⟨rfl, h1⟩
    · rcases h2 with h2 | ⟨rfl, h2⟩ <;> lia
    · rcases h2 with h2 | ⟨_, h2⟩
      · lia
      · obtain ⟨e, l⟩ := leL_mid c h1 h2 (by simpa using hl) he
        exact ⟨⟨rfl, e⟩, by simpa using l⟩
theorem leL_pre : ∀ {x y : List Nat}, x.isPrefixOf y = true → leL x y = true
  | [], _, _ => rfl
  | _ :: _, [], h => by cases h
  | a :: x, b :: y, h => by
    simp only [List.isPrefixOf, Bool.and_eq_true, beq_iff_eq] at h
    rw [leL_cons]; exact .inr ⟨h.1, leL_pre h.2⟩
theorem pre_take {x y : List Nat} : x.isPrefixOf y = true ↔ y.take x.length = x := by
  rw [List.isPrefixOf_iff_prefix, List.prefix_iff_eq_take]
  exact ⟨fun h => h.symm, fun h => h.symm⟩
noncomputable def scan : List Nat → List Nat → Nat × Int
  | _, [] => (0, 0)
  | [], _ :: _ => (0, -1)
  | a :: u, b :: k => if (a : Int) - b ≠ 0 then (0, (a : Int) - b) else ((scan u k).1 + 1, (scan u k).2)
theorem scan_le : ∀ (u k : List Nat), (scan u k).1 ≤ u.length ∧ (scan u k).1 ≤ k.length
  | _, [] => by simp [scan]
  | [], _ :: _ => by simp [scan]
  | a :: u, b :: k => by
    have := scan_le u k
    unfold scan
    split <;> simp <;> lia
theorem scan_take : ∀ (u k : List Nat), u.take (scan u k).1 = k.take (scan u k).1
  | _, [] => by simp [scan]
  | [], _ :: _ => by simp [scan]
  | a :: u, b :: k => by
    have := scan_take u k
    unfold scan
    split
    · simp
    · simp only [List.take_succ_cons, this, List.cons.injEq, and_true]; lia
theorem scan_neg : ∀ (u k : List Nat), decide ((scan u k).2 < 0) = !leL k u
  | _, [] => by simp [scan, leL]
  | [], _ :: _ => by simp [scan, leL]
  | a :: u, b :: k => by
    have := scan_neg u k
    unfold scan leL
    split
    · rename_i h
      have : a ≠ b := by lia
      by_cases q : b < a
      · simp [q]; lia
      · have : (b == a) = false := by simp; lia
        simp [q, this]; lia
    · rename_i h
      have : a = b := by lia
      subst this
      simp [*]
theorem scan_full : ∀ (u k : List Nat), k.isPrefixOf u = true ↔ k.length ≤ (scan u k).1
  | _, [] => by simp [scan]
  | [], _ :: _ => by simp [scan]
  | a :: u, b :: k => by
    have := scan_full u k
    unfold scan
    split
    · have : ¬ b = a := by lia
      simp [this]
    · have : b = a := by lia
      simp [*]
theorem scan_max : ∀ (c : Nat) (u k : List Nat), c ≤ u.length → c ≤ k.length → u.take c = k.take c → c ≤ (scan u k).1
  | 0, _, _, _, _, _ => Nat.zero_le _
  | c + 1, [], _, h, _, _ => by simp at h
  | c + 1, _ :: _, [], _, h, _ => by simp at h
  | c + 1, a :: u, b :: k, h1, h2, he => by
    simp only [List.take_succ_cons, List.cons.injEq, List.length_cons, Nat.add_le_add_iff_right] at *
    obtain ⟨rfl, he⟩ := he
    have := scan_max c u k h1 h2 he
    unfold scan
    simp; lia
theorem scan_drop : ∀ (c : Nat) (u k : List Nat), c ≤ u.length → c ≤ k.length → u.take c = k.take c → scan u k = (c + (scan (u.drop c) (k.drop c)).1, (scan (u.drop c) (k.drop c)).2)
  | 0, _, _, _, _, _ => by simp
  | c + 1, [], _, h, _, _ => by simp at h
  | c + 1, _ :: _, [], _, h, _ => by simp at h
  | c + 1, a :: u, b :: k, h1, h2, he => by
    simp only [List.take_succ_cons, List.cons.injEq, List.length_cons, Nat.add_le_add_iff_right] at *
    obtain ⟨rfl, he⟩ := he
    rw [scan, scan_drop c u k h1 h2 he]
    simp; lia
section
variable {N : Nat} {μ : Mu} {κ : Kap}
theorem at_zero (x : Option V) (m : List (Option V)) : Loc.at (x :: m) 0 = x := rfl
theorem at_succ (x : Option V) (m : List (Option V)) (n : Nat) : Loc.at (x :: m) (n + 1) = Loc.at m n := rfl
theorem for_gen (body : Loc → F → Res) (f : F) (u key : List Nat) (g : Nat → Int) (M : Int → Nat → Option V → Loc)
    (hset : ∀ d co x y, (M d co x).set 13 y = M d co y)
    (hb : ∀ co, co < key.length → co ≤ u.length → body (M 0 co (some (.int (g co)))) f =
      if co = u.length then some (.brk, M (-1) co (some (.int (g co))), f)
      else if ((u.getD co 0 : Nat) : Int) - (key.getD co 0 : Nat) ≠ 0 then some (.brk, M ((u.getD co 0 : Nat) - (key.getD co 0 : Nat)) co (some (.int (g co))), f)
      else some (.next, M 0 (co + 1) (some (.int (g co))), f)) :
    ∀ (n co : Nat), key.length - co = n → co ≤ key.length → co ≤ u.length → ∀ x, ∃ x',
      forL 13 body ((List.range n).map fun t => g (co + t)) (M 0 co x) f = some (.next, M (scan (u.drop co) (key.drop co)).2 (co + (scan (u.drop co) (key.drop co)).1) x', f) := by
  intro n
  induction n with
  | zero =>
    intro co hn hk hu x
    have : key.drop co = [] := List.drop_of_length_le (by lia)
    rw [this]
    exact ⟨x, by simp [forL, scan]⟩
  | succ n ih =>
    intro co hn hk hu x
    have hlt : co < key.length := by lia
    rw [List.range_succ_eq_map, List.map_cons, List.map_map, forL, hset]
    show ∃ x', turned (body (M 0 co (some (.int (g co)))) f) _ = _
    rw [hb co hlt hu, List.drop_eq_getElem_cons hlt]
    by_cases h1 : co = u.length
    · have : u.drop co = [] := List.drop_of_length_le (by lia)
      rw [if_pos h1, this]
      exact ⟨_, rfl⟩
    · have hlu : co < u.length := by lia
      rw [if_neg h1, List.drop_eq_getElem_cons hlu]
      have e1 : u.getD co 0 = u[co] := by simp [List.getD, hlu]
      have e2 : key.getD co 0 = key[co] := by simp [List.getD, hlt]
      rw [e1, e2]
      by_cases h2 : (u[co] : Int) - key[co] ≠ 0
      · rw [if_pos h2, scan, if_pos h2]
        exact ⟨_, rfl⟩
      · rw [if_neg h2, scan, if_neg h2, tur_next]
        obtain ⟨x', hx⟩ := ih (co + 1) (by lia) (by lia) (by lia) (some (.int (g co)))
        refine ⟨x', ?_⟩
        have e : ((fun t => g (co + t)) ∘ Nat.succ) = fun t => g (co + 1 + t) := by
          funext t; show g (co + (t + 1)) = g (co + 1 + t); congr 1; lia
        rw [e, hx]
        simp only [Nat.add_assoc, Nat.add_comm 1]
end
noncomputable def cAfter : C := .ite (.cmp .lt (.loc 10) (.int 0)) (.setl 3 (.loc 9) (.setl 7 (.loc 11) .nil)) (.setl 2 (.loc 9) (.setl 6 (.loc 11) .nil))
  (.ite (.cmp .le (.sub (.loc 3) (.loc 2)) (.int 1)) (.ite (.cmp .gt (.loc 2) (.int 0)) (.brk .nil) .nil (.ite (.cmp .eq (.loc 3) (.loc 2)) (.brk .nil) .nil (.ite (.ex (.loc 8)) (.brk .nil) .nil (.setl 8 (.bool true) .nil)))) .nil .nil)
noncomputable def cForF : C := .ite (.cmp .eq (.add (.loc 4) (.loc 11)) (.loc 5)) (.setl 10 (.neg 1) (.brk .nil)) .nil
  (.setl 10 (.sub (.ord (.idx (.fld .current) (.add (.loc 4) (.loc 11)))) (.ord (.idx (.amS 12) (.loc 13)))) (.ite (.cmp .ne (.loc 10) (.int 0)) (.brk .nil) .nil (.augl 11 true (.int 1) .nil)))
noncomputable def cForB : C := .ite (.cmp .eq (.sub (.loc 4) (.loc 11)) (.loc 5)) (.setl 10 (.neg 1) (.brk .nil)) .nil
  (.setl 10 (.sub (.ord (.idx (.fld .current) (.sub (.sub (.loc 4) (.int 1)) (.loc 11)))) (.ord (.idx (.amS 12) (.loc 13)))) (.ite (.cmp .ne (.loc 10) (.int 0)) (.brk .nil) .nil (.augl 11 true (.int 1) .nil)))
noncomputable def forF : C := .forU 13 (.loc 11) (.len (.amS 12)) cForF cAfter
noncomputable def forBk : C := .forD 13 (.sub (.sub (.len (.amS 12)) (.int 1)) (.loc 11)) cForB cAfter
noncomputable def cBody (fr : C) : C := .setl 9 (.add (.loc 2) (.shr (.sub (.loc 3) (.loc 2)) (.int 1))) (.setl 10 (.int 0) (.setl 11 (.min (.loc 6) (.loc 7)) (.setl 12 (.item 1 (.loc 9)) fr)))
noncomputable def cChase (e : CE) : C := .setl 12 (.item 1 (.loc 2)) (.ite (.cmp .ge (.loc 6) (.len (.amS 12))) (.setf .cursor e (.ret (.amR 12) .nil)) .nil (.setl 2 (.amI 12) (.ite (.cmp .lt (.loc 2) (.int 0)) (.ret (.int 0) .nil) .nil .nil)))
noncomputable def cFind (lim : Fld) (fr : C) (e : CE) : C := .setl 2 (.int 0) (.setl 3 (.len (.loc 1)) (.setl 4 (.fld .cursor) (.setl 5 (.fld lim) (.setl 6 (.int 0) (.setl 7 (.int 0) (.setl 8 (.bool false)
  (.wh (.ex (.bool true)) (cBody fr) (.wh (.ex (.bool true)) (cChase e) (.ret (.neg 1) .nil)))))))))
theorem find_eq : code_find_among = cFind .limit forF (.add (.loc 4) (.len (.amS 12))) := rfl
theorem find_b_eq : code_find_among_b = cFind .lb forBk (.sub (.loc 4) (.len (.amS 12))) := rfl
noncomputable abbrev S14 (T : V) (i j c l ci cj : Nat) (fk : Bool) (k d co w x : Option V) : Loc :=
  [some .self, some T, some (.int i), some (.int j), some (.int c), some (.int l), some (.int ci), some (.int cj), some (.bool fk), k, d, co, w, x]
section
variable {N : Nat} {μ : Mu} {κ : Kap}
theorem upTo_eq (co n : Nat) (h : co ≤ n) : upTo co n = (List.range (n - co)).map fun t => ((co + t : Nat) : Int) := by
  unfold upTo
  rw [show ((n : Int) - co).toNat = n - co by lia]
  apply List.map_congr_left
  intro t _; lia
theorem downTo_eq (co n : Nat) (h : co ≤ n) : downTo ((n : Int) - 1 - co) = (List.range (n - co)).map fun t => (n : Int) - 1 - ((co + t : Nat) : Int) := by
  unfold downTo
  rw [show ((n : Int) - 1 - co + 1).toNat = n - co by lia]
  apply List.map_congr_left
  intro t _; lia
theorem getD_of {u : List Nat} {co : Nat} {x : Nat} (h : u[co]? = some x) : u.getD co 0 = x := by
  simp [List.getD, h]
theorem cmp_eq (a b : Int) : cmpV .eq (.int a) (.int b) = some (decide (a = b)) := rfl
theorem cmp_ne (a b : Int) : cmpV .ne (.int a) (.int b) = some (!decide (a = b)) := rfl
theorem cmp_lt (a b : Int) : cmpV .lt (.int a) (.int b) = some (decide (a < b)) := rfl
theorem cmp_le (a b : Int) : cmpV .le (.int a) (.int b) = some (decide (a ≤ b)) := rfl
theorem cmp_gt (a b : Int) : cmpV .gt (.int a) (.int b) = some (decide (a > b)) := rfl
theorem cmp_ge (a b : Int) : cmpV .ge (.int a) (.int b) = some (decide (a ≥ b)) := rfl
theorem idx_at {s : List Nat} {i : Int} {n : Nat} {x : Nat} (hi : i = n) (h : s[n]? = some x) : idxV (.str s) (.int i) = some (.str [x]) := by
  subst hi
  simp only [iV]
  rw [if_pos (by lia), Int.toNat_natCast, h]; rfl
noncomputable def RdF (W : List Nat) (c l : Nat) (u : List Nat) : Prop := c ≤ l ∧ u.length = l - c ∧ ∀ j, j < u.length → W[c + j]? = u[j]?
noncomputable def RdB (W : List Nat) (c l : Nat) (u : List Nat) : Prop := l ≤ c ∧ u.length = c - l ∧ ∀ j, j < u.length → W[c - 1 - j]? = u[j]?
theorem forF_ok {W : List Nat} {c l : Nat} {u : List Nat} (hR : RdF W c l u) {f : F} (hf : f.current = W) (a : AM) (ha : a.1.length ≤ 1000) (co : Nat) (h1 : co ≤ u.length) (h2 : co ≤ a.1.length) (h3 : u.take co = a.1.take co)
    (T : V) (i j ci cj : Nat) (fk : Bool) (k x : Option V) :
    ∃ x', exec N μ κ forF (S14 T i j c l ci cj fk k (some (.int 0)) (some (.int co)) (some (.among a)) x) f =
      exec N μ κ cAfter (S14 T i j c l ci cj fk k (some (.int (scan u a.1).2)) (some (.int (scan u a.1).1)) (some (.among a)) x') f := by
  obtain ⟨r1, r2, r3⟩ := hR
  have hm : (S14 T i j c l ci cj fk k (some (.int 0)) (some (.int co)) (some (.among a)) x).length = 14 := rfl
  obtain ⟨x', h⟩ := for_gen (exec N μ κ cForF) f u a.1 (fun t => (t : Int)) (fun d co x => S14 T i j c l ci cj fk k (some (.int d)) (some (.int co)) (some (.among a)) x) (fun _ _ _ _ => rfl)
    (fun co hc hu => by
      simp only [cForF, xf_nil, xf_brk, xf_setl, xf_augl, xf_ite, te_cmp, ev_int, ev_neg, ev_loc, ev_fld, ev_amS, ev_add, ev_sub, ev_idx, ev_ord, at_zero, at_succ, map_some, bind_some, addV_int, isz, cmp_eq]
      by_cases q : co = u.length
      · rw [if_pos q]
        have : (c + co : Nat) = l := by lia
        simp only [this, decide_true, if_true, List.length_cons, List.length_nil, Nat.reduceAdd, Nat.reduceLT, ne_eq, Nat.reduceEqDiff, not_false_eq_true, and_self, List.set_cons_succ, List.set_cons_zero, and_brk]
        rfl
      · rw [if_neg q]
        have e : ¬ ((c + co : Nat) : Int) = l := by lia
        have eu : u[co]? = some (u.getD co 0) := by
          rw [List.getElem?_eq_getElem (by lia : co < u.length)]; simp [List.getD, (by lia : co < u.length)]
        have ek : a.1[co]? = some (a.1.getD co 0) := by
          rw [List.getElem?_eq_getElem hc]; simp [List.getD, hc]
        have eW : f.current[c + co]? = some (u.getD co 0) := by rw [hf, r3 co (by lia), eu]
        simp only [e, decide_false, Bool.false_eq_true, if_true, if_false, List.length_cons, List.length_nil, Nat.reduceAdd, Nat.reduceLT, ne_eq, Nat.reduceEqDiff, not_false_eq_true, and_self, List.set_cons_succ, List.set_cons_zero, and_next,
          S14, at_zero, at_succ, get_cur, addV_int, subV_int, isz, bind_some, map_some, idx_at rfl eW, idx_at rfl ek, ordV, cmp_ne]
        by_cases q2 : ((u.getD co 0 : Nat) : Int) - (a.1.getD co 0 : Nat) = 0
        · simp only [q2, Int.cast_ofNat_Int, decide_true, Bool.not_true, Bool.false_eq_true, if_false, not_true_eq_false, and_next]
          rfl
        · simp only [q2, Int.cast_ofNat_Int, decide_false, Bool.not_false, if_true, not_false_eq_true, and_brk])
    (a.1.length - co) co rfl h2 h1 x
  refine ⟨x', ?_⟩
  rw [forF, ex_forU]
  simp only [ev_loc, ev_amS, ev_len, at_zero, at_succ, map_some, bind_some, lnV_s, lnV_t]
  have hcond : 13 < (S14 T i j c l ci cj fk k (some (.int 0)) (some (.int co)) (some (.among a)) x).length ∧ 13 ≠ 0 ∧ -2000 ≤ (co : Int) ∧ (co : Int) ≤ 2000 ∧ -2000 ≤ (a.1.length : Int) ∧ (a.1.length : Int) ≤ 2000 := by
    refine ⟨by show 13 < 14; decide, by decide, ?_, ?_, ?_, ?_⟩ <;> lia
  rw [if_pos hcond, upTo_eq co _ h2, h, and_next, scan_drop co u a.1 h1 h2 h3]
theorem forB_ok {W : List Nat} {c l : Nat} {u : List Nat} (hR : RdB W c l u) {f : F} (hf : f.current = W) (a : AM) (ha : a.1.length ≤ 1000) (co : Nat) (h1 : co ≤ u.length) (h2 : co ≤ a.1.reverse.length) (h3 : u.take co = a.1.reverse.take co)
    (T : V) (i j ci cj : Nat) (fk : Bool) (k x : Option V) :
    ∃ x', exec N μ κ forBk (S14 T i j c l ci cj fk k (some (.int 0)) (some (.int co)) (some (.among a)) x) f =
      exec N μ κ cAfter (S14 T i j c l ci cj fk k (some (.int (scan u a.1.reverse).2)) (some (.int (scan u a.1.reverse).1)) (some (.among a)) x') f := by
  obtain ⟨r1, r2, r3⟩ := hR
  have hrl : a.1.reverse.length = a.1.length := List.length_reverse
  have hm : (S14 T i j c l ci cj fk k (some (.int 0)) (some (.int co)) (some (.among a)) x).length = 14 := rfl
  obtain ⟨x', h⟩ := for_gen (exec N μ κ cForB) f u a.1.reverse (fun t => (a.1.length : Int) - 1 - t) (fun d co x => S14 T i j c l ci cj fk k (some (.int d)) (some (.int co)) (some (.among a)) x) (fun _ _ _ _ => rfl)
    (fun co hc hu => by
      simp only [cForB, xf_nil, xf_brk, xf_setl, xf_augl, xf_ite, te_cmp, ev_int, ev_neg, ev_loc, ev_fld, ev_amS, ev_sub, ev_idx, ev_ord, at_zero, at_succ, map_some, bind_some, subV_int, cmp_eq]
      by_cases q : co = u.length
      · rw [if_pos q]
        have : ((c : Int) - co) = l := by lia
        simp only [this, decide_true, if_true, List.length_cons, List.length_nil, Nat.reduceAdd, Nat.reduceLT, ne_eq, Nat.reduceEqDiff, not_false_eq_true, and_self, List.set_cons_succ, List.set_cons_zero, and_brk]
        rfl
      · rw [if_neg q]
        have e : ¬ ((c : Int) - co) = l := by lia
        have eu : u[co]? = some (u.getD co 0) := by
          rw [List.getElem?_eq_getElem (by lia : co < u.length)]; simp [List.getD, (by lia : co < u.length)]
        have ek : a.1[a.1.length - 1 - co]? = some (a.1.reverse.getD co 0) := by
          rw [← List.getElem?_reverse (by lia), List.getElem?_eq_getElem hc]; simp only [List.getD, List.getElem?_eq_getElem hc, Option.getD_some]
        have eW : f.current[c - 1 - co]? = some (u.getD co 0) := by rw [hf, r3 co (by lia), eu]
        have i1 : (c : Int) - ((1 : Nat) : Int) - co = (c - 1 - co : Nat) := by lia
        have i2 : (a.1.length : Int) - 1 - co = (a.1.length - 1 - co : Nat) := by lia
        simp only [e, decide_false, Bool.false_eq_true, if_true, if_false, List.length_cons, List.length_nil, Nat.reduceAdd, Nat.reduceLT, ne_eq, Nat.reduceEqDiff, not_false_eq_true, and_self, List.set_cons_succ, List.set_cons_zero, and_next,
          S14, at_zero, at_succ, get_cur, subV_int, bind_some, map_some, idx_at i1 eW, idx_at i2 ek, ordV, cmp_ne]
        by_cases q2 : ((u.getD co 0 : Nat) : Int) - (a.1.reverse.getD co 0 : Nat) = 0
        · simp only [q2, Int.cast_ofNat_Int, decide_true, Bool.not_true, Bool.false_eq_true, if_false, not_true_eq_false, and_next]
          rfl
        · simp only [q2, Int.cast_ofNat_Int, decide_false, Bool.not_false, if_true, not_false_eq_true, and_brk])
    (a.1.reverse.length - co) co rfl h2 h1 x
  refine ⟨x', ?_⟩
  rw [forBk, ex_forD]
  simp only [ev_int, ev_loc, ev_amS, ev_sub, ev_len, at_zero, at_succ, map_some, bind_some, lnV_s, lnV_t, subV_int]
  have hcond : 13 < (S14 T i j c l ci cj fk k (some (.int 0)) (some (.int co)) (some (.among a)) x).length ∧ 13 ≠ 0 ∧ -2000 ≤ ((a.1.length : Int) - ((1 : Nat) : Int) - co) ∧ ((a.1.length : Int) - ((1 : Nat) : Int) - co) ≤ 2000 := by
    refine ⟨by show 13 < 14; decide, by decide, ?_, ?_⟩ <;> lia
  rw [if_pos hcond]
  have ed := downTo_eq co a.1.length (by lia)
  rw [show (a.1.length : Int) - ((1 : Nat) : Int) - co = (a.1.length : Int) - 1 - co from rfl, ed]
  rw [hrl] at h
  rw [h, and_next, scan_drop co u a.1.reverse h1 h2 h3]
end
section
variable {N : Nat} {μ : Mu} {κ : Kap} {x0 x1 x2 x3 x4 x5 x6 x7 x8 x9 x10 x11 x12 x13 : Option V} {f : F} {e : CE} {k : C}
theorem xs5 : exec N μ κ (.setl 5 e k) [x0, x1, x2, x3, x4, x5, x6, x7, x8, x9, x10, x11, x12, x13] f = (evalE μ κ [x0, x1, x2, x3, x4, x5, x6, x7, x8, x9, x10, x11, x12, x13] e f).bind fun y => exec N μ κ k [x0, x1, x2, x3, x4, some y.1, x6, x7, x8, x9, x10, x11, x12, x13] y.2 := rfl
theorem xs6 : exec N μ κ (.setl 6 e k) [x0, x1, x2, x3, x4, x5, x6, x7, x8, x9, x10, x11, x12, x13] f = (evalE μ κ [x0, x1, x2, x3, x4, x5, x6, x7, x8, x9, x10, x11, x12, x13] e f).bind fun y => exec N μ κ k [x0, x1, x2, x3, x4, x5, some y.1, x7, x8, x9, x10, x11, x12, x13] y.2 := rfl
theorem xs7 : exec N μ κ (.setl 7 e k) [x0, x1, x2, x3, x4, x5, x6, x7, x8, x9, x10, x11, x12, x13] f = (evalE μ κ [x0, x1, x2, x3, x4, x5, x6, x7, x8, x9, x10, x11, x12, x13] e f).bind fun y => exec N μ κ k [x0, x1, x2, x3, x4, x5, x6, some y.1, x8, x9, x10, x11, x12, x13] y.2 := rfl
theorem xs8 : exec N μ κ (.setl 8 e k) [x0, x1, x2, x3, x4, x5, x6, x7, x8, x9, x10, x11, x12, x13] f = (evalE μ κ [x0, x1, x2, x3, x4, x5, x6, x7, x8, x9, x10, x11, x12, x13] e f).bind fun y => exec N μ κ k [x0, x1, x2, x3, x4, x5, x6, x7, some y.1, x9, x10, x11, x12, x13] y.2 := rfl
theorem xs9 : exec N μ κ (.setl 9 e k) [x0, x1, x2, x3, x4, x5, x6, x7, x8, x9, x10, x11, x12, x13] f = (evalE μ κ [x0, x1, x2, x3, x4, x5, x6, x7, x8, x9, x10, x11, x12, x13] e f).bind fun y => exec N μ κ k [x0, x1, x2, x3, x4, x5, x6, x7, x8, some y.1, x10, x11, x12, x13] y.2 := rfl
theorem xs10 : exec N μ κ (.setl 10 e k) [x0, x1, x2, x3, x4, x5, x6, x7, x8, x9, x10, x11, x12, x13] f = (evalE μ κ [x0, x1, x2, x3, x4, x5, x6, x7, x8, x9, x10, x11, x12, x13] e f).bind fun y => exec N μ κ k [x0, x1, x2, x3, x4, x5, x6, x7, x8, x9, some y.1, x11, x12, x13] y.2 := rfl
theorem xs11 : exec N μ κ (.setl 11 e k) [x0, x1, x2, x3, x4, x5, x6, x7, x8, x9, x10, x11, x12, x13] f = (evalE μ κ [x0, x1, x2, x3, x4, x5, x6, x7, x8, x9, x10, x11, x12, x13] e f).bind fun y => exec N μ κ k [x0, x1, x2, x3, x4, x5, x6, x7, x8, x9, x10, some y.1, x12, x13] y.2 := rfl
theorem xs12 : exec N μ κ (.setl 12 e k) [x0, x1, x2, x3, x4, x5, x6, x7, x8, x9, x10, x11, x12, x13] f = (evalE μ κ [x0, x1, x2, x3, x4, x5, x6, x7, x8, x9, x10, x11, x12, x13] e f).bind fun y => exec N μ κ k [x0, x1, x2, x3, x4, x5, x6, x7, x8, x9, x10, x11, some y.1, x13] y.2 := rfl
theorem xs13 : exec N μ κ (.setl 13 e k) [x0, x1, x2, x3, x4, x5, x6, x7, x8, x9, x10, x11, x12, x13] f = (evalE μ κ [x0, x1, x2, x3, x4, x5, x6, x7, x8, x9, x10, x11, x12, x13] e f).bind fun y => exec N μ κ k [x0, x1, x2, x3, x4, x5, x6, x7, x8, x9, x10, x11, x12, some y.1] y.2 := rfl
end
noncomputable def am0 : AM := ([], 0, 0)
noncomputable def keyAt (key : List Nat → List Nat) (t : List AM) (i : Nat) : List Nat := key (t.getD i am0).1
noncomputable def linkAt (t : List AM) (i : Nat) : Int := (t.getD i am0).2.1
noncomputable def goodT (key : List Nat → List Nat) (t : List AM) : Bool :=
  decide (2 ≤ t.length ∧ t.length ≤ 60) && (List.range t.length).all fun i =>
    decide ((t.getD i am0).1.length ≤ 100) && ((List.range i).all fun e => leL (keyAt key t e) (keyAt key t i) && (decide ((e : Int) ≤ linkAt t i) || !(keyAt key t e).isPrefixOf (keyAt key t i))) &&
      (decide (linkAt t i < 0) || (decide ((linkAt t i).toNat < i) && (keyAt key t (linkAt t i).toNat).isPrefixOf (keyAt key t i)))
structure Good (key : List Nat → List Nat) (t : List AM) : Prop where
  two : 2 ≤ t.length
  few : t.length ≤ 60
  short : ∀ i, i < t.length → (t.getD i am0).1.length ≤ 100
  sorted : ∀ e i, e < i → i < t.length → leL (keyAt key t e) (keyAt key t i) = true
  far : ∀ e i, e < i → i < t.length → (keyAt key t e).isPrefixOf (keyAt key t i) = true → (e : Int) ≤ linkAt t i
  link : ∀ i, i < t.length → 0 ≤ linkAt t i → (linkAt t i).toNat < i ∧ (keyAt key t (linkAt t i).toNat).isPrefixOf (keyAt key t i) = true
theorem good_of {key : List Nat → List Nat} {t : List AM} (h : goodT key t = true) : Good key t := by
  unfold goodT at h
  rw [Bool.and_eq_true] at h
  obtain ⟨h1, h2⟩ := h
  have h1 := of_decide_eq_true h1
  rw [List.all_eq_true] at h2
  have h3 : ∀ i, i < t.length → _ := fun i hi => h2 i (List.mem_range.mpr hi)
  simp only [Bool.and_eq_true, Bool.or_eq_true, decide_eq_true_eq, List.all_eq_true, List.mem_range, Bool.not_eq_true'] at h3
  refine ⟨h1.1, h1.2, fun i hi => (h3 i hi).1.1, fun e i he hi => ((h3 i hi).1.2 e he).1, fun e i he hi hp => ?_, fun i hi hl => ?_⟩
  · rcases ((h3 i hi).1.2 e he).2 with q | q
    · exact q
    · rw [hp] at q; cases q
  · rcases (h3 i hi).2 with q | q
    · lia
    · exact q
noncomputable def best (key : List Nat → List Nat) (u : List Nat) : List AM → Option AM
  | [] => none
  | a :: t => match best key u t with
    | some b => some b
    | none => if (key a.1).isPrefixOf u then some a else none
theorem best_none {key : List Nat → List Nat} {u : List Nat} : ∀ {t : List AM}, (∀ e, e < t.length → (keyAt key t e).isPrefixOf u = false) → best key u t = none
  | [], _ => rfl
  | a :: t, h => by
    have h0 : (key a.1).isPrefixOf u = false := h 0 (by simp)
    rw [best, best_none fun e he => h (e + 1) (by simpa using he), h0]; rfl
theorem best_some {key : List Nat → List Nat} {u : List Nat} : ∀ {t : List AM} {i : Nat}, i < t.length → (keyAt key t i).isPrefixOf u = true → (∀ e, i < e → e < t.length → (keyAt key t e).isPrefixOf u = false) → best key u t = some (t.getD i am0)
  | [], _, h, _, _ => by simp at h
  | a :: t, 0, _, hp, h => by
    have h0 : (key a.1).isPrefixOf u = true := hp
    rw [best, best_none fun e he => h (e + 1) (by lia) (by simpa using he), h0]; rfl
  | a :: t, i + 1, hi, hp, h => by
    rw [best, best_some (i := i) (by simpa using hi) hp fun e he hl => h (e + 1) (by lia) (by simpa using hl)]; rfl
section
variable {N : Nat} {μ : Mu} {κ : Kap} {key : List Nat → List Nat} {t : List AM} {u : List Nat} {f : F} {c l : Nat} {fr : C}
noncomputable def ForOk (N : Nat) (μ : Mu) (κ : Kap) (key : List Nat → List Nat) (u : List Nat) (f : F) (c l : Nat) (fr : C) : Prop :=
  ∀ (a : AM), a.1.length ≤ 1000 → ∀ co : Nat, co ≤ u.length → co ≤ (key a.1).length → u.take co = (key a.1).take co → ∀ (T : V) (i j ci cj : Nat) (fk : Bool) (k x : Option V),
    ∃ x', exec N μ κ fr (S14 T i j c l ci cj fk k (some (.int 0)) (some (.int co)) (some (.among a)) x) f =
      exec N μ κ cAfter (S14 T i j c l ci cj fk k (some (.int (scan u (key a.1)).2)) (some (.int (scan u (key a.1)).1)) (some (.among a)) x') f
theorem getD_mem {t : List AM} {i : Nat} (h : i < t.length) : t[i]? = some (t.getD i am0) := by
  rw [List.getElem?_eq_getElem h]; simp [List.getD, h]
theorem body_ok (hfor : ForOk N μ κ key u f c l fr) {i j ci cj : Nat} (hij : i ≤ j) (hk : i + (j - i) / 2 < t.length) (hs : (t.getD (i + (j - i) / 2) am0).1.length ≤ 100)
    (h1 : min ci cj ≤ u.length) (h2 : min ci cj ≤ (keyAt key t (i + (j - i) / 2)).length) (h3 : u.take (min ci cj) = (keyAt key t (i + (j - i) / 2)).take (min ci cj)) (fk : Bool) (k d co w x : Option V) :
    ∃ x', exec N μ κ (cBody fr) (S14 (.tab t) i j c l ci cj fk k d co w x) f =
      exec N μ κ cAfter (S14 (.tab t) i j c l ci cj fk (some (.int (i + (j - i) / 2 : Nat))) (some (.int (scan u (keyAt key t (i + (j - i) / 2))).2)) (some (.int (scan u (keyAt key t (i + (j - i) / 2))).1)) (some (.among (t.getD (i + (j - i) / 2) am0))) x') f := by
  obtain ⟨x', h⟩ := hfor (t.getD (i + (j - i) / 2) am0) (by lia) (min ci cj) h1 h2 h3 (.tab t) i j ci cj fk (some (.int (i + (j - i) / 2 : Nat))) x
  refine ⟨x', ?_⟩
  have e1 : (i : Int) + ((j : Int) - i) / 2 = (i + (j - i) / 2 : Nat) := by lia
  have e2 : (if (cj : Int) < ci then (cj : Int) else ci) = (min ci cj : Nat) := by split <;> lia
  have e3 : (0 : Int) ≤ (j : Int) - i := by lia
  have hi : itemV (.tab t) (.int (i + (j - i) / 2 : Nat)) = some (.among (t.getD (i + (j - i) / 2) am0)) := by
    simp only [itV]
    rw [if_pos (by lia), Int.toNat_natCast, getD_mem hk]; rfl
  have e4 : ((1 : Nat) : Int) = 1 := rfl
  have e5 : ((0 : Nat) : Int) = 0 := rfl
  simp only [cBody, xs1, xs2, xs3, xs4, xs5, xs6, xs7, xs8, xs9, xs10, xs11, xs12, xs13, ev_int, ev_loc, ev_add, ev_sub, ev_shr, ev_item, ev_min, S14, at_zero, at_succ, bind_some, map_some, subV_int, addV_int, shV, e3, e4, e5, and_self, if_true, e1, List.length_cons, List.length_nil, Nat.reduceAdd, Nat.reduceLT, ne_eq, Nat.reduceEqDiff, not_false_eq_true, List.set_cons_succ, List.set_cons_zero, mnV, e2, hi]
  exact h
theorem after_ok (T : V) (i j ci cj : Nat) (fk : Bool) (kk : Nat) (df : Int) (sc : Nat) (w x : Option V) (hi : i ≤ kk) (hj : kk ≤ j) :
    exec N μ κ cAfter (S14 T i j c l ci cj fk (some (.int kk)) (some (.int df)) (some (.int sc)) w x) f =
      if df < 0 then
        if kk - i ≤ 1 then
          if 0 < i ∨ kk = i ∨ fk = true then some (.brk, S14 T i kk c l ci sc fk (some (.int kk)) (some (.int df)) (some (.int sc)) w x, f)
          else some (.next, S14 T i kk c l ci sc true (some (.int kk)) (some (.int df)) (some (.int sc)) w x, f)
        else some (.next, S14 T i kk c l ci sc fk (some (.int kk)) (some (.int df)) (some (.int sc)) w x, f)
      else
        if j - kk ≤ 1 then
          if 0 < kk ∨ j = kk ∨ fk = true then some (.brk, S14 T kk j c l sc cj fk (some (.int kk)) (some (.int df)) (some (.int sc)) w x, f)
          else some (.next, S14 T kk j c l sc cj true (some (.int kk)) (some (.int df)) (some (.int sc)) w x, f)
        else some (.next, S14 T kk j c l sc cj fk (some (.int kk)) (some (.int df)) (some (.int sc)) w x, f) := by
  have e4 : ((1 : Nat) : Int) = 1 := rfl
  have e5 : ((0 : Nat) : Int) = 0 := rfl
  by_cases hd : df < 0
  · rw [if_pos hd]
    by_cases q1 : kk - i ≤ 1
    · have z1 : (kk : Int) - i ≤ 1 := by lia
      rw [if_pos q1]
      by_cases q2 : 0 < i
      · have z2 : (i : Int) > 0 := by lia
        rw [if_pos (.inl q2)]
        simp only [cAfter, xf_nil, xf_brk, xs1, xs2, xs3, xs4, xs5, xs6, xs7, xs8, xs9, xs10, xs11, xs12, xs13, xf_ite, ↓itt, ↓itf, te_cmp, te_ex, ev_int, ev_bool, ev_loc, ev_sub, S14, at_zero, at_succ, bind_some, map_some, subV_int, e4, e5, cmp_lt, cmp_le, cmp_gt, hd, z1, z2, decide_true, if_true, List.length_cons, List.length_nil, Nat.reduceAdd, Nat.reduceLT, ne_eq, Nat.reduceEqDiff, not_false_eq_true, and_self, List.set_cons_succ, List.set_cons_zero, and_next, and_brk]
      · have z2 : ¬ (i : Int) > 0 := by lia
        by_cases q3 : kk = i
        · have z3 : (kk : Int) = i := by lia
          rw [if_pos (.inr (.inl q3))]
          simp only [cAfter, xf_nil, xf_brk, xs1, xs2, xs3, xs4, xs5, xs6, xs7, xs8, xs9, xs10, xs11, xs12, xs13, xf_ite, ↓itt, ↓itf, te_cmp, te_ex, ev_int, ev_bool, ev_loc, ev_sub, S14, at_zero, at_succ, bind_some, map_some, subV_int, e4, e5, cmp_lt, cmp_le, cmp_gt, cmp_eq, hd, z2, z3, decide_true, decide_false, Bool.false_eq_true, if_true, if_false, List.length_cons, List.length_nil, Nat.reduceAdd, Nat.reduceLT, ne_eq, Nat.reduceEqDiff, not_false_eq_true, and_self, List.set_cons_succ, List.set_cons_zero, and_next, and_brk]
          rw [← z3]
          simp only [Int.sub_self, Int.reduceLE, decide_true, if_true]
          try rfl
        · have z3 : ¬ (kk : Int) = i := by lia
          cases fk with
          | true =>
            rw [if_pos (.inr (.inr rfl))]
            simp only [cAfter, xf_nil, xf_brk, xs1, xs2, xs3, xs4, xs5, xs6, xs7, xs8, xs9, xs10, xs11, xs12, xs13, xf_ite, ↓itt, ↓itf, te_cmp, te_ex, ev_int, ev_bool, ev_loc, ev_sub, S14, at_zero, at_succ, bind_some, map_some, subV_int, e4, e5, cmp_lt, cmp_le, cmp_gt, cmp_eq, hd, z1, z2, z3, decide_true, decide_false, Bool.false_eq_true, if_true, if_false, List.length_cons, List.length_nil, Nat.reduceAdd, Nat.reduceLT, ne_eq, Nat.reduceEqDiff, not_false_eq_true, and_self, List.set_cons_succ, List.set_cons_zero, and_next, and_brk]
          | false =>
            rw [if_neg (by intro h; rcases h with h | h | h <;> first | lia | cases h)]
            simp only [cAfter, xf_nil, xf_brk, xs1, xs2, xs3, xs4, xs5, xs6, xs7, xs8, xs9, xs10, xs11, xs12, xs13, xf_ite, ↓itt, ↓itf, te_cmp, te_ex, ev_int, ev_bool, ev_loc, ev_sub, S14, at_zero, at_succ, bind_some, map_some, subV_int, e4, e5, cmp_lt, cmp_le, cmp_gt, cmp_eq, hd, z1, z2, z3, decide_true, decide_false, Bool.false_eq_true, if_true, if_false, List.length_cons, List.length_nil, Nat.reduceAdd, Nat.reduceLT, ne_eq, Nat.reduceEqDiff, not_false_eq_true, and_self, List.set_cons_succ, List.set_cons_zero, and_next]
    · have z1 : ¬ (kk : Int) - i ≤ 1 := by lia
      rw [if_neg q1]
      simp only [cAfter, xf_nil, xf_brk, xs1, xs2, xs3, xs4, xs5, xs6, xs7, xs8, xs9, xs10, xs11, xs12, xs13, xf_ite, ↓itt, ↓itf, te_cmp, te_ex, ev_int, ev_bool, ev_loc, ev_sub, S14, at_zero, at_succ, bind_some, map_some, subV_int, e4, e5, cmp_lt, cmp_le, cmp_gt, hd, z1, decide_true, decide_false, Bool.false_eq_true, if_true, if_false, List.length_cons, List.length_nil, Nat.reduceAdd, Nat.reduceLT, ne_eq, Nat.reduceEqDiff, not_false_eq_true, and_self, List.set_cons_succ, List.set_cons_zero, and_next]
  · rw [if_neg hd]
    by_cases q1 : j - kk ≤ 1
    · have z1 : (j : Int) - kk ≤ 1 := by lia
      rw [if_pos q1]
      by_cases q2 : 0 < kk
      · have z2 : (kk : Int) > 0 := by lia
        rw [if_pos (.inl q2)]
        simp only [cAfter, xf_nil, xf_brk, xs1, xs2, xs3, xs4, xs5, xs6, xs7, xs8, xs9, xs10, xs11, xs12, xs13, xf_ite, ↓itt, ↓itf, te_cmp, te_ex, ev_int, ev_bool, ev_loc, ev_sub, S14, at_zero, at_succ, bind_some, map_some, subV_int, e4, e5, cmp_lt, cmp_le, cmp_gt, hd, z1, z2, decide_true, decide_false, Bool.false_eq_true, if_true, if_false, List.length_cons, List.length_nil, Nat.reduceAdd, Nat.reduceLT, ne_eq, Nat.reduceEqDiff, not_false_eq_true, and_self, List.set_cons_succ, List.set_cons_zero, and_next, and_brk]
      · have z2 : ¬ (kk : Int) > 0 := by lia
        by_cases q3 : j = kk
        · have z3 : (j : Int) = kk := by lia
          rw [if_pos (.inr (.inl q3))]
          simp only [cAfter, xf_nil, xf_brk, xs1, xs2, xs3, xs4, xs5, xs6, xs7, xs8, xs9, xs10, xs11, xs12, xs13, xf_ite, ↓itt, ↓itf, te_cmp, te_ex, ev_int, ev_bool, ev_loc, ev_sub, S14, at_zero, at_succ, bind_some, map_some, subV_int, e4, e5, cmp_lt, cmp_le, cmp_gt, cmp_eq, hd, z2, z3, decide_true, decide_false, Bool.false_eq_true, if_true, if_false, List.length_cons, List.length_nil, Nat.reduceAdd, Nat.reduceLT, ne_eq, Nat.reduceEqDiff, not_false_eq_true, and_self, List.set_cons_succ, List.set_cons_zero, and_next, and_brk]
          simp only [Int.sub_self, Int.reduceLE, decide_true, if_true]
          try rfl
        · have z3 : ¬ (j : Int) = kk := by lia
          cases fk with
          | true =>
            rw [if_pos (.inr (.inr rfl))]
            simp only [cAfter, xf_nil, xf_brk, xs1, xs2, xs3, xs4, xs5, xs6, xs7, xs8, xs9, xs10, xs11, xs12, xs13, xf_ite, ↓itt, ↓itf, te_cmp, te_ex, ev_int, ev_bool, ev_loc, ev_sub, S14, at_zero, at_succ, bind_some, map_some, subV_int, e4, e5, cmp_lt, cmp_le, cmp_gt, cmp_eq, hd, z1, z2, z3, decide_true, decide_false, Bool.false_eq_true, if_true, if_false, List.length_cons, List.length_nil, Nat.reduceAdd, Nat.reduceLT, ne_eq, Nat.reduceEqDiff, not_false_eq_true, and_self, List.set_cons_succ, List.set_cons_zero, and_next, and_brk]
          | false =>
            rw [if_neg (by intro h; rcases h with h | h | h <;> first | lia | cases h)]
            simp only [cAfter, xf_nil, xf_brk, xs1, xs2, xs3, xs4, xs5, xs6, xs7, xs8, xs9, xs10, xs11, xs12, xs13, xf_ite, ↓itt, ↓itf, te_cmp, te_ex, ev_int, ev_bool, ev_loc, ev_sub, S14, at_zero, at_succ, bind_some, map_some, subV_int, e4, e5, cmp_lt, cmp_le, cmp_gt, cmp_eq, hd, z1, z2, z3, decide_true, decide_false, Bool.false_eq_true, if_true, if_false, List.length_cons, List.length_nil, Nat.reduceAdd, Nat.reduceLT, ne_eq, Nat.reduceEqDiff, not_false_eq_true, and_self, List.set_cons_succ, List.set_cons_zero, and_next]
    · have z1 : ¬ (j : Int) - kk ≤ 1 := by lia
      rw [if_neg q1]
      simp only [cAfter, xf_nil, xf_brk, xs1, xs2, xs3, xs4, xs5, xs6, xs7, xs8, xs9, xs10, xs11, xs12, xs13, xf_ite, ↓itt, ↓itf, te_cmp, te_ex, ev_int, ev_bool, ev_loc, ev_sub, S14, at_zero, at_succ, bind_some, map_some, subV_int, e4, e5, cmp_lt, cmp_le, cmp_gt, hd, z1, decide_false, Bool.false_eq_true, if_true, if_false, List.length_cons, List.length_nil, Nat.reduceAdd, Nat.reduceLT, ne_eq, Nat.reduceEqDiff, not_false_eq_true, and_self, List.set_cons_succ, List.set_cons_zero, and_next]
end
section
variable {N : Nat} {μ : Mu} {κ : Kap} {key : List Nat → List Nat} {t : List AM} {u : List Nat} {f : F} {c l : Nat} {fr : C}
structure SInv (key : List Nat → List Nat) (t : List AM) (u : List Nat) (i j ci cj : Nat) (fk : Bool) : Prop where
  lt : i < j
  top : j ≤ t.length
  lo : 0 < i → leL (keyAt key t i) u = true ∧ ci = (scan u (keyAt key t i)).1
  lo0 : i = 0 → ci = 0
  hi : j < t.length → leL (keyAt key t j) u = false ∧ cj = (scan u (keyAt key t j)).1
  hi0 : j = t.length → cj = 0
  fin : fk = true → i = 0 ∧ j = 1
  far : fk = false → 2 ≤ j - i
noncomputable def SFin (key : List Nat → List Nat) (t : List AM) (u : List Nat) (i ci : Nat) : Prop :=
  i < t.length ∧ ((leL (keyAt key t i) u = true ∧ ci = (scan u (keyAt key t i)).1 ∧ ∀ e, i < e → e < t.length → leL (keyAt key t e) u = false) ∨
    (i = 0 ∧ ci = 0 ∧ ∀ e, e < t.length → leL (keyAt key t e) u = false))
theorem le_false {G : Good key t} {j : Nat} (h : leL (keyAt key t j) u = false) : ∀ e, j ≤ e → e < t.length → leL (keyAt key t e) u = false := by
  intro e he hl
  rcases Nat.eq_or_lt_of_le he with rfl | he
  · exact h
  · cases q : leL (keyAt key t e) u with
    | false => rfl
    | true => rw [leL_trans (G.sorted j e he hl) q] at h; cases h
theorem share (G : Good key t) (hkey : ∀ s, (key s).length = s.length) {i j ci cj : Nat} {fk : Bool} (I : SInv key t u i j ci cj fk) {kk : Nat} (h1 : i ≤ kk) (h2 : kk < j) (h3 : fk = false → i < kk) :
    min ci cj ≤ u.length ∧ min ci cj ≤ (keyAt key t kk).length ∧ u.take (min ci cj) = (keyAt key t kk).take (min ci cj) := by
  by_cases q : min ci cj = 0
  · rw [q]; simp
  have q1 : 0 < i := by
    rcases Nat.eq_zero_or_pos i with h | h
    · rw [I.lo0 h] at q; simp at q
    · exact h
  have q2 : j < t.length := by
    rcases Nat.lt_or_ge j t.length with h | h
    · exact h
    · rw [I.hi0 (by have := I.top; lia)] at q; simp at q
  obtain ⟨a1, a2⟩ := I.lo q1
  obtain ⟨b1, b2⟩ := I.hi q2
  have hf : fk = false := by
    cases fk with
    | false => rfl
    | true => have := (I.fin rfl).1; lia
  have s1 := scan_le u (keyAt key t i)
  have s2 := scan_le u (keyAt key t j)
  have t1 := congrArg (List.take (min ci cj)) (scan_take u (keyAt key t i))
  have t2 := congrArg (List.take (min ci cj)) (scan_take u (keyAt key t j))
  rw [← a2, List.take_take, List.take_take, show min (min ci cj) ci = min ci cj by lia] at t1
  rw [← b2, List.take_take, List.take_take, show min (min ci cj) cj = min ci cj by lia] at t2
  obtain ⟨e, le⟩ := leL_mid (min ci cj) (G.sorted i kk (h3 hf) (by lia)) (G.sorted kk j h2 q2) (by lia) (t1.symm.trans t2)
  exact ⟨by lia, le, t2.trans e.symm⟩
theorem search_ok (G : Good key t) (hkey : ∀ s, (key s).length = s.length) (hfor : ForOk N μ κ key u f c l fr) :
    ∀ (n i j ci cj : Nat) (fk : Bool), SInv key t u i j ci cj fk → (if fk then 1 else j - i + 1) ≤ n → ∀ (k d co w x : Option V),
      ∃ i' j' ci' cj' fk' k' d' co' w' x', loop (fun _ f => some (true, f)) (exec N μ κ (cBody fr)) n (S14 (.tab t) i j c l ci cj fk k d co w x) f =
        some (.next, S14 (.tab t) i' j' c l ci' cj' fk' k' d' co' w' x', f) ∧ SFin key t u i' ci' := by
  intro n
  induction n with
  | zero => intro i j ci cj fk I h; split at h <;> lia
  | succ n ih =>
    intro i j ci cj fk I hn k d co w x
    have hlt := I.lt
    have htop := I.top
    have hkj : i + (j - i) / 2 < j := by lia
    have hki : fk = false → i < i + (j - i) / 2 := fun h => by have := I.far h; lia
    have hk0 : fk = true → i + (j - i) / 2 = 0 := fun h => by have := I.fin h; lia
    obtain ⟨c1, c2, c3⟩ := share G hkey I (kk := i + (j - i) / 2) (by lia) hkj hki
    obtain ⟨x', hb⟩ := body_ok (t := t) hfor (i := i) (j := j) (by lia) (by lia) (G.short _ (by lia)) c1 c2 c3 fk k d co w x
    rw [loop_true, hb, after_ok _ _ _ _ _ _ _ _ _ _ _ (by lia) (by lia)]
    generalize hkk : i + (j - i) / 2 = kk at *
    have hneg := scan_neg u (keyAt key t kk)
    by_cases hd : (scan u (keyAt key t kk)).2 < 0
    · have hle : leL (keyAt key t kk) u = false := by
        rw [decide_eq_true hd] at hneg
        cases q : leL (keyAt key t kk) u with
        | false => rfl
        | true => rw [q] at hneg; cases hneg
      rw [if_pos hd]
      by_cases q1 : kk - i ≤ 1
      · rw [if_pos q1]
        by_cases q2 : 0 < i ∨ kk = i ∨ fk = true
        · rw [if_pos q2, tur_brk]
          refine ⟨_, _, _, _, _, _, _, _, _, _, rfl, by lia, ?_⟩
          by_cases q3 : kk = i
          · refine .inr ⟨?_, ?_, ?_⟩
            · cases fk with
              | true => exact (I.fin rfl).1
              | false => have := hki rfl; lia
            · apply I.lo0
              cases fk with
              | true => exact (I.fin rfl).1
              | false => have := hki rfl; lia
            · have : kk = 0 := by
                cases fk with
                | true => exact hk0 rfl
                | false => have := hki rfl; lia
              exact fun e he => le_false (G := G) hle e (by lia) he
          · have hf : fk = false := by
              cases fk with
              | false => rfl
              | true => have := hk0 rfl; have := (I.fin rfl).1; lia
            have hi : 0 < i := by
              rcases q2 with h | h | h
              · exact h
              · exact absurd h q3
              · rw [hf] at h; cases h
            obtain ⟨a1, a2⟩ := I.lo hi
            exact .inl ⟨a1, a2, fun e he hl => le_false (G := G) hle e (by lia) hl⟩
        · rw [if_neg q2, tur_next]
          have hi : i = 0 := by lia
          have hf : fk = false := by
            cases fk with
            | false => rfl
            | true => exact absurd (.inr (.inr rfl)) q2
          have := hki hf
          refine ih i kk ci _ true ⟨by lia, by lia, fun h => by lia, I.lo0, fun h => ⟨hle, rfl⟩, fun h => by lia, fun _ => ⟨hi, by lia⟩, fun h => (by cases h)⟩ ?_ _ _ _ _ _
          rw [hf] at hn; simp at hn ⊢; lia
      · rw [if_neg q1, tur_next]
        have hf : fk = false := by
          cases fk with
          | false => rfl
          | true => have := hk0 rfl; lia
        refine ih i kk ci _ fk ⟨by lia, by lia, I.lo, I.lo0, fun h => ⟨hle, rfl⟩, fun h => by lia, fun h => (by rw [hf] at h; cases h), fun _ => by lia⟩ ?_ _ _ _ _ _
        rw [hf] at hn ⊢; simp at hn ⊢; lia
    · have hle : leL (keyAt key t kk) u = true := by
        rw [decide_eq_false hd] at hneg
        cases q : leL (keyAt key t kk) u with
        | true => rfl
        | false => rw [q] at hneg; cases hneg
      rw [if_neg hd]
      have hjf : ∀ e, j ≤ e → e < t.length → leL (keyAt key t e) u = false := fun e he hl => le_false (G := G) (I.hi (by lia)).1 e he hl
      by_cases q1 : j - kk ≤ 1
      · rw [if_pos q1]
        by_cases q2 : 0 < kk ∨ j = kk ∨ fk = true
        · rw [if_pos q2, tur_brk]
          exact ⟨_, _, _, _, _, _, _, _, _, _, rfl, by lia, .inl ⟨hle, rfl, fun e he hl => hjf e (by lia) hl⟩⟩
        · exfalso
          have hf : fk = false := by
            cases fk with
            | false => rfl
            | true => exact absurd (.inr (.inr rfl)) q2
          have := hki hf
          exact q2 (.inl (by lia))
      · rw [if_neg q1, tur_next]
        have hf : fk = false := by
          cases fk with
          | false => rfl
          | true => have := (I.fin rfl).2; lia
        have := hki hf
        refine ih kk j _ cj fk ⟨by lia, htop, fun _ => ⟨hle, rfl⟩, fun h => by lia, I.hi, I.hi0, fun h => (by rw [hf] at h; cases h), fun _ => by lia⟩ ?_ _ _ _ _ _
        rw [hf] at hn ⊢; simp at hn ⊢; lia
structure CInv (key : List Nat → List Nat) (t : List AM) (u : List Nat) (i ci : Nat) : Prop where
  lt : i < t.length
  full : (keyAt key t i).length ≤ ci ↔ (keyAt key t i).isPrefixOf u = true
  last : ∀ e, e < t.length → (keyAt key t e).isPrefixOf u = true → e ≤ i ∧ (e < i → (keyAt key t e).isPrefixOf (keyAt key t i) = true)
theorem not_pre_of {x : List Nat} (h : leL x u = false) : x.isPrefixOf u = false := by
  cases q : x.isPrefixOf u with
  | false => rfl
  | true => rw [leL_pre q] at h; cases h
theorem cinv_of (G : Good key t) {i ci : Nat} (h : SFin key t u i ci) : CInv key t u i ci := by
  obtain ⟨hi, ⟨h1, h2, h3⟩ | ⟨rfl, rfl, h3⟩⟩ := h
  · refine ⟨hi, by rw [h2]; exact (scan_full u _).symm, fun e he hp => ?_⟩
    have : e ≤ i := by
      rcases Nat.lt_or_ge i e with q | q
      · rw [not_pre_of (h3 e q he)] at hp; cases hp
      · exact q
    refine ⟨this, fun q => ?_⟩
    obtain ⟨e1, -⟩ := leL_mid (keyAt key t e).length (G.sorted e i q hi) h1 (Nat.le_refl _) (by rw [pre_take.mp hp, List.take_length])
    rw [pre_take, e1, pre_take.mp hp]
  · refine ⟨hi, ?_, fun e he hp => ?_⟩
    · have h0 := h3 0 hi
      rw [not_pre_of h0]
      constructor
      · intro q
        have : keyAt key t 0 = [] := List.eq_nil_of_length_eq_zero (by lia)
        rw [this] at h0; cases h0
      · intro q; cases q
    · rw [not_pre_of (h3 e he)] at hp; cases hp
theorem pre_trans {x y z : List Nat} (h1 : x.isPrefixOf y = true) (h2 : y.isPrefixOf z = true) : x.isPrefixOf z = true := by
  rw [List.isPrefixOf_iff_prefix] at *; exact h1.trans h2
theorem chase_ok (G : Good key t) {e : CE} {nc : AM → Int} {j cj : Nat} {fk : Bool}
    (he : ∀ (T : V) (i ci : Nat) (k d co x : Option V) (a : AM), evalE μ κ (S14 T i j c l ci cj fk k d co (some (.among a)) x) e f = some (.int (nc a), f)) {ci : Nat} :
    ∀ (n i : Nat), i < n → CInv key t u i ci → (∀ i', i' < t.length → (keyAt key t i').isPrefixOf (keyAt key t i) = true → ((keyAt key t i').length ≤ ci ↔ (keyAt key t i').isPrefixOf u = true)) →
      (hkey : ∀ s, (key s).length = s.length) → ∀ (k d co w x : Option V),
      ∃ m', loop (fun _ f => some (true, f)) (exec N μ κ (cChase e)) n (S14 (.tab t) i j c l ci cj fk k d co w x) f =
        match best key u t with
        | some a => some (.ret (.int a.2.2), m', { f with cursor := nc a })
        | none => some (.ret (.int 0), m', f) := by
  intro n
  induction n with
  | zero => intro i h; lia
  | succ n ih =>
    intro i hin I hsub hkey k d co w x
    have hit : itemV (.tab t) (.int i) = some (.among (t.getD i am0)) := by
      simp only [itV]
      rw [if_pos (by lia), Int.toNat_natCast, getD_mem I.lt]; rfl
    have e4 : ((1 : Nat) : Int) = 1 := rfl
    have e5 : ((0 : Nat) : Int) = 0 := rfl
    have hlen : (keyAt key t i).length = (t.getD i am0).1.length := hkey _
    have hs : Loc.at (S14 (.tab t) i j c l ci cj fk k d co (some (.among (t.getD i am0))) x) 0 = some .self := rfl
    rw [loop_true]
    by_cases q : (keyAt key t i).length ≤ ci
    · have hp := I.full.mp q
      have hb : best key u t = some (t.getD i am0) := best_some I.lt hp fun e h1 h2 => by
        cases hq : (keyAt key t e).isPrefixOf u with
        | false => rfl
        | true => have := (I.last e h2 hq).1; lia
      have z : (ci : Int) ≥ (t.getD i am0).1.length := by lia
      rw [hb]
      have he' := he (.tab t) i ci k d co x (t.getD i am0)
      simp only [S14] at he'
      simp only [cChase, xf_nil, xf_ret, xf_setl, xf_setf, xf_ite, te_cmp, ev_int, ev_loc, ev_amS, ev_amI, ev_amR, ev_item, ev_len, S14, at_zero, at_succ, bind_some, map_some, hit, lnV_s, lnV_t, cmp_ge, z, decide_true, if_true, List.length_cons, List.length_nil, Nat.reduceAdd, Nat.reduceLT, ne_eq, Nat.reduceEqDiff, not_false_eq_true, and_self, List.set_cons_succ, List.set_cons_zero, he', put_cursor, and_ret, tur_ret]
      exact ⟨_, rfl⟩
    · have hp : (keyAt key t i).isPrefixOf u = false := by
        cases hq : (keyAt key t i).isPrefixOf u with
        | false => rfl
        | true => exact absurd (I.full.mpr hq) q
      have z : ¬ (ci : Int) ≥ (t.getD i am0).1.length := by lia
      have key0 : ∀ e, e < t.length → (keyAt key t e).isPrefixOf u = true → e < i := fun e h1 h2 => by
        rcases Nat.eq_or_lt_of_le (I.last e h1 h2).1 with rfl | h
        · rw [hp] at h2; cases h2
        · exact h
      by_cases ql : linkAt t i < 0
      · have hb : best key u t = none := best_none fun e h1 => by
          cases hq : (keyAt key t e).isPrefixOf u with
          | false => rfl
          | true =>
            have h2 := key0 e h1 hq
            have := G.far e i h2 I.lt ((I.last e h1 hq).2 h2)
            lia
        have z2 : (t.getD i am0).2.1 < 0 := ql
        rw [hb]
        simp only [cChase, xf_nil, xf_ret, xf_setl, xf_setf, xf_ite, te_cmp, ev_int, ev_loc, ev_amS, ev_amI, ev_amR, ev_item, ev_len, S14, at_zero, at_succ, bind_some, map_some, hit, lnV_s, lnV_t, cmp_ge, z, decide_true, decide_false, Bool.false_eq_true, if_false, if_true, List.length_cons, List.length_nil, Nat.reduceAdd, Nat.reduceLT, ne_eq, Nat.reduceEqDiff, not_false_eq_true, and_self, List.set_cons_succ, List.set_cons_zero, and_next, e5, cmp_lt, z2, and_ret, tur_ret]
        exact ⟨_, rfl⟩
      · obtain ⟨l1, l2⟩ := G.link i I.lt (by lia)
        have z2 : ¬ (t.getD i am0).2.1 < 0 := ql
        have z3 : (t.getD i am0).2.1 = ((linkAt t i).toNat : Int) := by show linkAt t i = _; lia
        have I' : CInv key t u (linkAt t i).toNat ci := by
          refine ⟨by have := I.lt; lia, hsub _ (by have := I.lt; lia) l2, fun e h1 h2 => ?_⟩
          have h3 := key0 e h1 h2
          have h4 := (I.last e h1 h2).2 h3
          have h5 := G.far e i h3 I.lt h4
          refine ⟨by lia, fun q => ?_⟩
          have h6 := leL_mid (keyAt key t e).length (G.sorted e _ q (by have := I.lt; lia)) (leL_pre l2) (Nat.le_refl _) (by rw [pre_take.mp h4, List.take_length])
          rw [pre_take, h6.1, pre_take.mp h4]
        obtain ⟨m', h⟩ := ih (linkAt t i).toNat (by lia) I' (fun i' h1 h2 => hsub i' h1 (pre_trans h2 l2)) hkey k d co (some (.among (t.getD i am0))) x
        refine ⟨m', ?_⟩
        rw [← h]
        simp only [cChase, xf_nil, xf_ret, xf_setl, xf_setf, xf_ite, te_cmp, ev_int, ev_loc, ev_amS, ev_amI, ev_amR, ev_item, ev_len, S14, at_zero, at_succ, bind_some, map_some, hit, lnV_s, lnV_t, cmp_ge, z, decide_false, Bool.false_eq_true, if_false, if_true, List.length_cons, List.length_nil, Nat.reduceAdd, Nat.reduceLT, ne_eq, Nat.reduceEqDiff, not_false_eq_true, and_self, List.set_cons_succ, List.set_cons_zero, and_next, e5, cmp_lt, z2, tur_next]
        rw [z3]
end
section
variable {N : Nat} {k : Nat} {t : List AM} {u W : List Nat} {c l : Nat}
noncomputable def found (key : List Nat → List Nat) (u : List Nat) (t : List AM) (f : F) (nc : AM → Int) : V × F := match best key u t with
  | some a => (.int a.2.2, { f with cursor := nc a })
  | none => (.int 0, f)
theorem find_gen {key : List Nat → List Nat} (hkey : ∀ s, (key s).length = s.length) {μ : Mu} {lim : Fld} {fr : C} {e : CE} {nc : AM → Int} {f : F} (G : Good key t) (hN : 100 ≤ N) (hc : f.cursor = c) (hl : f.get lim = .int l) (hfor : ForOk N μ kap key u f c l fr)
    (he : ∀ (T : V) (i j ci cj : Nat) (fk : Bool) (k d co x : Option V) (a : AM), evalE μ kap (S14 T i j c l ci cj fk k d co (some (.among a)) x) e f = some (.int (nc a), f)) :
    back (exec N μ kap (cFind lim fr e) (enter 14 [.tab t]) f) = some (found key u t f nc) := by
  have h2 := G.two
  have h60 := G.few
  obtain ⟨i', j', ci', cj', fk', k', d', co', w', x', h1, hF⟩ := search_ok G hkey hfor N 0 t.length 0 0 false ⟨by lia, Nat.le_refl _, fun h => by lia, fun _ => rfl, fun h => by lia, fun _ => rfl, fun h => (by cases h), fun _ => by lia⟩ (by simp; lia) none none none none none
  have I := cinv_of G hF
  have hsub : ∀ i'', i'' < t.length → (keyAt key t i'').isPrefixOf (keyAt key t i') = true → ((keyAt key t i'').length ≤ ci' ↔ (keyAt key t i'').isPrefixOf u = true) := by
    intro i2 h3 h4
    obtain ⟨_, ⟨g1, g2, g3⟩ | ⟨g1, g2, g3⟩⟩ := hF
    · have s1 := scan_le u (keyAt key t i')
      have s2 := scan_take u (keyAt key t i')
      have p := pre_take.mp h4
      have pl : (keyAt key t i2).length ≤ (keyAt key t i').length := by
        have := congrArg List.length p
        rw [List.length_take] at this; lia
      rw [g2]
      constructor
      · intro q
        have s3 := congrArg (List.take (keyAt key t i2).length) s2
        rw [List.take_take, List.take_take, show min (keyAt key t i2).length (scan u (keyAt key t i')).1 = (keyAt key t i2).length by lia] at s3
        rw [pre_take, s3, p]
      · intro q
        have q' := pre_take.mp q
        have ql : (keyAt key t i2).length ≤ u.length := by
          have := congrArg List.length q'
          rw [List.length_take] at this; lia
        exact scan_max _ u _ ql pl (q'.trans p.symm)
    · rw [g2]
      have n := not_pre_of (g3 i2 h3)
      rw [n]
      constructor
      · intro q
        have : keyAt key t i2 = [] := List.eq_nil_of_length_eq_zero (by lia)
        rw [this] at n; cases n
      · intro q; cases q
  obtain ⟨m', h3⟩ := chase_ok (N := N) G (he · · j' · cj' fk') N i' (by have := I.lt; lia) I hsub hkey k' d' co' w' x'
  have e5 : ((0 : Nat) : Int) = 0 := rfl
  simp only [S14, e5] at h1 h3
  have hm : enter 14 [.tab t] = [some .self, some (.tab t), none, none, none, none, none, none, none, none, none, none, none, none] := rfl
  rw [hm]
  simp only [cFind, xf_ret, xf_setl, xf_wh, ev_int, ev_neg, ev_bool, ev_loc, ev_fld, ev_len, at_zero, at_succ, bind_some, map_some, lnV_s, lnV_t, e5, test_true, hc, hl, get_cursor, if_true, List.length_cons, List.length_nil, Nat.reduceAdd, Nat.reduceLT, ne_eq, Nat.reduceEqDiff, not_false_eq_true, and_self, List.set_cons_succ, List.set_cons_zero, h1, and_next, h3]
  unfold found
  cases best key u t with
  | some a => rfl
  | none => rfl
theorem run_find (hN : 100 ≤ N) (G : Good id t) {f : F} (hf : f.current = W) (hc : f.cursor = c) (hl : f.limit = l) (hR : RdF W c l u) :
    runM N kap (k + 1) .find_among [.tab t] f = some (found id u t f fun a => c + a.1.length) := by
  rw [runM_succ (h := rfl)]
  show back (exec N _ kap code_find_among (enter 14 [.tab t]) f) = _
  rw [find_eq]
  refine find_gen (c := c) (l := l) (fun _ => rfl) G hN hc (by rw [get_limit, hl]) (fun a ha co h1 h2 h3 T i j ci cj fk k x => forF_ok hR hf a ha co h1 h2 h3 T i j ci cj fk k x) (fun T i j ci cj fk k d co x a => ?_)
  simp only [ev_loc, ev_amS, ev_add, ev_len, S14, at_zero, at_succ, bind_some, map_some, lnV_s, lnV_t, addV_int]
theorem run_find_b (hN : 100 ≤ N) (G : Good List.reverse t) {f : F} (hf : f.current = W) (hc : f.cursor = c) (hl : f.lb = l) (hR : RdB W c l u) :
    runM N kap (k + 1) .find_among_b [.tab t] f = some (found List.reverse u t f fun a => c - a.1.length) := by
  rw [runM_succ (h := rfl)]
  show back (exec N _ kap code_find_among_b (enter 14 [.tab t]) f) = _
  rw [find_b_eq]
  refine find_gen (c := c) (l := l) (fun _ => List.length_reverse) G hN hc (by rw [get_lb, hl]) (fun a ha co h1 h2 h3 T i j ci cj fk k x => forB_ok hR hf a ha co h1 h2 h3 T i j ci cj fk k x) (fun T i j ci cj fk k d co x a => ?_)
  simp only [ev_loc, ev_amS, ev_sub, ev_len, S14, at_zero, at_succ, bind_some, map_some, lnV_s, lnV_t, subV_int]
noncomputable def tabOf : V → List AM
  | .tab t => t
  | _ => []
theorem good_0 : Good id (tabOf (kap .a_0)) := good_of (by decide +kernel)
theorem good_1 : Good id (tabOf (kap .a_1)) := good_of (by decide +kernel)
theorem good_2 : Good List.reverse (tabOf (kap .a_2)) := good_of (by decide +kernel)
theorem good_3 : Good List.reverse (tabOf (kap .a_3)) := good_of (by decide +kernel)
theorem good_4 : Good List.reverse (tabOf (kap .a_4)) := good_of (by decide +kernel)
theorem good_5 : Good List.reverse (tabOf (kap .a_5)) := good_of (by decide +kernel)
theorem good_6 : Good List.reverse (tabOf (kap .a_6)) := good_of (by decide +kernel)
theorem good_7 : Good List.reverse (tabOf (kap .a_7)) := good_of (by decide +kernel)
theorem good_8 : Good List.reverse (tabOf (kap .a_8)) := good_of (by decide +kernel)
theorem good_9 : Good List.reverse (tabOf (kap .a_9)) := good_of (by decide +kernel)
end
noncomputable def whB : C → C | .wh _ c _ => c | _ => .nil
noncomputable def cPost : C := whB code_r_postlude
theorem postlude_eq : code_r_postlude = .wh (.ex (.bool true)) cPost (.ret (.bool true) .nil) := rfl
noncomputable def tab1 : List AM := tabOf (kap .a_1)
theorem kap_1 : kap .a_1 = .tab tab1 := rfl
theorem rdF_app (L r : List Nat) : RdF (L ++ r) L.length (L ++ r).length r := by
  refine ⟨by simp, by simp, fun j hj => ?_⟩
  rw [List.getElem?_append_right (by lia), Nat.add_sub_cancel_left]
noncomputable abbrev L2 (x1 x2 : Option V) : Loc := [some .self, x1, x2]
section
variable {N : Nat} {k : Nat}
theorem test_loc (μ : Mu) (x : Int) (n : Nat) (x1 : Option V) (f : F) : test μ kap (L2 x1 (some (.int x))) (.cmp .eq (.loc 2) (.int n)) f = some (x == n, f) := rfl
noncomputable def PStep (L r : List Nat) (lb pv p1 p2 : Int) (res : Res) : Prop := ∃ L' r' x1 x2 b t, r'.length < r.length ∧ (L' ++ post r' = L ++ post r) ∧ (L' ++ r').length ≤ (L ++ r).length ∧ res = some (.cont, L2 x1 x2, ⟨L' ++ r', L'.length, (L' ++ r').length, lb, b, t, pv, p1, p2⟩)
theorem pstep {L r : List Nat} {lb pv p1 p2 : Int} {res : Res} (L' r' : List Nat) (x1 x2 : Option V) {W : List Nat} {c l b t : Int} (h : res = some (.cont, L2 x1 x2, ⟨W, c, l, lb, b, t, pv, p1, p2⟩)) (hW : W = L' ++ r') (hc : c = L'.length) (hl : l = (L' ++ r').length)
    (h1 : r'.length < r.length) (h2 : L' ++ post r' = L ++ post r) (h3 : (L' ++ r').length ≤ (L ++ r).length) : PStep L r lb pv p1 p2 res := by
  subst hW hc hl
  exact ⟨L', r', x1, x2, b, t, h1, h2, h3, h⟩
theorem sl_app (L a r s : List Nat) (lb pv p1 p2 : Int) (h : (L ++ (a ++ r)).length + s.length ≤ 1000) :
    runM N kap (k + 2) .slice_from [.str s] ⟨L ++ (a ++ r), (L.length + a.length : Nat), (L ++ (a ++ r)).length, lb, L.length, (L.length + a.length : Nat), pv, p1, p2⟩ =
      some (.none, ⟨L ++ s ++ r, (L ++ s).length, (L ++ s ++ r).length, lb, L.length, L.length + s.length, pv, p1, p2⟩) := by
  rw [run_slice_from _ _ _ _ _ _ L.length (L.length + a.length) s (by lia) (by simp) h]
  have e1 : (L ++ (a ++ r)).take L.length = L := by simp
  have e2 : (L ++ (a ++ r)).drop (L.length + a.length) = r := by
    rw [← List.append_assoc, ← List.length_append, List.drop_left]
  rw [e1, e2, if_pos (by lia)]
  have e3 : ((L.length + a.length : Nat) : Int) + ((s.length : Int) - ((L.length + a.length : Nat) - L.length)) = (L ++ s).length := by
    rw [List.length_append]; lia
  have e4 : ((L ++ (a ++ r)).length : Int) + ((s.length : Int) - ((L.length + a.length : Nat) - L.length)) = (L ++ s ++ r).length := by
    simp only [List.length_append]; lia
  rw [e3, e4]
noncomputable def b1 (a : Nat) (s : List Nat) : AM :=
  if a = 72 then (if s.head? = some 101 then ([72, 101], 1, 4) else if s.head? = some 105 then ([72, 105], 1, 5) else ([72], 0, 6))
  else if a = 73 then ([73], 0, 1) else if a = 85 then ([85], 0, 2) else if a = 89 then ([89], 0, 3) else ([], -1, 7)
theorem best1 (a : Nat) (s : List Nat) : best id (a :: s) tab1 = some (b1 a s) := by
  by_cases h1 : a = 72
  · subst h1
    cases s with
    | nil => simp [b1, best, tab1, tabOf, kap, List.isPrefixOf]
    | cons d s =>
      by_cases h2 : d = 101
      · subst h2; simp [b1, best, tab1, tabOf, kap, List.isPrefixOf]
      · by_cases h3 : d = 105
        · subst h3; simp [b1, best, tab1, tabOf, kap, List.isPrefixOf]
        · have n2 : ¬ 101 = d := fun h => h2 h.symm
          have n3 : ¬ 105 = d := fun h => h3 h.symm
          simp [b1, best, tab1, tabOf, kap, List.isPrefixOf, h2, h3, n2, n3]
  · have n1 : ¬ 72 = a := fun h => h1 h.symm
    by_cases h2 : a = 73
    · subst h2; simp [b1, best, tab1, tabOf, kap, List.isPrefixOf]
    · by_cases h3 : a = 85
      · subst h3; simp [b1, best, tab1, tabOf, kap, List.isPrefixOf]
      · by_cases h4 : a = 89
        · subst h4; simp [b1, best, tab1, tabOf, kap, List.isPrefixOf]
        · have n2 : ¬ 73 = a := fun h => h2 h.symm
          have n3 : ¬ 85 = a := fun h => h3 h.symm
          have n4 : ¬ 89 = a := fun h => h4 h.symm
          simp [b1, best, tab1, tabOf, kap, List.isPrefixOf, h1, h2, h3, h4, n1, n2, n3, n4]
theorem post_br (L q s x : List Nat) (re : Int) (hre : (re = 1 ∧ x = [105]) ∨ (re = 2 ∧ x = [117]) ∨ (re = 3 ∧ x = [121]) ∨ (re = 4 ∧ x = [235]) ∨ (re = 5 ∧ x = [239]) ∨ (re = 6 ∧ x = [])) (hq : q ≠ []) (x1 x2 : Option V) (lb b t pv p1 p2 : Int)
    (hx : x.length ≤ q.length) (hW : (L ++ (q ++ s)).length ≤ 900) (hp : L ++ x ++ post s = L ++ post (q ++ s))
    (e : ∀ b, runM N kap (k + 3) .find_among [.tab tab1] ⟨L ++ (q ++ s), L.length, (L ++ (q ++ s)).length, lb, b, t, pv, p1, p2⟩ = some (.int re, ⟨L ++ (q ++ s), (L.length + q.length : Nat), (L ++ (q ++ s)).length, lb, b, t, pv, p1, p2⟩)) :
    PStep L (q ++ s) lb pv p1 p2 (exec N (runM N kap (k + 3)) kap cPost (L2 x1 x2) ⟨L ++ (q ++ s), L.length, (L ++ (q ++ s)).length, lb, b, t, pv, p1, p2⟩) := by
  have hm : ∀ y1 y2, Loc.at (L2 y1 y2) 0 = some .self := fun _ _ => rfl
  have e4 : ((1 : Nat) : Int) = 1 := rfl
  have hql : 0 < q.length := List.length_pos_iff.mpr hq
  have f1 : s.length < (q ++ s).length := by rw [List.length_append]; lia
  have f2 : (L ++ x ++ s).length ≤ (L ++ (q ++ s)).length := by simp only [List.length_append]; lia
  have e := e L.length
  rcases hre with ⟨rfl, rfl⟩ | ⟨rfl, rfl⟩ | ⟨rfl, rfl⟩ | ⟨rfl, rfl⟩ | ⟨rfl, rfl⟩ | ⟨rfl, rfl⟩
  · have es := sl_app (N := N) (k := k + 1) L q s [105] lb pv p1 p2 (by show _ + 1 ≤ 1000; lia)
    simp only [cPost, whB, code_r_postlude, xf_nil, xf_brk, xf_cont, xf_expr, xs1, xs2, xs3, xs4, xsf, xaf, xf_ite, ↓itt, ↓itf, xf_raise, xf_tryc, ev_int, ev_str, ev_loc, evf, ev_cst, evc0, evc1, hm, kap_1, L2, if_true, get_cursor, put_bra, put_ket, bind_some, List.length_cons, List.length_nil, Nat.reduceAdd, Nat.reduceLT, ne_eq, Nat.reduceEqDiff, not_false_eq_true, and_self, List.set_cons_succ, List.set_cons_zero, test_loc, Int.cast_ofNat_Int, Int.reduceBEq, decide_true, decide_false, Bool.false_eq_true, if_false, and_next, cau_cont, e, es, e4, c1]
    exact pstep (L ++ [105]) s _ _ rfl rfl rfl rfl f1 hp f2
  · have es := sl_app (N := N) (k := k + 1) L q s [117] lb pv p1 p2 (by show _ + 1 ≤ 1000; lia)
    simp only [cPost, whB, code_r_postlude, xf_nil, xf_brk, xf_cont, xf_expr, xs1, xs2, xs3, xs4, xsf, xaf, xf_ite, ↓itt, ↓itf, xf_raise, xf_tryc, ev_int, ev_str, ev_loc, evf, ev_cst, evc0, evc1, hm, kap_1, L2, if_true, get_cursor, put_bra, put_ket, bind_some, List.length_cons, List.length_nil, Nat.reduceAdd, Nat.reduceLT, ne_eq, Nat.reduceEqDiff, not_false_eq_true, and_self, List.set_cons_succ, List.set_cons_zero, test_loc, Int.cast_ofNat_Int, Int.reduceBEq, decide_true, decide_false, Bool.false_eq_true, if_false, and_next, cau_cont, e, es, e4, c1]
    exact pstep (L ++ [117]) s _ _ rfl rfl rfl rfl f1 hp f2
  · have es := sl_app (N := N) (k := k + 1) L q s [121] lb pv p1 p2 (by show _ + 1 ≤ 1000; lia)
    simp only [cPost, whB, code_r_postlude, xf_nil, xf_brk, xf_cont, xf_expr, xs1, xs2, xs3, xs4, xsf, xaf, xf_ite, ↓itt, ↓itf, xf_raise, xf_tryc, ev_int, ev_str, ev_loc, evf, ev_cst, evc0, evc1, hm, kap_1, L2, if_true, get_cursor, put_bra, put_ket, bind_some, List.length_cons, List.length_nil, Nat.reduceAdd, Nat.reduceLT, ne_eq, Nat.reduceEqDiff, not_false_eq_true, and_self, List.set_cons_succ, List.set_cons_zero, test_loc, Int.cast_ofNat_Int, Int.reduceBEq, decide_true, decide_false, Bool.false_eq_true, if_false, and_next, cau_cont, e, es, e4, c1]
    exact pstep (L ++ [121]) s _ _ rfl rfl rfl rfl f1 hp f2
  · have es := sl_app (N := N) (k := k + 1) L q s [235] lb pv p1 p2 (by show _ + 1 ≤ 1000; lia)
    simp only [cPost, whB, code_r_postlude, xf_nil, xf_brk, xf_cont, xf_expr, xs1, xs2, xs3, xs4, xsf, xaf, xf_ite, ↓itt, ↓itf, xf_raise, xf_tryc, ev_int, ev_str, ev_loc, evf, ev_cst, evc0, evc1, hm, kap_1, L2, if_true, get_cursor, put_bra, put_ket, bind_some, List.length_cons, List.length_nil, Nat.reduceAdd, Nat.reduceLT, ne_eq, Nat.reduceEqDiff, not_false_eq_true, and_self, List.set_cons_succ, List.set_cons_zero, test_loc, Int.cast_ofNat_Int, Int.reduceBEq, decide_true, decide_false, Bool.false_eq_true, if_false, and_next, cau_cont, e, es, e4, c1]
    exact pstep (L ++ [235]) s _ _ rfl rfl rfl rfl f1 hp f2
  · have es := sl_app (N := N) (k := k + 1) L q s [239] lb pv p1 p2 (by show _ + 1 ≤ 1000; lia)
    simp only [cPost, whB, code_r_postlude, xf_nil, xf_brk, xf_cont, xf_expr, xs1, xs2, xs3, xs4, xsf, xaf, xf_ite, ↓itt, ↓itf, xf_raise, xf_tryc, ev_int, ev_str, ev_loc, evf, ev_cst, evc0, evc1, hm, kap_1, L2, if_true, get_cursor, put_bra, put_ket, bind_some, List.length_cons, List.length_nil, Nat.reduceAdd, Nat.reduceLT, ne_eq, Nat.reduceEqDiff, not_false_eq_true, and_self, List.set_cons_succ, List.set_cons_zero, test_loc, Int.cast_ofNat_Int, Int.reduceBEq, decide_true, decide_false, Bool.false_eq_true, if_false, and_next, cau_cont, e, es, e4, c1]
    exact pstep (L ++ [239]) s _ _ rfl rfl rfl rfl f1 hp f2
  · have es : runM N kap (k + 3) .slice_del [] ⟨L ++ (q ++ s), (L.length + q.length : Nat), (L ++ (q ++ s)).length, lb, L.length, (L.length + q.length : Nat), pv, p1, p2⟩ =
        some (.none, ⟨L ++ [] ++ s, (L ++ []).length, (L ++ [] ++ s).length, lb, L.length, L.length + ([] : List Nat).length, pv, p1, p2⟩) := by
      rw [runM_succ (h := rfl)]
      have es := sl_app (N := N) (k := k) L q s [] lb pv p1 p2 (by show _ + 0 ≤ 1000; lia)
      simp only [callC, co_slice_del, code_slice_del, xf_ret, ev_str, ev_call1, enter, na_slice_del, names_slice_del, List.map_nil, List.length_cons, List.length_nil, List.replicate, Nat.reduceAdd, Nat.reduceSub, bind_some, es, bk_r, bk_n]
      rfl
    simp only [cPost, whB, code_r_postlude, xf_nil, xf_brk, xf_cont, xf_expr, xs1, xs2, xs3, xs4, xsf, xaf, xf_ite, ↓itt, ↓itf, xf_raise, xf_tryc, ev_int, ev_str, ev_loc, evf, ev_cst, evc0, evc1, hm, kap_1, L2, if_true, get_cursor, put_bra, put_ket, bind_some, List.length_cons, List.length_nil, Nat.reduceAdd, Nat.reduceLT, ne_eq, Nat.reduceEqDiff, not_false_eq_true, and_self, List.set_cons_succ, List.set_cons_zero, test_loc, Int.cast_ofNat_Int, Int.reduceBEq, decide_true, decide_false, Bool.false_eq_true, if_false, and_next, cau_cont, e, es, e4, c1]
    exact pstep (L ++ []) s _ _ rfl rfl rfl rfl f1 hp f2
theorem post_step (hN : 100 ≤ N) (L : List Nat) (a : Nat) (s : List Nat) (hW : (L ++ a :: s).length ≤ 900) (x1 x2 : Option V) (lb b t pv p1 p2 : Int) :
    PStep L (a :: s) lb pv p1 p2 (exec N (runM N kap (k + 3)) kap cPost (L2 x1 x2) ⟨L ++ a :: s, L.length, (L ++ a :: s).length, lb, b, t, pv, p1, p2⟩) := by
  have hm : ∀ y1 y2, Loc.at (L2 y1 y2) 0 = some .self := fun _ _ => rfl
  have ff : ∀ b, runM N kap (k + 3) .find_among [.tab tab1] ⟨L ++ a :: s, L.length, (L ++ a :: s).length, lb, b, t, pv, p1, p2⟩ = some (found id (a :: s) tab1 ⟨L ++ a :: s, L.length, (L ++ a :: s).length, lb, b, t, pv, p1, p2⟩ fun a => L.length + a.1.length) :=
    fun b => run_find hN good_1 rfl rfl rfl (rdF_app L (a :: s))
  have e4 : ((1 : Nat) : Int) = 1 := rfl
  have found_eq : ∀ (q : List Nat) (li re : Int) (b : Int), b1 a s = (q, li, re) → runM N kap (k + 3) .find_among [.tab tab1] ⟨L ++ a :: s, L.length, (L ++ a :: s).length, lb, b, t, pv, p1, p2⟩ = some (.int re, ⟨L ++ a :: s, (L.length + q.length : Nat), (L ++ a :: s).length, lb, b, t, pv, p1, p2⟩) := by
    intro q li re b h
    rw [ff b, found, best1, h]
    show some (V.int re, F.mk _ ((L.length : Int) + q.length) _ _ _ _ _ _ _) = _
    rw [isz]
  by_cases h1 : a = 72
  · subst h1
    by_cases h2 : s.head? = some 101
    · obtain ⟨s, rfl⟩ : ∃ s', s = 101 :: s' := by cases s with
        | nil => cases h2
        | cons d s => cases h2; exact ⟨s, rfl⟩
      exact post_br L [72, 101] s [235] 4 (by simp) (by simp) x1 x2 lb b t pv p1 p2 (by decide) hW (by simp [post, postF]) (fun b => found_eq [72, 101] 1 4 b (by simp [b1]))
    · by_cases h3 : s.head? = some 105
      · obtain ⟨s, rfl⟩ : ∃ s', s = 105 :: s' := by cases s with
          | nil => cases h3
          | cons d s => cases h3; exact ⟨s, rfl⟩
        exact post_br L [72, 105] s [239] 5 (by simp) (by simp) x1 x2 lb b t pv p1 p2 (by decide) hW (by simp [post, postF]) (fun b => found_eq [72, 105] 1 5 b (by simp [b1]))
      · refine post_br L [72] s [] 6 (by simp) (by simp) x1 x2 lb b t pv p1 p2 (by decide) hW ?_ (fun b => found_eq [72] 0 6 b (by simp [b1, h2, h3]))
        cases s with
        | nil => simp [post, postF]
        | cons d s =>
          have n2 : d ≠ 101 := fun h => h2 (by rw [h]; rfl)
          have n3 : d ≠ 105 := fun h => h3 (by rw [h]; rfl)
          simp [post, postF, n2, n3]
  · by_cases h2 : a = 73
    · subst h2
      exact post_br L [73] s [105] 1 (by simp) (by simp) x1 x2 lb b t pv p1 p2 (by decide) hW (by simp [post, postF]) (fun b => found_eq [73] 0 1 b (by simp [b1]))
    · by_cases h3 : a = 85
      · subst h3
        exact post_br L [85] s [117] 2 (by simp) (by simp) x1 x2 lb b t pv p1 p2 (by decide) hW (by simp [post, postF]) (fun b => found_eq [85] 0 2 b (by simp [b1]))
      · by_cases h4 : a = 89
        · subst h4
          exact post_br L [89] s [121] 3 (by simp) (by simp) x1 x2 lb b t pv p1 p2 (by decide) hW (by simp [post, postF]) (fun b => found_eq [89] 0 3 b (by simp [b1]))
        · have e := found_eq [] (-1) 7 L.length (by simp [b1, h1, h2, h3, h4])
          have hge : ¬ ((L.length + ([] : List Nat).length : Nat) : Int) ≥ (L ++ a :: s).length := by simp only [List.length_append, List.length_cons, List.length_nil]; lia
          have hge' : ∀ (y1 y2 : Option V) (b kt : Int), test (runM N kap (k + 3)) kap (L2 y1 y2) (.cmp .ge (.fld .cursor) (.fld .limit)) ⟨L ++ a :: s, (L.length + 0 : Nat), (L ++ a :: s).length, lb, b, kt, pv, p1, p2⟩ = some (false, ⟨L ++ a :: s, (L.length + 0 : Nat), (L ++ a :: s).length, lb, b, kt, pv, p1, p2⟩) := by
            intro y1 y2 b kt
            rw [test_ge _ _ rfl]
            rw [decide_eq_false (by simp)]
          simp only [cPost, whB, code_r_postlude, xf_nil, xf_brk, xf_cont, xf_expr, xs1, xs2, xs3, xs4, xsf, xaf, xf_ite, ↓itt, ↓itf, xf_raise, xf_tryc, ev_int, ev_str, ev_loc, evf, ev_cst, evc0, evc1, hm, kap_1, L2, if_true, get_cursor, put_bra, put_ket, put_cursor, bind_some, List.length_cons, List.length_nil, Nat.reduceAdd, Nat.reduceLT, ne_eq, Nat.reduceEqDiff, not_false_eq_true, and_self, List.set_cons_succ, List.set_cons_zero, test_loc, Int.cast_ofNat_Int, Int.reduceBEq, decide_false, Bool.false_eq_true, if_false, and_next, cau_cont, e, e4, hge', addV_int, c1]
          have hp : L ++ [a] ++ post s = L ++ post (a :: s) := by simp [post, postF, h1, h2, h3, h4]
          refine pstep (L ++ [a]) s _ _ rfl ?_ ?_ ?_ (by simp) hp (by simp)
          · simp
          · simp
          · simp
theorem post_end (hN : 100 ≤ N) (L : List Nat) (x1 x2 : Option V) (lb b t pv p1 p2 : Int) :
    ∃ x1' x2' b' t', exec N (runM N kap (k + 3)) kap cPost (L2 x1 x2) ⟨L ++ [], L.length, (L ++ []).length, lb, b, t, pv, p1, p2⟩ = some (.brk, L2 x1' x2', ⟨L ++ [], L.length, (L ++ []).length, lb, b', t', pv, p1, p2⟩) := by
  have hm : ∀ y1 y2, Loc.at (L2 y1 y2) 0 = some .self := fun _ _ => rfl
  have e4 : ((1 : Nat) : Int) = 1 := rfl
  have e : ∀ b, runM N kap (k + 3) .find_among [.tab tab1] ⟨L ++ [], L.length, (L ++ []).length, lb, b, t, pv, p1, p2⟩ = some (.int 7, ⟨L ++ [], (L.length + 0 : Nat), (L ++ []).length, lb, b, t, pv, p1, p2⟩) := fun b => by
    have h := run_find (k := k + 2) hN good_1 (f := ⟨L ++ [], L.length, (L ++ []).length, lb, b, t, pv, p1, p2⟩) rfl rfl rfl (rdF_app L [])
    exact h
  have hge' : ∀ (y1 y2 : Option V) (b kt : Int), test (runM N kap (k + 3)) kap (L2 y1 y2) (.cmp .ge (.fld .cursor) (.fld .limit)) ⟨L ++ [], (L.length + 0 : Nat), (L ++ []).length, lb, b, kt, pv, p1, p2⟩ = some (true, ⟨L ++ [], (L.length + 0 : Nat), (L ++ []).length, lb, b, kt, pv, p1, p2⟩) := by
    intro y1 y2 b kt
    rw [test_ge _ _ rfl]
    rw [decide_eq_true (by simp)]
  simp only [cPost, whB, code_r_postlude, xf_nil, xf_brk, xf_cont, xf_expr, xs1, xs2, xs3, xs4, xsf, xaf, xf_ite, ↓itt, ↓itf, xf_raise, xf_tryc, ev_int, ev_str, ev_loc, evf, ev_cst, evc0, evc1, hm, kap_1, at_zero, at_succ, L2, if_true, get_cursor, put_bra, put_ket, put_cursor, bind_some, map_some, List.length_cons, List.length_nil, Nat.reduceAdd, Nat.reduceLT, ne_eq, Nat.reduceEqDiff, not_false_eq_true, and_self, List.set_cons_succ, List.set_cons_zero, test_loc, Int.cast_ofNat_Int, Int.reduceBEq, decide_false, Bool.false_eq_true, if_false, and_exc, cau0, cau1, cau2, cau3, e, e4, hge', addV_int, c1]
  exact ⟨_, _, _, _, rfl⟩
theorem post_loop (hN : 100 ≤ N) : ∀ (n : Nat) (L r : List Nat), r.length < n → (L ++ r).length ≤ 900 → ∀ (x1 x2 : Option V) (lb b t pv p1 p2 : Int),
    ∃ x1' x2' c' b' t', loop (fun _ f => some (true, f)) (exec N (runM N kap (k + 3)) kap cPost) n (L2 x1 x2) ⟨L ++ r, L.length, (L ++ r).length, lb, b, t, pv, p1, p2⟩ =
      some (.next, L2 x1' x2', ⟨L ++ post r, c', (L ++ post r).length, lb, b', t', pv, p1, p2⟩) := by
  intro n
  induction n with
  | zero => intro L r h; lia
  | succ n ih =>
    intro L r h hW x1 x2 lb b t pv p1 p2
    rw [loop_true]
    cases r with
    | nil =>
      obtain ⟨x1', x2', b', t', e⟩ := post_end (k := k) hN L x1 x2 lb b t pv p1 p2
      rw [e, tur_brk]
      exact ⟨x1', x2', _, b', t', rfl⟩
    | cons a s =>
      obtain ⟨L', r', y1, y2, b', t', h1, h2, h3, e⟩ := post_step (k := k) hN L a s hW x1 x2 lb b t pv p1 p2
      rw [e, tur_cont, ← h2]
      exact ih L' r' (by lia) (by lia) y1 y2 lb b' t' pv p1 p2
theorem run_postlude (hN : 100 ≤ N) (W : List Nat) (hW : W.length ≤ 90) (lb b t pv p1 p2 : Int) :
    ∃ c' b' t', runM N kap (k + 4) .r_postlude [] ⟨W, 0, W.length, lb, b, t, pv, p1, p2⟩ = some (.bool true, ⟨post W, c', (post W).length, lb, b', t', pv, p1, p2⟩) := by
  rw [runM_succ (h := rfl)]
  obtain ⟨x1, x2, c', b', t', e⟩ := post_loop (k := k) hN N [] W (by lia) (by simp; lia) none none lb b t pv p1 p2
  refine ⟨c', b', t', ?_⟩
  have e0 : enter (namesOf .r_postlude).length [] = L2 none none := rfl
  unfold callC
  rw [e0, show codeOf .r_postlude = code_r_postlude from rfl, postlude_eq]
  simp only [xf_ret, xf_wh, test_true]
  simp only [List.nil_append, List.length_nil] at e
  have e5 : ((0 : Nat) : Int) = 0 := rfl
  rw [e5] at e
  rw [e, and_next]
  rfl
end
section
variable {N : Nat} {k : Nat}
theorem loop_S (tst : Loc → F → Option (Bool × F)) (body : Loc → F → Res) (n : Nat) (m : Loc) (f : F) : loop tst body (n + 1) m f = (tst m f).bind fun x => if x.1 then turned (body m x.2) (loop tst body n) else some (.next, m, x.2) := rfl
theorem test_in (μ : Mu) (o : Cmp) (m : Loc) (hm : m.at 0 = some .self) (l : List Nat) (h1 : m.at 1 = some (.set l)) (W : List Nat) (i : Nat) (hi : i < W.length) (ho : o = .isin ∨ o = .notin) (lb bra ket pv p1 p2 : Int) :
    test μ kap m (.cmp o (.idx (.fld .current) (.fld .cursor)) (.loc 1)) ⟨W, i, W.length, lb, bra, ket, pv, p1, p2⟩ = some (if o = .isin then inAt W i l else !inAt W i l, ⟨W, i, W.length, lb, bra, ket, pv, p1, p2⟩) := by
  have hx : W[i]? = some W[i] := List.getElem?_eq_getElem hi
  rcases ho with rfl | rfl <;> simp [te_cmp, ev_loc, ev_fld, ev_idx, hm, h1, get_cur, get_cursor, get_limit, get_lb, get_bra, get_ket, get_pv, get_p1, get_p2, cV_lt, cV_le, cV_gt, cV_ge, cV_eq, cV_ne, cV_se, cV_sn, cV_in, cV_ni, iV, inAt, hx]
theorem test_lt (μ : Mu) (m : Loc) (hm : m.at 0 = some .self) (W : List Nat) (i : Nat) (lb bra ket pv p1 p2 : Int) :
    test μ kap m (.cmp .lt (.fld .cursor) (.fld .limit)) ⟨W, i, W.length, lb, bra, ket, pv, p1, p2⟩ = some (decide (i < W.length), ⟨W, i, W.length, lb, bra, ket, pv, p1, p2⟩) := by
  simp [te_cmp, ev_fld, hm, get_cur, get_cursor, get_limit, get_lb, get_bra, get_ket, get_pv, get_p1, get_p2, cV_lt, cV_le, cV_gt, cV_ge, cV_eq, cV_ne, cV_se, cV_sn, cV_in, cV_ni]
noncomputable def cGoOut : C := .ite (.cmp .isin (.idx (.fld .current) (.fld .cursor)) (.loc 1)) (.ret (.bool true) .nil) .nil (.augf .cursor true (.int 1) .nil)
noncomputable def cGoIn : C := .ite (.cmp .notin (.idx (.fld .current) (.fld .cursor)) (.loc 1)) (.ret (.bool true) .nil) .nil (.augf .cursor true (.int 1) .nil)
noncomputable def cGo (b : Bool) : C := .ite (.cmp (if b then .isin else .notin) (.idx (.fld .current) (.fld .cursor)) (.loc 1)) (.ret (.bool true) .nil) .nil (.augf .cursor true (.int 1) .nil)
theorem go_out_eq : code_go_out_grouping = .wh (.cmp .lt (.fld .cursor) (.fld .limit)) (cGo true) (.ret (.bool false) .nil) := rfl
theorem go_in_eq : code_go_in_grouping = .wh (.cmp .lt (.fld .cursor) (.fld .limit)) (cGo false) (.ret (.bool false) .nil) := rfl
theorem go_loop (μ : Mu) (d : Bool) (l : List Nat) (W : List Nat) (lb bra ket pv p1 p2 : Int) : ∀ (n i : Nat), W.length < n + i → i ≤ W.length →
    ∃ j, i ≤ j ∧ j ≤ W.length ∧ (∀ q, i ≤ q → q < W.length → inAt W q l = d → j ≤ q) ∧
      back (andThen (loop (fun m f => test μ kap m (.cmp .lt (.fld .cursor) (.fld .limit)) f) (exec N μ kap (cGo d)) n [some .self, some (.set l)] ⟨W, i, W.length, lb, bra, ket, pv, p1, p2⟩) (exec N μ kap (.ret (.bool false) .nil))) =
        some (.bool (decide (j < W.length)), ⟨W, j, W.length, lb, bra, ket, pv, p1, p2⟩) := by
  intro n
  induction n with
  | zero => intro i h1 h2; lia
  | succ n ih =>
    intro i h1 h2
    have hm : Loc.at [some .self, some (.set l)] 0 = some .self := rfl
    have hm1 : Loc.at [some .self, some (.set l)] 1 = some (.set l) := rfl
    rw [loop_S, test_lt _ _ hm, bind_some]
    by_cases h : i < W.length
    · simp only [h, decide_true, if_true]
      cases hd : (inAt W i l == d) with
      | true =>
        have hd : inAt W i l = d := by simpa using hd
        refine ⟨i, Nat.le_refl _, h2, fun q h1 _ _ => h1, ?_⟩
        have : test μ kap [some .self, some (.set l)] (.cmp (if d then .isin else .notin) (.idx (.fld .current) (.fld .cursor)) (.loc 1)) ⟨W, i, W.length, lb, bra, ket, pv, p1, p2⟩ = some (true, ⟨W, i, W.length, lb, bra, ket, pv, p1, p2⟩) := by
          rw [test_in _ _ _ hm l hm1 W i h (by cases d <;> simp)]
          cases d <;> simp [hd]
        simp only [cGo, xf_nil, xf_ret, xaf, xf_ite, ↓itt, ↓itf, this, bind_some, map_some, ev_int, ev_bool, if_true, and_ret, tur_ret, decide_eq_true h]
        rfl
      | false =>
        have hd : inAt W i l ≠ d := by simpa using hd
        obtain ⟨j, j1, j2, j3, j4⟩ := ih (i + 1) (by lia) (by lia)
        refine ⟨j, by lia, j2, fun q h1 h2 h3 => j3 q ?_ h2 h3, ?_⟩
        · rcases Nat.eq_or_lt_of_le h1 with rfl | h
          · exact absurd h3 hd
          · exact h
        have : test μ kap [some .self, some (.set l)] (.cmp (if d then .isin else .notin) (.idx (.fld .current) (.fld .cursor)) (.loc 1)) ⟨W, i, W.length, lb, bra, ket, pv, p1, p2⟩ = some (false, ⟨W, i, W.length, lb, bra, ket, pv, p1, p2⟩) := by
          rw [test_in _ _ _ hm l hm1 W i h (by cases d <;> simp)]
          cases d <;> simp at hd ⊢ <;> simp [hd]
        rw [← j4]
        simp only [cGo, xf_nil, xf_ret, xaf, xf_ite, ↓itt, ↓itf, this, bind_some, map_some, ev_int, ev_bool, Bool.false_eq_true, if_false, if_true, and_next, hm, get_cursor, addV_int, isz, put_cursor, tur_next]
    · refine ⟨i, Nat.le_refl _, h2, fun q h1 h2 _ => h1, ?_⟩
      simp only [h, decide_false, Bool.false_eq_true, if_false, and_next, xf_ret, ev_bool, map_some]
      rfl
theorem run_go_out (hN : 100 ≤ N) (W : List Nat) (hW : W.length ≤ 90) (i : Nat) (hi : i ≤ W.length) (l : List Nat) (lb bra ket pv p1 p2 : Int) :
    ∃ j, i ≤ j ∧ j ≤ W.length ∧ (∀ q, i ≤ q → q < W.length → inAt W q l = true → j ≤ q) ∧
      runM N kap (k + 1) .go_out_grouping [.set l] ⟨W, i, W.length, lb, bra, ket, pv, p1, p2⟩ = some (.bool (decide (j < W.length)), ⟨W, j, W.length, lb, bra, ket, pv, p1, p2⟩) := by
  obtain ⟨j, h1, h2, h3, h4⟩ := go_loop (N := N) (runM N kap k) true l W lb bra ket pv p1 p2 N i (by lia) hi
  refine ⟨j, h1, h2, h3, ?_⟩
  rw [runM_succ (h := rfl)]
  show back (exec N _ kap code_go_out_grouping _ _) = _
  rw [go_out_eq, ex_wh]; exact h4
theorem run_go_in (hN : 100 ≤ N) (W : List Nat) (hW : W.length ≤ 90) (i : Nat) (hi : i ≤ W.length) (l : List Nat) (lb bra ket pv p1 p2 : Int) :
    ∃ j, i ≤ j ∧ j ≤ W.length ∧ (∀ q, i ≤ q → q < W.length → inAt W q l = false → j ≤ q) ∧
      runM N kap (k + 1) .go_in_grouping [.set l] ⟨W, i, W.length, lb, bra, ket, pv, p1, p2⟩ = some (.bool (decide (j < W.length)), ⟨W, j, W.length, lb, bra, ket, pv, p1, p2⟩) := by
  obtain ⟨j, h1, h2, h3, h4⟩ := go_loop (N := N) (runM N kap k) false l W lb bra ket pv p1 p2 N i (by lia) hi
  refine ⟨j, h1, h2, h3, ?_⟩
  rw [runM_succ (h := rfl)]
  show back (exec N _ kap code_go_in_grouping _ _) = _
  rw [go_in_eq, ex_wh]; exact h4
end
noncomputable def tcB : C → C | .tryc _ c _ => c | _ => .nil
noncomputable def tcK : C → C | .tryc _ _ k => k | _ => .nil
noncomputable def slK : C → C | .setl _ _ k => k | _ => .nil
noncomputable def sfK : C → C | .setf _ _ k => k | _ => .nil
noncomputable def wB : C → C | .wh _ c _ => c | _ => .nil
noncomputable def cM : C := slK (sfK (sfK (sfK code_r_mark_regions)))
noncomputable def cMB : C := wB (tcB cM)
noncomputable def cMA : C := tcB (slK cMB)
noncomputable def cMAk : C := tcK (slK cMB)
noncomputable def cMF : C := tcB (sfK cMAk)
noncomputable def cMG : C := tcK (sfK cMAk)
noncomputable def cMK : C := tcK cM
noncomputable def cM2 : C := tcB (slK (sfK cMK))
noncomputable def cW1 : C := (.wh (.ex (.bool true)) (.setl 2 (.fld .cursor) (.tryc 1 cMA (.setf .cursor (.loc 2) (.tryc 1 cMF cMG)))) (.setf .pv (.fld .cursor) .nil))
theorem mark_eq : code_r_mark_regions = .setf .pv (.fld .limit) (.setf .p1 (.fld .limit) (.setf .p2 (.fld .limit) (.setl 1 (.fld .cursor) (.tryc 0 cW1
  (.setf .cursor (.loc 1) (.setl 4 (.fld .cursor) (.tryc 0 cM2 (.setf .cursor (.loc 4) (.ret (.bool true) .nil))))))))) := rfl
noncomputable abbrev L5 (x1 x2 x3 x4 : Option V) : Loc := [some .self, x1, x2, x3, x4]
noncomputable def tab0 : List AM := tabOf (kap .a_0)
theorem kap_0 : kap .a_0 = .tab tab0 := rfl
theorem best_mem {key : List Nat → List Nat} {u : List Nat} {a : AM} : ∀ {t : List AM}, best key u t = some a → a ∈ t
  | [], h => by cases h
  | b :: t, h => by
    rw [best] at h
    split at h
    · rename_i c q; cases h; exact List.mem_cons_of_mem _ (best_mem q)
    · split at h
      · cases h; exact List.mem_cons_self
      · first | exact no_none h | exact no_false h | cases h
section
variable {N : Nat} {k : Nat}
theorem test_out (m : Loc) (hm : m.at 0 = some .self) {f f' : F} {b : Bool} {n : Mth} (h : runM N kap (k + 1) n [.set gv] f = some (.bool b, f')) :
    test (runM N kap (k + 1)) kap m (.not (.ex (.call1 n (.cst .g_v)))) f = some (!b, f') := by
  simp only [te_not, te_ex, ev_cst, ev_call1, hm, if_true, bind_some, kap_gv, h, map_some]
theorem markA (W : List Nat) (hW : 4 ≤ W.length) (x1 x2 x3 x4 : Option V) (lb b t pv p1 p2 : Int) :
    exec N (runM N kap (k + 3)) kap cMA (L5 x1 x2 x3 x4) ⟨W, (0 : Nat), W.length, lb, b, t, pv, p1, p2⟩ = some (.brk, L5 x1 x2 x3 x4, ⟨W, (3 : Nat), W.length, lb, b, t, pv, p1, p2⟩) ∨
    ∃ c : Int, exec N (runM N kap (k + 3)) kap cMA (L5 x1 x2 x3 x4) ⟨W, (0 : Nat), W.length, lb, b, t, pv, p1, p2⟩ = some (.exc 1, L5 x1 x2 x3 x4, ⟨W, c, W.length, lb, b, t, pv, p1, p2⟩) := by
  have hm : ∀ y1 y2 y3 y4, Loc.at (L5 y1 y2 y3 y4) 0 = some .self := fun _ _ _ _ => rfl
  cases h0 : inAt W 0 gv with
  | false =>
    refine .inr ⟨(0 : Nat), ?_⟩
    simp only [cMA, cMB, cM, tcB, slK, sfK, wB, code_r_mark_regions, xf_nil, xf_brk, xaf, xf_ite, ↓itt, ↓itf, xf_raise, test_ig _ (hm ..), h0, bind_some, Bool.not_false, if_true, Bool.false_eq_true, if_false, and_exc]
  | true =>
    cases h1 : inAt W 1 gv with
    | false =>
      refine .inr ⟨(1 : Nat), ?_⟩
      simp only [cMA, cMB, cM, tcB, slK, sfK, wB, code_r_mark_regions, xf_nil, xf_brk, xaf, xf_ite, ↓itt, ↓itf, xf_raise, test_ig _ (hm ..), h0, h1, Nat.zero_add, Nat.reduceAdd, bind_some, Bool.not_false, Bool.not_true, if_true, Bool.false_eq_true, if_false, and_exc, and_next]
    | true =>
      refine .inl ?_
      have hl : ¬ W.length ≤ 2 := by lia
      simp only [cMA, cMB, cM, tcB, slK, sfK, wB, code_r_mark_regions, xf_nil, xf_brk, xaf, xf_ite, ↓itt, ↓itf, xf_raise, test_ig _ (hm ..), test_ge _ _ (hm ..), h0, h1, hl, decide_false, Nat.zero_add, Nat.reduceAdd, bind_some, Bool.not_true, if_true, Bool.false_eq_true, if_false, and_next, ev_int, hm, get_cursor, addV_int, isz, put_cursor]
theorem markF (hN : 100 ≤ N) (W : List Nat) (hW : 4 ≤ W.length) (x1 x2 x3 x4 : Option V) (lb b t pv p1 p2 : Int) :
    (∃ y3, exec N (runM N kap (k + 3)) kap cMF (L5 x1 x2 x3 x4) ⟨W, (0 : Nat), W.length, lb, b, t, pv, p1, p2⟩ = some (.brk, L5 x1 x2 y3 x4, ⟨W, (3 : Nat), W.length, lb, b, t, pv, p1, p2⟩)) ∨
    ∃ (y3 : Option V) (c : Int), exec N (runM N kap (k + 3)) kap cMF (L5 x1 x2 x3 x4) ⟨W, (0 : Nat), W.length, lb, b, t, pv, p1, p2⟩ = some (.exc 1, L5 x1 x2 y3 x4, ⟨W, c, W.length, lb, b, t, pv, p1, p2⟩) := by
  have hm : ∀ y1 y2 y3 y4, Loc.at (L5 y1 y2 y3 y4) 0 = some .self := fun _ _ _ _ => rfl
  have ff : runM N kap (k + 3) .find_among [.tab tab0] ⟨W, (0 : Nat), W.length, lb, b, t, pv, p1, p2⟩ = some (found id W tab0 ⟨W, (0 : Nat), W.length, lb, b, t, pv, p1, p2⟩ fun a => (0 : Nat) + a.1.length) :=
    run_find hN good_0 (W := W) rfl rfl rfl ⟨by lia, by simp, fun j hj => by simp⟩
  have e4 : ((1 : Nat) : Int) = 1 := rfl
  have e5 : ((0 : Nat) : Int) = 0 := rfl
  have tl1 : ∀ (μ : Mu) (y1 y2 y4 : Option V) (f : F), test μ kap (L5 y1 y2 (some (.int 0)) y4) (.cmp .eq (.loc 3) (.int 0)) f = some (true, f) := fun _ _ _ _ _ => rfl
  have tl2 : ∀ (μ : Mu) (y1 y2 y4 : Option V) (f : F), test μ kap (L5 y1 y2 (some (.int (-1))) y4) (.cmp .eq (.loc 3) (.int 0)) f = some (false, f) := fun _ _ _ _ _ => rfl
  have tl3 : ∀ (μ : Mu) (y1 y2 y4 : Option V) (f : F), test μ kap (L5 y1 y2 (some (.int (-1))) y4) (.cmp .eq (.loc 3) (.int 1)) f = some (false, f) := fun _ _ _ _ _ => rfl
  have tl4 : ∀ (μ : Mu) (y1 y2 y4 : Option V) (f : F), test μ kap (L5 y1 y2 (some (.int 1)) y4) (.cmp .eq (.loc 3) (.int 0)) f = some (false, f) := fun _ _ _ _ _ => rfl
  have tl5 : ∀ (μ : Mu) (y1 y2 y4 : Option V) (f : F), test μ kap (L5 y1 y2 (some (.int 1)) y4) (.cmp .eq (.loc 3) (.int 1)) f = some (true, f) := fun _ _ _ _ _ => rfl
  rw [found] at ff
  cases hb : best id W tab0 with
  | none =>
    rw [hb] at ff
    refine .inr ⟨some (.int 0), (0 : Nat), ?_⟩
    simp only [cMF, cMAk, tcK, cMB, cM, tcB, slK, sfK, wB, code_r_mark_regions, xf_nil, xf_brk, xs1, xs2, xs3, xs4, xf_ite, ↓itt, ↓itf, xf_raise, ev_cst, evc1, hm, kap_0, if_true, bind_some, ff, List.length_cons, List.length_nil, Nat.reduceAdd, Nat.reduceLT, ne_eq, Nat.reduceEqDiff, not_false_eq_true, and_self, List.set_cons_succ, List.set_cons_zero, tl1, and_exc]
  | some a =>
    rw [hb] at ff
    have ha : a ∈ tab0 := best_mem hb
    have ha : a = ([99, 111, 108], -1, -1) ∨ a = ([110, 105], -1, 1) ∨ a = ([112, 97, 114], -1, -1) ∨ a = ([116, 97, 112], -1, -1) := by
      simpa [tab0, tabOf, kap] using ha
    have ends : ∀ q : List Nat, q.length = 3 → runM N kap (k + 3) .find_among [.tab tab0] ⟨W, (0 : Nat), W.length, lb, b, t, pv, p1, p2⟩ = some (.int (-1), ⟨W, (0 : Nat) + q.length, W.length, lb, b, t, pv, p1, p2⟩) →
        exec N (runM N kap (k + 3)) kap cMF (L5 x1 x2 x3 x4) ⟨W, (0 : Nat), W.length, lb, b, t, pv, p1, p2⟩ = some (.brk, L5 x1 x2 (some (.int (-1))) x4, ⟨W, (3 : Nat), W.length, lb, b, t, pv, p1, p2⟩) := by
      intro q hq ff
      rw [hq, isz, Nat.zero_add] at ff
      simp only [cMF, cMAk, tcK, cMB, cM, tcB, slK, sfK, wB, code_r_mark_regions, xf_nil, xf_brk, xs1, xs2, xs3, xs4, xf_ite, ↓itt, ↓itf, xf_raise, ev_cst, evc1, hm, kap_0, if_true, bind_some, ff, List.length_cons, List.length_nil, Nat.reduceAdd, Nat.reduceLT, ne_eq, Nat.reduceEqDiff, not_false_eq_true, and_self, List.set_cons_succ, List.set_cons_zero, tl2, tl3, Bool.false_eq_true, if_false, and_next]
    rcases ha with rfl | rfl | rfl | rfl
    · exact .inl ⟨_, ends [99, 111, 108] rfl ff⟩
    · have ff : runM N kap (k + 3) .find_among [.tab tab0] ⟨W, (0 : Nat), W.length, lb, b, t, pv, p1, p2⟩ = some (.int 1, ⟨W, (2 : Nat), W.length, lb, b, t, pv, p1, p2⟩) := ff
      cases h2 : inAt W 2 gv with
      | true =>
        refine .inl ⟨some (.int 1), ?_⟩
        simp only [cMF, cMAk, tcK, cMB, cM, tcB, slK, sfK, wB, code_r_mark_regions, xf_nil, xf_brk, xs1, xs2, xs3, xs4, xf_ite, ↓itt, ↓itf, xf_raise, ev_cst, evc1, hm, kap_0, if_true, bind_some, ff, List.length_cons, List.length_nil, Nat.reduceAdd, Nat.reduceLT, ne_eq, Nat.reduceEqDiff, not_false_eq_true, and_self, List.set_cons_succ, List.set_cons_zero, tl4, tl5, Bool.false_eq_true, if_false, and_next, test_ig _ (hm ..), h2, Bool.not_true]
      | false =>
        refine .inr ⟨some (.int 1), (2 : Nat), ?_⟩
        simp only [cMF, cMAk, tcK, cMB, cM, tcB, slK, sfK, wB, code_r_mark_regions, xf_nil, xf_brk, xs1, xs2, xs3, xs4, xf_ite, ↓itt, ↓itf, xf_raise, ev_cst, evc1, hm, kap_0, if_true, bind_some, ff, List.length_cons, List.length_nil, Nat.reduceAdd, Nat.reduceLT, ne_eq, Nat.reduceEqDiff, not_false_eq_true, and_self, List.set_cons_succ, List.set_cons_zero, tl4, tl5, Bool.false_eq_true, if_false, and_next, and_exc, test_ig _ (hm ..), h2, Bool.not_false]
    · exact .inl ⟨_, ends [112, 97, 114] rfl ff⟩
    · exact .inl ⟨_, ends [116, 97, 112] rfl ff⟩
theorem markG (hN : 100 ≤ N) (W : List Nat) (hW : 4 ≤ W.length) (hW2 : W.length ≤ 90) (q : Nat) (hq : 1 ≤ q) (hq2 : q < W.length) (hv : inAt W q gv = true) (x1 x3 x4 : Option V) (c lb b t pv p1 p2 : Int) :
    ∃ p : Nat, p ≤ q + 1 ∧ exec N (runM N kap (k + 3)) kap cMG (L5 x1 (some (.int (0 : Nat))) x3 x4) ⟨W, c, W.length, lb, b, t, pv, p1, p2⟩ = some (.brk, L5 x1 (some (.int (0 : Nat))) x3 x4, ⟨W, p, W.length, lb, b, t, pv, p1, p2⟩) := by
  have hm : ∀ y1 y2 y3 y4, Loc.at (L5 y1 y2 y3 y4) 0 = some .self := fun _ _ _ _ => rfl
  have h2 : ∀ y1 y2 y3 y4, Loc.at (L5 y1 y2 y3 y4) 2 = y2 := fun _ _ _ _ => rfl
  obtain ⟨j, j1, j2, j3, j4⟩ := run_go_out (k := k + 2) hN W hW2 1 (by lia) gv lb b t pv p1 p2
  have j5 := j3 q hq hq2 hv
  rw [decide_eq_true (by lia)] at j4
  have hl : ¬ W.length ≤ 0 := by lia
  refine ⟨j + 1, by lia, ?_⟩
  simp only [cMG, cMAk, tcK, cMB, cM, tcB, slK, sfK, wB, code_r_mark_regions, xf_nil, xf_brk, xsf, xaf, xf_ite, ↓itt, ↓itf, xf_raise, ev_int, ev_loc, hm, h2, if_true, bind_some, map_some, put_cursor, test_ge _ _ (hm ..), hl, decide_false, Bool.false_eq_true, if_false, and_next, get_cursor, addV_int, isz, Nat.zero_add, test_out _ (hm ..) j4, Bool.not_true]
theorem mark2 (hN : 100 ≤ N) (W : List Nat) (hW2 : W.length ≤ 90) (q : Nat) (hq2 : q + 1 < W.length) (hv : inAt W q gv = true) (hc : inAt W (q + 1) gv = false) (x1 x2 x3 x4 : Option V) (lb b t pv p1 p2 : Int) :
    ∃ (o : O) (c : Int) (p1' : Nat) (p2' : Int), p1' ≤ q + 2 ∧ (0 ≤ p2 → 0 ≤ p2') ∧ (o = .next ∨ o = .exc 0) ∧ exec N (runM N kap (k + 3)) kap cM2 (L5 x1 x2 x3 x4) ⟨W, (0 : Nat), W.length, lb, b, t, pv, p1, p2⟩ = some (o, L5 x1 x2 x3 x4, ⟨W, c, W.length, lb, b, t, pv, p1', p2'⟩) := by
  have hm : ∀ y1 y2 y3 y4, Loc.at (L5 y1 y2 y3 y4) 0 = some .self := fun _ _ _ _ => rfl
  obtain ⟨j, j1, j2, j3, j4⟩ := run_go_out (k := k + 2) hN W hW2 0 (by lia) gv lb b t pv p1 p2
  have j5 := j3 q (by lia) (by lia) hv
  have hj : j < W.length := by lia
  · rw [decide_eq_true hj] at j4
    obtain ⟨i, i1, i2, i3, i4⟩ := run_go_in (k := k + 2) hN W hW2 (j + 1) (by lia) gv lb b t pv p1 p2
    have i5 := i3 (q + 1) (by lia) (by lia) hc
    have hi : i < W.length := by lia
    · rw [decide_eq_true hi] at i4
      obtain ⟨r, r1, r2, r3, r4⟩ := run_go_out (k := k + 2) hN W hW2 (i + 1) (by lia) gv lb b t pv (i + 1 : Nat) p2
      by_cases hr : r < W.length
      · rw [decide_eq_true hr] at r4
        obtain ⟨s, s1, s2, s3, s4⟩ := run_go_in (k := k + 2) hN W hW2 (r + 1) (by lia) gv lb b t pv (i + 1 : Nat) p2
        by_cases hs : s < W.length
        · rw [decide_eq_true hs] at s4
          refine ⟨.next, (s + 1 : Nat), i + 1, (s + 1 : Nat), by lia, fun _ => by lia, .inl rfl, ?_⟩
          simp only [cM2, cMK, tcK, cM, tcB, slK, sfK, code_r_mark_regions, xf_nil, xsf, xaf, xf_ite, ↓itt, ↓itf, xf_raise, ev_int, evf, hm, if_true, bind_some, put_cursor, put_p1, put_p2, Bool.false_eq_true, if_false, and_next, get_cursor, addV_int, isz, test_out _ (hm ..) j4, test_out _ (hm ..) i4, test_out _ (hm ..) r4, test_out _ (hm ..) s4, Bool.not_true]
        · rw [decide_eq_false hs] at s4
          refine ⟨.exc 0, s, i + 1, p2, by lia, id, .inr rfl, ?_⟩
          simp only [cM2, cMK, tcK, cM, tcB, slK, sfK, code_r_mark_regions, xf_nil, xsf, xaf, xf_ite, ↓itt, ↓itf, xf_raise, ev_int, evf, hm, if_true, bind_some, put_cursor, put_p1, Bool.false_eq_true, if_false, and_next, and_exc, get_cursor, addV_int, isz, test_out _ (hm ..) j4, test_out _ (hm ..) i4, test_out _ (hm ..) r4, test_out _ (hm ..) s4, Bool.not_true, Bool.not_false]
      · rw [decide_eq_false hr] at r4
        refine ⟨.exc 0, r, i + 1, p2, by lia, id, .inr rfl, ?_⟩
        simp only [cM2, cMK, tcK, cM, tcB, slK, sfK, code_r_mark_regions, xf_nil, xsf, xaf, xf_ite, ↓itt, ↓itf, xf_raise, ev_int, evf, hm, if_true, bind_some, put_cursor, put_p1, Bool.false_eq_true, if_false, and_next, and_exc, get_cursor, addV_int, isz, test_out _ (hm ..) j4, test_out _ (hm ..) i4, test_out _ (hm ..) r4, Bool.not_true, Bool.not_false]
theorem mark1 (hN : 100 ≤ N) (W : List Nat) (hW : 4 ≤ W.length) (hW2 : W.length ≤ 90) (q : Nat) (hq : 2 ≤ q) (hq2 : q < W.length) (hv : inAt W q gv = true) (x1 x2 x3 x4 : Option V) (lb b t pv p1 p2 : Int) :
    ∃ (p : Nat) (y3 : Option V), p ≤ q + 1 ∧ exec (N + 1) (runM (N + 1) kap (k + 3)) kap cW1 (L5 x1 x2 x3 x4) ⟨W, (0 : Nat), W.length, lb, b, t, pv, p1, p2⟩ =
      some (.next, L5 x1 (some (.int (0 : Nat))) y3 x4, ⟨W, p, W.length, lb, b, t, p, p1, p2⟩) := by
  have hm : ∀ y1 y2 y3 y4, Loc.at (L5 y1 y2 y3 y4) 0 = some .self := fun _ _ _ _ => rfl
  have h2 : ∀ y1 y2 y3 y4, Loc.at (L5 y1 y2 y3 y4) 2 = y2 := fun _ _ _ _ => rfl
  rcases markA (N := N + 1) (k := k) W hW x1 (some (.int (0 : Nat))) x3 x4 lb b t pv p1 p2 with h | ⟨c, h⟩
  · refine ⟨3, x3, by lia, ?_⟩
    simp only [cW1, xf_nil, xs1, xs2, xs3, xs4, xsf, xf_wh, xf_tryc, test_true, loop_true, ev_loc, evf, hm, if_true, get_cursor, bind_some, List.length_cons, List.length_nil, Nat.reduceAdd, Nat.reduceLT, ne_eq, Nat.reduceEqDiff, not_false_eq_true, and_self, List.set_cons_succ, List.set_cons_zero, h, cau_brk, tur_brk, and_next, put_pv]
  · rcases markF (N := N + 1) (k := k) (by lia) W hW x1 (some (.int (0 : Nat))) x3 x4 lb b t pv p1 p2 with ⟨y3, g⟩ | ⟨y3, c2, g⟩
    · refine ⟨3, y3, by lia, ?_⟩
      simp only [cW1, xf_nil, xs1, xs2, xs3, xs4, xsf, xf_wh, xf_tryc, test_true, loop_true, ev_loc, evf, hm, h2, if_true, get_cursor, bind_some, map_some, List.length_cons, List.length_nil, Nat.reduceAdd, Nat.reduceLT, ne_eq, Nat.reduceEqDiff, not_false_eq_true, and_self, List.set_cons_succ, List.set_cons_zero, h, cau0, cau1, cau2, cau3, put_cursor, g, cau_brk, tur_brk, and_next, put_pv]
    · obtain ⟨p, hp, e⟩ := markG (N := N + 1) (k := k) (by lia) W hW hW2 q (by lia) hq2 hv x1 y3 x4 c2 lb b t pv p1 p2
      refine ⟨p, y3, hp, ?_⟩
      simp only [cW1, xf_nil, xs1, xs2, xs3, xs4, xsf, xf_wh, xf_tryc, test_true, loop_true, ev_loc, evf, hm, h2, if_true, get_cursor, bind_some, map_some, List.length_cons, List.length_nil, Nat.reduceAdd, Nat.reduceLT, ne_eq, Nat.reduceEqDiff, not_false_eq_true, and_self, List.set_cons_succ, List.set_cons_zero, h, cau0, cau1, cau2, cau3, put_cursor, g, e, tur_brk, and_next, put_pv]
theorem run_mark (hN : 100 ≤ N) (W : List Nat) (hW : 4 ≤ W.length) (hW2 : W.length ≤ 90) (q : Nat) (hq : 2 ≤ q) (hq2 : q + 1 < W.length) (hv : inAt W q gv = true) (hc : inAt W (q + 1) gv = false) (lb b t pv p1 p2 : Int) :
    ∃ (p p1' : Nat) (p2' : Int), p ≤ q + 1 ∧ p1' ≤ q + 2 ∧ 0 ≤ p2' ∧ runM (N + 1) kap (k + 4) .r_mark_regions [] ⟨W, 0, W.length, lb, b, t, pv, p1, p2⟩ = some (.bool true, ⟨W, 0, W.length, lb, b, t, p, p1', p2'⟩) := by
  have hm : ∀ y1 y2 y3 y4, Loc.at (L5 y1 y2 y3 y4) 0 = some .self := fun _ _ _ _ => rfl
  have h1 : ∀ y1 y2 y3 y4, Loc.at (L5 y1 y2 y3 y4) 1 = y1 := fun _ _ _ _ => rfl
  have h4 : ∀ y1 y2 y3 y4, Loc.at (L5 y1 y2 y3 y4) 4 = y4 := fun _ _ _ _ => rfl
  obtain ⟨p, y3, hp, e⟩ := mark1 (k := k) hN W hW hW2 q hq (by lia) hv (some (.int (0 : Nat))) none none none lb b t W.length W.length W.length
  obtain ⟨o, c, p1', p2', hp1, hp2, ho, e2⟩ := mark2 (N := N + 1) (k := k) (by lia) W hW2 q hq2 hv hc (some (.int (0 : Nat))) (some (.int (0 : Nat))) y3 (some (.int (0 : Nat))) lb b t p W.length W.length
  refine ⟨p, p1', p2', hp, hp1, hp2 (by lia), ?_⟩
  rw [runM_succ (h := rfl)]
  have e0 : enter (namesOf .r_mark_regions).length [] = L5 none none none none := rfl
  have e5 : ((0 : Nat) : Int) = 0 := rfl
  unfold callC
  rw [e0, show codeOf .r_mark_regions = code_r_mark_regions from rfl, mark_eq]
  rw [← e5]
  rcases ho with rfl | rfl
  · simp only [xf_ret, xs1, xs2, xs3, xs4, xsf, xf_tryc, ev_bool, ev_loc, evf, hm, h1, h4, if_true, bind_some, map_some, get_limit, get_cursor, put_pv, put_p1, put_p2, put_cursor, List.length_cons, List.length_nil, Nat.reduceAdd, Nat.reduceLT, ne_eq, Nat.reduceEqDiff, not_false_eq_true, and_self, List.set_cons_succ, List.set_cons_zero, e, cau_next, e2, bk_r, bk_n]
  · simp only [xf_ret, xs1, xs2, xs3, xs4, xsf, xf_tryc, ev_bool, ev_loc, evf, hm, h1, h4, if_true, bind_some, map_some, get_limit, get_cursor, put_pv, put_p1, put_p2, put_cursor, List.length_cons, List.length_nil, Nat.reduceAdd, Nat.reduceLT, ne_eq, Nat.reduceEqDiff, not_false_eq_true, and_self, List.set_cons_succ, List.set_cons_zero, e, cau_next, cau0, cau1, cau2, cau3, e2, bk_r, bk_n]
end
section
variable {N : Nat} {k : Nat}
theorem run_eq_s (W : List Nat) (i : Nat) (hi : i ≤ W.length) (s : List Nat) (lb bra ket pv p1 p2 : Int) :
    runM N kap (k + 1) .eq_s [.str s] ⟨W, i, W.length, lb, bra, ket, pv, p1, p2⟩ =
      some (.bool (s.isPrefixOf (W.drop i)), ⟨W, if s.isPrefixOf (W.drop i) then (i + s.length : Nat) else i, W.length, lb, bra, ket, pv, p1, p2⟩) := by
  rw [runM_succ (h := rfl)]
  have e1 : cutV (.str W) (.int i) (.int W.length) = some (.str (W.drop i)) := by
    simp only [ctV]
    rw [if_pos (by lia), Int.toNat_natCast, show ((W.length : Int) - i).toNat = W.length - i by lia, List.take_of_length_le (by simp)]
  have hm : Loc.at [some .self, some (.str s)] 0 = some .self := rfl
  have h1 : Loc.at [some .self, some (.str s)] 1 = some (.str s) := rfl
  show back (exec N _ kap code_eq_s [some .self, some (.str s)] _) = _
  cases h : s.isPrefixOf (W.drop i) with
  | true =>
    simp only [code_eq_s, xf_nil, xf_ret, xaf, xf_ite, ↓itt, ↓itf, te_ex, ev_bool, ev_loc, evf, ev_cut, ev_len, ev_starts, hm, h1, if_true, bind_some, map_some, get_cur, get_cursor, get_limit, e1, stV, h, lnV_s, lnV_t, addV_int, isz, put_cursor, and_ret, bk_r, bk_n]
  | false =>
    simp only [code_eq_s, xf_nil, xf_ret, xaf, xf_ite, ↓itt, ↓itf, te_ex, ev_bool, ev_loc, evf, ev_cut, ev_len, ev_starts, hm, h1, if_true, bind_some, map_some, get_cur, get_cursor, get_limit, e1, stV, h, Bool.false_eq_true, if_false, and_next, bk_r, bk_n]
noncomputable def elc : List Nat := [99, 100, 106, 108, 109, 110, 115, 116]
theorem kap_el : kap .g_elision_char = .set elc := rfl
theorem test_el (m : Loc) (hm : m.at 0 = some .self) (W : List Nat) (i : Nat) (lb bra ket pv p1 p2 : Int) :
    test (runM N kap (k + 1)) kap m (.not (.ex (.call1 .in_grouping (.cst .g_elision_char)))) ⟨W, i, W.length, lb, bra, ket, pv, p1, p2⟩ =
      some (!inAt W i elc, ⟨W, if inAt W i elc then (i + 1 : Nat) else i, W.length, lb, bra, ket, pv, p1, p2⟩) := by
  simp only [te_not, te_ex, ev_cst, ev_call1, hm, if_true, kap_el, bind_some, run_ig, map_some]
theorem test_qu (m : Loc) (hm : m.at 0 = some .self) (W : List Nat) (i : Nat) (hi : i ≤ W.length) (lb bra ket pv p1 p2 : Int) :
    test (runM N kap (k + 1)) kap m (.not (.ex (.call1 .eq_s (.str [113, 117])))) ⟨W, i, W.length, lb, bra, ket, pv, p1, p2⟩ =
      some (!([113, 117] : List Nat).isPrefixOf (W.drop i), ⟨W, if ([113, 117] : List Nat).isPrefixOf (W.drop i) then (i + 2 : Nat) else i, W.length, lb, bra, ket, pv, p1, p2⟩) := by
  simp only [te_not, te_ex, ev_str, ev_call1, hm, if_true, bind_some, run_eq_s _ _ hi, map_some]
  rfl
noncomputable def eTail : C := wK (sfK code_r_elisions)
where wK : C → C | .wh _ _ k => k | _ => .nil
theorem elis_eq : code_r_elisions = .setf .bra (.fld .cursor) (.wh (.ex (.bool true)) (.tryc 0 (.ite (.not (.ex (.call1 .in_grouping (.cst .g_elision_char)))) (.raise 0 .nil) .nil (.brk .nil)) (.ite (.not (.ex (.call1 .eq_s (.str [113, 117])))) (.ret (.bool false) .nil) .nil (.brk .nil))) eTail) := rfl
theorem etail_no (W : List Nat) (i : Nat) (hi : i ≤ W.length) (h : isAt W i 39 = false) (lb b t pv p1 p2 : Int) :
    exec N (runM N kap (k + 3)) kap eTail [some .self] ⟨W, i, W.length, lb, b, t, pv, p1, p2⟩ = some (.ret (.bool false), [some .self], ⟨W, i, W.length, lb, b, t, pv, p1, p2⟩) := by
  have hm : Loc.at [some .self] 0 = some .self := rfl
  simp only [eTail, eTail.wK, sfK, code_r_elisions, xf_nil, xf_ret, xf_expr, xsf, xaf, xf_ite, ↓itt, ↓itf, ev_int, ev_bool, evf, evc0, test_sign _ _ hm _ _ _ hi, h, Bool.not_false, if_true, bind_some, map_some, and_ret]
theorem etail_yes (q x : List Nat) (hx : x ≠ []) (hW : (q ++ 39 :: x).length ≤ 900) (lb t pv p1 p2 : Int) :
    ∃ c b' t', exec N (runM N kap (k + 3)) kap eTail [some .self] ⟨q ++ 39 :: x, q.length, (q ++ 39 :: x).length, lb, (0 : Nat), t, pv, p1, p2⟩ = some (.ret (.bool true), [some .self], ⟨x, c, x.length, lb, b', t', pv, p1, p2⟩) := by
  have hm : Loc.at [some .self] 0 = some .self := rfl
  have hi : q.length ≤ (q ++ 39 :: x).length := by simp
  have h : isAt (q ++ 39 :: x) q.length 39 = true := by
    rw [show q.length = q.length + 0 from rfl, isAt_app]; rfl
  have hxl : 0 < x.length := List.length_pos_iff.mpr hx
  have hge : ¬ (q ++ 39 :: x).length ≤ q.length + 1 := by simp only [List.length_append, List.length_cons]; lia
  have es := run_slice_del (N := N) (κ := kap) (k := k) (q ++ 39 :: x) (q.length + 1 : Nat) lb pv p1 p2 0 (q.length + 1) (by lia) (by simp) (by lia)
  have e1 : (q ++ 39 :: x).drop (q.length + 1) = x := by rw [drop_app]; rfl
  have e2 : ((q ++ 39 :: x).length : Int) - ((q.length + 1 : Nat) - (0 : Nat)) = x.length := by simp only [List.length_append, List.length_cons]; lia
  rw [e1, e2, List.take_zero, List.nil_append] at es
  simp only [eTail, eTail.wK, sfK, code_r_elisions, xf_nil, xf_ret, xf_expr, xsf, xaf, xf_ite, ↓itt, ↓itf, ev_int, ev_bool, evf, evc0, test_sign _ _ hm _ _ _ hi, h, Bool.not_true, Bool.false_eq_true, if_false, if_true, bind_some, map_some, and_next, hm, get_cursor, addV_int, isz, put_cursor, put_ket, test_ge _ _ hm, hge, decide_false, es]
  exact ⟨_, _, _, rfl⟩
theorem isAt_mem {W : List Nat} {i x : Nat} (h : x ∉ W) : isAt W i x = false := by
  cases q : isAt W i x with
  | false => rfl
  | true =>
    unfold isAt at q
    split at q
    · rename_i a e
      have : a = x := by simpa using q
      subst this
      exact absurd (List.mem_of_getElem? e) h
    · first | exact no_none q | exact no_false q | cases q
theorem run_elisions (h x : List Nat) (hh : h ∈ tHeads) (hx : 4 ≤ x.length) (hx2 : x.length ≤ 80) (hn : 39 ∉ x) (lb b t pv p1 p2 : Int) :
    ∃ r c b' t', runM (N + 1) kap (k + 4) .r_elisions [] ⟨h ++ x, 0, (h ++ x).length, lb, b, t, pv, p1, p2⟩ = some (r, ⟨x, c, x.length, lb, b', t', pv, p1, p2⟩) := by
  have hm : Loc.at [some .self] 0 = some .self := rfl
  have e5 : ((0 : Nat) : Int) = 0 := rfl
  have hxn : x ≠ [] := by intro q; rw [q] at hx; simp at hx
  rw [runM_succ (h := rfl)]
  show ∃ r c b' t', back (exec _ _ kap code_r_elisions [some .self] _) = _
  rw [elis_eq, ← e5]
  have yes : ∀ q : List Nat, q.length ≤ 2 → h = q ++ [39] → ∀ t : Int, exec (N + 1) (runM (N + 1) kap (k + 3)) kap (.setf .bra (.fld .cursor) (.wh (.ex (.bool true)) (.tryc 0 (.ite (.not (.ex (.call1 .in_grouping (.cst .g_elision_char)))) (.raise 0 .nil) .nil (.brk .nil)) (.ite (.not (.ex (.call1 .eq_s (.str [113, 117])))) (.ret (.bool false) .nil) .nil (.brk .nil))) eTail)) [some .self] ⟨h ++ x, (0 : Nat), (h ++ x).length, lb, b, t, pv, p1, p2⟩ =
      exec (N + 1) (runM (N + 1) kap (k + 3)) kap eTail [some .self] ⟨h ++ x, q.length, (h ++ x).length, lb, (0 : Nat), t, pv, p1, p2⟩ →
      ∃ r c b' t', back (exec (N + 1) (runM (N + 1) kap (k + 3)) kap (.setf .bra (.fld .cursor) (.wh (.ex (.bool true)) (.tryc 0 (.ite (.not (.ex (.call1 .in_grouping (.cst .g_elision_char)))) (.raise 0 .nil) .nil (.brk .nil)) (.ite (.not (.ex (.call1 .eq_s (.str [113, 117])))) (.ret (.bool false) .nil) .nil (.brk .nil))) eTail)) [some .self] ⟨h ++ x, (0 : Nat), (h ++ x).length, lb, b, t, pv, p1, p2⟩) = some (r, ⟨x, c, x.length, lb, b', t', pv, p1, p2⟩) := by
    intro q hq e t he
    subst e
    rw [he, List.append_assoc]
    obtain ⟨c, b', t', g⟩ := etail_yes (N := N + 1) (k := k) q x hxn (by simp only [List.length_append, List.length_cons]; lia) lb t pv p1 p2
    refine ⟨.bool true, c, b', t', ?_⟩
    show back (exec _ _ _ _ _ ⟨q ++ 39 :: x, _, ((q ++ 39 :: x).length : Nat), _, _, _, _, _, _⟩) = _
    rw [g]; rfl
  have yes1 : ∀ c ∈ elc, h = [c, 39] → ∃ r c b' t', back (exec (N + 1) (runM (N + 1) kap (k + 3)) kap (.setf .bra (.fld .cursor) (.wh (.ex (.bool true)) (.tryc 0 (.ite (.not (.ex (.call1 .in_grouping (.cst .g_elision_char)))) (.raise 0 .nil) .nil (.brk .nil)) (.ite (.not (.ex (.call1 .eq_s (.str [113, 117])))) (.ret (.bool false) .nil) .nil (.brk .nil))) eTail)) [some .self] ⟨h ++ x, (0 : Nat), (h ++ x).length, lb, b, t, pv, p1, p2⟩) = some (r, ⟨x, c, x.length, lb, b', t', pv, p1, p2⟩) := by
    intro c hc e
    subst e
    refine yes [c] (by simp) rfl t ?_
    have hi : inAt ([c, 39] ++ x) 0 elc = true := by show elc.contains c = true; simpa using hc
    simp only [xf_nil, xf_brk, xf_ret, xsf, xf_ite, ↓itt, ↓itf, xf_wh, xf_raise, xf_tryc, ev_bool, evf, hm, if_true, bind_some, get_cursor, put_bra, test_true, loop_true, test_el _ hm, hi, Bool.not_true, Bool.false_eq_true, if_false, and_next, cau_brk, tur_brk, Nat.zero_add, List.length_cons, List.length_nil]
  simp only [tHeads, List.mem_cons, List.not_mem_nil, or_false] at hh
  rcases hh with rfl | e | e | e | e | e | e | e | e | rfl
  · rw [List.nil_append]
    have done : ∀ i, i ≤ x.length → ∀ b t : Int, ∃ r c b' t', back (exec (N + 1) (runM (N + 1) kap (k + 3)) kap eTail [some .self] ⟨x, (i : Nat), x.length, lb, b, t, pv, p1, p2⟩) = some (r, ⟨x, c, x.length, lb, b', t', pv, p1, p2⟩) := by
      intro i hi b t
      rw [etail_no x i hi (isAt_mem hn)]
      exact ⟨_, _, _, _, rfl⟩
    cases h0 : inAt x 0 elc with
    | true =>
      simp only [xf_nil, xf_brk, xf_ret, xsf, xf_ite, ↓itt, ↓itf, xf_wh, xf_raise, xf_tryc, ev_bool, evf, hm, if_true, bind_some, get_cursor, put_bra, test_true, loop_true, test_el _ hm, h0, Bool.not_true, Bool.false_eq_true, if_false, and_next, cau_brk, tur_brk, Nat.zero_add]
      exact done 1 (by lia) _ _
    | false =>
      cases h1 : ([113, 117] : List Nat).isPrefixOf (x.drop 0) with
      | true =>
        simp only [xf_nil, xf_brk, xf_ret, xsf, xf_ite, ↓itt, ↓itf, xf_wh, xf_raise, xf_tryc, ev_bool, evf, hm, if_true, bind_some, get_cursor, put_bra, test_true, loop_true, test_el _ hm, h0, h1, test_qu _ hm x 0 (Nat.zero_le _), Bool.not_true, Bool.not_false, Bool.false_eq_true, if_false, and_next, and_exc, cau0, cau1, cau2, cau3, tur_brk, Nat.zero_add]
        exact done 2 (by lia) _ _
      | false =>
        simp only [xf_nil, xf_brk, xf_ret, xsf, xf_ite, ↓itt, ↓itf, xf_wh, xf_raise, xf_tryc, ev_bool, evf, hm, if_true, bind_some, map_some, get_cursor, put_bra, test_true, loop_true, test_el _ hm, h0, h1, test_qu _ hm x 0 (Nat.zero_le _), Bool.not_false, Bool.false_eq_true, if_false, and_exc, and_ret, cau0, cau1, cau2, cau3, tur_ret, Nat.zero_add]
        exact ⟨_, _, _, _, rfl⟩
  · exact yes1 99 (by decide) e
  · exact yes1 100 (by decide) e
  · exact yes1 106 (by decide) e
  · exact yes1 108 (by decide) e
  · exact yes1 109 (by decide) e
  · exact yes1 110 (by decide) e
  · exact yes1 115 (by decide) e
  · exact yes1 116 (by decide) e
  · refine yes [113, 117] (by simp) rfl t ?_
    have h0 : inAt ([113, 117, 39] ++ x) 0 elc = false := rfl
    have h1 : ([113, 117] : List Nat).isPrefixOf (([113, 117, 39] ++ x).drop 0) = true := rfl
    simp only [xf_nil, xf_brk, xf_ret, xsf, xf_ite, ↓itt, ↓itf, xf_wh, xf_raise, xf_tryc, ev_bool, evf, hm, if_true, bind_some, get_cursor, put_bra, test_true, loop_true, test_el _ hm, h0, h1, test_qu _ hm _ 0 (Nat.zero_le _), Bool.not_true, Bool.not_false, Bool.false_eq_true, if_false, and_next, and_exc, cau0, cau1, cau2, cau3, tur_brk, Nat.zero_add, List.length_cons, List.length_nil, Nat.reduceAdd]
end
inductive AV where
  | none | bool (b : Bool) | int (i : Int) | pos (c : Int) | le (c : Int) | gt (c : Int) | any | str (s : List Nat) | tail (t : List Nat) | chr | self | cst (k : Cst)
  deriving DecidableEq
structure Pm where
  nmin : Nat
  la : Option (List Nat)
  bad : List Nat → Bool
structure AF where
  cur : List Nat
  cursor : AV
  limit : AV
  lb : AV
  bra : AV
  ket : AV
  pv : AV
  p1 : AV
  p2 : AV
noncomputable def AF.get (f : AF) : Fld → AV
  | .current => .tail f.cur | .cursor => f.cursor | .limit => f.limit | .lb => f.lb | .bra => f.bra | .ket => f.ket | .pv => f.pv | .p1 => f.p1 | .p2 => f.p2
noncomputable def AV.num : AV → Bool
  | .int _ | .pos _ | .le _ | .gt _ | .any => true
  | _ => false
noncomputable def AF.put (f : AF) (a : Fld) (v : AV) : Option AF := match a with
  | .current => match v with | .tail t => some { f with cur := t } | _ => Option.none
  | .cursor => if v.num then some { f with cursor := v } else Option.none
  | .limit => if v.num then some { f with limit := v } else Option.none
  | .lb => if v.num then some { f with lb := v } else Option.none
  | .bra => if v.num then some { f with bra := v } else Option.none
  | .ket => if v.num then some { f with ket := v } else Option.none
  | .pv => if v.num then some { f with pv := v } else Option.none
  | .p1 => if v.num then some { f with p1 := v } else Option.none
  | .p2 => if v.num then some { f with p2 := v } else Option.none
noncomputable abbrev ALoc := List (Option AV)
noncomputable def ALoc.at (m : ALoc) (x : Nat) : Option AV := m.getD x Option.none
noncomputable abbrev AMu := Mth → List AV → AF → Option (AV × AF)
noncomputable def aAdd : AV → AV → Option AV
  | .int a, .int b => some (.int (a + b))
  | .pos a, .int b => some (.pos (a + b))
  | .str a, .str b => if a.length + b.length ≤ 500 then some (.str (a ++ b)) else Option.none
  | .tail a, .str b => if a.length + b.length ≤ 500 then some (.tail (a ++ b)) else Option.none
  | _, _ => Option.none
noncomputable def aSub : AV → AV → Option AV
  | .int a, .int b => some (.int (a - b))
  | .pos a, .int b => some (.pos (a - b))
  | .pos a, .pos b => some (.int (a - b))
  | _, _ => Option.none
noncomputable def aIdx (P : Pm) : AV → AV → Option AV
  | .tail t, .pos c => if 0 ≤ c then (t[c.toNat]?).map fun x => .str [x] else if c = -1 then P.la.map fun _ => .chr else Option.none
  | _, _ => Option.none
noncomputable def aCut : AV → AV → AV → Option AV
  | .tail t, .int a, .pos c => if a = 0 ∧ 0 ≤ c ∧ c ≤ t.length then some (.tail (t.take c.toNat)) else Option.none
  | _, _, _ => Option.none
noncomputable def aCutL : AV → AV → Option AV
  | .tail t, .pos c => if 0 ≤ c ∧ c ≤ t.length then some (.str (t.drop c.toNat)) else Option.none
  | _, _ => Option.none
noncomputable def aLen : AV → Option AV
  | .str s => some (.int s.length)
  | .tail t => some (.pos t.length)
  | _ => Option.none
noncomputable def aEnds : AV → AV → Option AV
  | .tail t, .str s => if s.length ≤ t.length then some (.bool (s.isSuffixOf t)) else if t.isSuffixOf s then Option.none else some (.bool false)
  | _, _ => Option.none
noncomputable def ordG : Cmp → Option Bool
  | .lt => some false | .le => some false | .gt => some true | .ge => some true | .eq => some false | .ne => some true
  | _ => Option.none
noncomputable def ordGe : Cmp → Option Bool
  | .lt => some false | .ge => some true
  | _ => Option.none
noncomputable def ordL : Cmp → Option Bool
  | .lt => some true | .le => some true | .gt => some false | .ge => some false | .eq => some false | .ne => some true
  | _ => Option.none
noncomputable def ordLe : Cmp → Option Bool
  | .le => some true | .gt => some false
  | _ => Option.none
noncomputable def setOf : V → List Nat
  | .set l => l
  | _ => []
noncomputable def isSet : Cst → Bool
  | .g_v | .g_oux_ending | .g_elision_char | .g_keep_with_s => true
  | _ => false
noncomputable def aCmp (P : Pm) (o : Cmp) : AV → AV → Option Bool
  | .int a, .int b => cmpV o (.int a) (.int b)
  | .pos a, .pos b => cmpV o (.int a) (.int b)
  | .pos a, .int b => if P.nmin + a > b then ordG o else Option.none
  | .pos a, .le d => if a > d then ordG o else if a = d then ordGe o else Option.none
  | .le d, .pos a => if a > d then ordL o else if a = d then ordLe o else Option.none
  | .gt d, .pos a => if a ≤ d then ordG o else Option.none
  | .str a, .str b => cmpV o (.str a) (.str b)
  | .str [c], .cst k => if isSet k then cmpV o (.str [c]) (kap k) else Option.none
  | .chr, .str s => match P.la with
    | some l => if l.all (fun x => !(([x] : List Nat) == s)) then (match o with | .eq => some false | .ne => some true | _ => Option.none) else Option.none
    | Option.none => Option.none
  | .chr, .cst k => if isSet k then (match P.la with
    | some l => if l.all (fun x => !(setOf (kap k)).contains x) then (match o with | .isin => some false | .notin => some true | _ => Option.none)
      else if l.all (fun x => (setOf (kap k)).contains x) then (match o with | .isin => some true | .notin => some false | _ => Option.none) else Option.none
    | Option.none => Option.none) else Option.none
  | _, _ => Option.none
section
variable (P : Pm) (μ : AMu) (m : ALoc)
noncomputable def aEval : CE → AF → Option (AV × AF)
  | .int n, f => some (.int n, f)
  | .neg n, f => some (.int (-(n : Int)), f)
  | .str s, f => some (.str s, f)
  | .bool b, f => some (.bool b, f)
  | .loc x, f => (m.at x).map fun v => (v, f)
  | .fld a, f => if m.at 0 = some .self then some (f.get a, f) else Option.none
  | .cst k, f => some (.cst k, f)
  | .add a b, f => (aEval a f).bind fun x => (aEval b x.2).bind fun y => (aAdd x.1 y.1).map fun v => (v, y.2)
  | .sub a b, f => (aEval a f).bind fun x => (aEval b x.2).bind fun y => (aSub x.1 y.1).map fun v => (v, y.2)
  | .idx a b, f => (aEval a f).bind fun x => (aEval b x.2).bind fun y => (aIdx P x.1 y.1).map fun v => (v, y.2)
  | .cut a b c, f => (aEval a f).bind fun x => (aEval b x.2).bind fun y => (aEval c y.2).bind fun z => (aCut x.1 y.1 z.1).map fun v => (v, z.2)
  | .cutL a b, f => (aEval a f).bind fun x => (aEval b x.2).bind fun y => (aCutL x.1 y.1).map fun v => (v, y.2)
  | .call0 n, f => if m.at 0 = some .self then μ n [] f else Option.none
  | .call1 n a, f => if m.at 0 = some .self then (aEval a f).bind fun x => μ n [x.1] x.2 else Option.none
  | .call3 n a b c, f => if m.at 0 = some .self then (aEval a f).bind fun x => (aEval b x.2).bind fun y => (aEval c y.2).bind fun z => μ n [x.1, y.1, z.1] z.2 else Option.none
  | .len a, f => (aEval a f).bind fun x => (aLen x.1).map fun v => (v, x.2)
  | .ends a b, f => (aEval a f).bind fun x => (aEval b x.2).bind fun y => (aEnds x.1 y.1).map fun v => (v, y.2)
  | .cmp o a b, f => (aEval a f).bind fun x => (aEval b x.2).bind fun y => (aCmp P o x.1 y.1).map fun v => (.bool v, y.2)
  | _, _ => Option.none
noncomputable def aTest : CT → AF → Option (Bool × AF)
  | .not t, f => (aTest t f).map fun x => (!x.1, x.2)
  | .or s t, f => (aTest s f).bind fun x => if x.1 then some (true, x.2) else aTest t x.2
  | .cmp o a b, f => (aEval P μ m a f).bind fun x => (aEval P μ m b x.2).bind fun y => (aCmp P o x.1 y.1).map fun v => (v, y.2)
  | .ex e, f => (aEval P μ m e f).bind fun x => match x.1 with | .bool b => some (b, x.2) | _ => Option.none
end
inductive AO where
  | next | brk | cont | ret (v : AV) | exc (n : Nat)
noncomputable abbrev ARes := Option (AO × ALoc × AF)
noncomputable def aThen (r : ARes) (k : ALoc → AF → ARes) : ARes := match r with
  | some (.next, m, f) => k m f
  | r => r
noncomputable def aTurned (r : ARes) (k : ALoc → AF → ARes) : ARes := match r with
  | some (.next, m, f) => k m f
  | some (.cont, m, f) => k m f
  | some (.brk, m, f) => some (.next, m, f)
  | r => r
noncomputable def aLoop (tst : ALoc → AF → Option (Bool × AF)) (body : ALoc → AF → ARes) : Nat → ALoc → AF → ARes
  | 0, _, _ => Option.none
  | n + 1, m, f => (tst m f).bind fun x => if x.1 then aTurned (body m x.2) (aLoop tst body n) else some (.next, m, x.2)
noncomputable def aCaught (n : Nat) (r : ARes) (k : ALoc → AF → ARes) : ARes := match r with
  | some (.next, m, f) => k m f
  | some (.exc j, m, f) => if j = n then k m f else Option.none
  | r => r
noncomputable def aExec (P : Pm) (N : Nat) (μ : AMu) : C → ALoc → AF → ARes
  | .nil, m, f => some (.next, m, f)
  | .pass k, m, f => aExec P N μ k m f
  | .brk _, m, f => some (.brk, m, f)
  | .cont _, m, f => some (.cont, m, f)
  | .ret e _, m, f => (aEval P μ m e f).map fun x => (.ret x.1, m, x.2)
  | .expr e k, m, f => (aEval P μ m e f).bind fun x => aExec P N μ k m x.2
  | .setl x e k, m, f => (aEval P μ m e f).bind fun y => if x < m.length ∧ x ≠ 0 then aExec P N μ k (m.set x (some y.1)) y.2 else Option.none
  | .setf a e k, m, f => (aEval P μ m e f).bind fun y => if m.at 0 = some .self then (y.2.put a y.1).bind fun g => aExec P N μ k m g else Option.none
  | .augl x p e k, m, f => (m.at x).bind fun o => (aEval P μ m e f).bind fun y => (if p then aAdd o y.1 else aSub o y.1).bind fun v => if x < m.length ∧ x ≠ 0 then aExec P N μ k (m.set x (some v)) y.2 else Option.none
  | .augf a p e k, m, f => if m.at 0 = some .self then (aEval P μ m e f).bind fun y => (if p then aAdd (f.get a) y.1 else aSub (f.get a) y.1).bind fun v => (y.2.put a v).bind fun g => aExec P N μ k m g else Option.none
  | .ite t a b k, m, f => (aTest P μ m t f).bind fun x => aThen (if x.1 then aExec P N μ a m x.2 else aExec P N μ b m x.2) (aExec P N μ k)
  | .wh t c k, m, f => aThen (aLoop (fun m f => aTest P μ m t f) (aExec P N μ c) N m f) (aExec P N μ k)
  | .asrt t k, m, f => (aTest P μ m t f).bind fun x => if x.1 then aExec P N μ k m x.2 else Option.none
  | .raise n _, m, f => some (.exc n, m, f)
  | .tryc n c k, m, f => aCaught n (aExec P N μ c m f) (aExec P N μ k)
  | _, _, _ => Option.none
noncomputable def aBack (r : ARes) : Option (AV × AF) := match r with
  | some (.ret v, _, f) => some (v, f)
  | some (.next, _, f) => some (.none, f)
  | _ => Option.none
noncomputable def aEnter (n : Nat) (args : List AV) : ALoc := some .self :: args.map some ++ List.replicate (n - 1 - args.length) Option.none
noncomputable def isTabC : Cst → Bool
  | .a_2 | .a_3 | .a_4 | .a_5 | .a_6 | .a_7 | .a_8 | .a_9 => true
  | _ => false
noncomputable def findable (P : Pm) (er : List Nat) (room : Option Int) (t : List AM) : Bool := t.all fun a =>
  if a.1.reverse.isPrefixOf er then (match room with | some r => decide ((a.1.length : Int) ≤ r) | Option.none => true)
  else !(er.isPrefixOf a.1.reverse) || P.bad (a.1.reverse.drop er.length)
noncomputable def aFind (P : Pm) (args : List AV) (f : AF) : Option (AV × AF) := match args, f.cursor with
  | [.cst k], .pos c => if isTabC k ∧ 0 ≤ c ∧ c ≤ f.cur.length then
      (match (match f.lb with | .int i => if i = 0 then some Option.none else Option.none | .le d => if d ≤ c then some (some (c - d)) else Option.none | _ => Option.none) with
      | some room => if findable P (f.cur.take c.toNat).reverse room (tabOf (kap k)) then
          (match best List.reverse (f.cur.take c.toNat).reverse (tabOf (kap k)) with
          | some a => some (.int a.2.2, { f with cursor := .pos (c - a.1.length) })
          | Option.none => some (.int 0, f)) else Option.none
      | Option.none => Option.none)
    else Option.none
  | _, _ => Option.none
noncomputable def aRun (P : Pm) (N : Nat) : Nat → AMu
  | 0 => fun _ _ _ => Option.none
  | k + 1 => fun n args f => if n = .find_among_b then aFind P args f
    else if args.length + 1 = arP n then aBack (aExec P N (aRun P N k) (codeOf n) (aEnter (namesOf n).length args) f) else Option.none
noncomputable def app : C → C → C
  | .nil, k => k
  | .pass c, k => .pass (app c k)
  | .brk c, k => .brk c
  | .cont c, k => .cont c
  | .ret e c, k => .ret e c
  | .expr e c, k => .expr e (app c k)
  | .setl x e c, k => .setl x e (app c k)
  | .setf a e c, k => .setf a e (app c k)
  | .augl x p e c, k => .augl x p e (app c k)
  | .augf a p e c, k => .augf a p e (app c k)
  | .ite t a b c, k => .ite t a b (app c k)
  | .wh t b c, k => .wh t b (app c k)
  | .forU x l h b c, k => .forU x l h b (app c k)
  | .forD x h b c, k => .forD x h b (app c k)
  | .asrt t c, k => .asrt t (app c k)
  | .raise n c, k => .raise n c
  | .tryc n b c, k => .tryc n b (app c k)
section
variable {k : C}
theorem ap_nil  : app .nil k = k := rfl
theorem ap_pass {c : C} : app (.pass c) k = .pass (app c k) := rfl
theorem ap_brk {c : C} : app (.brk c) k = .brk c := rfl
theorem ap_cont {c : C} : app (.cont c) k = .cont c := rfl
theorem ap_ret {e : CE} {c : C} : app (.ret e c) k = .ret e c := rfl
theorem ap_expr {e : CE} {c : C} : app (.expr e c) k = .expr e (app c k) := rfl
theorem ap_setl {x : Nat} {e : CE} {c : C} : app (.setl x e c) k = .setl x e (app c k) := rfl
theorem ap_setf {a : Fld} {e : CE} {c : C} : app (.setf a e c) k = .setf a e (app c k) := rfl
theorem ap_augl {x : Nat} {p : Bool} {e : CE} {c : C} : app (.augl x p e c) k = .augl x p e (app c k) := rfl
theorem ap_augf {a : Fld} {p : Bool} {e : CE} {c : C} : app (.augf a p e c) k = .augf a p e (app c k) := rfl
theorem ap_ite {t : CT} {a : C} {b : C} {c : C} : app (.ite t a b c) k = .ite t a b (app c k) := rfl
theorem ap_wh {t : CT} {b : C} {c : C} : app (.wh t b c) k = .wh t b (app c k) := rfl
theorem ap_forU {x : Nat} {l : CE} {h : CE} {b : C} {c : C} : app (.forU x l h b c) k = .forU x l h b (app c k) := rfl
theorem ap_forD {x : Nat} {h : CE} {b : C} {c : C} : app (.forD x h b c) k = .forD x h b (app c k) := rfl
theorem ap_asrt {t : CT} {c : C} : app (.asrt t c) k = .asrt t (app c k) := rfl
theorem ap_raise {n : Nat} {c : C} : app (.raise n c) k = .raise n c := rfl
theorem ap_tryc {n : Nat} {b : C} {c : C} : app (.tryc n b c) k = .tryc n b (app c k) := rfl
end
noncomputable def cutE : Nat → C → C
  | 0, .expr _ _ => .nil
  | n + 1, .expr e c => .expr e (cutE n c)
  | n, .setl x e c => .setl x e (cutE n c)
  | n, .setf a e c => .setf a e (cutE n c)
  | n, .tryc j b c => .tryc j b (cutE n c)
  | _, c => c
noncomputable def behE : Nat → C → C
  | 0, .expr e c => .expr e c
  | n + 1, .expr e c => behE n c
  | n, .setl x e c => behE n c
  | n, .setf a e c => behE n c
  | n, .tryc j b c => behE n c
  | _, c => c
noncomputable def exK : C → C | .expr _ k => k | _ => .nil
noncomputable def cBack : C := exK (behE 2 code_stem)
noncomputable def cB1 : C := cutE 1 cBack
noncomputable def cB2 : C := behE 1 cBack
theorem back_eq : cBack = app cB1 cB2 := rfl
noncomputable def lasts : List Nat := [98, 99, 100, 102, 103, 104, 106, 107, 108, 109, 110, 112, 115, 116, 118, 119, 120, 122]
noncomputable def combosR : List (List Nat) := [[98, 97], [99, 97], [100, 97], [102, 97], [103, 97], [104, 97], [106, 97], [107, 97], [108, 97], [109, 97], [110, 97], [112, 97], [115, 97], [116, 97], [118, 97], [119, 97], [120, 97], [122, 97], [98, 114, 97], [99, 114, 97], [100, 114, 97], [102, 114, 97], [103, 114, 97], [108, 114, 97], [109, 114, 97], [110, 114, 97], [112, 114, 97], [115, 114, 97], [116, 114, 97], [118, 114, 97], [98, 108, 97], [100, 108, 97], [103, 108, 97], [98, 109, 97], [112, 109, 97], [100, 110, 97], [103, 110, 97], [116, 115, 97], [116, 99, 97], [116, 112, 97], [110, 103, 97], [104, 99, 97], [108, 103, 97], [108, 99, 97], [112, 120, 97], [98, 101], [99, 101], [100, 101], [102, 101], [103, 101], [104, 101], [106, 101], [107, 101], [108, 101], [109, 101], [110, 101], [112, 101], [115, 101], [116, 101], [118, 101], [119, 101], [120, 101], [122, 101], [98, 114, 101], [99, 114, 101], [100, 114, 101], [102, 114, 101], [103, 114, 101], [108, 114, 101], [109, 114, 101], [110, 114, 101], [112, 114, 101], [115, 114, 101], [116, 114, 101], [118, 114, 101], [98, 108, 101], [100, 108, 101], [103, 108, 101], [98, 109, 101], [112, 109, 101], [100, 110, 101], [103, 110, 101], [116, 115, 101], [116, 99, 101], [116, 112, 101], [110, 103, 101], [104, 99, 101], [108, 103, 101], [108, 99, 101], [112, 120, 101], [98, 111], [99, 111], [100, 111], [102, 111], [103, 111], [104, 111], [106, 111], [107, 111], [108, 111], [109, 111], [110, 111], [112, 111], [115, 111], [116, 111], [118, 111], [119, 111], [120, 111], [122, 111], [98, 114, 111], [99, 114, 111], [100, 114, 111], [102, 114, 111], [103, 114, 111], [108, 114, 111], [109, 114, 111], [110, 114, 111], [112, 114, 111], [115, 114, 111], [116, 114, 111], [118, 114, 111], [98, 108, 111], [100, 108, 111], [103, 108, 111], [98, 109, 111], [112, 109, 111], [100, 110, 111], [103, 110, 111], [116, 115, 111], [116, 99, 111], [116, 112, 111], [110, 103, 111], [104, 99, 111], [108, 103, 111], [108, 99, 111], [112, 120, 111], [98, 233], [99, 233], [100, 233], [102, 233], [103, 233], [104, 233], [106, 233], [107, 233], [108, 233], [109, 233], [110, 233], [112, 233], [115, 233], [116, 233], [118, 233], [119, 233], [120, 233], [122, 233], [98, 114, 233], [99, 114, 233], [100, 114, 233], [102, 114, 233], [103, 114, 233], [108, 114, 233], [109, 114, 233], [110, 114, 233], [112, 114, 233], [115, 114, 233], [116, 114, 233], [118, 114, 233], [98, 108, 233], [100, 108, 233], [103, 108, 233], [98, 109, 233], [112, 109, 233], [100, 110, 233], [103, 110, 233], [116, 115, 233], [116, 99, 233], [116, 112, 233], [110, 103, 233], [104, 99, 233], [108, 103, 233], [108, 99, 233], [112, 120, 233], [98, 232], [99, 232], [100, 232], [102, 232], [103, 232], [104, 232], [106, 232], [107, 232], [108, 232], [109, 232], [110, 232], [112, 232], [115, 232], [116, 232], [118, 232], [119, 232], [120, 232], [122, 232], [98, 114, 232], [99, 114, 232], [100, 114, 232], [102, 114, 232], [103, 114, 232], [108, 114, 232], [109, 114, 232], [110, 114, 232], [112, 114, 232], [115, 114, 232], [116, 114, 232], [118, 114, 232], [98, 108, 232], [100, 108, 232], [103, 108, 232], [98, 109, 232], [112, 109, 232], [100, 110, 232], [103, 110, 232], [116, 115, 232], [116, 99, 232], [116, 112, 232], [110, 103, 232], [104, 99, 232], [108, 103, 232], [108, 99, 232], [112, 120, 232], [98, 234], [99, 234], [100, 234], [102, 234], [103, 234], [104, 234], [106, 234], [107, 234], [108, 234], [109, 234], [110, 234], [112, 234], [115, 234], [116, 234], [118, 234], [119, 234], [120, 234], [122, 234], [98, 114, 234], [99, 114, 234], [100, 114, 234], [102, 114, 234], [103, 114, 234], [108, 114, 234], [109, 114, 234], [110, 114, 234], [112, 114, 234], [115, 114, 234], [116, 114, 234], [118, 114, 234], [98, 108, 234], [100, 108, 234], [103, 108, 234], [98, 109, 234], [112, 109, 234], [100, 110, 234], [103, 110, 234], [116, 115, 234], [116, 99, 234], [116, 112, 234], [110, 103, 234], [104, 99, 234], [108, 103, 234], [108, 99, 234], [112, 120, 234]]
noncomputable def bad0 (X : List (List Nat)) (y : List Nat) : Bool := match y with
  | [] => false
  | c :: _ => !lasts.contains c || X.contains y || combosR.all fun r => !(y.isPrefixOf r) && !(r.isPrefixOf y)
noncomputable def endT (e : List Nat) : List Nat := ((runP 12 e).getD ([], 0)).1
noncomputable def aStart (t : List Nat) (pv p1 p2 : AV) : AF := ⟨t, .int 0, .pos t.length, .any, .any, .any, pv, p1, p2⟩
noncomputable def aLoc0 : ALoc := [some .self, some (.int 0), some (.int 0), none, none, none, none, none, none, none, none, none]
noncomputable def goAb (P : Pm) (t : List Nat) (pv p1 p2 : AV) : ARes := aExec P 101 (aRun P 101 6) cB1 aLoc0 (aStart t pv p1 p2)
noncomputable def XofE (e : List Nat) : List (List Nat) := if e = [105, 101] ∨ e = [105, 101, 115] then [[103, 111, 108]] else if e = [97, 105, 115] ∨ e = [97, 105, 115, 101] ∨ e = [97, 105, 115, 101, 115] then [[108, 97]] else []
noncomputable def endsAt (r : ARes) (t : List Nat) : Bool := match r with
  | some (.next, m, f) => decide (m.length = 12) && decide (m.at 0 = some .self) && f.cur == t && decide (f.cursor = .pos t.length) && decide (f.limit = .pos t.length) && decide (f.lb = .int 0) && (match m.at 10 with | some (.int _) => true | _ => false)
  | _ => false
noncomputable def tPairs : List (List Nat × List Nat) := [([101, 114], [101, 114]), ([233], [233]), ([233, 101], [233, 101]), ([233, 115], [233, 115]), ([233, 101, 115], [233, 101, 115]), ([101], [101]), ([101, 115], [101, 115]), ([101, 122], [101, 122]), ([97, 110, 116], [97, 110, 116]), ([97, 110, 116, 115], [97, 110, 116, 115]), ([97, 110, 116, 101], [97, 110, 116, 101]), ([97, 110, 116, 101, 115], [97, 110, 116, 101, 115]), ([97, 105, 115], [97, 105, 115]), ([97, 105, 116], [97, 105, 116]), ([97, 105, 101, 110, 116], [97, 73, 101, 110, 116]), ([105, 101, 122], [105, 101, 122]), ([97, 105, 115, 101], [97, 105, 115, 101]), ([97, 105, 115, 101, 115], [97, 105, 115, 101, 115]), ([97, 105], [97, 105]), ([97, 115], [97, 115]), ([97], [97]), ([226, 109, 101, 115], [226, 109, 101, 115]), ([226, 116, 101, 115], [226, 116, 101, 115]), ([232, 114, 101, 110, 116], [232, 114, 101, 110, 116]), ([101, 114, 97, 105], [101, 114, 97, 105]), ([101, 114, 97, 115], [101, 114, 97, 115]), ([101, 114, 97], [101, 114, 97]), ([101, 114, 111, 110, 115], [101, 114, 111, 110, 115]), ([101, 114, 101, 122], [101, 114, 101, 122]), ([101, 114, 111, 110, 116], [101, 114, 111, 110, 116]), ([101, 114, 97, 105, 115], [101, 114, 97, 105, 115]), ([101, 114, 97, 105, 116], [101, 114, 97, 105, 116]), ([101, 114, 105, 111, 110, 115], [101, 114, 105, 111, 110, 115]), ([101, 114, 105, 101, 122], [101, 114, 105, 101, 122]), ([101, 114, 97, 105, 101, 110, 116], [101, 114, 97, 73, 101, 110, 116]), ([97, 115, 115, 101], [97, 115, 115, 101]), ([97, 115, 115, 101, 115], [97, 115, 115, 101, 115]), ([226, 116], [226, 116]), ([97, 115, 115, 105, 111, 110, 115], [97, 115, 115, 105, 111, 110, 115]), ([97, 115, 115, 105, 101, 122], [97, 115, 115, 105, 101, 122]), ([97, 115, 115, 101, 110, 116], [97, 115, 115, 101, 110, 116]), ([101, 97], [101, 97]), ([101, 97, 105], [101, 97, 105]), ([101, 97, 115], [101, 97, 115]), ([101, 226, 109, 101, 115], [101, 226, 109, 101, 115]), ([101, 226, 116, 101, 115], [101, 226, 116, 101, 115]), ([101, 226, 116], [101, 226, 116]), ([101, 97, 110, 116], [101, 97, 110, 116]), ([101, 97, 110, 116, 115], [101, 97, 110, 116, 115]), ([101, 97, 110, 116, 101], [101, 97, 110, 116, 101]), ([101, 97, 110, 116, 101, 115], [101, 97, 110, 116, 101, 115]), ([101, 97, 105, 115], [101, 97, 105, 115]), ([101, 97, 105, 116], [101, 97, 105, 116]), ([101, 97, 105, 101, 110, 116], [101, 97, 73, 101, 110, 116]), ([101, 97, 115, 115, 101], [101, 97, 115, 115, 101]), ([101, 97, 115, 115, 101, 115], [101, 97, 115, 115, 101, 115]), ([101, 97, 115, 115, 105, 111, 110, 115], [101, 97, 115, 115, 105, 111, 110, 115]), ([101, 97, 115, 115, 105, 101, 122], [101, 97, 115, 115, 105, 101, 122]), ([101, 97, 115, 115, 101, 110, 116], [101, 97, 115, 115, 101, 110, 116]), ([105, 114], [105, 114]), ([105], [105]), ([105, 101], [105, 101]), ([105, 115], [105, 115]), ([105, 101, 115], [105, 101, 115]), ([105, 116], [105, 116]), ([105, 115, 115, 111, 110, 115], [105, 115, 115, 111, 110, 115]), ([105, 115, 115, 101, 122], [105, 115, 115, 101, 122]), ([105, 115, 115, 101, 110, 116], [105, 115, 115, 101, 110, 116]), ([105, 115, 115, 97, 105, 115], [105, 115, 115, 97, 105, 115]), ([105, 115, 115, 97, 105, 116], [105, 115, 115, 97, 105, 116]), ([105, 115, 115, 105, 111, 110, 115], [105, 115, 115, 105, 111, 110, 115]), ([105, 115, 115, 105, 101, 122], [105, 115, 115, 105, 101, 122]), ([105, 115, 115, 97, 105, 101, 110, 116], [105, 115, 115, 97, 73, 101, 110, 116]), ([105, 115, 115, 97, 110, 116], [105, 115, 115, 97, 110, 116]), ([105, 115, 115, 97, 110, 116, 101], [105, 115, 115, 97, 110, 116, 101]), ([105, 115, 115, 97, 110, 116, 115], [105, 115, 115, 97, 110, 116, 115]), ([105, 115, 115, 97, 110, 116, 101, 115], [105, 115, 115, 97, 110, 116, 101, 115]), ([238, 109, 101, 115], [238, 109, 101, 115]), ([238, 116, 101, 115], [238, 116, 101, 115]), ([238, 116], [238, 116]), ([105, 114, 101, 110, 116], [105, 114, 101, 110, 116]), ([105, 114, 97, 105], [105, 114, 97, 105]), ([105, 114, 97, 115], [105, 114, 97, 115]), ([105, 114, 97], [105, 114, 97]), ([105, 114, 111, 110, 115], [105, 114, 111, 110, 115]), ([105, 114, 101, 122], [105, 114, 101, 122]), ([105, 114, 111, 110, 116], [105, 114, 111, 110, 116]), ([105, 114, 97, 105, 115], [105, 114, 97, 105, 115]), ([105, 114, 97, 105, 116], [105, 114, 97, 105, 116]), ([105, 114, 105, 111, 110, 115], [105, 114, 105, 111, 110, 115]), ([105, 114, 105, 101, 122], [105, 114, 105, 101, 122]), ([105, 114, 97, 105, 101, 110, 116], [105, 114, 97, 73, 101, 110, 116]), ([105, 115, 115, 101], [105, 115, 115, 101]), ([105, 115, 115, 101, 115], [105, 115, 115, 101, 115]), ([101, 109, 101, 110, 116], [101, 109, 101, 110, 116]), ([101, 109, 101, 110, 116, 115], [101, 109, 101, 110, 116, 115]), ([105, 115, 115, 101, 109, 101, 110, 116], [105, 115, 115, 101, 109, 101, 110, 116]), ([105, 115, 115, 101, 109, 101, 110, 116, 115], [105, 115, 115, 101, 109, 101, 110, 116, 115]), ([97, 109, 109, 101, 110, 116], [97, 109, 109, 101, 110, 116]), ([233, 109, 101, 110, 116], [233, 109, 101, 110, 116]), ([105, 109, 101, 110, 116], [105, 109, 101, 110, 116])]
noncomputable def chk1 (p : List Nat × List Nat) : Bool := endsAt (goAb ⟨4, some lasts, bad0 (XofE p.1)⟩ p.2 (.le (-1)) (.le 0) .any) []
noncomputable def chk2 (e : List Nat) (p2 : AV) : Bool := endsAt (goAb ⟨1, none, fun _ => false⟩ ([108, 111, 103] ++ e) (.le 2) .any p2) [108, 111, 103]
noncomputable def chk3 (e : List Nat) : Bool := endsAt (goAb ⟨2, none, fun _ => false⟩ ([97, 108] ++ e) (.le 1) .any .any) [97, 108]
noncomputable def AV.of (pre : List Nat) : AV → V → Prop
  | .none, v => v = .none
  | .bool b, v => v = .bool b
  | .int i, v => v = .int i
  | .pos c, v => v = .int (pre.length + c)
  | .le c, v => ∃ i : Nat, v = .int i ∧ (i : Int) ≤ pre.length + c
  | .gt c, v => ∃ i : Int, v = .int i ∧ pre.length + c < i
  | .any, v => ∃ i : Int, v = .int i
  | .str s, v => v = .str s
  | .tail t, v => v = .str (pre ++ t)
  | .chr, v => ∃ x, pre.getLast? = some x ∧ v = .str [x]
  | .self, v => v = .self
  | .cst k, v => v = kap k
structure FOf (pre : List Nat) (a : AF) (f : F) : Prop where
  cur : f.current = pre ++ a.cur
  cursor : a.cursor.of pre (.int f.cursor)
  limit : a.limit.of pre (.int f.limit)
  lb : a.lb.of pre (.int f.lb)
  bra : a.bra.of pre (.int f.bra)
  ket : a.ket.of pre (.int f.ket)
  pv : a.pv.of pre (.int f.pv)
  p1 : a.p1.of pre (.int f.p1)
  p2 : a.p2.of pre (.int f.p2)
structure LOf (pre : List Nat) (m : ALoc) (l : Loc) : Prop where
  len : m.length = l.length
  at' : ∀ x v, m.at x = some v → ∃ w, l.at x = some w ∧ v.of pre w
structure POk (P : Pm) (pre : List Nat) : Prop where
  nmin : P.nmin ≤ pre.length
  few : pre.length ≤ 400
  la : ∀ l, P.la = some l → ∃ x ∈ l, pre.getLast? = some x
  bad : ∀ y, P.bad y = true → y.isPrefixOf pre.reverse = false
section
variable {P : Pm} {pre : List Nat}
noncomputable def Ro {α β : Type} (R : α → β → Prop) (a : Option α) (b : Option β) : Prop := ∀ v, a = some v → ∃ w, b = some w ∧ R v w
section
variable {α β γ δ : Type} {R : α → β → Prop} {S : γ → δ → Prop} {a a' : Option α} {b b' : Option β}
theorem ro_none : Ro R none b := fun _ h => no_none h
theorem ro_some {v : α} {w : β} (r : R v w) : Ro R (some v) (some w) := fun _ h => ⟨w, rfl, Option.some.inj h ▸ r⟩
theorem ro_bind {g : α → Option γ} {k : β → Option δ} (h : Ro R a b) (q : ∀ v w, R v w → Ro S (g v) (k w)) : Ro S (a.bind g) (b.bind k) := by
  cases a with
  | none => exact ro_none
  | some v => obtain ⟨w, rfl, r⟩ := h v rfl; exact q v w r
theorem ro_map {g : α → γ} {k : β → δ} (h : Ro R a b) (q : ∀ v w, R v w → S (g v) (k w)) : Ro S (a.map g) (b.map k) := by
  cases a with
  | none => exact ro_none
  | some v => obtain ⟨w, rfl, r⟩ := h v rfl; exact ro_some (q v w r)
theorem ro_if {c d : Prop} [Decidable c] [Decidable d] (cd : c → d) (h : c → Ro R a b) : Ro R (if c then a else none) (if d then b else none) := by
  by_cases q : c
  · rw [if_pos q, if_pos (cd q)]; exact h q
  · rw [if_neg q]; exact ro_none
theorem ro_ite {c d : Bool} (e : c = d) (h : Ro R a b) (h' : Ro R a' b') : Ro R (if c then a else a') (if d then b else b') := by
  subst e; cases c
  · exact h'
  · exact h
theorem ro_ifl {c : Prop} [Decidable c] (h : c → Ro R a b) (h' : ¬c → Ro R a' b) : Ro R (if c then a else a') b := by
  by_cases q : c
  · rw [if_pos q]; exact h q
  · rw [if_neg q]; exact h' q
theorem ro_eq {o : Option α} : Ro Eq o o := fun v e => ⟨v, e, rfl⟩
end
theorem aAdd_ok {a b : AV} {x y : V} (hp : POk P pre) (ha : a.of pre x) (hb : b.of pre y) : Ro (AV.of pre) (aAdd a b) (addV x y) := by
  have := hp.few
  cases a <;> first | exact ro_none | skip
  all_goals (cases b <;> first | exact ro_none | skip)
  all_goals (cases ha; cases hb)
  · exact ro_some rfl
  · exact ro_some (congrArg V.int (Int.add_assoc _ _ _))
  · exact ro_if (fun q => Nat.le_trans q (by decide)) fun _ => ro_some rfl
  · exact ro_if (fun q => by rw [List.length_append]; lia) fun _ => ro_some (congrArg V.str (List.append_assoc _ _ _))
theorem aSub_ok {a b : AV} {x y : V} (ha : a.of pre x) (hb : b.of pre y) : Ro (AV.of pre) (aSub a b) (subV x y) := by
  cases a <;> first | exact ro_none | skip
  all_goals (cases b <;> first | exact ro_none | skip)
  all_goals (cases ha; cases hb; refine ro_some (congrArg V.int ?_); lia)
theorem aIdx_ok {a b : AV} {x y : V} (hp : POk P pre) (ha : a.of pre x) (hb : b.of pre y) : Ro (AV.of pre) (aIdx P a b) (idxV x y) := by
  cases a <;> first | exact ro_none | skip
  cases b <;> first | exact ro_none | skip
  rename_i t p
  cases ha; cases hb
  refine ro_ifl (fun h0 => ?_) fun h0 => ro_ifl (fun h1 => ?_) fun _ => ro_none
  · show Ro _ _ (if 0 ≤ (pre.length : Int) + p then ((pre ++ t)[((pre.length : Int) + p).toNat]?).map (fun c => V.str [c]) else Option.none)
    rw [if_pos (by lia), show ((pre.length : Int) + p).toNat = pre.length + p.toNat by lia, List.getElem?_append_right (Nat.le_add_right _ _), Nat.add_sub_cancel_left]
    exact ro_map ro_eq fun v w e => e ▸ rfl
  · show Ro _ _ (if 0 ≤ (pre.length : Int) + p then ((pre ++ t)[((pre.length : Int) + p).toNat]?).map (fun c => V.str [c]) else Option.none)
    cases hl : P.la with
    | none => exact ro_none
    | some l =>
      obtain ⟨e, -, hx⟩ := hp.la l hl
      have hlen : 0 < pre.length := List.length_pos_iff.mpr (by rintro rfl; cases hx)
      rw [if_pos (by lia), show ((pre.length : Int) + p).toNat = pre.length - 1 by lia, List.getElem?_append_left (by lia), ← List.getLast?_eq_getElem?, hx]
      exact ro_some ⟨e, hx, rfl⟩
theorem aCut_ok {a b c : AV} {x y z : V} (ha : a.of pre x) (hb : b.of pre y) (hc : c.of pre z) : Ro (AV.of pre) (aCut a b c) (cutV x y z) := by
  cases a <;> first | exact ro_none | skip
  cases b <;> first | exact ro_none | skip
  cases c <;> first | exact ro_none | skip
  rename_i t i p
  cases ha; cases hb; cases hc
  refine ro_if (fun q => ⟨by lia, by lia, by rw [List.length_append]; lia⟩) fun q => ro_some ?_
  show V.str _ = V.str _
  rw [q.1, show ((pre.length : Int) + p - 0).toNat = pre.length + p.toNat by lia, show (0 : Int).toNat = 0 from rfl, List.drop_zero, take_app]
theorem aCutL_ok {a b : AV} {x y : V} (ha : a.of pre x) (hb : b.of pre y) : Ro (AV.of pre) (aCutL a b) (cutLV x y) := by
  cases a <;> first | exact ro_none | skip
  cases b <;> first | exact ro_none | skip
  rename_i t p
  cases ha; cases hb
  refine ro_if (fun q => ⟨by lia, by rw [List.length_append]; lia⟩) fun q => ro_some ?_
  show V.str _ = V.str _
  rw [show ((pre.length : Int) + p).toNat = pre.length + p.toNat by lia, drop_app]
theorem aLen_ok {a : AV} {x : V} (ha : a.of pre x) : Ro (AV.of pre) (aLen a) (lenV x) := by
  cases a <;> first | exact ro_none | skip
  all_goals (cases ha; refine ro_some ?_; first | rfl | (show V.int _ = V.int _; refine congrArg V.int ?_; rw [List.length_append]; lia))
theorem suf_iff (a b : List Nat) : a.isSuffixOf b = true ↔ a <:+ b := List.isSuffixOf_iff_suffix
theorem aEnds_ok {a b : AV} {x y : V} (ha : a.of pre x) (hb : b.of pre y) : Ro (AV.of pre) (aEnds a b) (endsV x y) := by
  cases a <;> first | exact ro_none | skip
  cases b <;> first | exact ro_none | skip
  rename_i t s
  cases ha; cases hb
  refine ro_ifl (fun q => ro_some ?_) fun q => ro_ifl (fun _ => ro_none) fun q2 => ro_some ?_
  · refine congrArg V.bool ?_
    rw [Bool.eq_iff_iff, suf_iff, suf_iff]
    exact ⟨fun k => List.suffix_of_suffix_length_le k (List.suffix_append pre t) q, fun k => k.trans (List.suffix_append pre t)⟩
  · refine congrArg V.bool ?_
    rw [Bool.eq_false_iff]
    intro k
    rw [suf_iff] at k
    exact q2 ((suf_iff _ _).mpr (List.suffix_of_suffix_length_le (List.suffix_append pre t) k (by lia)))
theorem cmp_same {o : Cmp} {i j a b : Int} (lt : i < j ↔ a < b) (eq : i = j ↔ a = b) : cmpV o (.int i) (.int j) = cmpV o (.int a) (.int b) := by
  cases o <;> first | rfl | exact congrArg some (decide_eq_decide.mpr (by lia)) | exact congrArg (fun z => some (!z)) (decide_eq_decide.mpr eq)
theorem ordG_ok {o : Cmp} {i j : Int} (hij : i > j) : Ro Eq (ordG o) (cmpV o (.int i) (.int j)) := by
  rw [cmp_same (o := o) (a := 1) (b := 0) (by lia) (by lia)]
  cases o <;> first | exact ro_none | exact ro_some rfl
theorem ordGe_ok {o : Cmp} {i j : Int} (hij : i ≥ j) : Ro Eq (ordGe o) (cmpV o (.int i) (.int j)) := by
  cases o <;> first | exact ro_none | skip
  · exact ro_some (decide_eq_false (by lia)).symm
  · exact ro_some (decide_eq_true (by lia)).symm
theorem ordL_ok {o : Cmp} {i j : Int} (hij : i < j) : Ro Eq (ordL o) (cmpV o (.int i) (.int j)) := by
  rw [cmp_same (o := o) (a := 0) (b := 1) (by lia) (by lia)]
  cases o <;> first | exact ro_none | exact ro_some rfl
theorem ordLe_ok {o : Cmp} {i j : Int} (hij : i ≤ j) : Ro Eq (ordLe o) (cmpV o (.int i) (.int j)) := by
  cases o <;> first | exact ro_none | skip
  · exact ro_some (decide_eq_true (by lia)).symm
  · exact ro_some (decide_eq_false (by lia)).symm
theorem kap_set {k : Cst} (h : isSet k = true) : kap k = .set (setOf (kap k)) := by
  cases k <;> first | rfl | exact no_none h | exact no_false h | cases h
theorem chr_str {o : Cmp} {l : List Nat} {s : List Nat} {x : Nat} (hx : x ∈ l) :
    Ro Eq (if l.all (fun x => !(([x] : List Nat) == s)) then (match o with | .eq => some false | .ne => some true | _ => Option.none) else Option.none) (cmpV o (.str [x]) (.str s)) := by
  refine ro_ifl (fun q => ?_) fun _ => ro_none
  have q1 : ([x] == s) = false := (Bool.not_eq_true' _).mp (List.all_eq_true.mp q x hx)
  cases o <;> first | exact ro_none | skip
  · exact ro_some q1.symm
  · exact ro_some (congrArg (!·) q1).symm
theorem chr_set {o : Cmp} {l t : List Nat} {x : Nat} (hx : x ∈ l) :
    Ro Eq (if l.all (fun x => !t.contains x) then (match o with | .isin => some false | .notin => some true | _ => Option.none)
      else if l.all (fun x => t.contains x) then (match o with | .isin => some true | .notin => some false | _ => Option.none) else Option.none) (cmpV o (.str [x]) (.set t)) := by
  refine ro_ifl (fun q => ?_) fun _ => ro_ifl (fun q => ?_) fun _ => ro_none
  · have q1 : t.contains x = false := (Bool.not_eq_true' _).mp (List.all_eq_true.mp q x hx)
    cases o <;> first | exact ro_none | skip
    · exact ro_some q1.symm
    · exact ro_some (congrArg (!·) q1).symm
  · have q1 : t.contains x = true := List.all_eq_true.mp q x hx
    cases o <;> first | exact ro_none | skip
    · exact ro_some q1.symm
    · exact ro_some (congrArg (!·) q1).symm
theorem aCmp_ok {o : Cmp} {a b : AV} {x y : V} (hp : POk P pre) (ha : a.of pre x) (hb : b.of pre y) : Ro Eq (aCmp P o a b) (cmpV o x y) := by
  have hn := hp.nmin
  cases a <;> first | exact ro_none | skip
  all_goals (cases b <;> first | exact ro_none | skip)
  · cases ha; cases hb; exact ro_eq
  · cases ha; cases hb; exact ro_ifl (fun q => ordG_ok (by lia)) fun _ => ro_none
  · cases ha; cases hb; rename_i c1 c2; rw [cmp_same (o := o) (i := pre.length + c1) (j := pre.length + c2) (a := c1) (b := c2) (by lia) (by lia)]; exact ro_eq
  · cases ha; obtain ⟨i, rfl, hi⟩ := hb
    exact ro_ifl (fun q => ordG_ok (by lia)) fun _ => ro_ifl (fun q => ordGe_ok (by lia)) fun _ => ro_none
  · cases hb; obtain ⟨i, rfl, hi⟩ := ha
    exact ro_ifl (fun q => ordL_ok (by lia)) fun _ => ro_ifl (fun q => ordLe_ok (by lia)) fun _ => ro_none
  · cases hb; obtain ⟨i, rfl, hi⟩ := ha
    exact ro_ifl (fun q => ordG_ok (by lia)) fun _ => ro_none
  · cases ha; cases hb; exact ro_eq
  · cases ha; cases hb
    rename_i s k
    rcases s with _ | ⟨c, _ | ⟨d, s⟩⟩
    · exact ro_none
    · exact ro_ifl (fun _ => ro_eq) fun _ => ro_none
    · exact ro_none
  · cases hb; obtain ⟨c, hc, rfl⟩ := ha
    show Ro Eq (match P.la with | some l => _ | Option.none => Option.none) _
    cases hl : P.la with
    | none => exact ro_none
    | some l =>
      obtain ⟨x, hx, hx2⟩ := hp.la l hl
      rw [hc] at hx2; cases hx2
      exact chr_str hx
  · cases hb; obtain ⟨c, hc, rfl⟩ := ha
    refine ro_ifl (fun hs => ?_) fun _ => ro_none
    cases hl : P.la with
    | none => exact ro_none
    | some l =>
      obtain ⟨x, hx, hx2⟩ := hp.la l hl
      rw [hc] at hx2; cases hx2
      rw [kap_set hs]
      exact chr_set hx
theorem get_ok {af : AF} {f : F} (hf : FOf pre af f) (a : Fld) : (af.get a).of pre (f.get a) := by
  cases a
  · show V.str f.current = V.str (pre ++ af.cur); rw [hf.cur]
  · exact hf.cursor
  · exact hf.limit
  · exact hf.lb
  · exact hf.bra
  · exact hf.ket
  · exact hf.pv
  · exact hf.p1
  · exact hf.p2
theorem num_int {v : AV} {w : V} (h : v.num = true) (hv : v.of pre w) : ∃ i, w = .int i := by
  cases v <;> first | exact no_false h | skip
  · exact ⟨_, hv⟩
  · exact ⟨_, hv⟩
  · exact hv.elim fun i h => ⟨_, h.1⟩
  · exact hv.elim fun i h => ⟨_, h.1⟩
  · exact hv
theorem put_num {af ag : AF} {f : F} {g : Int → F} {a : Fld} {v : AV} {w : V} (hv : v.of pre w) (hg : ∀ i, f.put a (.int i) = some (g i)) (k : ∀ i, v.of pre (.int i) → FOf pre ag (g i)) : Ro (FOf pre) (if v.num then some ag else Option.none) (f.put a w) := by
  refine ro_ifl (fun q => ?_) fun _ => ro_none
  obtain ⟨i, rfl⟩ := num_int q hv
  rw [hg]
  exact ro_some (k i hv)
theorem put_ok {af : AF} {f : F} {a : Fld} {v : AV} {w : V} (hf : FOf pre af f) (hv : v.of pre w) : Ro (FOf pre) (af.put a v) (f.put a w) := by
  cases a
  · cases v <;> first | exact ro_none | skip
    cases hv
    exact ro_some { hf with cur := rfl }
  · exact put_num (af := af) hv (fun _ => rfl) fun _ h => { hf with cursor := h }
  · exact put_num (af := af) hv (fun _ => rfl) fun _ h => { hf with limit := h }
  · exact put_num (af := af) hv (fun _ => rfl) fun _ h => { hf with lb := h }
  · exact put_num (af := af) hv (fun _ => rfl) fun _ h => { hf with bra := h }
  · exact put_num (af := af) hv (fun _ => rfl) fun _ h => { hf with ket := h }
  · exact put_num (af := af) hv (fun _ => rfl) fun _ h => { hf with pv := h }
  · exact put_num (af := af) hv (fun _ => rfl) fun _ h => { hf with p1 := h }
  · exact put_num (af := af) hv (fun _ => rfl) fun _ h => { hf with p2 := h }
inductive AOf (pre : List Nat) : List AV → List V → Prop
  | nil : AOf pre [] []
  | cons {a v as vs} : a.of pre v → AOf pre as vs → AOf pre (a :: as) (v :: vs)
theorem AOf.len {as : List AV} {vs : List V} (h : AOf pre as vs) : as.length = vs.length := by
  induction h with
  | nil => rfl
  | cons _ _ ih => simp [ih]
noncomputable def EOf (pre : List Nat) (x : AV × AF) (y : V × F) : Prop := x.1.of pre y.1 ∧ FOf pre x.2 y.2
noncomputable def BOf (pre : List Nat) (x : Bool × AF) (y : Bool × F) : Prop := x.1 = y.1 ∧ FOf pre x.2 y.2
noncomputable def MuOk (pre : List Nat) (μ' : AMu) (μ : Mu) : Prop := ∀ n as vs af f, AOf pre as vs → FOf pre af f → Ro (EOf pre) (μ' n as af) (μ n vs f)
theorem self_ok {m : ALoc} {l : Loc} (hl : LOf pre m l) (h : m.at 0 = some .self) : l.at 0 = some .self := by
  obtain ⟨w, h1, h2⟩ := hl.at' 0 _ h
  rw [h1]; cases h2; rfl
theorem eval_ok {μ' : AMu} {μ : Mu} (hp : POk P pre) (hμ : MuOk pre μ' μ) {m : ALoc} {l : Loc} (hl : LOf pre m l) (e : CE) : ∀ (af : AF) (f : F), FOf pre af f → Ro (EOf pre) (aEval P μ' m e af) (evalE μ kap l e f) := by
  induction e with
  | int n => exact fun _ _ hf => ro_some ⟨rfl, hf⟩
  | neg n => exact fun _ _ hf => ro_some ⟨rfl, hf⟩
  | str s => exact fun _ _ hf => ro_some ⟨rfl, hf⟩
  | bool b => exact fun _ _ hf => ro_some ⟨rfl, hf⟩
  | cst k => exact fun _ _ hf => ro_some ⟨rfl, hf⟩
  | loc x => exact fun _ _ hf => ro_map (hl.at' x) fun _ _ r => ⟨r, hf⟩
  | fld a => exact fun _ _ hf => ro_if (self_ok hl) fun _ => ro_some ⟨get_ok hf a, hf⟩
  | add a b iha ihb => exact fun _ _ hf => ro_bind (iha _ _ hf) fun _ _ r => ro_bind (ihb _ _ r.2) fun _ _ q => ro_map (aAdd_ok hp r.1 q.1) fun _ _ o => ⟨o, q.2⟩
  | sub a b iha ihb => exact fun _ _ hf => ro_bind (iha _ _ hf) fun _ _ r => ro_bind (ihb _ _ r.2) fun _ _ q => ro_map (aSub_ok r.1 q.1) fun _ _ o => ⟨o, q.2⟩
  | idx a b iha ihb => exact fun _ _ hf => ro_bind (iha _ _ hf) fun _ _ r => ro_bind (ihb _ _ r.2) fun _ _ q => ro_map (aIdx_ok hp r.1 q.1) fun _ _ o => ⟨o, q.2⟩
  | cutL a b iha ihb => exact fun _ _ hf => ro_bind (iha _ _ hf) fun _ _ r => ro_bind (ihb _ _ r.2) fun _ _ q => ro_map (aCutL_ok r.1 q.1) fun _ _ o => ⟨o, q.2⟩
  | ends a b iha ihb => exact fun _ _ hf => ro_bind (iha _ _ hf) fun _ _ r => ro_bind (ihb _ _ r.2) fun _ _ q => ro_map (aEnds_ok r.1 q.1) fun _ _ o => ⟨o, q.2⟩
  | cmp o a b iha ihb => exact fun _ _ hf => ro_bind (iha _ _ hf) fun _ _ r => ro_bind (ihb _ _ r.2) fun _ _ q => ro_map (aCmp_ok hp r.1 q.1) fun _ _ e => ⟨congrArg V.bool e.symm, q.2⟩
  | cut a b c iha ihb ihc => exact fun _ _ hf => ro_bind (iha _ _ hf) fun _ _ r => ro_bind (ihb _ _ r.2) fun _ _ q => ro_bind (ihc _ _ q.2) fun _ _ t => ro_map (aCut_ok r.1 q.1 t.1) fun _ _ o => ⟨o, t.2⟩
  | len a iha => exact fun _ _ hf => ro_bind (iha _ _ hf) fun _ _ r => ro_map (aLen_ok r.1) fun _ _ o => ⟨o, r.2⟩
  | call0 n => exact fun _ _ hf => ro_if (self_ok hl) fun _ => hμ n _ _ _ _ .nil hf
  | call1 n a iha => exact fun _ _ hf => ro_if (self_ok hl) fun _ => ro_bind (iha _ _ hf) fun _ _ r => hμ n _ _ _ _ (.cons r.1 .nil) r.2
  | call3 n a b c iha ihb ihc => exact fun _ _ hf => ro_if (self_ok hl) fun _ => ro_bind (iha _ _ hf) fun _ _ r => ro_bind (ihb _ _ r.2) fun _ _ q => ro_bind (ihc _ _ q.2) fun _ _ t => hμ n _ _ _ _ (.cons r.1 (.cons q.1 (.cons t.1 .nil))) t.2
  | _ => exact fun _ _ _ => ro_none
theorem bool_ok {x : AV × AF} {y : V × F} (h : EOf pre x y) : Ro (BOf pre) (match x.1 with | .bool b => some (b, x.2) | _ => Option.none) (match y.1 with | .bool b => some (b, y.2) | _ => Option.none) := by
  obtain ⟨v, af⟩ := x
  obtain ⟨w, f⟩ := y
  cases v <;> first | exact ro_none | skip
  cases h.1
  exact ro_some ⟨rfl, h.2⟩
theorem test_ok {μ' : AMu} {μ : Mu} (hp : POk P pre) (hμ : MuOk pre μ' μ) {m : ALoc} {l : Loc} (hl : LOf pre m l) (t : CT) : ∀ (af : AF) (f : F), FOf pre af f → Ro (BOf pre) (aTest P μ' m t af) (test μ kap l t f) := by
  induction t with
  | not t ih => exact fun _ _ hf => ro_map (ih _ _ hf) fun _ _ r => ⟨congrArg (!·) r.1, r.2⟩
  | or s t ihs iht => exact fun _ _ hf => ro_bind (ihs _ _ hf) fun _ _ r => ro_ite r.1 (ro_some ⟨rfl, r.2⟩) (iht _ _ r.2)
  | cmp o a b => exact fun _ _ hf => ro_bind (eval_ok hp hμ hl a _ _ hf) fun _ _ r => ro_bind (eval_ok hp hμ hl b _ _ r.2) fun _ _ q => ro_map (aCmp_ok hp r.1 q.1) fun _ _ e => ⟨e, q.2⟩
  | ex e => exact fun _ _ hf => ro_bind (eval_ok hp hμ hl e _ _ hf) fun _ _ r => bool_ok r
inductive OOf (pre : List Nat) : AO → O → Prop
  | next : OOf pre .next .next
  | brk : OOf pre .brk .brk
  | cont : OOf pre .cont .cont
  | ret {v w} : v.of pre w → OOf pre (.ret v) (.ret w)
  | exc {n} : OOf pre (.exc n) (.exc n)
noncomputable def TOf (pre : List Nat) (x : AO × ALoc × AF) (y : O × Loc × F) : Prop := OOf pre x.1 y.1 ∧ LOf pre x.2.1 y.2.1 ∧ FOf pre x.2.2 y.2.2
noncomputable abbrev ROf (pre : List Nat) (a : ARes) (r : Res) : Prop := Ro (TOf pre) a r
noncomputable def KOf (pre : List Nat) (ka : ALoc → AF → ARes) (k : Loc → F → Res) : Prop := ∀ m af l f, LOf pre m l → FOf pre af f → ROf pre (ka m af) (k l f)
theorem then_ok {a : ARes} {r : Res} {ka : ALoc → AF → ARes} {k : Loc → F → Res} (h : ROf pre a r) (hk : KOf pre ka k) : ROf pre (aThen a ka) (andThen r k) := by
  rcases a with _ | ⟨o, m, af⟩
  · exact ro_none
  · obtain ⟨⟨o', l, f⟩, rfl, ho, hl, hf⟩ := h _ rfl
    cases ho with
    | next => exact hk _ _ _ _ hl hf
    | brk => exact ro_some ⟨.brk, hl, hf⟩
    | cont => exact ro_some ⟨.cont, hl, hf⟩
    | ret q => exact ro_some ⟨.ret q, hl, hf⟩
    | exc => exact ro_some ⟨.exc, hl, hf⟩
theorem turned_ok {a : ARes} {r : Res} {ka : ALoc → AF → ARes} {k : Loc → F → Res} (h : ROf pre a r) (hk : KOf pre ka k) : ROf pre (aTurned a ka) (turned r k) := by
  rcases a with _ | ⟨o, m, af⟩
  · exact ro_none
  · obtain ⟨⟨o', l, f⟩, rfl, ho, hl, hf⟩ := h _ rfl
    cases ho with
    | next => exact hk _ _ _ _ hl hf
    | brk => exact ro_some ⟨.next, hl, hf⟩
    | cont => exact hk _ _ _ _ hl hf
    | ret q => exact ro_some ⟨.ret q, hl, hf⟩
    | exc => exact ro_some ⟨.exc, hl, hf⟩
theorem caught_ok {a : ARes} {r : Res} {n : Nat} {ka : ALoc → AF → ARes} {k : Loc → F → Res} (h : ROf pre a r) (hk : KOf pre ka k) : ROf pre (aCaught n a ka) (caught n r k) := by
  rcases a with _ | ⟨o, m, af⟩
  · exact ro_none
  · obtain ⟨⟨o', l, f⟩, rfl, ho, hl, hf⟩ := h _ rfl
    cases ho with
    | next => exact hk _ _ _ _ hl hf
    | brk => exact ro_some ⟨.brk, hl, hf⟩
    | cont => exact ro_some ⟨.cont, hl, hf⟩
    | ret q => exact ro_some ⟨.ret q, hl, hf⟩
    | exc => exact ro_if (fun q => q) fun _ => hk _ _ _ _ hl hf
theorem loop_ok {ta : ALoc → AF → Option (Bool × AF)} {t : Loc → F → Option (Bool × F)} {ba : ALoc → AF → ARes} {b : Loc → F → Res}
    (ht : ∀ m af l f, LOf pre m l → FOf pre af f → Ro (BOf pre) (ta m af) (t l f)) (hb : KOf pre ba b) (n : Nat) : KOf pre (aLoop ta ba n) (loop t b n) := by
  induction n with
  | zero => exact fun _ _ _ _ _ _ => ro_none
  | succ n ih => exact fun m af l f hl hf => ro_bind (ht _ _ _ _ hl hf) fun _ _ r => ro_ite r.1 (turned_ok (hb _ _ _ _ hl r.2) ih) (ro_some ⟨.next, hl, r.2⟩)
theorem LOf.set {m : ALoc} {l : Loc} (h : LOf pre m l) (x : Nat) {v : AV} {w : V} (hv : v.of pre w) : LOf pre (m.set x (some v)) (l.set x (some w)) := by
  refine ⟨by rw [List.length_set, List.length_set, h.len], fun y u hu => ?_⟩
  unfold ALoc.at at hu
  unfold Loc.at
  rw [List.getD_eq_getElem?_getD, List.getElem?_set] at hu ⊢
  by_cases q : x = y
  · rw [if_pos q] at hu ⊢
    by_cases q2 : y < m.length
    · have q3 : y < l.length := h.len ▸ q2
      subst q
      rw [if_pos q2] at hu; rw [if_pos q3]
      cases hu
      exact ⟨w, rfl, hv⟩
    · subst q
      rw [if_neg q2] at hu; cases hu
  · rw [if_neg q] at hu ⊢
    have := h.at' y u (by unfold ALoc.at; rw [List.getD_eq_getElem?_getD]; exact hu)
    unfold Loc.at at this
    rw [List.getD_eq_getElem?_getD] at this
    exact this
theorem opr_ok (hp : POk P pre) (p : Bool) {a b : AV} {x y : V} (ha : a.of pre x) (hb : b.of pre y) : Ro (AV.of pre) (if p then aAdd a b else aSub a b) (if p then addV x y else subV x y) := ro_ite rfl (aAdd_ok hp ha hb) (aSub_ok ha hb)
theorem exec_ok {N : Nat} {μ' : AMu} {μ : Mu} (hp : POk P pre) (hμ : MuOk pre μ' μ) (c : C) : KOf pre (aExec P N μ' c) (exec N μ kap c) := by
  induction c with
  | nil => exact fun _ _ _ _ hl hf => ro_some ⟨.next, hl, hf⟩
  | pass k ih => exact ih
  | brk k => exact fun _ _ _ _ hl hf => ro_some ⟨.brk, hl, hf⟩
  | cont k => exact fun _ _ _ _ hl hf => ro_some ⟨.cont, hl, hf⟩
  | ret e k => exact fun _ _ _ _ hl hf => ro_map (eval_ok hp hμ hl e _ _ hf) fun _ _ r => ⟨.ret r.1, hl, r.2⟩
  | expr e k ih => exact fun _ _ _ _ hl hf => ro_bind (eval_ok hp hμ hl e _ _ hf) fun _ _ r => ih _ _ _ _ hl r.2
  | setl x e k ih => exact fun _ _ _ _ hl hf => ro_bind (eval_ok hp hμ hl e _ _ hf) fun _ _ r => ro_if (fun q => hl.len ▸ q) fun _ => ih _ _ _ _ (hl.set x r.1) r.2
  | setf a e k ih => exact fun _ _ _ _ hl hf => ro_bind (eval_ok hp hμ hl e _ _ hf) fun _ _ r => ro_if (self_ok hl) fun _ => ro_bind (put_ok r.2 r.1) fun _ _ F => ih _ _ _ _ hl F
  | augl x p e k ih => exact fun _ _ _ _ hl hf => ro_bind (hl.at' x) fun _ _ o => ro_bind (eval_ok hp hμ hl e _ _ hf) fun _ _ r => ro_bind (opr_ok hp p o r.1) fun _ _ o => ro_if (fun q => hl.len ▸ q) fun _ => ih _ _ _ _ (hl.set x o) r.2
  | augf a p e k ih => exact fun _ _ _ _ hl hf => ro_if (self_ok hl) fun _ => ro_bind (eval_ok hp hμ hl e _ _ hf) fun _ _ r => ro_bind (opr_ok hp p (get_ok hf a) r.1) fun _ _ o => ro_bind (put_ok r.2 o) fun _ _ F => ih _ _ _ _ hl F
  | ite t a b k iha ihb ihk => exact fun _ _ _ _ hl hf => ro_bind (test_ok hp hμ hl t _ _ hf) fun _ _ r => then_ok (ro_ite r.1 (iha _ _ _ _ hl r.2) (ihb _ _ _ _ hl r.2)) ihk
  | wh t c k ihc ihk => exact fun _ _ _ _ hl hf => then_ok (loop_ok (fun _ _ _ _ hl hf => test_ok hp hμ hl t _ _ hf) ihc N _ _ _ _ hl hf) ihk
  | asrt t k ih => exact fun _ _ _ _ hl hf => ro_bind (test_ok hp hμ hl t _ _ hf) fun _ _ r => ro_ite r.1 (ih _ _ _ _ hl r.2) ro_none
  | raise n k => exact fun _ _ _ _ hl hf => ro_some ⟨.exc, hl, hf⟩
  | tryc n c k ihc ihk => exact fun _ _ _ _ hl hf => caught_ok (ihc _ _ _ _ hl hf) ihk
  | forU x lo hi c k => exact fun _ _ _ _ _ _ => ro_none
  | forD x hi c k => exact fun _ _ _ _ _ _ => ro_none
end
theorem combosR_eq : combosR = tVows.flatMap fun v => tCloses.map fun c => (v :: c).reverse := by decide +kernel
theorem tPairs_eq : tPairs = tEnds.map fun e => (e, endT e) := by decide +kernel
theorem all_cut {α : Type} {p : α → Bool} {l : List α} (n : Nat) (h : (l.take n).all p = true) (k : (l.drop n).all p = true) : l.all p = true := by
  rw [← List.take_append_drop n l, List.all_append, h, k]; rfl
theorem chk1_0 : (((tPairs.drop 0).take 13).all chk1) = true := by decide +kernel
theorem chk1_1 : (((tPairs.drop 13).take 13).all chk1) = true := by decide +kernel
theorem chk1_2 : (((tPairs.drop 26).take 13).all chk1) = true := by decide +kernel
theorem chk1_3 : (((tPairs.drop 39).take 13).all chk1) = true := by decide +kernel
theorem chk1_4 : (((tPairs.drop 52).take 13).all chk1) = true := by decide +kernel
theorem chk1_5 : (((tPairs.drop 65).take 13).all chk1) = true := by decide +kernel
theorem chk1_6 : (((tPairs.drop 78).take 13).all chk1) = true := by decide +kernel
theorem chk1_7 : (((tPairs.drop 91).take 13).all chk1) = true := by decide +kernel
theorem pairs_cut {p : (List Nat × List Nat) → Bool} (a b : Nat) (h : ((tPairs.drop a).take b).all p = true) (k : (tPairs.drop (a + b)).all p = true) : (tPairs.drop a).all p = true := all_cut b h (by rw [List.drop_drop]; exact k)
theorem chk1_pairs : (tPairs.all chk1) = true := pairs_cut 0 13 chk1_0 (pairs_cut 13 13 chk1_1 (pairs_cut 26 13 chk1_2 (pairs_cut 39 13 chk1_3 (pairs_cut 52 13 chk1_4 (pairs_cut 65 13 chk1_5 (pairs_cut 78 13 chk1_6 (pairs_cut 91 13 chk1_7 (show (tPairs.drop 104).all chk1 = true by decide +kernel))))))))
theorem chk2_all : ([[105, 101], [105, 101, 115]].all fun e => endT e == e && chk2 e (.le 0) && chk2 e (.gt 0)) = true := by decide +kernel
theorem chk3_all : ([[97, 105, 115], [97, 105, 115, 101], [97, 105, 115, 101, 115]].all fun e => endT e == e && chk3 e) = true := by decide +kernel
theorem chk1_all {e : List Nat} (he : e ∈ tEnds) : chk1 (e, endT e) = true := List.all_eq_true.mp chk1_pairs _ (by rw [tPairs_eq]; exact List.mem_map.mpr ⟨e, he, rfl⟩)
theorem best_congr {key : List Nat → List Nat} {u u' : List Nat} : ∀ {t : List AM}, (∀ a ∈ t, (key a.1).isPrefixOf u = (key a.1).isPrefixOf u') → best key u t = best key u' t
  | [], _ => rfl
  | a :: t, h => by
    rw [best, best, best_congr (t := t) fun b hb => h b (List.mem_cons_of_mem _ hb), h a List.mem_cons_self]
theorem rdB_of {W : List Nat} {c l : Nat} (h1 : l ≤ c) (h2 : c ≤ W.length) : RdB W c l ((W.take c).drop l).reverse := by
  have hl : ((W.take c).drop l).length = c - l := by rw [List.length_drop, List.length_take, Nat.min_eq_left h2]
  refine ⟨h1, by rw [List.length_reverse, hl], fun j hj => ?_⟩
  rw [List.length_reverse, hl] at hj
  rw [List.getElem?_reverse (by rw [hl]; exact hj), hl, List.getElem?_drop]
  clear hl
  rw [List.getElem?_take_of_lt (by lia)]
  congr 1; lia
theorem pre_of_take {x y : List Nat} {n : Nat} : x.isPrefixOf (y.take n) = true ↔ x.isPrefixOf y = true ∧ x.length ≤ n := by
  rw [List.isPrefixOf_iff_prefix, List.isPrefixOf_iff_prefix]
  constructor
  · intro h
    refine ⟨h.trans (List.take_prefix n y), ?_⟩
    have := h.length_le
    rw [List.length_take] at this; lia
  · rintro ⟨h1, h2⟩
    rw [List.prefix_iff_eq_take] at h1 ⊢
    rw [List.take_take, show min x.length n = x.length by lia]; exact h1
theorem tabC_of {k : Cst} (h : isTabC k = true) : Good List.reverse (tabOf (kap k)) ∧ kap k = .tab (tabOf (kap k)) := by
  cases k <;> first | exact ⟨good_2, rfl⟩ | exact ⟨good_3, rfl⟩ | exact ⟨good_4, rfl⟩ | exact ⟨good_5, rfl⟩ | exact ⟨good_6, rfl⟩ | exact ⟨good_7, rfl⟩ | exact ⟨good_8, rfl⟩ | exact ⟨good_9, rfl⟩ | cases h
section
variable {P : Pm} {pre : List Nat} {N k : Nat}
theorem findable_ok (hp : POk P pre) {er : List Nat} {room : Option Int} {t : List AM} {len : Nat} (h : findable P er room t = true) (hr : ∀ r, room = some r → r ≤ len) (hr0 : room = none → er.length ≤ len) :
    best List.reverse ((er ++ pre.reverse).take len) t = best List.reverse er t := by
  refine best_congr fun a ha => ?_
  have h := List.all_eq_true.mp h a ha
  by_cases q : a.1.reverse.isPrefixOf er = true
  · rw [if_pos q] at h
    rw [q, pre_of_take]
    refine ⟨pre_trans q (List.isPrefixOf_iff_prefix.mpr (List.prefix_append _ _)), ?_⟩
    cases room with
    | none =>
      have := (List.isPrefixOf_iff_prefix.mp q).length_le
      have := hr0 rfl
      lia
    | some r =>
      have := of_decide_eq_true h
      have := hr r rfl
      rw [List.length_reverse]; lia
  · rw [if_neg q] at h
    rw [Bool.not_eq_true] at q
    rw [q, Bool.eq_false_iff]
    intro q2
    obtain ⟨q3, -⟩ := pre_of_take.mp q2
    rw [List.isPrefixOf_iff_prefix] at q3
    by_cases ql : a.1.reverse.length ≤ er.length
    · have := List.prefix_of_prefix_length_le q3 (List.prefix_append er pre.reverse) ql
      rw [← List.isPrefixOf_iff_prefix, q] at this; cases this
    · have hpx := List.prefix_of_prefix_length_le (List.prefix_append er pre.reverse) q3 (by lia)
      have e1 : er.isPrefixOf a.1.reverse = true := List.isPrefixOf_iff_prefix.mpr hpx
      rw [e1] at h
      simp only [Bool.not_true, Bool.false_or] at h
      have hb := hp.bad _ h
      obtain ⟨y, hy⟩ := hpx
      rw [← hy, List.drop_left] at hb
      rw [← hy, List.prefix_append_right_inj] at q3
      rw [List.isPrefixOf_iff_prefix.mpr q3] at hb; cases hb
theorem int_inj {i j : Int} (h : V.int i = .int j) : i = j := by injection h
noncomputable def aFound (P : Pm) (kk : Cst) (af : AF) (c : Int) (room : Option Int) : Option (AV × AF) := if findable P (af.cur.take c.toNat).reverse room (tabOf (kap kk)) then
    (match best List.reverse (af.cur.take c.toNat).reverse (tabOf (kap kk)) with
    | some a => some (.int a.2.2, { af with cursor := .pos (c - a.1.length) })
    | Option.none => some (.int 0, af)) else Option.none
theorem best_ok {af : AF} {f : F} {c : Int} {n : Nat} (hf : FOf pre af f) (hn : (n : Int) = pre.length + c) (o : Option AM) :
    Ro (EOf pre) (match o with | some a => some (AV.int a.2.2, { af with cursor := .pos (c - a.1.length) }) | Option.none => some (AV.int 0, af))
      (some (match o with | some a => (V.int a.2.2, { f with cursor := (n : Int) - a.1.length }) | Option.none => (V.int 0, f))) := by
  cases o with
  | none => exact ro_some ⟨rfl, hf⟩
  | some a => exact ro_some ⟨rfl, { hf with cursor := congrArg V.int (by rw [hn]; lia) }⟩
theorem cut_u {af : AF} {f : F} {c : Int} {l : Nat} (hf : FOf pre af f) (q3 : c ≤ af.cur.length) : ((f.current.take (pre.length + c.toNat)).drop l).reverse = ((af.cur.take c.toNat).reverse ++ pre.reverse).take (pre.length + c.toNat - l) := by
  rw [List.reverse_drop, hf.cur, take_app, List.reverse_append, List.length_append, List.length_take, Nat.min_eq_left (Int.toNat_le.mpr q3)]
theorem aFind_room (hp : POk P pre) (hN : 100 ≤ N) {kk : Cst} {af : AF} {f : F} {c : Int} {room : Option Int} {l : Nat} (hf : FOf pre af f) (hcur : V.int f.cursor = .int (pre.length + c)) (q1 : isTabC kk = true) (q2 : 0 ≤ c) (q3 : c ≤ af.cur.length) (l1 : f.lb = l) (l2 : l ≤ pre.length + c.toNat)
    (l3 : ∀ r, room = some r → r ≤ (pre.length + c.toNat - l : Nat)) (l4 : room = none → (af.cur.take c.toNat).reverse.length ≤ pre.length + c.toNat - l) : Ro (EOf pre) (aFound P kk af c room) (runM N kap (k + 1) .find_among_b [kap kk] f) := by
  refine ro_ifl (fun hfin => ?_) fun _ => ro_none
  obtain ⟨G, hk⟩ := tabC_of q1
  have hn : ((pre.length + c.toNat : Nat) : Int) = pre.length + c := by lia
  have hc : f.cursor = ((pre.length + c.toNat : Nat) : Int) := hn ▸ int_inj hcur
  have hrun := run_find_b (k := k) hN G rfl hc l1 (rdB_of l2 (by rw [hf.cur, List.length_append]; exact Nat.add_le_add_left (Int.toNat_le.mpr q3) _))
  rw [cut_u hf q3, found, findable_ok hp hfin l3 l4] at hrun
  rw [show ([kap kk] : List V) = [.tab (tabOf (kap kk))] from congrArg (fun z => [z]) hk, hrun]
  exact best_ok hf hn _
theorem aFind_ok (hp : POk P pre) (hN : 100 ≤ N) {as : List AV} {vs : List V} {af : AF} {f : F} (ha : AOf pre as vs) (hf : FOf pre af f) : Ro (EOf pre) (aFind P as af) (runM N kap (k + 1) .find_among_b vs f) := by
  cases ha with
  | nil => exact ro_none
  | @cons a v as vs a1 a2 =>
    cases a <;> first | exact ro_none | skip
    cases a2 with
    | cons _ _ => exact ro_none
    | nil =>
      obtain ⟨cur, cursor, limit, lb, bra, ket, pv, p1, p2⟩ := af
      cases cursor <;> first | exact ro_none | skip
      cases a1
      have hb := hf.lb
      cases lb <;> first | exact ro_ifl (fun _ => ro_none) fun _ => ro_none | skip
      · rename_i kk c i
        refine ro_ifl (fun q => ?_) fun _ => ro_none
        by_cases hi : i = 0
        · subst hi
          exact aFind_room hp hN (l := 0) (room := none) hf hf.cursor q.1 q.2.1 q.2.2 (int_inj hb) (Nat.zero_le _) (fun _ h => no_none h) fun _ => by
            rw [List.length_reverse, List.length_take]; exact Nat.le_trans (Nat.min_le_left _ _) (Nat.le_add_left _ _)
        · show Ro _ (match (if i = 0 then some Option.none else Option.none : Option (Option Int)) with | some room => _ | Option.none => Option.none) _
          rw [if_neg hi]; exact ro_none
      · rename_i kk c d
        refine ro_ifl (fun q => ?_) fun _ => ro_none
        by_cases hi : d ≤ c
        · show Ro _ (match (if d ≤ c then some (some (c - d)) else Option.none : Option (Option Int)) with | some room => aFound P kk _ c room | Option.none => Option.none) _
          rw [if_pos hi]
          obtain ⟨i, e, hle⟩ := hb
          have q2 := q.2.1
          exact aFind_room hp hN (l := i) hf hf.cursor q.1 q.2.1 q.2.2 (int_inj e) (by lia) (fun r h => by cases h; lia) fun h => no_none h.symm
        · show Ro _ (match (if d ≤ c then some (some (c - d)) else Option.none : Option (Option Int)) with | some room => _ | Option.none => Option.none) _
          rw [if_neg hi]; exact ro_none
theorem enter_ok {as : List AV} {vs : List V} (h : AOf pre as vs) (n : Nat) : LOf pre (aEnter n as) (enter n vs) := by
  have hlen := h.len
  refine ⟨by simp [aEnter, enter, hlen], fun x v hx => ?_⟩
  unfold aEnter ALoc.at at hx
  unfold enter Loc.at
  rw [hlen] at hx
  generalize n - 1 - vs.length = r at hx ⊢
  cases x with
  | zero => cases hx; exact ⟨_, rfl, rfl⟩
  | succ x =>
    simp only [List.cons_append, List.getD_cons_succ] at hx ⊢
    clear hlen
    induction h generalizing x with
    | nil =>
      simp only [List.map_nil, List.nil_append, List.getD_eq_getElem?_getD, List.getElem?_replicate] at hx
      split at hx <;> cases hx
    | cons h1 h2 ih =>
      cases x with
      | zero => cases hx; exact ⟨_, rfl, h1⟩
      | succ x => exact ih x hx
theorem aBack_ok {a : ARes} {r : Res} (h : ROf pre a r) : Ro (EOf pre) (aBack a) (back r) := by
  rcases a with _ | ⟨o, m, af⟩
  · exact ro_none
  · obtain ⟨⟨o', l, f⟩, rfl, ho, -, hf⟩ := h _ rfl
    cases ho with
    | ret q => exact ro_some ⟨q, hf⟩
    | next => exact ro_some ⟨rfl, hf⟩
    | _ => exact ro_none
theorem run_ok (hp : POk P pre) (hN : 100 ≤ N) (k : Nat) : MuOk pre (aRun P N k) (runM N kap k) := by
  induction k with
  | zero => exact fun _ _ _ _ _ _ _ => ro_none
  | succ k ih =>
    intro n as vs af f ha hf
    refine ro_ifl (fun q => ?_) fun _ => ro_ifl (fun q => ?_) fun _ => ro_none
    · subst q
      exact aFind_ok hp hN ha hf
    · rw [runM_succ (h := by rw [← ha.len]; exact q)]
      exact aBack_ok (exec_ok hp ih (codeOf n) _ _ _ _ (enter_ok ha _) hf)
end
noncomputable abbrev Loc0 : Loc := [some .self, some (.int 0), some (.int 0), none, none, none, none, none, none, none, none, none]
noncomputable def Ends1 (root : List Nat) (f : F) (r : Res) : Prop :=
  ∃ (l : Loc) (i b t pv p1 p2 : Int), l.length = 12 ∧ l.at 0 = some .self ∧ l.at 10 = some (.int i) ∧ r = some (.next, l, ⟨root, root.length, root.length, 0, b, t, pv, p1, p2⟩)
theorem endsAt_ok {P : Pm} {pre t t' : List Nat} {pv p1 p2 : AV} (hp : POk P pre) (h : endsAt (goAb P t pv p1 p2) t' = true) {lb b k v w x : Int} (hv : pv.of pre (.int v)) (hw : p1.of pre (.int w)) (hx : p2.of pre (.int x)) :
    Ends1 (pre ++ t') ⟨pre ++ t, 0, (pre ++ t).length, lb, b, k, v, w, x⟩ (exec 101 (runM 101 kap 6) kap cB1 Loc0 ⟨pre ++ t, 0, (pre ++ t).length, lb, b, k, v, w, x⟩) := by
  have hF : FOf pre (aStart t pv p1 p2) ⟨pre ++ t, 0, (pre ++ t).length, lb, b, k, v, w, x⟩ :=
    { cur := rfl, cursor := rfl, limit := by show V.int _ = V.int _; rw [List.length_append]; congr 1
      lb := ⟨_, rfl⟩, bra := ⟨_, rfl⟩, ket := ⟨_, rfl⟩, pv := hv, p1 := hw, p2 := hx }
  have hL : LOf pre aLoc0 Loc0 := by
    refine ⟨rfl, fun y u hu => ?_⟩
    match y, hu with
    | 0, hu => cases hu; exact ⟨_, rfl, rfl⟩
    | 1, hu => cases hu; exact ⟨_, rfl, rfl⟩
    | 2, hu => cases hu; exact ⟨_, rfl, rfl⟩
    | 3, hu => cases hu
    | 4, hu => cases hu
    | 5, hu => cases hu
    | 6, hu => cases hu
    | 7, hu => cases hu
    | 8, hu => cases hu
    | 9, hu => cases hu
    | 10, hu => cases hu
    | 11, hu => cases hu
    | n + 12, hu => cases hu
  have E := exec_ok (N := 101) hp (run_ok (N := 101) hp (by decide) 6) cB1 _ _ _ _ hL hF
  unfold goAb at h
  rcases hg : aExec P 101 (aRun P 101 6) cB1 aLoc0 (aStart t pv p1 p2) with _ | ⟨o, m, af⟩
  · rw [hg] at h; cases h
  · rw [hg] at h
    obtain ⟨⟨o', l, f'⟩, e, ho, hl, hf⟩ := E _ hg
    cases o <;> first | exact no_none h | exact no_false h | cases h | skip
    cases ho
    simp only [endsAt, Bool.and_eq_true, beq_iff_eq, decide_eq_true_eq] at h
    obtain ⟨⟨⟨⟨⟨⟨hm, hs⟩, h1⟩, h2⟩, h3⟩, h4⟩, h5⟩ := h
    have k1 := hf.cur
    have k2 := hf.cursor
    have k3 := hf.limit
    have k4 := hf.lb
    rw [h1] at k1; rw [h2] at k2; rw [h3] at k3; rw [h4] at k4
    split at h5
    · rename_i i hi
      obtain ⟨w1, w2, w3⟩ := hl.at' 10 _ hi
      cases w3
      obtain ⟨c1, c2, c3, c4, c5, c6, c7, c8, c9⟩ := f'
      have q2 : V.int c2 = V.int (pre.length + (t'.length : Int)) := k2
      have q3 : V.int c3 = V.int (pre.length + (t'.length : Int)) := k3
      have q4 : V.int c4 = V.int 0 := k4
      have q1 : c1 = pre ++ t' := k1
      injection q2 with q2
      injection q3 with q3
      injection q4 with q4
      subst q1 q2 q3 q4
      refine ⟨l, i, c5, c6, c7, c8, c9, ?_, ?_, w2, ?_⟩
      · rw [← hl.len, hm]
      · exact self_ok hl hs
      · rw [e]
        simp only [List.length_append, Int.natCast_add]
    · first | exact no_none h5 | exact no_false h5 | cases h5
structure Root (root : List Nat) : Prop where
  long : 4 ≤ root.length
  few : root.length ≤ 400
  last : ∃ x ∈ lasts, root.getLast? = some x
  combo : ∃ r ∈ combosR, r <+: root.reverse
theorem pok_root {root : List Nat} (R : Root root) (X : List (List Nat)) (hX : ∀ y ∈ X, y.isPrefixOf root.reverse = false) : POk ⟨4, some lasts, bad0 X⟩ root where
  nmin := R.long
  few := R.few
  la := fun l h => by cases h; exact R.last
  bad := fun y h => by
    cases q : y.isPrefixOf root.reverse with
    | false => rfl
    | true =>
      have hp := List.isPrefixOf_iff_prefix.mp q
      cases y with
      | nil => cases h
      | cons c y =>
        simp only [bad0, Bool.or_eq_true] at h
        rcases h with (h | h) | h
        · obtain ⟨x, hx, hl⟩ := R.last
          rw [← List.head?_reverse] at hl
          obtain ⟨s, hs⟩ := hp
          rw [← hs] at hl
          cases hl
          simp only [Bool.not_eq_true'] at h
          have : lasts.contains c = true := by simpa using hx
          rw [this] at h; cases h
        · rw [hX _ (by simpa using h)] at q; cases q
        · obtain ⟨r, hr, hrp⟩ := R.combo
          have h := List.all_eq_true.mp h r hr
          simp only [Bool.and_eq_true, Bool.not_eq_true'] at h
          rcases List.prefix_or_prefix_of_prefix hp hrp with k | k
          · rw [List.isPrefixOf_iff_prefix.mpr k] at h; cases h.1
          · rw [List.isPrefixOf_iff_prefix.mpr k] at h; cases h.2
theorem pok_any (n : Nat) {pre : List Nat} (h : n ≤ pre.length) (h2 : pre.length ≤ 400) : POk ⟨n, none, fun _ => false⟩ pre where
  nmin := h
  few := h2
  la := fun l h => by cases h
  bad := fun y h => by cases h
theorem split_of {root s : List Nat} (h : s.isPrefixOf root.reverse = true) : ∃ z, root = z ++ s.reverse := by
  obtain ⟨y, hy⟩ := List.isPrefixOf_iff_prefix.mp h
  refine ⟨y.reverse, ?_⟩
  have := congrArg List.reverse hy
  rw [List.reverse_append, List.reverse_reverse] at this
  exact this.symm
theorem back1 {root e : List Nat} (R : Root root) (he : e ∈ tEnds) {lb b k x : Int} {v w : Nat} (hv : v + 1 ≤ root.length) (hw : w ≤ root.length) (hx0 : 0 ≤ x) :
    Ends1 root ⟨root ++ endT e, 0, (root ++ endT e).length, lb, b, k, v, w, x⟩ (exec 101 (runM 101 kap 6) kap cB1 Loc0 ⟨root ++ endT e, 0, (root ++ endT e).length, lb, b, k, v, w, x⟩) := by
  have hl := R.long
  have hf := R.few
  have main : (∀ y ∈ XofE e, y.isPrefixOf root.reverse = false) → Ends1 root ⟨root ++ endT e, 0, (root ++ endT e).length, lb, b, k, v, w, x⟩ (exec 101 (runM 101 kap 6) kap cB1 Loc0 ⟨root ++ endT e, 0, (root ++ endT e).length, lb, b, k, v, w, x⟩) := fun hX => by
    have := endsAt_ok (pok_root R (XofE e) hX) (chk1_all he) (lb := lb) (b := b) (k := k) (v := v) (w := w) (x := x) ⟨v, rfl, by lia⟩ ⟨w, rfl, by lia⟩ ⟨x, rfl⟩
    rw [List.append_nil] at this
    exact this
  by_cases h1 : e = [105, 101] ∨ e = [105, 101, 115]
  · cases q : ([103, 111, 108] : List Nat).isPrefixOf root.reverse with
    | false => exact main fun y hy => by rw [XofE, if_pos h1] at hy; rw [List.mem_singleton.mp hy, q]
    | true =>
      obtain ⟨z, hz⟩ := split_of q
      have hz : root = z ++ [108, 111, 103] := hz
      subst hz
      have lz : (z ++ [108, 111, 103]).length = z.length + 3 := by simp
      rw [lz] at hl hf hv hw
      have hc := List.all_eq_true.mp chk2_all e (by rcases h1 with rfl | rfl <;> simp)
      rw [Bool.and_eq_true, Bool.and_eq_true, beq_iff_eq] at hc
      rw [hc.1.1, List.append_assoc]
      by_cases hx : x ≤ z.length
      · exact endsAt_ok (pok_any 1 (by lia) (by lia)) hc.1.2 (lb := lb) (b := b) (k := k) (v := v) (w := w) (x := x) ⟨v, rfl, by lia⟩ ⟨w, rfl⟩ ⟨x.toNat, by rw [Int.toNat_of_nonneg hx0], by lia⟩
      · exact endsAt_ok (pok_any 1 (by lia) (by lia)) hc.2 (lb := lb) (b := b) (k := k) (v := v) (w := w) (x := x) ⟨v, rfl, by lia⟩ ⟨w, rfl⟩ ⟨x, rfl, by lia⟩
  · by_cases h2 : e = [97, 105, 115] ∨ e = [97, 105, 115, 101] ∨ e = [97, 105, 115, 101, 115]
    · cases q : ([108, 97] : List Nat).isPrefixOf root.reverse with
      | false => exact main fun y hy => by rw [XofE, if_neg h1, if_pos h2] at hy; rw [List.mem_singleton.mp hy, q]
      | true =>
        obtain ⟨z, hz⟩ := split_of q
        have hz : root = z ++ [97, 108] := hz
        subst hz
        have lz : (z ++ [97, 108]).length = z.length + 2 := by simp
        rw [lz] at hl hf hv hw
        have hc := List.all_eq_true.mp chk3_all e (by rcases h2 with rfl | rfl | rfl <;> simp)
        rw [Bool.and_eq_true, beq_iff_eq] at hc
        rw [hc.1, List.append_assoc]
        exact endsAt_ok (pok_any 2 (by lia) (by lia)) hc.2 (lb := lb) (b := b) (k := k) (v := v) (w := w) (x := x) ⟨v, rfl, by lia⟩ ⟨w, rfl⟩ ⟨x, rfl⟩
    · exact main fun y hy => by rw [XofE, if_neg h1, if_neg h2] at hy; cases hy
noncomputable def conOK (a : Nat) : Bool := !gv.contains a && !(a == 235) && !(a == 239) && !(a == 121) && !(a == 113) && !(a == 117) && !(a == 105) && lasts.contains a || a == 114
theorem stepW_con {a : Nat} {x : List Nat} (h1 : gv.contains a = false) (h2 : (a == 235) = false) (h3 : (a == 239) = false) (h4 : (a == 121) = false) (h5 : (a == 113) = false) : stepW (a :: x) 0 = none := by
  have i0 : inAt (a :: x) 0 gv = gv.contains a := rfl
  have n : ∀ y, isAt (a :: x) 0 y = (a == y) := fun y => rfl
  simp only [stepW, i0, n, h1, h2, h3, h4, h5, Bool.false_and, Bool.false_eq_true, if_false]
theorem stepW_vow {v a : Nat} {x : List Nat} (hv : v ∈ tVows) (h1 : (a == 117) = false) (h2 : (a == 105) = false) (h3 : (a == 121) = false) : stepW (v :: a :: x) 0 = none := by
  have i0 : inAt (v :: a :: x) 0 gv = gv.contains v := rfl
  have n : ∀ y, isAt (v :: a :: x) 0 y = (v == y) := fun y => rfl
  have n1 : ∀ y, isAt (v :: a :: x) (0 + 1) y = (a == y) := fun y => rfl
  have hv : (v == 235) = false ∧ (v == 239) = false ∧ (v == 121) = false ∧ (v == 113) = false := by
    simp only [tVows, List.mem_cons, List.not_mem_nil, or_false] at hv
    rcases hv with rfl | rfl | rfl | rfl | rfl | rfl <;> decide
  obtain ⟨v1, v2, v3, v4⟩ := hv
  simp only [stepW, i0, n, n1, h1, h2, h3, v1, v2, v3, v4, Bool.false_and, Bool.and_false, Bool.false_eq_true, if_false]
noncomputable def cOK (a : Nat) : Bool := !gv.contains a && !(a == 235) && !(a == 239) && !(a == 121) && !(a == 113) && !(a == 117) && !(a == 105)
theorem move_close {t : Nat} {e e' : List Nat} : ∀ (c : List Nat), c.all cOK = true → ∀ (B : Nat), (∀ L : List Nat, L.length ≤ B + c.length → PreR t (L ++ e) L.length (L ++ e')) → B + c.length + e.length ≤ 90 →
    ∀ L : List Nat, L.length ≤ B → PreR t (L ++ (c ++ e)) L.length (L ++ (c ++ e'))
  | [], _, B, h, _, L, hL => h L (by simpa using hL)
  | a :: c, hc, B, h, hB, L, hL => by
    simp only [List.all_cons, Bool.and_eq_true] at hc
    obtain ⟨ha, hc⟩ := hc
    simp only [cOK, Bool.and_eq_true, Bool.not_eq_true'] at ha
    obtain ⟨⟨⟨⟨⟨⟨a1, a2⟩, a3⟩, a4⟩, a5⟩, a6⟩, a7⟩ := ha
    have hl : (L ++ [a]).length = L.length + 1 := by simp
    simp only [List.length_cons] at hB h
    have ih := move_close c hc (B + 1) (fun L' h' => h L' (by lia)) (by lia) (L ++ [a]) (by lia)
    rw [hl, List.append_assoc, List.append_assoc] at ih
    have hs : stepW (L ++ (a :: c ++ e)) L.length = none := by
      rw [stepW_app, List.cons_append, stepW_con a1 a2 a3 a4 a5]; rfl
    exact .move hs (by simp) (by simp only [List.length_append, List.length_cons]; lia) ih
theorem closes_ok : (tCloses.all fun c => c.all cOK && decide (1 ≤ c.length ∧ c.length ≤ 2) && (match c.getLast? with | some x => lasts.contains x | none => false) && (match c.head? with | some x => !gv.contains x | none => false)) = true := by decide +kernel
theorem ends_len : (tEnds.all fun e => decide (e.length ≤ 9) && decide ((endT e).length ≤ 9) && (match runP 12 e with | some (r, t) => r == endT e && decide (t ≤ 1) | none => false)) = true := by decide +kernel
theorem pre_word {front c e : List Nat} {v : Nat} (hf : front.length ≤ 6) (hv : v ∈ tVows) (hc : c ∈ tCloses) (he : e ∈ tEnds) :
    ∃ z t, PreR t (front ++ (v :: (c ++ e))) 0 (z ++ (v :: (c ++ endT e))) ∧ t ≤ 90 ∧ front.length ≤ z.length ∧ z.length ≤ 48 ∧ ∀ x, Same (z ++ x) (front ++ x) := by
  have hcl := List.all_eq_true.mp closes_ok c hc
  simp only [Bool.and_eq_true, decide_eq_true_eq] at hcl
  obtain ⟨⟨⟨c1, c2, c3⟩, c4⟩, c5⟩ := hcl
  have hel := List.all_eq_true.mp ends_len e he
  simp only [Bool.and_eq_true, decide_eq_true_eq] at hel
  obtain ⟨⟨e1, e2⟩, e3⟩ := hel
  split at e3
  · rename_i r t hr
    simp only [Bool.and_eq_true, decide_eq_true_eq, beq_iff_eq] at e3
    obtain ⟨rfl, ht⟩ := e3
    have base : ∀ L : List Nat, L.length ≤ 50 → PreR t (L ++ (v :: (c ++ e))) L.length (L ++ (v :: (c ++ endT e))) := by
      intro L hL
      have hl : (L ++ [v]).length = L.length + 1 := by simp
      have h := move_close (t := t) (e := e) (e' := endT e) c c1 51 (fun L' h' => runP_ok 12 e (endT e) t hr L' (by lia)) (by lia) (L ++ [v]) (by lia)
      rw [hl, List.append_assoc, List.append_assoc] at h
      obtain ⟨a, c', rfl⟩ : ∃ a c', c = a :: c' := by
        cases c with
        | nil => simp at c2
        | cons a c' => exact ⟨a, c', rfl⟩
      simp only [List.all_cons, Bool.and_eq_true, cOK, Bool.not_eq_true'] at c1
      obtain ⟨⟨⟨⟨⟨⟨⟨a1, a2⟩, a3⟩, a4⟩, a5⟩, a6⟩, a7⟩, -⟩ := c1
      have hs : stepW (L ++ (v :: (a :: c' ++ e))) L.length = none := by
        rw [stepW_app, List.cons_append, stepW_vow hv a6 a7 a4]; rfl
      exact .move hs (by simp) (by simp only [List.length_append, List.length_cons] at c3 ⊢; lia) h
    have hw := wt_le front
    have := wt_len front
    obtain ⟨z, t', h1, h2, h3, h4, h5⟩ := pre_front hv 50 base (wt front) front (Nat.le_refl _) [] (by simp; lia) (by simp only [List.length_append, List.length_nil]; lia)
    exact ⟨z, t', h1, by lia, h3, by lia, h5⟩
  · first | exact no_none e3 | exact no_false e3 | cases e3
noncomputable def vp (v : Nat) : Nat := if v = 233 ∨ v = 232 then 101 else v
noncomputable def chkA (v : Nat) (c : List Nat) : Bool := match aRun ⟨2, none, fun _ => false⟩ 101 6 .r_un_accent [] ⟨v :: c, .pos (v :: c).length, .pos (v :: c).length, .int 0, .any, .any, .any, .any, .any⟩ with
  | some (_, g) => g.cur == vp v :: c && decide (g.limit = .pos (vp v :: c).length) && decide (g.lb = .int 0)
  | none => false
theorem chkA_all : (tVows.all fun v => tCloses.all fun c => chkA v c) = true := by decide +kernel
theorem run_accent {z c : List Nat} {v : Nat} (hz : 2 ≤ z.length) (hz2 : z.length ≤ 400) (hv : v ∈ tVows) (hc : c ∈ tCloses) (b k pv p1 p2 : Int) :
    ∃ (w : V) (c' b' k' pv' p1' p2' : Int), runM 101 kap 6 .r_un_accent [] ⟨z ++ v :: c, (z ++ v :: c).length, (z ++ v :: c).length, 0, b, k, pv, p1, p2⟩ = some (w, ⟨z ++ vp v :: c, c', (z ++ vp v :: c).length, 0, b', k', pv', p1', p2'⟩) := by
  have h := List.all_eq_true.mp (List.all_eq_true.mp chkA_all v hv) c hc
  unfold chkA at h
  split at h
  · rename_i w g hg
    simp only [Bool.and_eq_true, decide_eq_true_eq, beq_iff_eq] at h
    obtain ⟨⟨h1, h2⟩, h3⟩ := h
    have hF : FOf z ⟨v :: c, .pos (v :: c).length, .pos (v :: c).length, .int 0, .any, .any, .any, .any, .any⟩ ⟨z ++ v :: c, (z ++ v :: c).length, (z ++ v :: c).length, 0, b, k, pv, p1, p2⟩ :=
      { cur := rfl, cursor := by show V.int _ = V.int _; rw [List.length_append]; congr 1
        limit := by show V.int _ = V.int _; rw [List.length_append]; congr 1
        lb := rfl, bra := ⟨_, rfl⟩, ket := ⟨_, rfl⟩, pv := ⟨_, rfl⟩, p1 := ⟨_, rfl⟩, p2 := ⟨_, rfl⟩ }
    obtain ⟨⟨w', f'⟩, e, -, hf⟩ := run_ok (N := 101) (pok_any 2 hz hz2) (by decide) 6 _ _ _ _ _ .nil hF _ hg
    have k1 := hf.cur
    have k3 := hf.limit
    have k4 := hf.lb
    rw [h1] at k1; rw [h2] at k3; rw [h3] at k4
    obtain ⟨c1, c2, c3, c4, c5, c6, c7, c8, c9⟩ := f'
    have q3 : V.int c3 = V.int (z.length + ((vp v :: c).length : Int)) := k3
    have q4 : V.int c4 = V.int 0 := k4
    have q1 : c1 = z ++ vp v :: c := k1
    injection q3 with q3
    injection q4 with q4
    subst q1 q3 q4
    refine ⟨w', c2, c5, c6, c7, c8, c9, ?_⟩
    rw [e]
    simp only [List.length_append, Int.natCast_add]
  · first | exact no_none h | exact no_false h | cases h
theorem exec_app (N : Nat) (μ : Mu) : ∀ (c k : C) (m : Loc) (f : F), exec N μ kap (app c k) m f = andThen (exec N μ kap c m f) (exec N μ kap k) := by
  intro c k
  have then2 : ∀ (r : Res) (k1 k2 : Loc → F → Res), andThen (andThen r k1) k2 = andThen r fun m f => andThen (k1 m f) k2 := by
    intro r k1 k2
    rcases r with _ | ⟨o, m, f⟩
    · rfl
    · cases o <;> rfl
  have bind2 : ∀ {α : Type} (o : Option α) (g : α → Res) (k2 : Loc → F → Res), andThen (o.bind g) k2 = o.bind fun a => andThen (g a) k2 := by
    intro α o g k2
    cases o <;> rfl
  have ite2 : ∀ (p : Prop) [Decidable p] (r s : Res) (k2 : Loc → F → Res), andThen (if p then r else s) k2 = if p then andThen r k2 else andThen s k2 := by
    intro p _ r s k2
    split <;> rfl
  have cau2 : ∀ (n : Nat) (r : Res) (k1 k2 : Loc → F → Res), andThen (caught n r k1) k2 = caught n r fun m f => andThen (k1 m f) k2 := by
    intro n r k1 k2
    rcases r with _ | ⟨o, m, f⟩
    · rfl
    · cases o with
      | exc j =>
        show andThen (if j = n then _ else _) k2 = (if j = n then _ else _)
        rw [ite2]; rfl
      | _ => rfl
  induction c with
  | nil => intro m f; rfl
  | pass c ih => exact ih
  | brk c => intro m f; rfl
  | cont c => intro m f; rfl
  | ret e c => intro m f; rw [ap_ret, ex_ret]; cases evalE μ kap m e f <;> rfl
  | expr e c ih => intro m f; rw [ap_expr, ex_expr, ex_expr, bind2]; simp only [ih]
  | setl x e c ih => intro m f; rw [ap_setl, ex_setl, ex_setl, bind2]; simp only [ih, ite2]; rfl
  | setf a e c ih => intro m f; rw [ap_setf, ex_setf, ex_setf, bind2]; simp only [ih, ite2, bind2]; rfl
  | augl x p e c ih => intro m f; rw [ap_augl, ex_augl, ex_augl, bind2]; simp only [ih, ite2, bind2]; rfl
  | augf a p e c ih => intro m f; rw [ap_augf, ex_augf, ex_augf, ite2]; simp only [ih, bind2]; rfl
  | ite t a b c iha ihb ih => intro m f; rw [ap_ite, ex_ite, ex_ite, bind2]; simp only [show exec N μ kap (app c k) = fun m f => andThen (exec N μ kap c m f) (exec N μ kap k) from funext fun m => funext fun f => ih m f, then2]
  | wh t b c ihb ih => intro m f; rw [ap_wh, ex_wh, ex_wh, then2, show exec N μ kap (app c k) = fun m f => andThen (exec N μ kap c m f) (exec N μ kap k) from funext fun m => funext fun f => ih m f]
  | forU x lo hi b c ihb ih =>
    intro m f
    rw [ap_forU, ex_forU, ex_forU, bind2]
    simp only [bind2]
    congr 1; funext a; congr 1; funext b
    rcases a with ⟨a, g⟩
    rcases b with ⟨b, g'⟩
    cases a <;> cases b <;> first | rfl | (simp only [ite2, then2, show exec N μ kap (app c k) = fun m f => andThen (exec N μ kap c m f) (exec N μ kap k) from funext fun m => funext fun f => ih m f]; rfl)
  | forD x hi b c ihb ih =>
    intro m f
    rw [ap_forD, ex_forD, ex_forD, bind2]
    congr 1; funext b
    rcases b with ⟨b, g'⟩
    cases b <;> first | rfl | (simp only [ite2, then2, show exec N μ kap (app c k) = fun m f => andThen (exec N μ kap c m f) (exec N μ kap k) from funext fun m => funext fun f => ih m f]; rfl)
  | asrt t c ih => intro m f; rw [ap_asrt, ex_asrt, ex_asrt, bind2]; simp only [ih, ite2]; rfl
  | raise n c => intro m f; rfl
  | tryc n b c ihb ih => intro m f; rw [ap_tryc, ex_tryc, ex_tryc, cau2, show exec N μ kap (app c k) = fun m f => andThen (exec N μ kap c m f) (exec N μ kap k) from funext fun m => funext fun f => ih m f]
theorem stem_eq : code_stem = .setl 1 (.fld .cursor) (.expr (.call0 .r_elisions) (.setf .cursor (.loc 1) (.setl 2 (.fld .cursor) (.expr (.call0 .r_prelude) (.setf .cursor (.loc 2) (.expr (.call0 .r_mark_regions) cBack)))))) := rfl
theorem cB2_eq : cB2 = .expr (.call0 .r_un_accent) (.setf .cursor (.sub (.fld .limit) (.loc 10)) (.setf .cursor (.fld .lb) (.setl 11 (.fld .cursor) (.expr (.call0 .r_postlude) (.setf .cursor (.loc 11) (.ret (.bool true) .nil)))))) := rfl
theorem postF_sign {c : Nat} (h : c ∈ tSigns) (s : List Nat) : postF false (c :: s) = c :: postF false s := by
  have : (c ≠ 72 ∧ c ≠ 73 ∧ c ≠ 85 ∧ c ≠ 89) := by
    have q := List.all_eq_true.mp (show (tSigns.all fun c => decide (c ≠ 72 ∧ c ≠ 73 ∧ c ≠ 85 ∧ c ≠ 89)) = true by decide) c h
    exact of_decide_eq_true q
  obtain ⟨h1, h2, h3, h4⟩ := this
  simp [postF, h1, h2, h3, h4]
theorem post_signs : ∀ (x y : List Nat), (∀ c ∈ x, c ∈ tSigns) → post (x ++ y) = x ++ post y
  | [], _, _ => rfl
  | c :: x, y, h => by
    show postF false (c :: (x ++ y)) = _
    rw [postF_sign (h c List.mem_cons_self)]
    show c :: post (x ++ y) = _
    rw [post_signs x y fun d hd => h d (List.mem_cons_of_mem _ hd)]; rfl
theorem root_post : (tVows.all fun v => tCloses.all fun c => post (vp v :: c) == vp v :: c) = true := by decide +kernel
theorem loc_ints (l : Loc) (h : l.length = 12) (h0 : l.at 0 = some .self) : ∃ r, l = some .self :: r ∧ r.length = 11 := by
  cases l with
  | nil => cases h
  | cons a r =>
    have : a = some V.self := h0
    exact ⟨r, by rw [this], by simpa using h⟩
theorem back2 {z c front : List Nat} {v : Nat} (hz : 2 ≤ z.length) (hz2 : z.length ≤ 48) (hv : v ∈ tVows) (hc : c ∈ tCloses) (hfr : ∀ x ∈ front, x ∈ tSigns) (hsame : ∀ x, Same (z ++ x) (front ++ x))
    (l : Loc) (i b t pv p1 p2 : Int) (h1 : l.length = 12) (h2 : l.at 0 = some .self) (h3 : l.at 10 = some (.int i)) :
    ∃ f', back (exec 101 (runM 101 kap 6) kap cB2 l ⟨z ++ v :: c, (z ++ v :: c).length, (z ++ v :: c).length, 0, b, t, pv, p1, p2⟩) = some (.bool true, f') ∧ f'.current = front ++ vp v :: c := by
  have hcl := List.all_eq_true.mp closes_ok c hc
  simp only [Bool.and_eq_true, decide_eq_true_eq] at hcl
  obtain ⟨⟨⟨-, c2, c3⟩, -⟩, -⟩ := hcl
  obtain ⟨w, c', b', k', pv', p1', p2', e⟩ := run_accent hz (by lia) hv hc b t pv p1 p2
  obtain ⟨c'', b'', k'', e2⟩ := run_postlude (N := 101) (k := 2) (by decide) (z ++ vp v :: c) (by simp only [List.length_append, List.length_cons]; lia) 0 b' k' pv' p1' p2'
  have hp : post (z ++ vp v :: c) = front ++ vp v :: c := by
    have h := hsame (vp v :: c) false
    have hr := List.all_eq_true.mp (List.all_eq_true.mp root_post v hv) c hc
    rw [beq_iff_eq] at hr
    show postF false _ = _
    rw [h]
    show post _ = _
    rw [post_signs front _ hfr, hr]
  rw [hp] at e2
  have s0 : ∀ w : Option V, Loc.at (l.set 11 w) 0 = some .self := fun w => by
    unfold Loc.at at h2 ⊢
    rw [List.getD_eq_getElem?_getD, List.getElem?_set_ne (by decide), ← List.getD_eq_getElem?_getD]; exact h2
  have s11 : ∀ w : Option V, Loc.at (l.set 11 w) 11 = w := fun w => by
    unfold Loc.at
    rw [List.getD_eq_getElem?_getD, List.getElem?_set_self (by lia)]; rfl
  have l11 : 11 < l.length ∧ 11 ≠ 0 := ⟨by lia, by decide⟩
  refine ⟨⟨front ++ vp v :: c, 0, (front ++ vp v :: c).length, 0, b'', k'', pv', p1', p2'⟩, ?_, rfl⟩
  rw [cB2_eq]
  simp only [xf_ret, xf_expr, xf_setl, xf_setf, ev_bool, ev_loc, ev_fld, ev_sub, ev_call0, h2, h3, if_true, bind_some, map_some, e, get_limit, subV_int, put_cursor, get_lb, get_cursor, l11, and_self, ne_eq, not_false_eq_true, s0, s11, e2, bk_r, bk_n]
theorem Good_word : True := trivial
theorem run_stem {h front c e : List Nat} {v : Nat} (hh : h ∈ tHeads) (hfr : ∀ x ∈ front, x ∈ tSigns) (hf2 : 2 ≤ front.length) (hf : front.length ≤ 6) (hv : v ∈ tVows) (hc : c ∈ tCloses) (he : e ∈ tEnds) (lb b t pv p1 p2 : Int) :
    ∃ f', runM 101 kap 7 .stem [] ⟨h ++ (front ++ (v :: (c ++ e))), 0, (h ++ (front ++ (v :: (c ++ e)))).length, lb, b, t, pv, p1, p2⟩ = some (.bool true, f') ∧ f'.current = front ++ vp v :: c := by
  have hcl := List.all_eq_true.mp closes_ok c hc
  simp only [Bool.and_eq_true, decide_eq_true_eq] at hcl
  obtain ⟨⟨⟨c1, c2, c3⟩, c4⟩, c5⟩ := hcl
  have hel := List.all_eq_true.mp ends_len e he
  simp only [Bool.and_eq_true, decide_eq_true_eq] at hel
  obtain ⟨⟨e1, e2⟩, -⟩ := hel
  have xl : (front ++ (v :: (c ++ e))).length = front.length + 1 + c.length + e.length := by simp only [List.length_append, List.length_cons]; lia
  have hn : 39 ∉ front ++ (v :: (c ++ e)) := by
    have n1 : ∀ x ∈ tSigns, x ≠ 39 := by decide
    have n2 : ∀ x ∈ tVows, x ≠ 39 := by decide
    have n3 : ∀ x ∈ tCloses, 39 ∉ x := by decide
    have n4 : ∀ x ∈ tEnds, 39 ∉ x := by decide
    intro q
    simp only [List.mem_append, List.mem_cons] at q
    rcases q with q | q | q | q
    · exact n1 _ (hfr _ q) rfl
    · exact n2 _ hv q.symm
    · exact n3 _ hc q
    · exact n4 _ he q
  obtain ⟨z, tt, hpre, ht, hz1, hz2, hsame⟩ := pre_word hf hv hc he
  obtain ⟨r1, k1, b1, t1, E1⟩ := run_elisions (N := 100) (k := 2) h (front ++ (v :: (c ++ e))) hh (by lia) (by lia) hn lb b t pv p1 p2
  obtain ⟨k2, b2, t2, E2⟩ := run_prelude (N := 100) (k := 2) (by decide) hpre ht lb b1 t1 pv p1 p2
  have hvi : inAt (z ++ (v :: (c ++ endT e))) z.length gv = true := by
    rw [show z.length = z.length + 0 from rfl, inAt_app]
    show gv.contains v = true
    exact List.all_eq_true.mp (show (tVows.all fun v => gv.contains v) = true by decide) v hv
  have hci : inAt (z ++ (v :: (c ++ endT e))) (z.length + 1) gv = false := by
    rw [inAt_app]
    cases c with
    | nil => simp at c2
    | cons a c' =>
      show gv.contains a = false
      simpa using c5
  have zl : (z ++ (v :: (c ++ endT e))).length = z.length + 1 + c.length + (endT e).length := by simp only [List.length_append, List.length_cons]; lia
  obtain ⟨p, q1, q2, hp, hq1, hq2, E3⟩ := run_mark (N := 100) (k := 2) (by decide) (z ++ (v :: (c ++ endT e))) (by lia) (by lia) z.length (by lia) (by lia) hvi hci lb b2 t2 pv p1 p2
  have R : Root (z ++ v :: c) := by
    refine ⟨by simp only [List.length_append, List.length_cons]; lia, by simp only [List.length_append, List.length_cons]; lia, ?_, ?_⟩
    · split at c4
      · rename_i x hx
        refine ⟨x, by simpa using c4, ?_⟩
        rw [show z ++ v :: c = (z ++ [v]) ++ c by simp, List.getLast?_append, hx]; rfl
      · first | exact no_none c4 | exact no_false c4 | cases c4
    · refine ⟨(v :: c).reverse, by rw [combosR_eq]; exact List.mem_flatMap.mpr ⟨v, hv, List.mem_map.mpr ⟨c, hc, rfl⟩⟩, ?_⟩
      rw [List.reverse_append]; exact List.prefix_append _ _
  have ez : z ++ (v :: (c ++ endT e)) = (z ++ v :: c) ++ endT e := by simp
  obtain ⟨l, i, b4, t4, v4, w4, x4, L1, L2, L3, E4⟩ := back1 (e := e) R he (lb := lb) (b := b2) (k := t2) (v := p) (w := q1) (x := q2) (by simp only [List.length_append, List.length_cons]; lia) (by simp only [List.length_append, List.length_cons]; lia) hq2
  obtain ⟨f', E5, hcur⟩ := back2 (z := z) (by lia) hz2 hv hc hfr hsame l i b4 t4 v4 w4 x4 L1 L2 L3
  refine ⟨f', ?_, hcur⟩
  rw [runM_succ (h := rfl)]
  unfold callC
  have e0 : enter (namesOf .stem).length [] = [some .self, none, none, none, none, none, none, none, none, none, none, none] := rfl
  rw [e0, show codeOf .stem = code_stem from rfl, stem_eq]
  rw [ez] at E2 E3
  have hat : ∀ (a b : Option V), Loc.at [some .self, a, b, none, none, none, none, none, none, none, none, none] 0 = some .self := fun _ _ => rfl
  have hat1 : ∀ (a b : Option V), Loc.at [some .self, a, b, none, none, none, none, none, none, none, none, none] 1 = a := fun _ _ => rfl
  have hat2 : ∀ (a b : Option V), Loc.at [some .self, a, b, none, none, none, none, none, none, none, none, none] 2 = b := fun _ _ => rfl
  simp only [xf_expr, xf_setl, xf_setf, ev_loc, ev_fld, ev_call0, hat, hat1, hat2, if_true, bind_some, map_some, get_cursor, put_cursor, List.length_cons, List.length_nil, Nat.reduceAdd, Nat.reduceLT, ne_eq, Nat.reduceEqDiff, not_false_eq_true, and_self, List.set_cons_succ, List.set_cons_zero, E1, E2, E3]
  rw [back_eq, exec_app, E4, and_next]
  exact E5
theorem plain_law {h front c e : List Nat} {v : Nat} (hh : h ∈ tHeads) (hfr : ∀ x ∈ front, x ∈ tSigns) (hf2 : 2 ≤ front.length) (hf : front.length ≤ 6) (hv : v ∈ tVows) (hc : c ∈ tCloses) (he : e ∈ tEnds) (f : F) :
    ∃ f', runM 101 kap 8 .stemWord [.str (h ++ (front ++ (v :: (c ++ e))))] f = some (.str (front ++ vp v :: c), f') := by
  obtain ⟨c0, c1, c2, c3, c4, c5, pv, p1, p2⟩ := f
  obtain ⟨f', E, hcur⟩ := run_stem hh hfr hf2 hf hv hc he 0 0 (h ++ (front ++ (v :: (c ++ e)))).length pv p1 p2
  generalize h ++ (front ++ (v :: (c ++ e))) = w at *
  refine ⟨f', ?_⟩
  have S : runM 101 kap 7 .set_current [.str w] ⟨c0, c1, c2, c3, c4, c5, pv, p1, p2⟩ = some (.none, ⟨w, 0, w.length, 0, 0, w.length, pv, p1, p2⟩) := by
    rw [runM_succ (h := rfl)]
    rfl
  have G : runM 101 kap 7 .get_current [] f' = some (.str f'.current, f') := by
    rw [runM_succ (h := rfl)]
    rfl
  rw [runM_succ (h := rfl)]
  unfold callC
  have e0 : enter (namesOf .stemWord).length [.str w] = [some .self, some (.str w)] := rfl
  rw [e0, show codeOf .stemWord = code_stemWord from rfl, code_stemWord]
  have hat : Loc.at [some .self, some (.str w)] 0 = some .self := rfl
  have hat1 : Loc.at [some .self, some (.str w)] 1 = some (.str w) := rfl
  simp only [xf_ret, xf_expr, ev_loc, ev_call0, ev_call1, hat, hat1, if_true, bind_some, map_some, S, E, G, bk_r, bk_n]
  rw [hcur]
end Mine
section
open PySem PySem.W PySem.Calls PyProof.Rows
namespace Mine
noncomputable def Fld.name : Fld → PySem.Str
  | .current => "current" | .cursor => "cursor" | .limit => "limit" | .lb => "limit_backward" | .bra => "bra" | .ket => "ket" | .pv => "I_pV" | .p1 => "I_p1" | .p2 => "I_p2"
noncomputable def Cst.name : Cst → PySem.Str
  | .g_v => "g_v" | .g_oux_ending => "g_oux_ending" | .g_elision_char => "g_elision_char" | .g_keep_with_s => "g_keep_with_s"
  | .a_0 => "a_0" | .a_1 => "a_1" | .a_2 => "a_2" | .a_3 => "a_3" | .a_4 => "a_4" | .a_5 => "a_5" | .a_6 => "a_6" | .a_7 => "a_7" | .a_8 => "a_8" | .a_9 => "a_9"
noncomputable def Mth.name : Mth → PySem.Str
  | .set_current => "set_current" | .get_current => "get_current" | .in_grouping => "in_grouping" | .go_in_grouping => "go_in_grouping" | .in_grouping_b => "in_grouping_b" | .go_out_grouping => "go_out_grouping"
  | .out_grouping_b => "out_grouping_b" | .eq_s => "eq_s" | .eq_s_b => "eq_s_b" | .find_among => "find_among" | .find_among_b => "find_among_b" | .replace_s => "replace_s" | .slice_from => "slice_from" | .slice_del => "slice_del"
  | .r_elisions => "r_elisions" | .r_prelude => "r_prelude" | .r_mark_regions => "r_mark_regions" | .r_postlude => "r_postlude" | .r_RV => "r_RV" | .r_R1 => "r_R1" | .r_R2 => "r_R2" | .r_standard_suffix => "r_standard_suffix"
  | .r_i_verb_suffix => "r_i_verb_suffix" | .r_verb_suffix => "r_verb_suffix" | .r_residual_suffix => "r_residual_suffix" | .r_un_double => "r_un_double" | .r_un_accent => "r_un_accent" | .stem => "_stem" | .stemWord => "stemWord"
noncomputable def below (h : Heap) (L S d : Addr) : Heap := ((⟨h.objs.extract 0 L, h.life⟩ : Heap).hide S).hide d
theorem below_size (h : Heap) (L S d : Addr) : (below h L S d).objs.size ≤ L := by
  unfold below
  rw [Heap.hide_size, Heap.hide_size]
  show (h.objs.extract 0 L).size ≤ L
  simp only [Array.size_extract]
  lia
theorem cut_at {α : Type} {xs : Array α} {L b : Nat} (hb : b < L) : (xs.extract 0 L)[b]? = xs[b]? := by
  by_cases q : b < xs.size
  · rw [Array.getElem?_eq_getElem (by simp only [Array.size_extract]; lia), Array.getElem?_eq_getElem q]; simp
  · rw [Array.getElem?_eq_none (by simp only [Array.size_extract]; lia), Array.getElem?_eq_none (by lia)]
theorem cut_get {h : Heap} {L b : Addr} (hb : b < L) : (⟨h.objs.extract 0 L, h.life⟩ : Heap).get? b = h.get? b := by
  simp only [Heap.get?, cut_at hb]
theorem below_get {h : Heap} {L S d b : Addr} (hb : b < L) (hS : b ≠ S) (hd : b ≠ d) : (below h L S d).get? b = h.get? b := by
  unfold below
  rw [Heap.hide_ne _ hd, Heap.hide_ne _ hS, cut_get hb]
theorem below_S {h : Heap} {L S d : Addr} : (below h L S d).get? S = none := by
  by_cases q : S = d
  · rw [q]; exact Heap.hide_self _ _
  · unfold below; rw [Heap.hide_ne _ q]; exact Heap.hide_self _ _
theorem below_d {h : Heap} {L S d : Addr} : (below h L S d).get? d = none := Heap.hide_self _ _
theorem of_below {h : Heap} {L S d b : Addr} {o : Obj} (e : (below h L S d).get? b = some o) : b < L ∧ b ≠ S ∧ b ≠ d ∧ h.get? b = some o := by
  have h1 : b < L := Nat.lt_of_lt_of_le (Heap.lt_size e) (below_size h L S d)
  have h2 : b ≠ S := fun q => by rw [q, below_S] at e; cases e
  have h3 : b ≠ d := fun q => by rw [q, below_d] at e; cases e
  exact ⟨h1, h2, h3, (below_get h1 h2 h3) ▸ e⟩
structure Where where
  S : Addr
  d : Addr
  C : Addr
  N : Nat
noncomputable def Keeps (W : Where) (L : Addr) (fr : List Addr) (h h' : Heap) : Prop :=
  ∀ b o, b < L → b ≠ W.S → b ≠ W.d → h.get? b = some o → ∃ sl, h'.get? b = some { o with slots := sl } ∧ (b ∉ fr → sl = o.slots)
theorem Keeps.refl (W : Where) (L : Addr) (fr : List Addr) (h : Heap) : Keeps W L fr h h := fun _ o _ _ _ e => ⟨o.slots, e, fun _ => rfl⟩
theorem Keeps.trans {W : Where} {L : Addr} {fr : List Addr} {h h' h'' : Heap} (a : Keeps W L fr h h') (b : Keeps W L fr h' h'') : Keeps W L fr h h'' := fun x o h1 h2 h3 e => by
  obtain ⟨sl, e1, k1⟩ := a x o h1 h2 h3 e
  obtain ⟨sl', e2, k2⟩ := b x _ h1 h2 h3 e1
  exact ⟨sl', e2, fun q => (k2 q).trans (k1 q)⟩
theorem Keeps.of_below {W : Where} {L : Addr} {fr : List Addr} {h h' : Heap} (k : ∀ b o, (below h L W.S W.d).get? b = some o → h'.get? b = some o) : Keeps W L fr h h' := fun b o h1 h2 h3 e =>
  ⟨o.slots, k b o ((below_get h1 h2 h3).trans e), fun _ => rfl⟩
theorem Keeps.exact {W : Where} {L : Addr} {fr : List Addr} {h h' : Heap} (k : Keeps W L fr h h') {b : Addr} {o : Obj} (h1 : b < L) (h2 : b ≠ W.S) (h3 : b ≠ W.d) (h4 : b ∉ fr) (e : h.get? b = some o) : h'.get? b = some o := by
  obtain ⟨sl, e1, k1⟩ := k b o h1 h2 h3 e
  rw [k1 h4] at e1; exact e1
noncomputable def Frames (fr : List Addr) (envs : List Env) (h : Heap) : Prop := envs.map (·.frame) = fr.map some ∧ (∀ e ∈ envs, e.scope.kind = .function) ∧ ∀ L ∈ fr, ∃ o es n, h.get? L = some o ∧ o.data = .dict es n
noncomputable def SetIs (prog : Program) (w : World) (K : Frag) (a : Addr) (l : List Nat) : Prop :=
  ∃ n, ∀ h, K.In h → h.SetOf (strKind prog w) a (fun k => l.any fun c => k == (⟨#[c]⟩ : PySem.Str)) n
noncomputable def AmongIs (K : Frag) (CA : Addr) (a : Addr) (x : AM) : Prop :=
  ∃ dx sl es n ts ti tr, K.lookup a = some ⟨.ref CA, some dx, .plain, sl⟩ ∧ K.lookup dx = some (dictOf es n) ∧
    getL "s" es = some (some (.str ⟨x.1.toArray⟩ ts)) ∧ getL "substring_i" es = some (some (.int x.2.1 ti)) ∧ getL "result" es = some (some (.int x.2.2 tr)) ∧ x.1.length ≤ 1000
noncomputable def TabIs (K : Frag) (CA : Addr) (a : Addr) (t : List AM) : Prop :=
  ∃ vs : List Value, (∃ dd sl n, K.lookup a = some ⟨.type "list", dd, .seq vs.toArray n, sl⟩) ∧ vs.length = t.length ∧ t.length ≤ 1000 ∧ ∀ (i : Nat) (x : AM), t[i]? = some x → ∃ b, vs[i]? = some (Value.ref b) ∧ AmongIs K CA b x
section
variable (prog : Program) (w : World) (K : Frag) (CA S : Addr)
noncomputable def VRel : V → Value → Prop
  | .none, .none => True
  | .bool b, .bool c => b = c
  | .int i, .int j _ => i = j
  | .str s, .str x _ => x = ⟨s.toArray⟩ ∧ s.length ≤ 1000
  | .self, .ref a => a = S
  | .set l, .ref a => SetIs prog w K a l
  | .tab t, .ref a => TabIs K CA a t
  | .among x, .ref a => AmongIs K CA a x
  | _, _ => False
noncomputable def LocRel (names : List PySem.Str) (m : Loc) (mm : PySem.Str → Option Value) : Prop :=
  m.length = names.length ∧ names.Nodup ∧ ∀ x n v, names[x]? = some n → m.at x = some v → ∃ val, mm n = some val ∧ VRel prog w K CA S v val
noncomputable def opt3 : List Fld := [.pv, .p1, .p2]
noncomputable def missing (es : List DictEntry) : Nat := (opt3.filter fun a => getL a.name es == some none).length
noncomputable def FieldsAre (f : F) (es : List DictEntry) : Prop :=
  (∀ a : Fld, (∃ val, getL a.name es = some (some val) ∧ VRel prog w K CA S (f.get a) val) ∨ (a ∈ opt3 ∧ getL a.name es = some none ∧ f.get a = .int 0)) ∧
  (∀ m : Mth, getL m.name es = some none) ∧ es.length + missing es ≤ 9
end
structure Bx where
  prog : Program
  w : World
  K : Frag
  H : Heap
  CA : Addr
  W : Where
  mg : PySem.Str → Option Value
  mb : PySem.Str → Option Value
  κ : Kap
  fa : Fld → Option Value
  cv : Cst → Value
  ma : Mth → Addr
  la : Nat → Addr
  mc : Value
noncomputable abbrev Bx.vrel (b : Bx) : V → Value → Prop := VRel b.prog b.w b.K b.CA b.W.S
structure Fx where
  names : List PySem.Str
  qual : PySem.Str
  sc : Scope
  a : Addr
  cd : Value
  L : Addr
  fr : List Addr
  envs : List Env
  own : List (Addr × Obj)
noncomputable abbrev Fx.env (x : Fx) : Env := envOf x.qual x.sc x.L x.a x.cd
noncomputable def labName (i : Nat) : PySem.Str := match i with | 0 => "lab0" | 1 => "lab1" | 2 => "lab2" | _ => "lab3"
structure Gr (b : Bx) : Prop where
  X : b.K.In b.H
  ng : b.H.Ns mainGlobals b.mg
  nb : b.H.Ns builtinsNs b.mb
  lim : b.H.NoLimit
  cls : b.mg "FrenchStemmer" = some (.ref b.W.C)
  dict : hasDictIn b.K b.W.C = true
  plain : plainGet b.K b.W.C "" = true
  sets : findIn b.K (.ref b.W.C) "__setattr__" = some (some (.builtin "object.__setattr__"))
  over : plainOver b.K b.W.C = true
  mct : typeIn b.K (.ref b.W.C) = some b.mc
  mcr : readsIn b.K b.W.C b.mc = true
  fld : ∀ a : Fld, findIn b.K (.ref b.W.C) a.name = some (b.fa a) ∧ noGet b.K (b.fa a) = true ∧ takerIn b.K b.W.C a.name = some none
  opt : ∀ a ∈ opt3, ∃ t, b.fa a = some (.int 0 t)
  cst : ∀ k : Cst, findCls b.K (.ref b.W.C) b.mc k.name = some (.val (b.cv k)) ∧ handedIn (b.cv k) = true ∧ ∀ S, VRel b.prog b.w b.K b.CA S (b.κ k) (b.cv k)
  mth : ∀ m : Mth, findIn b.K (.ref b.W.C) m.name = some (some (.ref (b.ma m))) ∧ isFn b.K (.ref (b.ma m)) = true ∧ keepIn b.K (.ref (b.ma m)) = true
  dictA : hasDictIn b.K b.CA = true
  plainA : plainGet b.K b.CA "" = true
  fldA : ∀ n ∈ (["s", "substring_i", "result"] : List PySem.Str), findIn b.K (.ref b.CA) n = some none
  blt : ∀ n ∈ (["len", "min", "ord", "range"] : List String), b.mg (PySem.Str.ofString n) = none ∧ b.mb (PySem.Str.ofString n) = some (if n = "range" then .type n else .builtin n)
  lab : ∀ i, i < 4 → ∃ bm newId B initId, OwnCls (labName i) (b.la i) bm newId b.mg b.H ∧ ExcBaseFacts B newId initId bm
structure Inv (b : Bx) (x : Fx) (f : F) (m : Loc) (h : Heap) : Prop where
  old : ∀ a o, b.H.get? a = some o → h.get? a = some o
  frame : ∃ mm, h.Ns x.L mm ∧ LocRel b.prog b.w b.K b.CA b.W.S x.names m mm
  inst : h.get? b.W.S = some (instObj b.W.C b.W.d)
  dict : ∃ es n, h.get? b.W.d = some (dictOf es n) ∧ FieldsAre b.prog b.w b.K b.CA b.W.S f es
  frames : Frames x.fr x.envs h
  own : ∀ p ∈ x.own, h.get? p.1 = some p.2
structure Place (b : Bx) (x : Fx) : Prop where
  sd : b.W.S ≠ b.W.d
  ns : b.H.objs.size ≤ b.W.S
  nd : b.H.objs.size ≤ b.W.d
  sl : b.W.S < x.L
  dl : b.W.d < x.L
  fr : ∀ L ∈ x.fr, b.H.objs.size ≤ L ∧ L < x.L ∧ L ≠ b.W.S ∧ L ≠ b.W.d
  fn : x.sc.kind = .function
  own : ∀ p ∈ x.own, x.L < p.1
section
variable {b : Bx} {x : Fx} {f : F} {m : Loc} {h h' : Heap}
theorem Place.nl (P : Place b x) : b.H.objs.size ≤ x.L := Nat.le_trans P.ns (Nat.le_of_lt P.sl)
theorem Inv.base (I : Inv b x f m h) (P : Place b x) : ∀ a o, b.H.get? a = some o → (below h x.L b.W.S b.W.d).get? a = some o := fun a o e => by
  have h1 := Heap.lt_size e
  rw [below_get (Nat.lt_of_lt_of_le h1 P.nl) (Nat.ne_of_lt (Nat.lt_of_lt_of_le h1 P.ns)) (Nat.ne_of_lt (Nat.lt_of_lt_of_le h1 P.nd))]
  exact I.old a o e
theorem Inv.open (I : Inv b x f m h) (P : Place b x) : ∃ mm es n, Fr (below h x.L b.W.S b.W.d) x.L h mm ∧ News (below h x.L b.W.S b.W.d) x.L h ((b.W.S, instObj b.W.C b.W.d) :: (b.W.d, dictOf es n) :: x.own) ∧
    LocRel b.prog b.w b.K b.CA b.W.S x.names m mm ∧ FieldsAre b.prog b.w b.K b.CA b.W.S f es := by
  obtain ⟨mm, hn, hl⟩ := I.frame
  obtain ⟨es, n, hd, hf⟩ := I.dict
  refine ⟨mm, es, n, ⟨hn, fun a o e => (of_below e).2.2.2, below_size _ _ _ _⟩, fun p hp => ?_, hl, hf⟩
  rcases List.mem_cons.mp hp with rfl | hp
  · exact ⟨I.inst, Nat.ne_of_lt P.sl, below_S⟩
  · rcases List.mem_cons.mp hp with rfl | hp
    · exact ⟨hd, Nat.ne_of_lt P.dl, below_d⟩
    · exact ⟨I.own p hp, Nat.ne_of_gt (P.own p hp), Heap.get?_none_of_le (Nat.le_of_lt (Nat.lt_of_le_of_lt (below_size _ _ _ _) (P.own p hp)))⟩
theorem Frames.keeps {W : Where} {L : Addr} {fr : List Addr} {envs : List Env} (x : Frames fr envs h) (k : Keeps W L fr h h') (p : ∀ l ∈ fr, l < L ∧ l ≠ W.S ∧ l ≠ W.d) : Frames fr envs h' := by
  refine ⟨x.1, x.2.1, fun l hl => ?_⟩
  obtain ⟨o, es, n, e, d⟩ := x.2.2 l hl
  obtain ⟨p1, p2, p3⟩ := p l hl
  obtain ⟨sl, e', _⟩ := k l o p1 p2 p3 e
  exact ⟨_, es, n, e', d⟩
theorem Inv.close (I : Inv b x f m h) (P : Place b x) {mm : PySem.Str → Option Value} {es : List DictEntry} {n : Nat} {f' : F} {m' : Loc} (F : Fr (below h x.L b.W.S b.W.d) x.L h' mm)
    (N : News (below h x.L b.W.S b.W.d) x.L h' ((b.W.S, instObj b.W.C b.W.d) :: (b.W.d, dictOf es n) :: x.own)) (hl : LocRel b.prog b.w b.K b.CA b.W.S x.names m' mm) (hf : FieldsAre b.prog b.w b.K b.CA b.W.S f' es) :
    Inv b x f' m' h' ∧ Keeps b.W x.L x.fr h h' := by
  have k : Keeps b.W x.L x.fr h h' := Keeps.of_below F.keep
  refine ⟨⟨fun a o e => F.keep a o (I.base P a o e), ⟨mm, F.ns, hl⟩, (N _ (.head _)).1, ⟨es, n, (N _ (.tail _ (.head _))).1, hf⟩, I.frames.keeps k fun l hl => (P.fr l hl).2, fun p hp => (N p (.tail _ (.tail _ hp))).1⟩, k⟩
theorem Inv.instAt (_ : Inv b x f m h) {es : List DictEntry} {n : Nat} {B : Heap} {l : List (Addr × Obj)} (N : News B x.L h ((b.W.S, instObj b.W.C b.W.d) :: (b.W.d, dictOf es n) :: l)) : InstAt h b.W.S (instObj b.W.C b.W.d) b.W.C (some (dictOf es n)) :=
  ⟨(N _ (.head _)).1, rfl, rfl, (N _ (.tail _ (.head _))).1⟩
end
end Mine
end
section
open PySem PySem.W PySem.Calls PyProof.Rows
namespace Mine
section
variable (names : List PySem.Str) (sc : Scope)
noncomputable def isLoc (i : Nat) (id : PySem.Str) : Bool := names[i]? == some id && decide (sc.names.lookup id = some .local) && !(id == ("__debug__" : PySem.Str))
noncomputable def isGlob (id n : PySem.Str) : Bool := id == n && decide (sc.names.lookup id = some .globalImplicit) && !(id == ("__debug__" : PySem.Str))
noncomputable def opOf : Cmp → CmpOp
  | .lt => .Lt | .le => .LtE | .gt => .Gt | .ge => .GtE | .eq => .Eq | .ne => .NotEq | .isin => .In | .notin => .NotIn
noncomputable abbrev Orc := List Nat → Nat × Pos
noncomputable def Orc.at (π : Orc) (i : Nat) : Orc := fun q => π (i :: q)
noncomputable def Orc.p (π : Orc) : Pos := (π []).2
noncomputable def Orc.k (π : Orc) : Nat := (π []).1
noncomputable def nm (i : Nat) : PySem.Str := names.getD i ""
noncomputable def lname (i : Nat) (π : Orc) : PySem.Expr := .Name (nm names i) π.p
noncomputable def dot (i : Nat) (n : PySem.Str) (π : Orc) : PySem.Expr := .Attribute (lname names i (π.at 0)) n π.p
noncomputable def exprOf : CE → Orc → PySem.Expr
  | .int n, π => .Constant (.int n) π.k π.p
  | .neg n, π => .UnaryOp .USub (.Constant (.int n) (π.at 0).k (π.at 0).p) π.p
  | .str s, π => .Constant (.str ⟨s.toArray⟩) π.k π.p
  | .bool c, π => .Constant (.bool c) π.k π.p
  | .loc i, π => lname names i π
  | .fld a, π => dot names 0 a.name π
  | .cst k, π => .Attribute (.Name "FrenchStemmer" (π.at 0).p) k.name π.p
  | .amS i, π => dot names i "s" π
  | .amI i, π => dot names i "substring_i" π
  | .amR i, π => dot names i "result" π
  | .add a c, π => .BinOp (exprOf a (π.at 0)) .Add (exprOf c (π.at 1)) π.p
  | .sub a c, π => .BinOp (exprOf a (π.at 0)) .Sub (exprOf c (π.at 1)) π.p
  | .shr a c, π => .BinOp (exprOf a (π.at 0)) .RShift (exprOf c (π.at 1)) π.p
  | .idx a c, π => .Subscript (exprOf a (π.at 0)) (exprOf c (π.at 1)) π.p
  | .item i c, π => .Subscript (lname names i (π.at 0)) (exprOf c (π.at 1)) π.p
  | .cut a lo hi, π => .Subscript (exprOf a (π.at 0)) (.Slice (some (exprOf lo ((π.at 1).at 0))) (some (exprOf hi ((π.at 1).at 1))) none (π.at 1).p) π.p
  | .cutL a lo, π => .Subscript (exprOf a (π.at 0)) (.Slice (some (exprOf lo ((π.at 1).at 0))) none none (π.at 1).p) π.p
  | .call0 k, π => .Call (dot names 0 k.name (π.at 0)) [] [] π.p
  | .call1 k a, π => .Call (dot names 0 k.name (π.at 0)) [exprOf a (π.at 1)] [] π.p
  | .call3 k a c d, π => .Call (dot names 0 k.name (π.at 0)) [exprOf a (π.at 1), exprOf c (π.at 2), exprOf d (π.at 3)] [] π.p
  | .len a, π => .Call (.Name "len" (π.at 0).p) [exprOf a (π.at 1)] [] π.p
  | .ord a, π => .Call (.Name "ord" (π.at 0).p) [exprOf a (π.at 1)] [] π.p
  | .min a c, π => .Call (.Name "min" (π.at 0).p) [exprOf a (π.at 1), exprOf c (π.at 2)] [] π.p
  | .starts a c, π => .Call (.Attribute (exprOf a ((π.at 0).at 0)) "startswith" (π.at 0).p) [exprOf c (π.at 1)] [] π.p
  | .ends a c, π => .Call (.Attribute (exprOf a ((π.at 0).at 0)) "endswith" (π.at 0).p) [exprOf c (π.at 1)] [] π.p
  | .cmp o a c, π => .Compare (exprOf a (π.at 0)) [opOf o] [exprOf c (π.at 1)] π.p
noncomputable def lineOk (π : Orc) : Bool := (π.at 0).p.endLine == π.p.line
noncomputable def isCut : CE → Bool
  | .cut .. => true
  | _ => false
noncomputable def isExC : CE → Bool
  | .neg _ => false
  | .cmp .. => false
  | _ => true
noncomputable def okL (i : Nat) : Bool := isLoc names sc i (nm names i)
noncomputable def okG (n : PySem.Str) : Bool := isGlob sc n n
noncomputable def okE : CE → Orc → Bool
  | .int _, _ => true
  | .neg _, _ => true
  | .str s, _ => decide (s.length ≤ 1000)
  | .bool _, _ => true
  | .loc i, _ => okL names sc i
  | .fld _, _ => okL names sc 0
  | .cst _, _ => okG sc "FrenchStemmer"
  | .amS i, _ => okL names sc i
  | .amI i, _ => okL names sc i
  | .amR i, _ => okL names sc i
  | .add a c, π => okE a (π.at 0) && okE c (π.at 1)
  | .sub a c, π => okE a (π.at 0) && okE c (π.at 1)
  | .shr a c, π => okE a (π.at 0) && okE c (π.at 1)
  | .idx a c, π => okE a (π.at 0) && okE c (π.at 1)
  | .item i c, π => okL names sc i && okE c (π.at 1)
  | .cut a lo hi, π => okE a (π.at 0) && (okE lo ((π.at 1).at 0) && okE hi ((π.at 1).at 1))
  | .cutL a lo, π => okE a (π.at 0) && okE lo ((π.at 1).at 0)
  | .call0 _, π => okL names sc 0 && lineOk π
  | .call1 _ a, π => okL names sc 0 && (lineOk π && okE a (π.at 1))
  | .call3 _ a c d, π => okL names sc 0 && (lineOk π && (okE a (π.at 1) && (okE c (π.at 2) && okE d (π.at 3))))
  | .len a, π => okG sc "len" && okE a (π.at 1)
  | .ord a, π => okG sc "ord" && okE a (π.at 1)
  | .min a c, π => okG sc "min" && (okE a (π.at 1) && okE c (π.at 2))
  | .starts a c, π => isCut a && (lineOk π && (okE a ((π.at 0).at 0) && okE c (π.at 1)))
  | .ends a c, π => isCut a && (lineOk π && (okE a ((π.at 0).at 0) && okE c (π.at 1)))
  | .cmp _ a c, π => okE a (π.at 0) && okE c (π.at 1)
end
section
variable {b : Bx} {x : Fx}
structure Amb (b : Bx) (x : Fx) (A : Around) (k : Nat) : Prop where
  place : Place b x
  handled : A.handled = none
  frames : A.frames = some (x.env :: x.envs)
  depth : A.depth + 5 * k ≤ 600
  units : A.units + 50 * k ≤ 8000
noncomputable def Ok (b : Bx) (x : Fx) (s : Shared) (v : V) (f : F) (m : Loc) (Q : Value → Shared → Prop) : Prop :=
  ∀ val s', b.vrel v val → Inv b x f m s'.heap → Keeps b.W x.L x.fr s.heap s'.heap → s'.gens = s.gens → s'.os = s.os → Q val s'
theorem Ok.here {s : Shared} {v : V} {f : F} {m : Loc} {Q : Value → Shared → Prop} (k : Ok b x s v f m Q) {val : Value} (hv : b.vrel v val) (I : Inv b x f m s.heap) {t : Nat} : Q val { s with toks := t } :=
  k val _ hv I (Keeps.refl _ _ _ _) rfl rfl
theorem Ok.from {s s₁ : Shared} {v : V} {f : F} {m : Loc} {Q : Value → Shared → Prop} (k : Ok b x s v f m Q) (hk : Keeps b.W x.L x.fr s.heap s₁.heap) (hg : s₁.gens = s.gens) (ho : s₁.os = s.os) : Ok b x s₁ v f m Q :=
  fun val s' a c d e g => k val s' a c (hk.trans d) (e.trans hg) (g.trans ho)
inductive All2 {α β : Type} (R : α → β → Prop) : List α → List β → Prop
  | nil : All2 R [] []
  | cons {a : α} {b : β} {l : List α} {r : List β} : R a b → All2 R l r → All2 R (a :: l) (b :: r)
noncomputable def SimE (b : Bx) (x : Fx) (A : Around) (μ : Mu) (m : Loc) (c : CE) (e : PySem.Expr) : Prop :=
  ∀ (f : F) (v : V) (f' : F) (s : Shared) (Q : Value → Shared → Prop) (E : Value → Shared → Prop), evalE μ b.κ m c f = some (v, f') → Inv b x f m s.heap → Ok b x s v f' m Q → wpAny (model b.prog b.w) A (eval e x.env) Q E s
noncomputable def Real (b : Bx) (μ : Mu) (k : Nat) : Prop :=
  ∀ (x : Fx) (A : Around) (n : Mth) (args : List V) (f : F) (v : V) (f' : F) (m : Loc) (vals : List Value) (s : Shared) (Q : Value → Shared → Prop) (E : Value → Shared → Prop), μ n args f = some (v, f') → All2 b.vrel args vals → Amb b x A k →
    Inv b x f m s.heap → (∀ val s', b.vrel v val → Inv b x f' m s'.heap → Keeps b.W x.L x.fr s.heap s'.heap → s'.gens = s.gens → s'.os = s.os → (∀ mm, s.heap.Ns x.L mm → s'.heap.Ns x.L mm) → Q val s') → wpAny (model b.prog b.w) A (call (.ref (b.ma n)) (.ref b.W.S :: vals)) Q E s
theorem isLoc_at {names : List PySem.Str} {sc : Scope} {i : Nat} {id : PySem.Str} (h : isLoc names sc i id = true) : names[i]? = some id ∧ sc.names.lookup id = some .local ∧ (id == ("__debug__" : PySem.Str)) = false := by
  unfold isLoc at h
  simp only [Bool.and_eq_true, beq_iff_eq, decide_eq_true_eq, Bool.not_eq_true'] at h
  exact ⟨h.1.1, h.1.2, h.2⟩
theorem isGlob_at {sc : Scope} {id n : PySem.Str} (h : isGlob sc id n = true) : id = n ∧ sc.names.lookup id = some .globalImplicit ∧ (id == ("__debug__" : PySem.Str)) = false := by
  unfold isGlob at h
  simp only [Bool.and_eq_true, beq_iff_eq, decide_eq_true_eq, Bool.not_eq_true'] at h
  exact ⟨h.1.1, h.1.2, h.2⟩
variable {A : Around} {μ : Mu} {m : Loc} {k : Nat}
theorem sim_loc {i : Nat} {id : PySem.Str} {pos : Pos} {v : V} {f : F} {s : Shared} {Q : Value → Shared → Prop} {E : Value → Shared → Prop} (P : Place b x) (hc : isLoc x.names x.sc i id = true) (hv : m.at i = some v) (I : Inv b x f m s.heap)
    (h : ∀ val, b.vrel v val → Q val s) : wpAny (model b.prog b.w) A (eval (.Name id pos) x.env) Q E s := by
  obtain ⟨h1, h2, h3⟩ := isLoc_at hc
  obtain ⟨mm, es, n, F, N, hl, hf⟩ := I.open P
  obtain ⟨val, e, r⟩ := hl.2.2 i id v h1 hv
  exact ld F e (h val r) P.fn h2 h3
theorem self_ref {val : Value} (h : b.vrel .self val) : val = .ref b.W.S := by
  cases val <;> first | exact h.elim | exact congrArg Value.ref h
theorem among_ref {a : AM} {val : Value} (h : b.vrel (.among a) val) : ∃ p, val = .ref p ∧ AmongIs b.K b.CA p a := by
  cases val <;> first | exact h.elim | exact ⟨_, rfl, h⟩
theorem str_val {t : List Nat} {val : Value} (h : b.vrel (.str t) val) : ∃ tk, val = .str ⟨t.toArray⟩ tk ∧ t.length ≤ 1000 := by
  cases val <;> first | exact h.elim | (obtain ⟨rfl, h⟩ := h; exact ⟨_, rfl, h⟩)
theorem int_val {i : Int} {val : Value} (h : b.vrel (.int i) val) : ∃ tk, val = .int i tk := by
  cases val <;> first | exact h.elim | (cases h; exact ⟨_, rfl⟩)
theorem bool_val {c : Bool} {val : Value} (h : b.vrel (.bool c) val) : val = .bool c := by
  cases val <;> first | exact h.elim | (cases h; rfl)
theorem mk_str {t : List Nat} {tk : Tok} (h : t.length ≤ 1000) : b.vrel (.str t) (.str ⟨t.toArray⟩ tk) := ⟨rfl, h⟩
theorem mk_int {i : Int} {tk : Tok} : b.vrel (.int i) (.int i tk) := rfl
theorem mk_bool {c : Bool} : b.vrel (.bool c) (.bool c) := rfl
theorem keep_toks {s : Shared} {t : Nat} {f : F} (I : Inv b x f m s.heap) : Inv b x f m ({ s with toks := t } : Shared).heap := I
theorem not_bltin (a : PySem.Str) (h : a ∈ ([] : List PySem.Str)) : False := by cases h
theorem sim_fld {a : Fld} {id n : PySem.Str} {p pos : Pos} (G : Gr b) (P : Place b x) (hc : isLoc x.names x.sc 0 id = true) (hn : n = a.name) : SimE b x A μ m (.fld a) (.Attribute (.Name id p) n pos) := by
  subst hn
  intro f v f' s Q E he I k
  simp only [ev_fld] at he
  split at he
  · rename_i h0
    cases he
    refine Attribute_Name_ (sim_loc P hc h0 I fun val hv => ?_)
    obtain rfl := self_ref hv
    obtain ⟨mm, es, n, F, N, hl, hf⟩ := I.open P
    have X := G.X.keeps (I.base P)
    have hI := I.instAt N
    obtain ⟨g1, g2, g3⟩ := G.fld a
    rcases hf.1 a with ⟨val, e, r⟩ | ⟨ha, e, r⟩
    · refine get_own F X hI G.plain G.dict g1 g2 e ?_ (k.here r I)
      have : ∀ {u : Value}, b.vrel (f.get a) u → handedIn u = true := fun {u} q => by
        cases a <;> (cases u <;> first | exact q.elim | rfl)
      exact this r
    · obtain ⟨t, ht⟩ := G.opt a ha
      rw [ht] at g1 g2
      have g : specialIn b.K (.int 0 t) "__get__" = some none := beq_iff_eq.mp g2
      refine get_cls F X hI G.plain G.dict g1 g rfl ?_ e (k.here (by rw [r]; exact mk_int) I)
      revert ha; cases a <;> (intro ha; first | decide | (exfalso; revert ha; decide))
  · first | exact no_none he | exact no_false he | cases he
end
end Mine
end
section
open PySem PySem.W PySem.Calls PyProof.Rows
namespace Mine
section
variable {b : Bx} {x : Fx} {A : Around} {μ : Mu} {m : Loc} {k : Nat}
theorem sim_int {n : Nat} {i : Int} {kd : Nat} {pos : Pos} (h : i = (n : Int)) : SimE b x A μ m (.int n) (.Constant (.int i) kd pos) := by
  subst h
  intro f v f' s Q E he I k
  cases he
  exact wpAny_Constant_int (k.here mk_int I)
theorem sim_neg {n : Nat} {i : Int} {kd : Nat} {p pos : Pos} (h : i = (n : Int)) : SimE b x A μ m (.neg n) (.UnaryOp .USub (.Constant (.int i) kd p) pos) := by
  subst h
  intro f v f' s Q E he I k
  cases he
  refine wpAny_UnaryOp (wpAny_Constant_int ?_)
  exact neg_int (k.here mk_int I)
theorem sim_str {t : List Nat} {y : PySem.Str} {kd : Nat} {pos : Pos} (h : y = ⟨t.toArray⟩) (hl : t.length ≤ 1000) : SimE b x A μ m (.str t) (.Constant (.str y) kd pos) := by
  subst h
  intro f v f' s Q E he I k
  cases he
  exact Constant_str (k.here (mk_str hl) I)
theorem sim_bool {c d : Bool} {kd : Nat} {pos : Pos} (h : c = d) : SimE b x A μ m (.bool c) (.Constant (.bool d) kd pos) := by
  subst h
  intro f v f' s Q E he I k
  cases he
  show wpAny _ _ (constValue _ _) _ _ _
  exact wpAny_pure (k _ _ mk_bool I (Keeps.refl _ _ _ _) rfl rfl)
theorem sim_locE {i : Nat} {id : PySem.Str} {pos : Pos} (P : Place b x) (hc : isLoc x.names x.sc i id = true) : SimE b x A μ m (.loc i) (.Name id pos) := by
  intro f v f' s Q E he I k
  obtain ⟨u, hu, e⟩ := Option.map_eq_some_iff.mp he
  cases e
  exact sim_loc P hc hu I fun val hv => k _ _ hv I (Keeps.refl _ _ _ _) rfl rfl
theorem global_class {id : PySem.Str} {pos : Pos} {f : F} {s : Shared} {Q : Value → Shared → Prop} {E : Value → Shared → Prop} (G : Gr b) (P : Place b x) (hc : isGlob x.sc id "FrenchStemmer" = true) (I : Inv b x f m s.heap) (h : Q (.ref b.W.C) s) :
    wpAny (model b.prog b.w) A (eval (.Name id pos) x.env) Q E s := by
  obtain ⟨rfl, h2, h3⟩ := isGlob_at hc
  obtain ⟨mm, es, n, F, N, hl, hf⟩ := I.open P
  exact ld_global_at F (G.ng.keeps (I.base P)) G.cls h P.fn h2 h3
theorem sim_cst {c : Cst} {id n : PySem.Str} {p pos : Pos} (G : Gr b) (P : Place b x) (hc : isGlob x.sc id "FrenchStemmer" = true) (hn : n = c.name) : SimE b x A μ m (.cst c) (.Attribute (.Name id p) n pos) := by
  subst hn
  intro f v f' s Q E he I k
  cases he
  refine Attribute_Name_ (global_class G P hc I ?_)
  obtain ⟨mm, es, n, F, N, hl, hf⟩ := I.open P
  obtain ⟨g1, g2, g3⟩ := G.cst c
  exact cls_val F (G.X.keeps (I.base P)) G.mct G.mcr g1 g2 (k.here (g3 _) I)
theorem among_get {a : AM} {i : Nat} {id n : PySem.Str} {p pos : Pos} {v : V} {f : F} {s : Shared} {Q : Value → Shared → Prop} {E : Value → Shared → Prop} (G : Gr b) (P : Place b x) (hc : isLoc x.names x.sc i id = true) (hm : m.at i = some (.among a))
    (hn : n ∈ (["s", "substring_i", "result"] : List PySem.Str)) (hv : ∀ q, AmongIs b.K b.CA q a → ∃ dx sl es k val, b.K.lookup q = some ⟨.ref b.CA, some dx, .plain, sl⟩ ∧ b.K.lookup dx = some (dictOf es k) ∧ getL n es = some (some val) ∧ handedIn val = true ∧ b.vrel v val)
    (I : Inv b x f m s.heap) (k : Ok b x s v f m Q) : wpAny (model b.prog b.w) A (eval (.Attribute (.Name id p) n pos) x.env) Q E s := by
  refine Attribute_Name_ (sim_loc P hc hm I fun val hr => ?_)
  obtain ⟨q, rfl, ha⟩ := among_ref hr
  obtain ⟨dx, sl, es, kk, u, e1, e2, e3, e4, e5⟩ := hv q ha
  obtain ⟨mm, _, _, F, N, hl, hf⟩ := I.open P
  have X := G.X.keeps (I.base P)
  have hI : InstAt s.heap q ⟨.ref b.CA, some dx, .plain, sl⟩ b.CA (some (dictOf es kk)) := InstAt.of_K (X.keeps F.keep) e1 e2
  exact get_own F X hI G.plainA G.dictA (G.fldA n hn) rfl e3 e4 (k.here e5 I)
theorem sim_amS {i : Nat} {id n : PySem.Str} {p pos : Pos} (G : Gr b) (P : Place b x) (hc : isLoc x.names x.sc i id = true) (hn : n = "s") : SimE b x A μ m (.amS i) (.Attribute (.Name id p) n pos) := by
  subst hn
  intro f v f' s Q E he I k
  simp only [ev_amS] at he
  split at he
  · rename_i a h0
    cases he
    refine among_get G P hc h0 (.head _) (fun q ha => ?_) I k
    obtain ⟨dx, sl, es, n, ts, ti, tr, e1, e2, e3, e4, e5, e6⟩ := ha
    exact ⟨dx, sl, es, n, _, e1, e2, e3, rfl, mk_str e6⟩
  · first | exact no_none he | exact no_false he | cases he
theorem sim_amI {i : Nat} {id n : PySem.Str} {p pos : Pos} (G : Gr b) (P : Place b x) (hc : isLoc x.names x.sc i id = true) (hn : n = "substring_i") : SimE b x A μ m (.amI i) (.Attribute (.Name id p) n pos) := by
  subst hn
  intro f v f' s Q E he I k
  simp only [ev_amI] at he
  split at he
  · rename_i a h0
    cases he
    refine among_get G P hc h0 (.tail _ (.head _)) (fun q ha => ?_) I k
    obtain ⟨dx, sl, es, n, ts, ti, tr, e1, e2, e3, e4, e5, e6⟩ := ha
    exact ⟨dx, sl, es, n, _, e1, e2, e4, rfl, mk_int⟩
  · first | exact no_none he | exact no_false he | cases he
theorem sim_amR {i : Nat} {id n : PySem.Str} {p pos : Pos} (G : Gr b) (P : Place b x) (hc : isLoc x.names x.sc i id = true) (hn : n = "result") : SimE b x A μ m (.amR i) (.Attribute (.Name id p) n pos) := by
  subst hn
  intro f v f' s Q E he I k
  simp only [ev_amR] at he
  split at he
  · rename_i a h0
    cases he
    refine among_get G P hc h0 (.tail _ (.tail _ (.head _))) (fun q ha => ?_) I k
    obtain ⟨dx, sl, es, n, ts, ti, tr, e1, e2, e3, e4, e5, e6⟩ := ha
    exact ⟨dx, sl, es, n, _, e1, e2, e5, rfl, mk_int⟩
  · first | exact no_none he | exact no_false he | cases he
theorem sim_two {ca cb : CE} {ea eb : PySem.Expr} {f : F} {op : V → V → Option V} {v : V} {f' : F} {s : Shared} {P : Value → Value → Shared → Prop} {E : Value → Shared → Prop} (sa : SimE b x A μ m ca ea) (sb : SimE b x A μ m cb eb)
    (he : ((evalE μ b.κ m ca f).bind fun y => (evalE μ b.κ m cb y.2).bind fun z => (op y.1 z.1).map fun v => (v, z.2)) = some (v, f')) (I : Inv b x f m s.heap)
    (h : ∀ va vb u w s', op va vb = some v → b.vrel va u → b.vrel vb w → Inv b x f' m s'.heap → Keeps b.W x.L x.fr s.heap s'.heap → s'.gens = s.gens → s'.os = s.os → P u w s') :
    wpAny (model b.prog b.w) A (eval ea x.env) (fun u s₁ => wpAny (model b.prog b.w) A (eval eb x.env) (fun w s₂ => P u w s₂) E s₁) E s := by
  obtain ⟨⟨va, f1⟩, e1, he⟩ := Option.bind_eq_some_iff.mp he
  obtain ⟨⟨vb, f2⟩, e2, he⟩ := Option.bind_eq_some_iff.mp he
  obtain ⟨v', e3, he⟩ := Option.map_eq_some_iff.mp he
  cases he
  exact sa f va f1 s _ E e1 I fun u s₁ hu I₁ k₁ g₁ o₁ => sb f1 vb f2 s₁ _ E e2 I₁ fun w s₂ hw I₂ k₂ g₂ o₂ => h va vb u w s₂ e3 hu hw I₂ (k₁.trans k₂) (g₂.trans g₁) (o₂.trans o₁)
theorem toks_ok {s s' : Shared} {v : V} {f : F} {Q : Value → Shared → Prop} (k : Ok b x s v f m Q) (hk : Keeps b.W x.L x.fr s.heap s'.heap) (hg : s'.gens = s.gens) (ho : s'.os = s.os) {val : Value} (hv : b.vrel v val) (I : Inv b x f m s'.heap) {t : Nat} : Q val { s' with toks := t } :=
  k val _ hv I hk hg ho
theorem same_ok {s s' : Shared} {v : V} {f : F} {Q : Value → Shared → Prop} (k : Ok b x s v f m Q) (hk : Keeps b.W x.L x.fr s.heap s'.heap) (hg : s'.gens = s.gens) (ho : s'.os = s.os) {val : Value} (hv : b.vrel v val) (I : Inv b x f m s'.heap) : Q val s' :=
  k val _ hv I hk hg ho
theorem str_app (s t : List Nat) : (⟨s.toArray⟩ : PySem.Str) ++ (⟨t.toArray⟩ : PySem.Str) = ⟨(s ++ t).toArray⟩ := by
  show PySem.Str.append _ _ = _
  simp [PySem.Str.append]
theorem sim_add {ca cb : CE} {ea eb : PySem.Expr} {pos : Pos} (sa : SimE b x A μ m ca ea) (sb : SimE b x A μ m cb eb) : SimE b x A μ m (.add ca cb) (.BinOp ea .Add eb pos) := by
  intro f v f' s Q E he I k
  refine wpAny_BinOp (sim_two sa sb he I fun va vb u w s' e hu hw I' hk hg ho => ?_)
  cases va <;> first | exact no_none e | exact no_false e | cases e | skip
  all_goals (cases vb <;> first | exact no_none e | exact no_false e | cases e | skip)
  · obtain ⟨tu, rfl⟩ := int_val hu
    obtain ⟨tw, rfl⟩ := int_val hw
    exact add_int (toks_ok k hk hg ho mk_int I')
  · obtain ⟨tu, rfl, lu⟩ := str_val hu
    obtain ⟨tw, rfl, lw⟩ := str_val hw
    simp only [addV_int, addV_s] at e
    split at e
    · rename_i hl
      cases e
      refine add_str (fun t' tk => ?_) ?_
      · rw [str_app]; exact toks_ok k hk hg ho (mk_str (by rw [List.length_append]; exact hl)) I'
      · show (List.toArray _).size + (List.toArray _).size ≤ _
        rw [List.size_toArray, List.size_toArray, sizeLine_eq]; lia
    · first | exact no_none e | exact no_false e | cases e
theorem sim_sub {ca cb : CE} {ea eb : PySem.Expr} {pos : Pos} (sa : SimE b x A μ m ca ea) (sb : SimE b x A μ m cb eb) : SimE b x A μ m (.sub ca cb) (.BinOp ea .Sub eb pos) := by
  intro f v f' s Q E he I k
  refine wpAny_BinOp (sim_two sa sb he I fun va vb u w s' e hu hw I' hk hg ho => ?_)
  cases va <;> first | exact no_none e | exact no_false e | cases e | skip
  all_goals (cases vb <;> first | exact no_none e | exact no_false e | cases e | skip)
  obtain ⟨tu, rfl⟩ := int_val hu
  obtain ⟨tw, rfl⟩ := int_val hw
  exact sub_int (toks_ok k hk hg ho mk_int I')
theorem sim_shr {ca cb : CE} {ea eb : PySem.Expr} {pos : Pos} (sa : SimE b x A μ m ca ea) (sb : SimE b x A μ m cb eb) : SimE b x A μ m (.shr ca cb) (.BinOp ea .RShift eb pos) := by
  intro f v f' s Q E he I k
  refine wpAny_BinOp (sim_two sa sb he I fun va vb u w s' e hu hw I' hk hg ho => ?_)
  cases va <;> first | exact no_none e | exact no_false e | cases e | skip
  all_goals (cases vb <;> first | exact no_none e | exact no_false e | cases e | skip)
  obtain ⟨tu, rfl⟩ := int_val hu
  obtain ⟨tw, rfl⟩ := int_val hw
  simp only [shV] at e
  split at e
  · rename_i h
    obtain ⟨h1, rfl⟩ := h
    cases e
    exact wpAny_rshift1_int h1 (toks_ok k hk hg ho mk_int I')
  · first | exact no_none e | exact no_false e | cases e
end
end Mine
end
section
open PySem PySem.W PySem.Calls PyProof.Rows
namespace Mine
section
variable {b : Bx} {x : Fx} {A : Around} {μ : Mu} {m : Loc} {k : Nat}
theorem arr_get {α : Type} {l : List α} {i : Nat} : (l.toArray)[i]? = l[i]? := by simp
theorem sub_ops (e : PySem.Expr) (o i : Value) : ∃ ops, subscripted e false o i = operate ops (getItem o i) := by
  cases e with
  | Slice l u st p => cases st <;> exact ⟨_, rfl⟩
  | _ => exact ⟨_, rfl⟩
theorem sim_idx {ca cb : CE} {ea eb : PySem.Expr} {pos : Pos} (sa : SimE b x A μ m ca ea) (sb : SimE b x A μ m cb eb) : SimE b x A μ m (.idx ca cb) (.Subscript ea eb pos) := by
  intro f v f' s Q E he I k
  refine Subscript_ (sim_two sa sb he I fun va vb u w s' e hu hw I' hk hg ho => ?_)
  cases va <;> first | exact no_none e | exact no_false e | cases e | skip
  all_goals (cases vb <;> first | exact no_none e | exact no_false e | cases e | skip)
  rename_i t i
  obtain ⟨tu, rfl, lu⟩ := str_val hu
  obtain ⟨tw, rfl⟩ := int_val hw
  simp only [iV] at e
  split at e
  · rename_i h0
    obtain ⟨c, hc, rfl⟩ := Option.map_eq_some_iff.mp e
    have hi : i.toNat < t.length := (List.getElem?_eq_some_iff.mp hc).1
    have hb : i < t.length := by lia
    obtain ⟨ops, hops⟩ := sub_ops eb (.str ⟨t.toArray⟩ tu) (.int i tw)
    refine tail_any (typeIs_str _ _ _) slot_str_getitem.lookup (getItem_str ?_ ?_ (toks_ok k hk hg ho (mk_str (t := [c]) (by simp)) I')) hops
    · rw [decide_eq_false (by lia), decide_eq_false (by lia)]; rfl
    · unfold seqIndex?
      have h1 : ¬ i < 0 := by lia
      have hl : PySem.Str.length ⟨t.toArray⟩ = t.length := by simp [PySem.Str.length]
      rw [hl, if_neg h1, if_pos (by simp only [Bool.and_eq_true, decide_eq_true_eq]; exact ⟨h0, hb⟩), Option.bind_some, arr_get]
      exact hc
  · first | exact no_none e | exact no_false e | cases e
theorem sim_item {i : Nat} {id : PySem.Str} {cb : CE} {eb : PySem.Expr} {p pos : Pos} (G : Gr b) (P : Place b x) (hc : isLoc x.names x.sc i id = true) (sb : SimE b x A μ m cb eb) : SimE b x A μ m (.item i cb) (.Subscript (.Name id p) eb pos) := by
  intro f v f' s Q E he I k
  simp only [ev_item] at he
  obtain ⟨vt, h0, he⟩ := Option.bind_eq_some_iff.mp he
  obtain ⟨⟨vb, f2⟩, e2, he⟩ := Option.bind_eq_some_iff.mp he
  obtain ⟨v', e3, he⟩ := Option.map_eq_some_iff.mp he
  cases he
  refine Subscript_ (sim_loc P hc h0 I fun u hu => sb f vb f2 s _ E e2 I fun w s' hw I' hk hg ho => ?_)
  obtain ⟨t, rfl⟩ : ∃ t, vt = .tab t := by cases vt <;> first | cases e3 | exact ⟨_, rfl⟩
  obtain ⟨j, rfl⟩ : ∃ j, vb = .int j := by cases vb <;> first | cases e3 | exact ⟨_, rfl⟩
  obtain ⟨tw, rfl⟩ := int_val hw
  simp only [itV] at e3
  split at e3
  · rename_i h0
    obtain ⟨a, ha, rfl⟩ := Option.map_eq_some_iff.mp e3
    have hi : j.toNat < t.length := (List.getElem?_eq_some_iff.mp ha).1
    cases u <;> first | exact hu.elim | skip
    obtain ⟨vs, ⟨dd, sl, n, hl⟩, hlen, hle, hat⟩ := hu
    obtain ⟨q, hq, hA⟩ := hat _ _ ha
    obtain ⟨mm, _, _, F, N, _, _⟩ := I'.open P
    obtain ⟨ops, hops⟩ := sub_ops eb (.ref _) (.int j tw)
    have hL := lstK ((G.X.keeps (I'.base P)).keeps F.keep) hl
    exact tail_any hL.typeIs slot_list_getitem.lookup (wpAny_getItem_list hL h0 (by lia) (by rw [arr_get]; exact hq) (same_ok k hk hg ho (show b.vrel (.among a) (.ref q) from hA) I')) hops
  · first | exact no_none e3 | exact no_false e3 | cases e3
theorem sub_toNat {n : Nat} {i : Int} : n - i.toNat ≤ ((n : Int) - i).toNat := by lia
theorem str_len (t : List Nat) : PySem.Str.length ⟨t.toArray⟩ = t.length := by simp [PySem.Str.length]
theorem sim_cut {ca cl ch : CE} {ea el eh : PySem.Expr} {p pos : Pos} (P : Place b x) (sa : SimE b x A μ m ca ea) (sl : SimE b x A μ m cl el) (sh : SimE b x A μ m ch eh) : SimE b x A μ m (.cut ca cl ch) (.Subscript ea (.Slice (some el) (some eh) none p) pos) := by
  intro f v f' s Q E he I k
  simp only [ev_cut] at he
  obtain ⟨⟨va, f1⟩, e1, he⟩ := Option.bind_eq_some_iff.mp he
  obtain ⟨⟨vl, f2⟩, e2, he⟩ := Option.bind_eq_some_iff.mp he
  obtain ⟨⟨vh, f3⟩, e3, he⟩ := Option.bind_eq_some_iff.mp he
  obtain ⟨v', e4, he⟩ := Option.map_eq_some_iff.mp he
  cases he
  refine Subscript_ (sa f va f1 s _ E e1 I fun u s₁ hu I₁ k₁ g₁ o₁ => wpAny_Slice (sl f1 vl f2 s₁ _ E e2 I₁ fun lo s₂ hlo I₂ k₂ g₂ o₂ => sh f2 vh f3 s₂ _ E e3 I₂ fun hi s₃ hhi I₃ k₃ g₃ o₃ => wpAny_pure ?_))
  have kk : Keeps b.W x.L x.fr s.heap s₃.heap := (k₁.trans k₂).trans k₃
  have gg : s₃.gens = s.gens := (g₃.trans g₂).trans g₁
  have oo : s₃.os = s.os := (o₃.trans o₂).trans o₁
  obtain ⟨t, rfl⟩ : ∃ t, va = .str t := by cases va <;> first | cases e4 | exact ⟨_, rfl⟩
  obtain ⟨i, rfl⟩ : ∃ i, vl = .int i := by cases vl <;> first | cases e4 | exact ⟨_, rfl⟩
  obtain ⟨j, rfl⟩ : ∃ j, vh = .int j := by cases vh <;> first | cases e4 | exact ⟨_, rfl⟩
  obtain ⟨tu, rfl, lu⟩ := str_val hu
  obtain ⟨tl, rfl⟩ := int_val hlo
  obtain ⟨th, rfl⟩ := int_val hhi
  simp only [ctV] at e4
  split at e4
  · rename_i h0
    obtain ⟨h0, h1, h2⟩ := h0
    cases e4
    obtain ⟨mm, es, n, F, N, hl, hf⟩ := I₃.open P
    refine slice_strN_ss F N (fun h' t' tk F' N' => ?_) (by with_unfolding_all rfl) (by intro _; cases ea <;> rfl) (by rw [str_len, sizeLine_eq]; exact Nat.le_trans lu (by decide))
    obtain ⟨I', k'⟩ := I₃.close P F' N' hl hf
    rw [beq_iff_eq.mp (slice_closesL (x := ⟨t.toArray⟩) h0 h1 (by rw [str_len]; exact h2))]
    exact k _ _ (mk_str (by rw [List.length_take, List.length_drop]; exact Nat.le_trans (Nat.min_le_right _ _) (Nat.le_trans (Nat.sub_le _ _) lu))) I' (kk.trans k') gg oo
  · first | exact no_none e4 | exact no_false e4 | cases e4
theorem sim_cutL {ca cl : CE} {ea el : PySem.Expr} {p pos : Pos} (P : Place b x) (sa : SimE b x A μ m ca ea) (sl : SimE b x A μ m cl el) : SimE b x A μ m (.cutL ca cl) (.Subscript ea (.Slice (some el) none none p) pos) := by
  intro f v f' s Q E he I k
  simp only [ev_cutL] at he
  obtain ⟨⟨va, f1⟩, e1, he⟩ := Option.bind_eq_some_iff.mp he
  obtain ⟨⟨vl, f2⟩, e2, he⟩ := Option.bind_eq_some_iff.mp he
  obtain ⟨v', e4, he⟩ := Option.map_eq_some_iff.mp he
  cases he
  refine Subscript_ (sa f va f1 s _ E e1 I fun u s₁ hu I₁ k₁ g₁ o₁ => wpAny_Slice (sl f1 vl f2 s₁ _ E e2 I₁ fun lo s₂ hlo I₂ k₂ g₂ o₂ => wpAny_pure (wpAny_pure ?_)))
  have kk : Keeps b.W x.L x.fr s.heap s₂.heap := k₁.trans k₂
  have gg : s₂.gens = s.gens := g₂.trans g₁
  have oo : s₂.os = s.os := o₂.trans o₁
  obtain ⟨t, rfl⟩ : ∃ t, va = .str t := by cases va <;> first | cases e4 | exact ⟨_, rfl⟩
  obtain ⟨i, rfl⟩ : ∃ i, vl = .int i := by cases vl <;> first | cases e4 | exact ⟨_, rfl⟩
  obtain ⟨tu, rfl, lu⟩ := str_val hu
  obtain ⟨tl, rfl⟩ := int_val hlo
  simp only [clV] at e4
  split at e4
  · rename_i h0
    obtain ⟨h0, h1⟩ := h0
    cases e4
    obtain ⟨mm, es, n, F, N, hl, hf⟩ := I₂.open P
    refine slice_strN_sn F N (fun h' t' tk F' N' => ?_) (by with_unfolding_all rfl) (by intro _; cases ea <;> rfl) (by rw [str_len, sizeLine_eq]; exact Nat.le_trans lu (by decide))
    obtain ⟨I', k'⟩ := I₂.close P F' N' hl hf
    rw [beq_iff_eq.mp (slice_closes_fromL (x := ⟨t.toArray⟩) (b := t.length) h0 (by rw [str_len]; exact h1) (by rw [str_len]))]
    have e : (t.drop i.toNat).take ((t.length : Int) - i).toNat = t.drop i.toNat := List.take_of_length_le (by rw [List.length_drop]; exact sub_toNat)
    show Q (.str ⟨((t.drop i.toNat).take ((t.length : Int) - i).toNat).toArray⟩ t') _
    rw [e]
    exact k _ _ (mk_str (by rw [List.length_drop]; exact Nat.le_trans (Nat.sub_le _ _) lu)) I' (kk.trans k') gg oo
  · first | exact no_none e4 | exact no_false e4 | cases e4
theorem global_blt {id : PySem.Str} {n : String} {pos : Pos} {f : F} {s : Shared} {Q : Value → Shared → Prop} {E : Value → Shared → Prop} (G : Gr b) (P : Place b x) (hn : n ∈ (["len", "min", "ord", "range"] : List String)) (hc : isGlob x.sc id (PySem.Str.ofString n) = true) (I : Inv b x f m s.heap)
    (h : Q (if n = "range" then .type n else .builtin n) s) : wpAny (model b.prog b.w) A (eval (.Name id pos) x.env) Q E s := by
  obtain ⟨rfl, h2, h3⟩ := isGlob_at hc
  obtain ⟨mm, es, n, F, N, hl, hf⟩ := I.open P
  obtain ⟨g1, g2⟩ := G.blt _ hn
  exact ld_builtin_at F (G.ng.keeps (I.base P)) g1 (G.nb.keeps (I.base P)) g2 h P.fn h2 h3
theorem sim_len {ca : CE} {ea : PySem.Expr} {id : PySem.Str} {p pos : Pos} (G : Gr b) (P : Place b x) (hc : isGlob x.sc id "len" = true) (hs : starEach [ea] x.env = [(false, eval ea x.env)]) (sa : SimE b x A μ m ca ea) : SimE b x A μ m (.len ca) (.Call (.Name id p) [ea] [] pos) := by
  intro f v f' s Q E he I k
  simp only [ev_len] at he
  obtain ⟨⟨va, f1⟩, e1, he⟩ := Option.bind_eq_some_iff.mp he
  obtain ⟨v', e4, he⟩ := Option.map_eq_some_iff.mp he
  cases he
  refine wpAny_Call_Name_kw (global_blt (n := "len") G P (.head _) hc I ?_)
  rw [hs]
  refine callWith_builtin rfl (evalArgs_plain (spliced_cons (sa f va f1 s _ E e1 I fun u s₁ hu I₁ k₁ g₁ o₁ => spliced_nil ?_)))
  cases va <;> first | exact no_none e4 | exact no_false e4 | cases e4 | skip
  · rename_i t
    obtain ⟨tu, rfl, lu⟩ := str_val hu
    refine len_str (by rw [str_len]; lia) ?_
    rw [str_len]
    exact toks_ok k k₁ g₁ o₁ mk_int I₁
  · rename_i t
    cases u <;> first | exact hu.elim | skip
    obtain ⟨vs, ⟨dd, sl, n, hl⟩, hlen, hle, hat⟩ := hu
    obtain ⟨mm, _, _, F, N, _, _⟩ := I₁.open P
    have X := (G.X.keeps (I₁.base P)).keeps F.keep
    refine len_list (lstK X hl) (by rw [List.size_toArray, hlen]; lia) ?_
    rw [List.size_toArray, hlen]
    exact toks_ok k k₁ g₁ o₁ mk_int I₁
theorem sim_ord {ca : CE} {ea : PySem.Expr} {id : PySem.Str} {p pos : Pos} (G : Gr b) (P : Place b x) (hc : isGlob x.sc id "ord" = true) (hs : starEach [ea] x.env = [(false, eval ea x.env)]) (sa : SimE b x A μ m ca ea) : SimE b x A μ m (.ord ca) (.Call (.Name id p) [ea] [] pos) := by
  intro f v f' s Q E he I k
  simp only [ev_ord] at he
  obtain ⟨⟨va, f1⟩, e1, he⟩ := Option.bind_eq_some_iff.mp he
  obtain ⟨v', e4, he⟩ := Option.map_eq_some_iff.mp he
  cases he
  refine wpAny_Call_Name_kw (global_blt (n := "ord") G P (.tail _ (.tail _ (.head _))) hc I ?_)
  rw [hs]
  refine callWith_builtin rfl (evalArgs_plain (spliced_cons (sa f va f1 s _ E e1 I fun u s₁ hu I₁ k₁ g₁ o₁ => spliced_nil ?_)))
  obtain ⟨t, rfl⟩ : ∃ t, va = .str t := by cases va <;> first | cases e4 | exact ⟨_, rfl⟩
  rcases t with _ | ⟨c, _ | ⟨d, t⟩⟩ <;> first | exact no_none e4 | exact no_false e4 | cases e4 | skip
  obtain ⟨tu, rfl, lu⟩ := str_val hu
  exact ord_of_one (by rw [str_len]; rfl) (toks_ok k k₁ g₁ o₁ mk_int I₁)
theorem sim_min {ca cb : CE} {ea eb : PySem.Expr} {id : PySem.Str} {p pos : Pos} (G : Gr b) (M : Amb b x A k) (hc : isGlob x.sc id "min" = true) (hs : starEach [ea, eb] x.env = [(false, eval ea x.env), (false, eval eb x.env)]) (sa : SimE b x A μ m ca ea) (sb : SimE b x A μ m cb eb) : SimE b x A μ m (.min ca cb) (.Call (.Name id p) [ea, eb] [] pos) := by
  intro f v f' s Q E he I k
  refine wpAny_Call_Name_kw (global_blt (n := "min") G M.place (.tail _ (.head _)) hc I ?_)
  rw [hs]
  refine callWith_builtin rfl (evalArgs_plain (spliced_cons ?_))
  refine wpAny_mono (sim_two (P := fun u w s' => wpAny (model b.prog b.w) A (call (.builtin "min") [u, w] []) Q E s') sa sb he I fun va vb u w s' e hu hw I' hk hg ho => ?_) (fun u s₁ h => spliced_cons (wpAny_mono h (fun w s₂ h₂ => spliced_nil h₂) fun _ _ e => e)) fun _ _ e => e
  cases va <;> first | exact no_none e | exact no_false e | cases e | skip
  all_goals (cases vb <;> first | exact no_none e | exact no_false e | cases e | skip)
  obtain ⟨tu, rfl⟩ := int_val hu
  obtain ⟨tw, rfl⟩ := int_val hw
  obtain ⟨mm, es, n, F, N, hl, hf⟩ := I'.open M.place
  refine min_two_N M.handled F N fun h' tk F' N' => ?_
  obtain ⟨I'', k'⟩ := I'.close M.place F' N' hl hf
  exact k _ _ mk_int I'' (hk.trans k') hg ho
end
end Mine
end
section
open PySem PySem.W PySem.Calls PyProof.Rows
namespace Mine
section
variable {b : Bx} {x : Fx} {A : Around} {μ : Mu} {m : Loc} {k : Nat}
noncomputable def Bare (x : Fx) (e : PySem.Expr) : Prop := ∀ rest : List PySem.Expr, starEach (e :: rest) x.env = (false, eval e x.env) :: starEach rest x.env
theorem bare_of (names : List PySem.Str) (c : CE) (π : Orc) : Bare x (exprOf names c π) := by
  intro rest; cases c <;> rfl
theorem behind_of (names : List PySem.Str) (c : CE) (π : Orc) (o : Cmp) : behindInMarks (opOf o) (exprOf names c π) = false := by
  cases c <;> rfl
theorem swaps_of (names : List PySem.Str) (c : CE) (π : Orc) (t : Option PySem.Expr) (n : Nat) (env : Env) : swapsWith (exprOf names c π) t n env = pure false := by
  cases c <;> rfl
noncomputable def Whole (x : Fx) (o : PySem.Expr) : Prop := ∀ n : PySem.Str, attributeBase o n x.env (eval o x.env) = eval o x.env
theorem whole_of (names : List PySem.Str) (c : CE) (π : Orc) (h : isCut c = true) : Whole x (exprOf names c π) := by
  intro n; cases c <;> first | rfl | exact no_false h
theorem base_name {id n : PySem.Str} {p : Pos} {env : Env} : attributeBase (.Name id p) n env (eval (.Name id p) env) = eval (.Name id p) env := rfl
theorem wpAny_methCall {prog : Program} {w : World} {o : PySem.Expr} {name : PySem.Str} {apos pos : Pos} {args : List PySem.Expr} {env : Env} {Q : Value → Shared → Prop} {E : Value → Shared → Prop} {s : Shared}
    (hbase : attributeBase o name env (eval o env) = eval o env)
    (hfew : methodCallForm (args.length + ([] : List Keyword).length) (backTo pos (starEach args env)) (backToKw pos (keywordEach [] env)) = true)
    (hline : (apos.endLine == pos.line) = true)
    (h : wpAny (model prog w) A (eval o env) (fun ov s₁ => ∀ pl, wpAny (model prog w) A (getMethod ov name pl) (fun fx s₂ => wpAny (model prog w) A (callWith pos fx.1 fx.2 (backTo pos (starEach args env)) []) Q E s₂) E s₁) E s) :
    wpAny (model prog w) A (eval (.Call (.Attribute o name apos) args [] pos) env) Q E s := by
  rw [arm_eval_Call, hbase]
  refine wpAny_bind (wpAny_mono h (fun ov s₁ h₁ => ?_) fun _ _ e => e)
  refine wpAny_bind (wpAny_standAt ?_)
  have hpos : methodCallPos true o env apos pos = pure pos := by unfold methodCallPos; simp [hline]
  unfold methodCall
  rw [hfew]
  refine wpAny_bind (wpAny_holding (wpAny_mono (h₁ _) (fun fx s₂ h₂ => ?_) fun _ _ e => e))
  exact wpAny_bind (wpAny_of_eq hpos h₂)
theorem mth_absent {f : F} {es : List DictEntry} (h : FieldsAre b.prog b.w b.K b.CA b.W.S f es) (n : Mth) : getL n.name es = some none := h.2.1 n
theorem sim_meth {n : Mth} {id nm : PySem.Str} {apos p pos : Pos} {args : List PySem.Expr} {f : F} {s : Shared} {Q : Value → Shared → Prop} {E : Value → Shared → Prop} (G : Gr b) (P : Place b x) (hc : isLoc x.names x.sc 0 id = true) (hn : nm = n.name) (h0 : m.at 0 = some .self)
    (hfew : methodCallForm (args.length + ([] : List Keyword).length) (backTo pos (starEach args x.env)) (backToKw pos (keywordEach [] x.env)) = true) (hline : (apos.endLine == pos.line) = true) (I : Inv b x f m s.heap)
    (h : wpAny (model b.prog b.w) A (callWith pos (.ref (b.ma n)) [.ref b.W.S] (backTo pos (starEach args x.env)) []) Q E s) :
    wpAny (model b.prog b.w) A (eval (.Call (.Attribute (.Name id p) nm apos) args [] pos) x.env) Q E s := by
  subst hn
  refine wpAny_methCall rfl hfew hline (sim_loc P hc h0 I fun val hv pl => ?_)
  obtain rfl := self_ref hv
  obtain ⟨mm, es, kn, F, N, hl, hf⟩ := I.open P
  obtain ⟨g1, g2, g3⟩ := G.mth n
  exact method_inst F (G.X.keeps (I.base P)) (I.instAt N) G.plain g1 g2 (mth_absent hf n) h
theorem sim_call0 {n : Mth} {id nm : PySem.Str} {apos p pos : Pos} (G : Gr b) (M : Amb b x A k) (R : Real b μ k) (hc : isLoc x.names x.sc 0 id = true) (hn : nm = n.name) (hline : (apos.endLine == pos.line) = true) :
    SimE b x A μ m (.call0 n) (.Call (.Attribute (.Name id p) nm apos) [] [] pos) := by
  intro f v f' s Q E he I kk
  simp only [ev_call0] at he
  split at he
  · rename_i h0
    refine sim_meth G M.place hc hn h0 rfl hline I ?_
    exact callWith_K0 ((G.X.keeps (I.base M.place)).keeps (I.open M.place).choose_spec.choose_spec.choose_spec.1.keep) (G.mth n).2.2 (R x A n [] f v f' m [] s Q E he .nil M I fun val s' a c d e g _ => kk val s' a c d e g)
  · first | exact no_none he | exact no_false he | cases he
theorem sim_call1 {n : Mth} {id nm : PySem.Str} {apos p pos : Pos} {ca : CE} {ea : PySem.Expr} (G : Gr b) (M : Amb b x A k) (R : Real b μ k) (hc : isLoc x.names x.sc 0 id = true) (hn : nm = n.name) (hline : (apos.endLine == pos.line) = true)
    (ha : Bare x ea) (sa : SimE b x A μ m ca ea) : SimE b x A μ m (.call1 n ca) (.Call (.Attribute (.Name id p) nm apos) [ea] [] pos) := by
  intro f v f' s Q E he I kk
  simp only [ev_call1] at he
  split at he
  · rename_i h0
    obtain ⟨⟨va, f1⟩, e1, he⟩ := Option.bind_eq_some_iff.mp he
    have hs : starEach [ea] x.env = [(false, eval ea x.env)] := ha []
    refine sim_meth G M.place hc hn h0 (by rw [hs]; rfl) hline I ?_
    refine callWith_K (G.X.keeps (I.base M.place)) (G.mth n).2.2 ?_ hs rfl
    rw [hs]
    refine spliced_cons (sa f va f1 s _ E e1 I fun u s₁ hu I₁ k₁ g₁ o₁ => spliced_nil ⟨(G.X.keeps (I₁.base M.place)).keeps (I₁.open M.place).choose_spec.choose_spec.choose_spec.1.keep, ?_⟩)
    exact R x A n [va] f1 v f' m [u] s₁ Q E he (.cons hu .nil) M I₁ fun val s' a c d e g _ => (kk.from k₁ g₁ o₁) val s' a c d e g
  · first | exact no_none he | exact no_false he | cases he
theorem sim_call3 {n : Mth} {id nm : PySem.Str} {apos p pos : Pos} {ca cb cd : CE} {ea eb ed : PySem.Expr} (G : Gr b) (M : Amb b x A k) (R : Real b μ k) (hc : isLoc x.names x.sc 0 id = true) (hn : nm = n.name) (hline : (apos.endLine == pos.line) = true)
    (ha : Bare x ea) (hb : Bare x eb) (hd : Bare x ed) (sa : SimE b x A μ m ca ea) (sb : SimE b x A μ m cb eb) (sd : SimE b x A μ m cd ed) : SimE b x A μ m (.call3 n ca cb cd) (.Call (.Attribute (.Name id p) nm apos) [ea, eb, ed] [] pos) := by
  intro f v f' s Q E he I kk
  simp only [ev_call3] at he
  split at he
  · rename_i h0
    obtain ⟨⟨va, f1⟩, e1, he⟩ := Option.bind_eq_some_iff.mp he
    obtain ⟨⟨vb, f2⟩, e2, he⟩ := Option.bind_eq_some_iff.mp he
    obtain ⟨⟨vd, f3⟩, e3, he⟩ := Option.bind_eq_some_iff.mp he
    have hs0 : starEach [eb, ed] x.env = [(false, eval eb x.env), (false, eval ed x.env)] := by rw [hb, hd]; rfl
    have hs : starEach [ea, eb, ed] x.env = [(false, eval ea x.env), (false, eval eb x.env), (false, eval ed x.env)] := by rw [ha, hs0]
    refine sim_meth G M.place hc hn h0 (by rw [hs]; rfl) hline I ?_
    refine callWith_K (G.X.keeps (I.base M.place)) (G.mth n).2.2 ?_ (by rw [ha]) (by rw [hs0]; rfl)
    rw [hs]
    refine spliced_cons (sa f va f1 s _ E e1 I fun u s₁ hu I₁ k₁ g₁ o₁ => spliced_cons (sb f1 vb f2 s₁ _ E e2 I₁ fun w s₂ hw I₂ k₂ g₂ o₂ => spliced_cons (sd f2 vd f3 s₂ _ E e3 I₂ fun z s₃ hz I₃ k₃ g₃ o₃ => spliced_nil
      ⟨(G.X.keeps (I₃.base M.place)).keeps (I₃.open M.place).choose_spec.choose_spec.choose_spec.1.keep, ?_⟩)))
    exact R x A n [va, vb, vd] f3 v f' m [u, w, z] s₃ Q E he (.cons hu (.cons hw (.cons hz .nil))) M I₃ fun val s' a c d e g _ => (kk.from ((k₁.trans k₂).trans k₃) ((g₃.trans g₂).trans g₁) ((o₃.trans o₂).trans o₁)) val s' a c d e g
  · first | exact no_none he | exact no_false he | cases he
theorem starts_is (s t : List Nat) : Txt.startswith ⟨s.toArray⟩ ⟨t.toArray⟩ = t.isPrefixOf s := by
  unfold Txt.startswith
  rw [StrLaws.subAt_eq, str_len, str_len, Bool.eq_iff_iff]
  simp only [Bool.and_eq_true, decide_eq_true_eq, beq_iff_eq, List.drop_zero, List.isPrefixOf_iff_prefix]
  constructor
  · intro h; exact List.prefix_iff_eq_take.mpr h.2.symm
  · intro h; exact ⟨by have := h.length_le; lia, (List.prefix_iff_eq_take.mp h).symm⟩
theorem ends_is (s t : List Nat) : Txt.endswith ⟨s.toArray⟩ ⟨t.toArray⟩ = t.isSuffixOf s := by
  unfold Txt.endswith
  rw [StrLaws.subAt_eq, str_len, str_len, Bool.eq_iff_iff]
  simp only [Bool.and_eq_true, decide_eq_true_eq, beq_iff_eq, List.isSuffixOf_iff_suffix]
  constructor
  · intro h
    have e : (s.drop (s.length - t.length)).take t.length = s.drop (s.length - t.length) := List.take_of_length_le (by rw [List.length_drop]; lia)
    rw [e] at h
    exact List.suffix_iff_eq_drop.mpr h.2.symm
  · intro h
    have hl := h.length_le
    have e : (s.drop (s.length - t.length)).take t.length = s.drop (s.length - t.length) := List.take_of_length_le (by rw [List.length_drop]; lia)
    exact ⟨by lia, e.trans (List.suffix_iff_eq_drop.mp h).symm⟩
theorem sim_starts {ca cb : CE} {o ea : PySem.Expr} {nm : PySem.Str} {apos pos : Pos} (hn : nm = "startswith") (ho : Whole x o) (hline : (apos.endLine == pos.line) = true) (ha : Bare x ea) (sa : SimE b x A μ m ca o) (sb : SimE b x A μ m cb ea) :
    SimE b x A μ m (.starts ca cb) (.Call (.Attribute o nm apos) [ea] [] pos) := by
  subst hn
  intro f v f' s Q E he I kk
  simp only [ev_starts] at he
  obtain ⟨⟨va, f1⟩, e1, he⟩ := Option.bind_eq_some_iff.mp he
  obtain ⟨⟨vb, f2⟩, e2, he⟩ := Option.bind_eq_some_iff.mp he
  obtain ⟨v', e3, he⟩ := Option.map_eq_some_iff.mp he
  cases he
  refine Call_method1 (ho _) (ha []) hline (sa f va f1 s _ E e1 I fun u s₁ hu I₁ k₁ g₁ o₁ => ?_)
  cases va <;> first | exact no_none e3 | exact no_false e3 | cases e3 | skip
  all_goals (cases vb <;> first | exact no_none e3 | exact no_false e3 | cases e3 | skip)
  obtain ⟨tu, rfl, lu⟩ := str_val hu
  refine SB.startswith (sb f1 _ f2 s₁ _ E e2 I₁ fun w s₂ hw I₂ k₂ g₂ o₂ => ?_)
  obtain ⟨tw, rfl, lw⟩ := str_val hw
  exact ⟨_, _, rfl, by rw [starts_is]; exact same_ok kk (k₁.trans k₂) (g₂.trans g₁) (o₂.trans o₁) mk_bool I₂⟩
theorem sim_ends {ca cb : CE} {o ea : PySem.Expr} {nm : PySem.Str} {apos pos : Pos} (hn : nm = "endswith") (ho : Whole x o) (hline : (apos.endLine == pos.line) = true) (ha : Bare x ea) (sa : SimE b x A μ m ca o) (sb : SimE b x A μ m cb ea) :
    SimE b x A μ m (.ends ca cb) (.Call (.Attribute o nm apos) [ea] [] pos) := by
  subst hn
  intro f v f' s Q E he I kk
  simp only [ev_ends] at he
  obtain ⟨⟨va, f1⟩, e1, he⟩ := Option.bind_eq_some_iff.mp he
  obtain ⟨⟨vb, f2⟩, e2, he⟩ := Option.bind_eq_some_iff.mp he
  obtain ⟨v', e3, he⟩ := Option.map_eq_some_iff.mp he
  cases he
  refine Call_method1 (ho _) (ha []) hline (sa f va f1 s _ E e1 I fun u s₁ hu I₁ k₁ g₁ o₁ => ?_)
  cases va <;> first | exact no_none e3 | exact no_false e3 | cases e3 | skip
  all_goals (cases vb <;> first | exact no_none e3 | exact no_false e3 | cases e3 | skip)
  obtain ⟨tu, rfl, lu⟩ := str_val hu
  refine SB.endswith (sb f1 _ f2 s₁ _ E e2 I₁ fun w s₂ hw I₂ k₂ g₂ o₂ => ?_)
  obtain ⟨tw, rfl, lw⟩ := str_val hw
  exact ⟨_, _, rfl, by rw [ends_is]; exact same_ok kk (k₁.trans k₂) (g₂.trans g₁) (o₂.trans o₁) mk_bool I₂⟩
theorem str_eq (s t : List Nat) : ((⟨s.toArray⟩ : PySem.Str) == ⟨t.toArray⟩) = (s == t) := by
  rw [Bool.eq_iff_iff]
  simp only [beq_iff_eq]
  constructor
  · intro h; have := congrArg (fun z : PySem.Str => z.cps.toList) h; simpa using this
  · intro h; rw [h]
theorem any_is (l : List Nat) (c : Nat) : (l.any fun d => (⟨[c].toArray⟩ : PySem.Str) == (⟨#[d]⟩ : PySem.Str)) = l.contains c := by
  rw [Bool.eq_iff_iff, List.any_eq_true, List.contains_iff_mem]
  constructor
  · rintro ⟨d, hd, e⟩
    have e := beq_iff_eq.mp e
    have := congrArg (fun z : PySem.Str => z.cps.toList) e
    simp at this
    rw [this]; exact hd
  · intro h; exact ⟨c, h, beq_iff_eq.mpr rfl⟩
theorem cmp_run {o : Cmp} {va vb : V} {u w : Value} {c : Bool} {f : F} {s : Shared} {Q : Value → Shared → Prop} {E : Value → Shared → Prop} (G : Gr b) (P : Place b x) (e : cmpV o va vb = some c) (hu : b.vrel va u) (hw : b.vrel vb w) (I : Inv b x f m s.heap)
    (k : ∀ t, Q (.bool c) { s with toks := t }) : wpAny (model b.prog b.w) A (compareOp (opOf o) u w) Q E s := by
  cases va <;> first | exact no_none e | exact no_false e | cases e | skip
  all_goals (cases vb <;> first | exact no_none e | exact no_false e | cases e | skip)
  · obtain ⟨tu, rfl⟩ := int_val hu
    obtain ⟨tw, rfl⟩ := int_val hw
    cases o <;> first | exact no_none e | exact no_false e | cases e | skip
    · exact PySem.P.lt_int (k s.toks)
    · exact PySem.P.le_int (k s.toks)
    · exact PySem.P.gt_int (k s.toks)
    · exact PySem.P.ge_int (k s.toks)
    · exact PySem.P.eq_int (k s.toks)
    · exact PySem.P.ne_int (k s.toks)
  · obtain ⟨tu, rfl, lu⟩ := str_val hu
    obtain ⟨tw, rfl, lw⟩ := str_val hw
    cases o <;> first | exact no_none e | exact no_false e | cases e | skip
    · refine PyProof.Rows.eq_str ?_; rw [str_eq]; exact k s.toks
    · refine PyProof.Rows.ne_str ?_; rw [bne, str_eq]; exact k s.toks
  · rename_i t l
    rcases t with _ | ⟨d, _ | ⟨d', t⟩⟩ <;> first | exact no_none e | exact no_false e | cases e | skip
    obtain ⟨tu, rfl, lu⟩ := str_val hu
    cases w <;> first | exact hw.elim | skip
    obtain ⟨n, hS⟩ := hw
    obtain ⟨mm, es, kn, F, N, hl, hf⟩ := I.open P
    have S := hS s.heap ((G.X.keeps (I.base P)).keeps F.keep)
    cases o <;> first | exact no_none e | exact no_false e | cases e | skip
    · refine wpAny_inSet_of (strKind_is _ _ _ _) rfl S ?_
      show Q (.bool (List.any l fun c => _)) _
      rw [any_is]; exact k _
    · refine wpAny_notInSet_of (strKind_is _ _ _ _) rfl S ?_
      show Q (.bool (!List.any l fun c => _)) _
      rw [any_is]; exact k _
theorem sim_cmp {o : Cmp} {ca cb : CE} {ea eb : PySem.Expr} {pos : Pos} (G : Gr b) (P : Place b x) (hs : behindInMarks (opOf o) eb = false) (sa : SimE b x A μ m ca ea) (sb : SimE b x A μ m cb eb) :
    SimE b x A μ m (.cmp o ca cb) (.Compare ea [opOf o] [eb] pos) := by
  intro f v f' s Q E he I kk
  simp only [ev_cmp] at he
  obtain ⟨⟨va, f1⟩, e1, he⟩ := Option.bind_eq_some_iff.mp he
  obtain ⟨⟨vb, f2⟩, e2, he⟩ := Option.bind_eq_some_iff.mp he
  obtain ⟨v', e3, he⟩ := Option.map_eq_some_iff.mp he
  cases he
  refine wpAny_Compare1 (sa f va f1 s _ E e1 I fun u s₁ hu I₁ k₁ g₁ o₁ => sb f1 vb f2 s₁ _ E e2 I₁ fun w s₂ hw I₂ k₂ g₂ o₂ => ?_) hs
  exact cmp_run G P e3 hu hw I₂ fun t => toks_ok kk (k₁.trans k₂) (g₂.trans g₁) (o₂.trans o₁) mk_bool I₂
theorem simE (G : Gr b) (M : Amb b x A k) (R : Real b μ k) (c : CE) : ∀ π : Orc, okE x.names x.sc c π = true → SimE b x A μ m c (exprOf x.names c π) := by
  have P := M.place
  induction c with
  | int n => exact fun _ _ => sim_int rfl
  | neg n => exact fun _ _ => sim_neg rfl
  | str t => exact fun _ h => sim_str rfl (of_decide_eq_true h)
  | bool c => exact fun _ _ => sim_bool rfl
  | loc i => exact fun _ h => sim_locE P h
  | fld a => exact fun _ h => sim_fld G P h rfl
  | cst q => exact fun _ h => sim_cst G P h rfl
  | amS i => exact fun _ h => sim_amS G P h rfl
  | amI i => exact fun _ h => sim_amI G P h rfl
  | amR i => exact fun _ h => sim_amR G P h rfl
  | add a c i1 i2 => exact fun _ h => sim_add (i1 _ (and_l h)) (i2 _ (and_r h))
  | sub a c i1 i2 => exact fun _ h => sim_sub (i1 _ (and_l h)) (i2 _ (and_r h))
  | shr a c i1 i2 => exact fun _ h => sim_shr (i1 _ (and_l h)) (i2 _ (and_r h))
  | idx a c i1 i2 => exact fun _ h => sim_idx (i1 _ (and_l h)) (i2 _ (and_r h))
  | item i c i1 => exact fun _ h => sim_item G P (and_l h) (i1 _ (and_r h))
  | cut a lo hi i1 i2 i3 => exact fun _ h => sim_cut P (i1 _ (and_l h)) (i2 _ (and_l (and_r h))) (i3 _ (and_r (and_r h)))
  | cutL a lo i1 i2 => exact fun _ h => sim_cutL P (i1 _ (and_l h)) (i2 _ (and_r h))
  | call0 q => exact fun _ h => sim_call0 G M R (and_l h) rfl (and_r h)
  | call1 q a i1 => exact fun _ h => sim_call1 G M R (and_l h) rfl (and_l (and_r h)) (bare_of _ _ _) (i1 _ (and_r (and_r h)))
  | call3 q a c d i1 i2 i3 => exact fun _ h => sim_call3 G M R (and_l h) rfl (and_l (and_r h)) (bare_of _ _ _) (bare_of _ _ _) (bare_of _ _ _) (i1 _ (and_l (and_r (and_r h)))) (i2 _ (and_l (and_r (and_r (and_r h))))) (i3 _ (and_r (and_r (and_r (and_r h)))))
  | len a i1 => exact fun _ h => sim_len G P (and_l h) (bare_of _ _ _ []) (i1 _ (and_r h))
  | ord a i1 => exact fun _ h => sim_ord G P (and_l h) (bare_of _ _ _ []) (i1 _ (and_r h))
  | min a c i1 i2 => exact fun _ h => sim_min G M (and_l h) (by rw [bare_of, bare_of]; rfl) (i1 _ (and_l (and_r h))) (i2 _ (and_r (and_r h)))
  | starts a c i1 i2 => exact fun _ h => sim_starts rfl (whole_of _ _ _ (and_l h)) (and_l (and_r h)) (bare_of _ _ _) (i1 _ (and_l (and_r (and_r h)))) (i2 _ (and_r (and_r (and_r h))))
  | ends a c i1 i2 => exact fun _ h => sim_ends rfl (whole_of _ _ _ (and_l h)) (and_l (and_r h)) (bare_of _ _ _) (i1 _ (and_l (and_r (and_r h)))) (i2 _ (and_r (and_r (and_r h))))
  | cmp o a c i1 i2 => exact fun _ h => sim_cmp G P (behind_of _ _ _ _) (i1 _ (and_l h)) (i2 _ (and_r h))
noncomputable def exprT (names : List PySem.Str) : CT → Orc → PySem.Expr
  | .not t, π => .UnaryOp .Not (exprT names t (π.at 0)) π.p
  | .or s t, π => .BoolOp .Or [exprT names s (π.at 0), exprT names t (π.at 1)] π.p
  | .cmp o a c, π => .Compare (exprOf names a (π.at 0)) [opOf o] [exprOf names c (π.at 1)] π.p
  | .ex e, π => exprOf names e π
noncomputable def okT (names : List PySem.Str) (sc : Scope) : CT → Orc → Bool
  | .not t, π => okT names sc t (π.at 0)
  | .or s t, π => okT names sc s (π.at 0) && okT names sc t (π.at 1)
  | .cmp _ a c, π => okE names sc a (π.at 0) && okE names sc c (π.at 1)
  | .ex e, π => isExC e && okE names sc e π
noncomputable def SimT (b : Bx) (x : Fx) (A : Around) (μ : Mu) (m : Loc) (c : CT) (e : PySem.Expr) : Prop :=
  ∀ (whole : Sem Value) (f : F) (v : Bool) (f' : F) (s : Shared) (Q : Bool → Shared → Prop) (E : Value → Shared → Prop), whole = eval e x.env → test μ b.κ m c f = some (v, f') → Inv b x f m s.heap →
    (∀ s', Inv b x f' m s'.heap → Keeps b.W x.L x.fr s.heap s'.heap → s'.gens = s.gens → s'.os = s.os → Q v s') → wpAny (model b.prog b.w) A (isTrue e x.env whole) Q E s
theorem simT_or {t u : CT} {e₁ e₂ : PySem.Expr} {rest : List PySem.Expr} {pos : Pos} (s₁ : SimT b x A μ m t e₁) (s₂ : SimT b x A μ m u (.BoolOp .Or (e₂ :: rest) pos)) : SimT b x A μ m (.or t u) (.BoolOp .Or (e₁ :: e₂ :: rest) pos) := by
  intro whole f v f' s Q E hw he I kk
  simp only [te_or] at he
  obtain ⟨⟨c, f1⟩, e1, he⟩ := Option.bind_eq_some_iff.mp he
  refine isTrue_or (s₁ _ f c f1 s _ E rfl e1 I fun s' I' k' g' o' => ?_)
  cases c
  · show wpAny _ _ (isTrue (.BoolOp .Or (e₂ :: rest) pos) x.env (eval (.BoolOp .Or (e₂ :: rest) pos) x.env)) _ _ _
    exact s₂ _ f1 v f' s' _ E rfl he I' fun s'' I'' k'' g'' o'' => kk s'' I'' (k'.trans k'') (g''.trans g') (o''.trans o')
  · first | exact no_none he | exact no_false he | cases he
    exact kk s' I' k' g' o'
theorem simT_or1 {t : CT} {e : PySem.Expr} {pos : Pos} (s₁ : SimT b x A μ m t e) : SimT b x A μ m t (.BoolOp .Or [e] pos) := by
  intro whole f v f' s Q E hw he I kk
  refine isTrue_or (s₁ _ f v f' s _ E rfl he I fun s' I' k' g' o' => ?_)
  cases v
  · exact isTrue_or_nil (kk s' I' k' g' o')
  · exact kk s' I' k' g' o'
theorem simT_cmp {o : Cmp} {ca cb : CE} {ea eb : PySem.Expr} {pos : Pos} (G : Gr b) (P : Place b x) (hs : behindInMarks (opOf o) eb = false) (sa : SimE b x A μ m ca ea) (sb : SimE b x A μ m cb eb) :
    SimT b x A μ m (.cmp o ca cb) (.Compare ea [opOf o] [eb] pos) := by
  intro whole f v f' s Q E hw he I kk
  simp only [te_cmp] at he
  obtain ⟨⟨va, f1⟩, e1, he⟩ := Option.bind_eq_some_iff.mp he
  obtain ⟨⟨vb, f2⟩, e2, he⟩ := Option.bind_eq_some_iff.mp he
  obtain ⟨v', e3, he⟩ := Option.map_eq_some_iff.mp he
  cases he
  refine wpAny_isTrue_Compare1 (sa f va f1 s _ E e1 I fun u s₁ hu I₁ k₁ g₁ o₁ => sb f1 vb f2 s₁ _ E e2 I₁ fun w s₂ hw I₂ k₂ g₂ o₂ => ?_) hs
  exact cmp_run G P e3 hu hw I₂ fun t => wpAny_truthy_bool (kk _ I₂ (k₁.trans k₂) (g₂.trans g₁) (o₂.trans o₁))
theorem simT_ex {c : CE} {e : PySem.Expr} (hp : ∀ whole, isTrue e x.env whole = (do let v ← whole; standAt e.pos; holding [v] (truthy v))) (sa : SimE b x A μ m c e) : SimT b x A μ m (.ex c) e := by
  intro whole f v f' s Q E hw he I kk
  subst hw
  simp only [te_ex] at he
  obtain ⟨⟨va, f1⟩, e1, he⟩ := Option.bind_eq_some_iff.mp he
  refine isTrue_plain (sa f va f1 s _ E e1 I fun u s₁ hu I₁ k₁ g₁ o₁ => ?_) (hp _)
  cases va <;> first | exact no_none he | exact no_false he | cases he | skip
  obtain rfl := bool_val hu
  exact wpAny_truthy_bool (kk s₁ I₁ k₁ g₁ o₁)
theorem plain_of (names : List PySem.Str) (c : CE) (π : Orc) (h : isExC c = true) (whole : Sem Value) : isTrue (exprOf names c π) x.env whole = (do let v ← whole; standAt (exprOf names c π).pos; holding [v] (truthy v)) := by
  cases c <;> first | rfl | exact no_false h
theorem simT_not {t : CT} {e : PySem.Expr} {pos : Pos} (s₁ : SimT b x A μ m t e) : SimT b x A μ m (.not t) (.UnaryOp .Not e pos) := by
  intro whole f v f' s Q E hw he I kk
  obtain ⟨⟨c, f1⟩, e1, he⟩ := Option.map_eq_some_iff.mp he
  cases he
  exact isTrue_not (s₁ _ f c f1 s _ E rfl e1 I fun s' I' k' g' o' => kk s' I' k' g' o')
theorem simT (G : Gr b) (M : Amb b x A k) (R : Real b μ k) (c : CT) : ∀ π : Orc, okT x.names x.sc c π = true → SimT b x A μ m c (exprT x.names c π) := by
  induction c with
  | not t i1 => exact fun _ h => simT_not (i1 _ h)
  | or s t i1 i2 => exact fun _ h => simT_or (i1 _ (and_l h)) (simT_or1 (i2 _ (and_r h)))
  | cmp o a c => exact fun _ h => simT_cmp G M.place (behind_of _ _ _ _) (simE G M R _ _ (and_l h)) (simE G M R _ _ (and_r h))
  | ex c => exact fun _ h => simT_ex (plain_of _ _ _ (and_l h)) (simE G M R _ _ (and_r h))
end
end Mine
end
section
open PySem PySem.W PySem.Calls PyProof.Rows
namespace Mine
theorem isStr_own (n : PySem.Str) (t : Tok) : (Value.str n t).isStr n = true := by simp [Value.isStr]
theorem isStr_ne {n n' : PySem.Str} (h : n ≠ n') (t : Tok) : (Value.str n' t).isStr n = false := by
  cases q : (Value.str n' t).isStr n with
  | false => rfl
  | true => exact (h (Value.isStr_inj _ _ _ q (isStr_own n' t))).elim
theorem find_put (n : PySem.Str) (hs : Int) (t : Tok) (v : Value) : ∀ es, ∃ e, (putL n hs (.str n t) v es).find? (·.key.isStr n) = some e ∧ e.val = v
  | [] => ⟨⟨hs, .str n t, v⟩, by simp [putL, isStr_own], rfl⟩
  | e :: r => by
    unfold putL
    cases q : e.key.isStr n with
    | true => exact ⟨⟨e.hash, e.key, v⟩, by simp [q], rfl⟩
    | false =>
      obtain ⟨e', h1, h2⟩ := find_put n hs t v r
      exact ⟨e', by simpa [q] using h1, h2⟩
theorem getL_put (n : PySem.Str) (hs : Int) (t : Tok) (v : Value) (es : List DictEntry) : getL n (putL n hs (.str n t) v es) = some (some v) := by
  obtain ⟨e, h1, h2⟩ := find_put n hs t v es
  unfold getL
  rw [h1]
  exact congrArg (fun z => some (some z)) h2
theorem find_put_ne {n n' : PySem.Str} (h : n' ≠ n) (hs : Int) (t : Tok) (v : Value) : ∀ es, (putL n hs (.str n t) v es).find? (·.key.isStr n') = es.find? (·.key.isStr n')
  | [] => by simp [putL, isStr_ne h]
  | e :: r => by
    unfold putL
    cases q : e.key.isStr n with
    | true =>
      have q' : e.key.isStr n' = false := isStr_other h e q
      simp [q']
    | false =>
      simp only [Bool.false_eq_true, if_false, List.find?_cons]
      cases e.key.isStr n' with
      | true => rfl
      | false => exact find_put_ne h hs t v r
theorem any_put {n : PySem.Str} (hs : Int) (t : Tok) (v : Value) : ∀ es, (putL n hs (.str n t) v es).any (·.refKey) = es.any (·.refKey)
  | [] => by simp [putL, DictEntry.refKey]
  | e :: r => by
    unfold putL
    cases q : e.key.isStr n with
    | true => simp [DictEntry.refKey]
    | false =>
      simp only [Bool.false_eq_true, if_false, List.any_cons]
      rw [any_put hs t v r]
theorem getL_put_ne {n n' : PySem.Str} (h : n' ≠ n) (hs : Int) (t : Tok) (v : Value) (es : List DictEntry) : getL n' (putL n hs (.str n t) v es) = getL n' es := by
  unfold getL
  rw [find_put_ne h, any_put]
theorem len_put (n : PySem.Str) (hs : Int) (t : Tok) (v : Value) : ∀ es, (putL n hs (.str n t) v es).length = if (es.find? (·.key.isStr n)).isSome then es.length else es.length + 1
  | [] => rfl
  | e :: r => by
    unfold putL
    cases q : e.key.isStr n with
    | true => simp [q]
    | false =>
      simp only [Bool.false_eq_true, if_false, List.length_cons, List.find?_cons, q]
      rw [len_put n hs t v r]
      split <;> rfl
theorem len_put_in {n : PySem.Str} {hs : Int} {t : Tok} {v u : Value} {es : List DictEntry} (h : getL n es = some (some u)) : (putL n hs (.str n t) v es).length = es.length := by
  rw [len_put]
  unfold getL at h
  split at h
  · rename_i e; rw [e]; rfl
  · split at h <;> cases h
theorem len_put_out {n : PySem.Str} {hs : Int} {t : Tok} {v : Value} {es : List DictEntry} (h : getL n es = some none) : (putL n hs (.str n t) v es).length = es.length + 1 := by
  rw [len_put]
  unfold getL at h
  split at h
  · first | exact no_none h | exact no_false h | cases h
  · rename_i e; rw [e]; rfl
theorem missing_is (es : List DictEntry) : missing es = (if getL Fld.pv.name es = some none then 1 else 0) + (if getL Fld.p1.name es = some none then 1 else 0) + (if getL Fld.p2.name es = some none then 1 else 0) := by
  simp only [missing, opt3, List.filter_cons, List.filter_nil, beq_iff_eq]
  by_cases h1 : getL Fld.pv.name es = some none <;> by_cases h2 : getL Fld.p1.name es = some none <;> by_cases h3 : getL Fld.p2.name es = some none <;> simp [h1, h2, h3]
noncomputable def allFld : List Fld := [.current, .cursor, .limit, .lb, .bra, .ket, .pv, .p1, .p2]
noncomputable def allMth : List Mth := [.set_current, .get_current, .in_grouping, .go_in_grouping, .in_grouping_b, .go_out_grouping, .out_grouping_b, .eq_s, .eq_s_b, .find_among, .find_among_b, .replace_s, .slice_from, .slice_del,
  .r_elisions, .r_prelude, .r_mark_regions, .r_postlude, .r_RV, .r_R1, .r_R2, .r_standard_suffix, .r_i_verb_suffix, .r_verb_suffix, .r_residual_suffix, .r_un_double, .r_un_accent, .stem, .stemWord]
theorem mem_fld (a : Fld) : a ∈ allFld := by cases a <;> decide
theorem mem_mth (n : Mth) : n ∈ allMth := by cases n <;> decide
theorem fld_inj (a c : Fld) (h : a ≠ c) : a.name ≠ c.name := by
  have q : (allFld.all fun a => allFld.all fun c => (a == c) || !(a.name == c.name)) = true := by decide +kernel
  have := List.all_eq_true.mp (List.all_eq_true.mp q a (mem_fld a)) c (mem_fld c)
  intro e
  rw [e, beq_self_eq_true, Bool.not_true, Bool.or_false] at this
  exact h (beq_iff_eq.mp this)
theorem fld_mth : ∀ (a : Fld) (n : Mth), n.name ≠ a.name := by
  intro a n
  have q : (allFld.all fun a => allMth.all fun n => !(n.name == a.name)) = true := by decide +kernel
  have := List.all_eq_true.mp (List.all_eq_true.mp q a (mem_fld a)) n (mem_mth n)
  intro e
  rw [e, beq_self_eq_true] at this
  exact no_false this
theorem put_get {f g : F} {a : Fld} {v : V} (h : f.put a v = some g) : g.get a = v ∧ ∀ c, c ≠ a → g.get c = f.get c := by
  cases a <;> cases v <;> first | exact no_none h | exact no_false h | cases h | skip
  all_goals (refine ⟨rfl, fun c hc => ?_⟩; cases c <;> first | rfl | exact (hc rfl).elim)
theorem fields_put {b : Bx} {f g : F} {a : Fld} {v : V} {u : Value} {es : List DictEntry} (hs : Int) (t : Tok) (H : FieldsAre b.prog b.w b.K b.CA b.W.S f es) (hp : f.put a v = some g) (hv : b.vrel v u) :
    FieldsAre b.prog b.w b.K b.CA b.W.S g (putL a.name hs (.str a.name t) u es) ∧ (putL a.name hs (.str a.name t) u es).length ≤ 9 := by
  obtain ⟨h1, h2, h3⟩ := H
  obtain ⟨p1, p2⟩ := put_get hp
  have hlen : (putL a.name hs (.str a.name t) u es).length + missing (putL a.name hs (.str a.name t) u es) ≤ 9 := by
    have hne : ∀ c : Fld, c ≠ a → getL c.name (putL a.name hs (.str a.name t) u es) = getL c.name es := fun c hc => getL_put_ne (fld_inj c a hc) _ _ _ _
    have heq : getL a.name (putL a.name hs (.str a.name t) u es) = some (some u) := getL_put _ _ _ _ _
    rw [missing_is] at h3 ⊢
    rcases h1 a with ⟨old, e, _⟩ | ⟨ha, e, _⟩
    · rw [len_put_in e]
      have q : ∀ c : Fld, (if getL c.name (putL a.name hs (.str a.name t) u es) = some none then 1 else 0) ≤ (if getL c.name es = some none then 1 else 0) := fun c => by
        by_cases hc : c = a
        · subst hc; rw [heq]; simp
        · rw [hne c hc]; exact Nat.le_refl _
      have q1 := q .pv; have q2 := q .p1; have q3 := q .p2
      lia
    · rw [len_put_out e]
      have q : ∀ c : Fld, c ≠ a → (if getL c.name (putL a.name hs (.str a.name t) u es) = some none then 1 else 0) = (if getL c.name es = some none then 1 else 0) := fun c hc => by rw [hne c hc]
      have q0 : (if getL a.name (putL a.name hs (.str a.name t) u es) = some none then 1 else 0) = 0 := by rw [heq]; rfl
      have q0' : (if getL a.name es = some none then 1 else 0) = 1 := by rw [e]; rfl
      simp only [opt3, List.mem_cons, List.not_mem_nil, or_false] at ha
      rcases ha with rfl | rfl | rfl
      · have q2 := q .p1 (by decide); have q3 := q .p2 (by decide); lia
      · have q2 := q .pv (by decide); have q3 := q .p2 (by decide); lia
      · have q2 := q .pv (by decide); have q3 := q .p1 (by decide); lia
  refine ⟨⟨fun c => ?_, fun n => ?_, hlen⟩, by lia⟩
  · by_cases hc : c = a
    · subst hc
      exact .inl ⟨u, getL_put _ _ _ _ _, by rw [p1]; exact hv⟩
    · rw [getL_put_ne (fld_inj c a hc), p2 c hc]
      exact h1 c
  · rw [getL_put_ne (fld_mth a n)]
    exact h2 n
section
variable {b : Bx} {x : Fx} {A : Around} {μ : Mu} {m : Loc} {k : Nat}
theorem sim_put {a : Fld} {v : V} {f g : F} {val : Value} {s : Shared} {Q : Unit → Shared → Prop} {E : Value → Shared → Prop} (G : Gr b) (P : Place b x) (I : Inv b x f m s.heap) (hv : b.vrel v val) (hp : f.put a v = some g)
    (k : ∀ s', Inv b x g m s'.heap → Keeps b.W x.L x.fr s.heap s'.heap → s'.gens = s.gens → s'.os = s.os → Q () s') : wpAny (model b.prog b.w) A (setAttr (.ref b.W.S) a.name val) Q E s := by
  obtain ⟨mm, es, n, F, N, hl, hf⟩ := I.open P
  obtain ⟨g1, g2, g3⟩ := G.fld a
  obtain ⟨hf', hz⟩ := fields_put (PyData.keyHash b.w.params a.name) (s.toks + 1) hf hp hv
  refine set_dict F (G.X.keeps (I.base P)) N (I.instAt N) rfl G.sets G.over g3 G.dict ?_ rfl (.tail P.sd (.head fun p hp => Nat.ne_of_gt (Nat.lt_trans P.dl (P.own p hp)))) (by lia) fun h' F' N' => ?_
  · rcases hf.1 a with ⟨_, e, _⟩ | ⟨_, e, _⟩ <;> rw [e] <;> rfl
  · obtain ⟨I', k'⟩ := I.close P F' N' hl hf'
    exact k _ I' k' rfl rfl
theorem loc_set {i : Nat} {id : PySem.Str} {v : V} {val : Value} {mm : PySem.Str → Option Value} (hl : LocRel b.prog b.w b.K b.CA b.W.S x.names m mm) (hi : x.names[i]? = some id) (hv : b.vrel v val) :
    LocRel b.prog b.w b.K b.CA b.W.S x.names (m.set i (some v)) (fun y => if y = id then some val else mm y) := by
  obtain ⟨h1, h2, h3⟩ := hl
  refine ⟨by rw [List.length_set]; exact h1, h2, fun j n u hn hu => ?_⟩
  by_cases hj : j = i
  · subst hj
    rw [hi] at hn
    cases hn
    have hlt : j < m.length := by rw [h1]; exact (List.getElem?_eq_some_iff.mp hi).1
    have e : Loc.at (m.set j (some v)) j = some v := by
      unfold Loc.at
      rw [List.getD_eq_getElem?_getD, List.getElem?_set_self hlt]; rfl
    rw [e] at hu
    cases hu
    exact ⟨val, if_pos rfl, hv⟩
  · have e : Loc.at (m.set i (some v)) j = m.at j := by
      unfold Loc.at
      rw [List.getD_eq_getElem?_getD, List.getD_eq_getElem?_getD, List.getElem?_set_ne (Ne.symm hj)]
    rw [e] at hu
    obtain ⟨val', e1, e2⟩ := h3 j n u hn hu
    refine ⟨val', ?_, e2⟩
    show (if n = id then some val else mm n) = _
    rw [if_neg]
    · exact e1
    · rintro rfl
      exact hj ((List.getElem?_inj (List.getElem?_eq_some_iff.mp hn).1 h2).mp (hn.trans hi.symm))
theorem sim_store {i : Nat} {id : PySem.Str} {v : V} {f : F} {val : Value} {s : Shared} {Q : Unit → Shared → Prop} {E : Value → Shared → Prop} (P : Place b x) (hc : isLoc x.names x.sc i id = true) (I : Inv b x f m s.heap) (hv : b.vrel v val)
    (k : ∀ s', Inv b x f (m.set i (some v)) s'.heap → Keeps b.W x.L x.fr s.heap s'.heap → s'.gens = s.gens → s'.os = s.os → Q () s') : wpAny (model b.prog b.w) A (storeName x.env id val) Q E s := by
  obtain ⟨mm, es, n, F, N, hl, hf⟩ := I.open P
  obtain ⟨h1, h2, h3⟩ := isLoc_at hc
  refine stN F N (fun h' F' N' => ?_) P.fn h2
  obtain ⟨I', k'⟩ := I.close P F' N' (loc_set hl h1 hv) hf
  exact k _ I' k' rfl rfl
noncomputable abbrev Rel (b : Bx) (x : Fx) (s s' : Shared) : Prop := Keeps b.W x.L x.fr s.heap s'.heap ∧ s'.gens = s.gens ∧ s'.os = s.os
theorem Rel.refl (s : Shared) : Rel b x s s := ⟨Keeps.refl _ _ _ _, rfl, rfl⟩
theorem Rel.trans {s s' s'' : Shared} (p : Rel b x s s') (q : Rel b x s' s'') : Rel b x s s'' := ⟨p.1.trans q.1, q.2.1.trans p.2.1, q.2.2.trans p.2.2⟩
noncomputable def hideAll (h : Heap) : List Addr → Heap
  | [] => h
  | a :: r => (hideAll h r).hide a
theorem hideAll_in {h : Heap} {a : Addr} : ∀ {l : List Addr}, a ∈ l → (hideAll h l).get? a = none
  | [], q => by cases q
  | c :: r, q => by
    by_cases e : a = c
    · subst e; exact Heap.hide_self _ _
    · rw [hideAll, Heap.hide_ne _ e]
      rcases List.mem_cons.mp q with e' | q
      · exact (e e').elim
      · exact hideAll_in q
theorem hideAll_out {h : Heap} {a : Addr} : ∀ {l : List Addr}, a ∉ l → (hideAll h l).get? a = h.get? a
  | [], _ => rfl
  | c :: r, q => by
    rw [hideAll, Heap.hide_ne _ fun e => q (by subst e; exact .head _)]
    exact hideAll_out fun q' => q (.tail _ q')
theorem of_hideAll {h : Heap} {a : Addr} {o : Obj} {l : List Addr} (e : (hideAll h l).get? a = some o) : a ∉ l ∧ h.get? a = some o := by
  by_cases q : a ∈ l
  · rw [hideAll_in q] at e; cases e
  · exact ⟨q, (hideAll_out q) ▸ e⟩
noncomputable abbrev baseOf (x : Fx) (h : Heap) : Heap := hideAll h (x.L :: x.fr)
noncomputable def Traces (h B : Heap) (q : Addr) (cls : Value) (L : Addr) : Prop :=
  (∃ oe vs a0, h.get? q = some oe ∧ oe.cls = cls ∧ oe.data = .fields vs ∧ vs[1]? = some .none ∧ vs[0]? = some a0) ∨ ∃ a0, h.TracedAtW B q cls a0 (rawInt L)
structure Up (b : Bx) (x : Fx) (h₀ h : Heap) (q : Addr) : Prop where
  stays : (baseOf x h₀).StaysIn h
  new : (baseOf x h₀).get? q = none
  frames : h.FunFrames (baseOf x h₀) (x.env :: x.envs)
  slots : ∀ a o, h₀.get? a = some o → (∀ vs, o.data ≠ .fields vs) → ∃ sl, h.get? a = some { o with slots := sl }
noncomputable def Fly (b : Bx) (x : Fx) (n : Nat) (f : F) (m : Loc) (s s' : Shared) (q : Addr) : Prop :=
  ∃ s₀, Inv b x f m s₀.heap ∧ Rel b x s s₀ ∧ s'.gens = s₀.gens ∧ s'.os = s₀.os ∧ Up b x s₀.heap s'.heap q ∧ Traces s'.heap (baseOf x s₀.heap) q (.ref (b.la n)) x.L
noncomputable def Done (b : Bx) (x : Fx) (s : Shared) (o : O) (m : Loc) (f : F) (Q : Flow → Shared → Prop) (E : Value → Shared → Prop) : Prop := match o with
  | .next => ∀ s', Inv b x f m s'.heap → Rel b x s s' → Q .next s'
  | .brk => ∀ s', Inv b x f m s'.heap → Rel b x s s' → Q .brk s'
  | .cont => ∀ s', Inv b x f m s'.heap → Rel b x s s' → Q .cont s'
  | .ret v => ∀ val s', b.vrel v val → Inv b x f m s'.heap → Rel b x s s' → Q (.ret val) s'
  | .exc n => ∀ q s', n < 4 → Fly b x n f m s s' q → E (.ref q) s'
theorem Done.from {s s₁ : Shared} {o : O} {f : F} {Q : Flow → Shared → Prop} {E : Value → Shared → Prop} (D : Done b x s o m f Q E) (r : Rel b x s s₁) : Done b x s₁ o m f Q E := by
  cases o
  · exact fun s' I r' => D s' I (r.trans r')
  · exact fun s' I r' => D s' I (r.trans r')
  · exact fun s' I r' => D s' I (r.trans r')
  · exact fun val s' hv I r' => D val s' hv I (r.trans r')
  · exact fun q s' hn ⟨s₀, I, r', g⟩ => D q s' hn ⟨s₀, I, r.trans r', g⟩
noncomputable def behind (M : Model) (A : Around) (rest : List Stmt) (env : Env) (Q : Flow → Shared → Prop) (E : Value → Shared → Prop) : Flow → Shared → Prop :=
  fun f s' => match f with | .next => wpAny M A (execs rest env) Q E s' | f => Q f s'
noncomputable def SimC (b : Bx) (x : Fx) (A : Around) (μ : Mu) (N : Nat) (c : C) (body : List Stmt) : Prop :=
  ∀ (m : Loc) (f : F) (o : O) (m' : Loc) (f' : F) (s : Shared) (Q : Flow → Shared → Prop) (E : Value → Shared → Prop), exec N μ b.κ c m f = some (o, m', f') → Inv b x f m s.heap → Done b x s o m' f' Q E → wpAny (model b.prog b.w) A (execs body x.env) Q E s
variable {N : Nat}
theorem seq_of {r : Res} {kk : Loc → F → Res} {o : O} {m' : Loc} {f' : F} (h : andThen r kk = some (o, m', f')) : ∃ o1 m1 f1, r = some (o1, m1, f1) ∧ ((o1 = .next ∧ kk m1 f1 = some (o, m', f')) ∨ (o1 ≠ .next ∧ o1 = o ∧ m1 = m' ∧ f1 = f')) := by
  rcases r with _ | ⟨o1, m1, f1⟩
  · first | exact no_none h | exact no_false h | cases h
  · refine ⟨o1, m1, f1, rfl, ?_⟩
    cases o1 <;> first | exact .inl ⟨rfl, h⟩ | (cases h; exact .inr ⟨by simp, rfl, rfl, rfl⟩)
theorem Done.seq {s : Shared} {o1 o : O} {m1 m' : Loc} {f1 f' : F} {c : C} {rest : List Stmt} {Q : Flow → Shared → Prop} {E : Value → Shared → Prop} (sk : SimC b x A μ N c rest) (D : Done b x s o m' f' Q E)
    (h : (o1 = .next ∧ exec N μ b.κ c m1 f1 = some (o, m', f')) ∨ (o1 ≠ .next ∧ o1 = o ∧ m1 = m' ∧ f1 = f')) : Done b x s o1 m1 f1 (behind (model b.prog b.w) A rest x.env Q E) E := by
  rcases h with ⟨rfl, h⟩ | ⟨hne, rfl, rfl, rfl⟩
  · exact fun s' I r => sk m1 f1 o m' f' s' Q E h I (D.from r)
  · first | exact no_none o1 | exact no_false o1 | cases o1
    · exact (hne rfl).elim
    · exact D
    · exact D
    · exact D
    · exact D
theorem sim_nil : SimC b x A μ N .nil [] := by
  intro m f o m' f' s Q E he I D
  cases he
  exact wpAny_execs_nil (D s I (Rel.refl s))
theorem sim_pass {c : C} {rest : List Stmt} {pos : Pos} (sk : SimC b x A μ N c rest) : SimC b x A μ N (.pass c) (.Pass pos :: rest) := by
  intro m f o m' f' s Q E he I D
  exact wpAny_execs_cons (wpAny_Pass (sk m f o m' f' s Q E he I D))
theorem sim_brk {c : C} {rest : List Stmt} {pos : Pos} : SimC b x A μ N (.brk c) (.Break pos :: rest) := by
  intro m f o m' f' s Q E he I D
  cases he
  exact wpAny_execs_cons (wpAny_Break (D s I (Rel.refl s)))
theorem sim_cont {c : C} {rest : List Stmt} {pos : Pos} : SimC b x A μ N (.cont c) (.Continue pos :: rest) := by
  intro m f o m' f' s Q E he I D
  cases he
  exact wpAny_execs_cons (wpAny_Continue (D s I (Rel.refl s)))
theorem sim_ret {ce : CE} {e : PySem.Expr} {c : C} {rest : List Stmt} {pos : Pos} (se : ∀ m, SimE b x A μ m ce e) : SimC b x A μ N (.ret ce c) (.Return (some e) pos :: rest) := by
  intro m f o m' f' s Q E he I D
  obtain ⟨⟨v, f1⟩, e1, he⟩ := Option.map_eq_some_iff.mp he
  cases he
  exact wpAny_execs_cons (wpAny_Return_some (se m f v f1 s _ E e1 I fun val s' hv I' k' g' o' => D val s' hv I' ⟨k', g', o'⟩))
theorem sim_expr {ce : CE} {e : PySem.Expr} {c : C} {rest : List Stmt} {pos : Pos} (se : ∀ m, SimE b x A μ m ce e) (hi : interactive x.env = false) (hs : swapsWith e none pos.line x.env = pure false) (sk : SimC b x A μ N c rest) : SimC b x A μ N (.expr ce c) (.Expr e pos :: rest) := by
  intro m f o m' f' s Q E he I D
  obtain ⟨⟨v, f1⟩, e1, he⟩ := Option.bind_eq_some_iff.mp he
  exact wpAny_execs_cons (wpAny_Expr_any (se m f v f1 s _ E e1 I fun val s' hv I' k' g' o' => sk m f1 o m' f' s' Q E he I' (D.from ⟨k', g', o'⟩)) hi hs)
theorem sim_setl {i : Nat} {id : PySem.Str} {ce : CE} {e : PySem.Expr} {c : C} {rest : List Stmt} {p pos : Pos} (P : Place b x) (hc : isLoc x.names x.sc i id = true) (se : ∀ m, SimE b x A μ m ce e) (hs : swapsWith e (some (.Name id p)) pos.line x.env = pure false) (sk : SimC b x A μ N c rest) :
    SimC b x A μ N (.setl i ce c) (.Assign [.Name id p] e pos :: rest) := by
  intro m f o m' f' s Q E he I D
  obtain ⟨⟨v, f1⟩, e1, he⟩ := Option.bind_eq_some_iff.mp he
  dsimp only at he
  split at he
  · exact wpAny_execs_cons (wpAny_Assign_Name (se m f v f1 s _ E e1 I fun val s' hv I' k' g' o' => sim_store P hc I' hv fun s'' I'' k'' g'' o'' => sk _ f1 o m' f' s'' Q E he I'' (D.from ⟨k'.trans k'', g''.trans g', o''.trans o'⟩)) hs)
  · first | exact no_none he | exact no_false he | cases he
theorem sim_setf {a : Fld} {id n : PySem.Str} {ce : CE} {e : PySem.Expr} {c : C} {rest : List Stmt} {p p' pos : Pos} (G : Gr b) (P : Place b x) (hc : isLoc x.names x.sc 0 id = true) (hn : n = a.name) (se : ∀ m, SimE b x A μ m ce e)
    (hs : swapsWith e (some (.Attribute (.Name id p) n p')) pos.line x.env = pure false) (sk : SimC b x A μ N c rest) :
    SimC b x A μ N (.setf a ce c) (.Assign [.Attribute (.Name id p) n p'] e pos :: rest) := by
  intro m f o m' f' s Q E he I D
  obtain ⟨⟨v, f1⟩, e1, he⟩ := Option.bind_eq_some_iff.mp he
  dsimp only at he
  split at he
  · rename_i h0
    obtain ⟨g, hp, he⟩ := Option.bind_eq_some_iff.mp he
    subst hn
    refine wpAny_execs_cons (plainObj_wpAny_Assign_Attribute (se m f v f1 s _ E e1 I fun val s' hv I' k' g' o' => sim_loc P hc h0 I' fun u hu => ?_) hs)
    obtain rfl := self_ref hu
    exact sim_put G P I' hv hp fun s'' I'' k'' g'' o'' => sk m g o m' f' s'' Q E he I'' (D.from ⟨k'.trans k'', g''.trans g', o''.trans o'⟩)
  · first | exact no_none he | exact no_false he | cases he
theorem aug_run {plus : Bool} {v1 v2 v : V} {u1 u2 : Value} {f : F} {s : Shared} {Q : Value → Shared → Prop} {E : Value → Shared → Prop} {op : PySem.Operator} (hop : op = if plus then PySem.Operator.Add else PySem.Operator.Sub) (he : (if plus then addV v1 v2 else subV v1 v2) = some v) (h1 : b.vrel v1 u1) (h2 : b.vrel v2 u2) (I : Inv b x f m s.heap)
    (k : ∀ val s', b.vrel v val → Inv b x f m s'.heap → Rel b x s s' → Q val s') : wpAny (model b.prog b.w) A (inplaceOp op u1 u2) Q E s := by
  subst hop
  cases plus
  · simp only [Bool.false_eq_true, if_false] at he ⊢
    cases v1 <;> first | exact no_none he | exact no_false he | cases he | skip
    all_goals (cases v2 <;> first | exact no_none he | exact no_false he | cases he | skip)
    obtain ⟨t1, rfl⟩ := int_val h1
    obtain ⟨t2, rfl⟩ := int_val h2
    exact PySem.P.isub_int (k _ _ mk_int I ⟨Keeps.refl _ _ _ _, rfl, rfl⟩)
  · simp only [if_true] at he ⊢
    cases v1 <;> first | exact no_none he | exact no_false he | cases he | skip
    all_goals (cases v2 <;> first | exact no_none he | exact no_false he | cases he | skip)
    · obtain ⟨t1, rfl⟩ := int_val h1
      obtain ⟨t2, rfl⟩ := int_val h2
      exact PySem.P.iadd_int (k _ _ mk_int I ⟨Keeps.refl _ _ _ _, rfl, rfl⟩)
    · obtain ⟨tu, rfl, lu⟩ := str_val h1
      obtain ⟨tw, rfl, lw⟩ := str_val h2
      simp only [addV_int, addV_s] at he
      split at he
      · rename_i hl
        cases he
        refine iadd_str (fun t' tk => ?_) ?_
        · rw [str_app]; exact k _ _ (mk_str (by rw [List.length_append]; exact hl)) I ⟨Keeps.refl _ _ _ _, rfl, rfl⟩
        · show (List.toArray _).size + (List.toArray _).size ≤ _
          rw [List.size_toArray, List.size_toArray, sizeLine_eq]; lia
      · first | exact no_none he | exact no_false he | cases he
theorem sim_augl {i : Nat} {id : PySem.Str} {plus : Bool} {op : PySem.Operator} {ce : CE} {e : PySem.Expr} {c : C} {rest : List Stmt} {p pos : Pos} (P : Place b x) (hc : isLoc x.names x.sc i id = true) (hop : op = if plus then PySem.Operator.Add else PySem.Operator.Sub) (se : ∀ m, SimE b x A μ m ce e) (sk : SimC b x A μ N c rest) :
    SimC b x A μ N (.augl i plus ce c) (.AugAssign (.Name id p) op e pos :: rest) := by
  intro m f o m' f' s Q E he I D
  obtain ⟨v0, h0, he⟩ := Option.bind_eq_some_iff.mp he
  obtain ⟨⟨v, f1⟩, e1, he⟩ := Option.bind_eq_some_iff.mp he
  obtain ⟨v2, e2, he⟩ := Option.bind_eq_some_iff.mp he
  dsimp only at he
  split at he
  · obtain ⟨h1, h2, h3⟩ := isLoc_at hc
    obtain ⟨mm, es, n, F, N, hl, hf⟩ := I.open P
    obtain ⟨val0, em, r0⟩ := hl.2.2 i id v0 h1 h0
    refine wpAny_execs_cons (wpAny_AugAssign_Name (ldn F em ?_ P.fn h2))
    exact se m f v f1 s _ E e1 I fun val s' hv I' k' g' o' => aug_run hop e2 r0 hv I' fun u s'' hu I'' r'' => sim_store P hc I'' hu fun s3 I3 k3 g3 o3 =>
      sk _ f1 o m' f' s3 Q E he I3 (D.from (Rel.trans (Rel.trans ⟨k', g', o'⟩ r'') ⟨k3, g3, o3⟩))
  · first | exact no_none he | exact no_false he | cases he
theorem sim_augf {a : Fld} {id n : PySem.Str} {plus : Bool} {op : PySem.Operator} {ce : CE} {e : PySem.Expr} {c : C} {rest : List Stmt} {p p' pos : Pos} (G : Gr b) (P : Place b x) (hc : isLoc x.names x.sc 0 id = true) (hn : n = a.name) (hop : op = if plus then PySem.Operator.Add else PySem.Operator.Sub) (se : ∀ m, SimE b x A μ m ce e)
    (sk : SimC b x A μ N c rest) : SimC b x A μ N (.augf a plus ce c) (.AugAssign (.Attribute (.Name id p) n p') op e pos :: rest) := by
  intro m f o m' f' s Q E he I D
  subst hn
  simp only [xf_augf] at he
  split at he
  · rename_i h0
    obtain ⟨⟨v, f1⟩, e1, he⟩ := Option.bind_eq_some_iff.mp he
    obtain ⟨v2, e2, he⟩ := Option.bind_eq_some_iff.mp he
    obtain ⟨g, hp, he⟩ := Option.bind_eq_some_iff.mp he
    refine wpAny_execs_cons (wpAny_AugAssign_AttributeAny (sim_loc P hc h0 I fun u hu => ?_))
    obtain rfl := self_ref hu
    have hget : ∀ (Q' : Value → Shared → Prop), Ok b x s (f.get a) f m Q' → wpAny (model b.prog b.w) A (getAttr (.ref b.W.S) a.name true) Q' E s := fun Q' kk => by
      obtain ⟨mm, es, n, F, N, hl, hf⟩ := I.open P
      have X := G.X.keeps (I.base P)
      have hI := I.instAt N
      obtain ⟨g1, g2, g3⟩ := G.fld a
      rcases hf.1 a with ⟨val, e, r⟩ | ⟨ha, e, r⟩
      · refine get_own F X hI G.plain G.dict g1 g2 e ?_ (kk.here r I)
        have : ∀ {u : Value}, b.vrel (f.get a) u → handedIn u = true := fun {u} q => by
          cases a <;> (cases u <;> first | exact q.elim | rfl)
        exact this r
      · obtain ⟨t, ht⟩ := G.opt a ha
        rw [ht] at g1 g2
        have g : specialIn b.K (.int 0 t) "__get__" = some none := beq_iff_eq.mp g2
        refine get_cls F X hI G.plain G.dict g1 g rfl ?_ e (kk.here (by rw [r]; exact mk_int) I)
        revert ha; cases a <;> (intro ha; first | decide | (exfalso; revert ha; decide))
    refine hget _ fun old s₁ hold I₁ k₁ g₁ o₁ => se m f v f1 s₁ _ E e1 I₁ fun val s₂ hv I₂ k₂ g₂ o₂ => aug_run hop e2 hold hv I₂ fun u s₃ hu I₃ r₃ => sim_put G P I₃ hu hp fun s₄ I₄ k₄ g₄ o₄ =>
      sk m g o m' f' s₄ Q E he I₄ (D.from (Rel.trans (Rel.trans (Rel.trans ⟨k₁, g₁, o₁⟩ ⟨k₂, g₂, o₂⟩) r₃) ⟨k₄, g₄, o₄⟩))
  · first | exact no_none he | exact no_false he | cases he
theorem sim_ite {t : CT} {e : PySem.Expr} {ca cb c : C} {ba bb rest : List Stmt} {pos : Pos} (st : ∀ m, SimT b x A μ m t e) (sa : SimC b x A μ N ca ba) (sb : SimC b x A μ N cb bb) (sk : SimC b x A μ N c rest) :
    SimC b x A μ N (.ite t ca cb c) (.If e ba bb pos :: rest) := by
  intro m f o m' f' s Q E he I D
  obtain ⟨⟨v, f1⟩, e1, he⟩ := Option.bind_eq_some_iff.mp he
  obtain ⟨o1, m1, f2, hr, hcase⟩ := seq_of he
  refine wpAny_execs_cons (wpAny_If (st m _ f v f1 s _ E rfl e1 I fun s' I' k' g' o' => ?_))
  have D' := (D.from ⟨k', g', o'⟩).seq sk hcase
  cases v
  · exact sb m f1 o1 m1 f2 s' _ E hr I' D'
  · exact sa m f1 o1 m1 f2 s' _ E hr I' D'
theorem sim_asrt {t : CT} {e : PySem.Expr} {msg : Option PySem.Expr} {c : C} {rest : List Stmt} {pos : Pos} (st : ∀ m, SimT b x A μ m t e) (sk : SimC b x A μ N c rest) : SimC b x A μ N (.asrt t c) (.Assert e msg pos :: rest) := by
  intro m f o m' f' s Q E he I D
  obtain ⟨⟨v, f1⟩, e1, he⟩ := Option.bind_eq_some_iff.mp he
  dsimp only at he
  cases v
  · first | exact no_none he | exact no_false he | cases he
  · exact wpAny_execs_cons (wpAny_Assert_holds (st m _ f true f1 s _ E rfl e1 I fun s' I' k' g' o' => ⟨rfl, sk m f1 o m' f' s' Q E he I' (D.from ⟨k', g', o'⟩)⟩))
end
end Mine
end
section
open PySem PySem.W PySem.Calls PyProof.Rows
namespace Mine
theorem slots_data {h h' : Heap} {a : Addr} {o : Obj} (hs : ∃ sl, h'.get? a = some { o with slots := sl }) : ∃ o', h'.get? a = some o' ∧ o'.data = o.data := by
  obtain ⟨sl, e⟩ := hs; exact ⟨_, e, rfl⟩
theorem dict_data {o : Obj} {es : Array DictEntry} {n : Nat} (h : o.data = .dict es n) : ∀ vs, o.data ≠ .fields vs := fun vs q => by rw [h] at q; cases q
theorem funFrames_of {B h : Heap} : ∀ (envs : List Env) (fr : List Addr), envs.map (·.frame) = fr.map some → (∀ e ∈ envs, e.scope.kind = .function) → (∀ L ∈ fr, B.get? L = none ∧ ∃ o, h.get? L = some o ∧ ∀ vs, o.data ≠ .fields vs) → h.FunFrames B envs
  | [], _, _, _, _ => trivial
  | e :: r, [], hm, _, _ => by cases hm
  | e :: r, L :: fr, hm, hk, hf => by
    simp only [List.map_cons, List.cons.injEq] at hm
    obtain ⟨h1, o, h2, h3⟩ := hf L (.head _)
    exact ⟨by rw [hk e (.head _)]; decide, ⟨L, o, hm.1, h1, h2, h3⟩, funFrames_of r fr hm.2 (fun e' he => hk e' (.tail _ he)) fun L' hL => hf L' (.tail _ hL)⟩
section
variable {b : Bx} {x : Fx} {A : Around} {μ : Mu} {m : Loc} {k : Nat} {f : F}
theorem Inv.frameObj {h : Heap} (I : Inv b x f m h) : ∀ L ∈ x.L :: x.fr, ∃ o, h.get? L = some o ∧ ∀ vs, o.data ≠ .fields vs := fun L hL => by
  rcases List.mem_cons.mp hL with rfl | hL
  · obtain ⟨mm, ⟨o, es, n, ho, hd, _⟩, _⟩ := I.frame
    exact ⟨o, ho, dict_data hd⟩
  · obtain ⟨o, es, n, ho, hd⟩ := I.frames.2.2 L hL
    exact ⟨o, ho, dict_data hd⟩
theorem Inv.funFrames {h h' : Heap} (I : Inv b x f m h) (P : Place b x) (hk : ∀ L ∈ x.L :: x.fr, ∃ o, h'.get? L = some o ∧ ∀ vs, o.data ≠ .fields vs) : h'.FunFrames (baseOf x h) (x.env :: x.envs) :=
  funFrames_of (x.env :: x.envs) (x.L :: x.fr) (by rw [List.map_cons, List.map_cons, I.frames.1]; rfl) (fun e he => by
    rcases List.mem_cons.mp he with rfl | he
    · exact P.fn
    · exact I.frames.2.1 e he) fun L hL => ⟨hideAll_in hL, hk L hL⟩
theorem up_made {h₀ h : Heap} {q : Addr} {n : Nat} {args : List Value} (I : Inv b x f m h₀) (P : Place b x) (X : Heap.MadeExcOf h₀ h q (.ref (b.la n)) args) : Up b x h₀ h q ∧ Traces h (baseOf x h₀) q (.ref (b.la n)) x.L := by
  obtain ⟨t, he, _, _⟩ := X.there
  refine ⟨⟨fun a o e => X.keeps a o (of_hideAll e).2, ?_, I.funFrames P fun L hL => ?_, fun a o e _ => ⟨o.slots, X.keeps a o e⟩⟩, .inl ⟨_, _, _, he, rfl, rfl, rfl, rfl⟩⟩
  · cases e : (baseOf x h₀).get? q with
    | none => rfl
    | some o => have := (of_hideAll e).2; rw [X.new] at this; cases this
  · obtain ⟨o, ho, hd⟩ := I.frameObj L hL
    exact ⟨o, X.keeps _ _ ho, hd⟩
theorem Up.step {h₀ h h' : Heap} {q : Addr} (U : Up b x h₀ h q) (h1 : (baseOf x h₀).StaysIn h') (h2 : h'.FunFrames (baseOf x h₀) (x.env :: x.envs)) (h3 : ∀ a o, h.get? a = some o → (∀ vs, o.data ≠ .fields vs) → ∃ sl, h'.get? a = some { o with slots := sl }) : Up b x h₀ h' q :=
  ⟨h1, U.new, h2, fun a o e hd => by
    obtain ⟨sl, e1⟩ := U.slots a o e hd
    obtain ⟨sl', e2⟩ := h3 a _ e1 hd
    exact ⟨sl', e2⟩⟩
theorem up_note {h₀ : Heap} {q : Addr} {cls : Value} {s : Shared} {M : Model} {Q : Unit → Shared → Prop} {E : Value → Shared → Prop} (hfr : A.frames = some (x.env :: x.envs)) (U : Up b x h₀ s.heap q) (T : Traces s.heap (baseOf x h₀) q cls x.L)
    (hQ : ∀ h' a0, Up b x h₀ h' q → h'.TracedAtW (baseOf x h₀) q cls a0 (rawInt x.L) → Q () { s with heap := h' }) : wpAny M A (noteFrame (.ref q) x.env) Q E s := by
  rcases T with ⟨oe, vs, a0, he, rfl, hd, h1, h0⟩ | ⟨a0, ht⟩
  · unfold noteFrame
    simp only [show x.env.frame = some x.L from rfl]
    refine wpAny_bind (wpAny_field he hd h1 ?_)
    rw [if_neg (by decide)]
    exact wpAny_entryW hfr U.frames rfl he U.stays U.new hd (Array.getElem?_eq_some_iff.mp h1).1 h0 fun h' ⟨n1, n2, n3, n4⟩ => hQ h' a0 (U.step n1 n2 n4) n3
  · exact wpAny_noteFrame_againW rfl ht (hQ s.heap a0 U ht)
theorem up_flight {h₀ : Heap} {q : Addr} {cls a0 fl : Value} {fr : Option Addr} {s : Shared} {M : Model} {Q : Unit → Shared → Prop} {E : Value → Shared → Prop} (U : Up b x h₀ s.heap q) (T : s.heap.TracedAtW (baseOf x h₀) q cls a0 fl)
    (hQ : ∀ h', Up b x h₀ h' q → h'.TracedAtW (baseOf x h₀) q cls a0 (fr.elim .none fun f => rawInt f) → Q () { s with heap := h' }) : wpAny M A (setFlight (.ref q) fr) Q E s := by
  obtain ⟨oe, vs, T, oT, ts, he, hcls, hd, h1, hnT, hTe, hT, hdT, h3⟩ := T
  have hsz : 3 < ts.size := (Array.getElem?_eq_some_iff.mp h3).1
  have hot : ∀ a, a ≠ T → (s.heap.update T (Obj.mapFields (·.setIfInBounds 3 (fr.elim .none fun f => rawInt f)))).get? a = s.heap.get? a := fun a ha => Heap.get?_update_other _ _ (Ne.symm ha)
  have hnr : ∀ a o, s.heap.get? a = some o → (∀ vs, o.data ≠ .fields vs) → a ≠ T := fun a o e hn z => by
    subst z; rw [hT] at e; cases e; exact hn ts hdT
  unfold setFlight
  refine wpAny_bind (wpAny_field he hd h1 ?_)
  rw [if_pos (show (Value.ref T != Value.none) = true from by simp)]
  refine wpAny_setField hT hdT hsz (hQ _ (U.step (fun a o e => (hot a fun z => by subst z; rw [hnT] at e; cases e).trans (U.stays a o e)) (U.frames.of_keeps fun a o e hn => ⟨o, (hot a (hnr a o e hn)).trans e, rfl⟩) fun a o e hn => ⟨o.slots, (hot a (hnr a o e hn)).trans e⟩) ?_)
  exact ⟨oe, vs, T, _, _, (hot q (Ne.symm hTe)).trans he, hcls, hd, h1, hnT, hTe, Heap.get?_update_self _ hT (Obj.isFreed_of_fields (Obj.data_mapFields hdT _)), Obj.data_mapFields hdT _, by simp [hsz]⟩
theorem up_back {h₀ : Heap} {q : Addr} {cls a0 fl : Value} {s : Shared} {M : Model} {E : Value → Shared → Prop} (U : Up b x h₀ s.heap q) (T : s.heap.TracedAtW (baseOf x h₀) q cls a0 fl)
    (hE : ∀ h' a0, Up b x h₀ h' q → h'.TracedAtW (baseOf x h₀) q cls a0 (rawInt x.L) → E (.ref q) { s with heap := h' }) : cameBackBy M A x.env E (.ref q) s := by
  unfold cameBackBy
  obtain ⟨oe, vs, T', oT, ts, he, hcls, hd, h1, r⟩ := id T
  refine wpAny_bind (wpAny_field he hd h1 ?_)
  rw [if_neg (show ¬ ((Value.ref T' == Value.none) = true) from by simp)]
  exact up_flight (fr := some x.L) U T fun h' U' T' => hE h' a0 U' T'
theorem up_land {h₀ h : Heap} {q : Addr} (I : Inv b x f m h₀) (P : Place b x) (U : Up b x h₀ h q) : Inv b x f m h ∧ Keeps b.W x.L x.fr h₀ h := by
  have nfr : ∀ a, a < b.H.objs.size ∨ a = b.W.S ∨ a = b.W.d ∨ x.L < a → a ∉ x.L :: x.fr := fun a ha hm => by
    rcases List.mem_cons.mp hm with rfl | hm
    · rcases ha with h | h | h | h
      · exact Nat.lt_irrefl _ (Nat.lt_of_lt_of_le h P.nl)
      · exact Nat.ne_of_gt P.sl h
      · exact Nat.ne_of_gt P.dl h
      · exact Nat.lt_irrefl _ h
    · obtain ⟨p1, p2, p3, p4⟩ := P.fr a hm
      rcases ha with h | h | h | h
      · exact Nat.lt_irrefl _ (Nat.lt_of_lt_of_le h p1)
      · exact p3 h
      · exact p4 h
      · exact Nat.lt_irrefl _ (Nat.lt_trans h p2)
  have keep : ∀ a o, a ∉ x.L :: x.fr → h₀.get? a = some o → h.get? a = some o := fun a o hn e => U.stays a o ((hideAll_out hn).trans e)
  obtain ⟨mm, ⟨oL, es, n, hoL, hdL, rL⟩, hl⟩ := I.frame
  obtain ⟨es', n', hd, hf⟩ := I.dict
  refine ⟨⟨fun a o e => keep a o (nfr a (.inl (Heap.lt_size e))) (I.old a o e), ⟨mm, ?_, hl⟩, keep _ _ (nfr _ (.inr (.inl rfl))) I.inst, ⟨es', n', keep _ _ (nfr _ (.inr (.inr (.inl rfl)))) hd, hf⟩, ?_, fun p hp => keep _ _ (nfr _ (.inr (.inr (.inr (P.own p hp))))) (I.own p hp)⟩, ?_⟩
  · obtain ⟨sl, e⟩ := U.slots _ _ hoL (dict_data hdL)
    exact ⟨_, es, n, e, hdL, rL⟩
  · refine ⟨I.frames.1, I.frames.2.1, fun l hl => ?_⟩
    obtain ⟨o, es, n, e, d⟩ := I.frames.2.2 l hl
    obtain ⟨sl, e'⟩ := U.slots _ _ e (dict_data d)
    exact ⟨_, es, n, e', d⟩
  · intro a o h1 h2 h3 e
    by_cases hm : a ∈ x.fr
    · obtain ⟨o', es, n, e1, d⟩ := I.frames.2.2 a hm
      rw [e] at e1; cases e1
      obtain ⟨sl, e'⟩ := U.slots _ _ e (dict_data d)
      exact ⟨sl, e', fun q => (q hm).elim⟩
    · exact ⟨o.slots, keep a o (fun z => by
        rcases List.mem_cons.mp z with rfl | z
        · exact Nat.lt_irrefl _ h1
        · exact hm z) e, fun _ => rfl⟩
theorem lab_name {n : Nat} {id : PySem.Str} {pos : Pos} {s : Shared} {Q : Value → Shared → Prop} {E : Value → Shared → Prop} (G : Gr b) (P : Place b x) (hn : n < 4) (hc : isGlob x.sc id (labName n) = true) (I : Inv b x f m s.heap)
    (h : Q (.ref (b.la n)) s) : wpAny (model b.prog b.w) A (eval (.Name id pos) x.env) Q E s := by
  obtain ⟨rfl, h2, h3⟩ := isGlob_at hc
  obtain ⟨mm, es, kn, F, N, hl, hf⟩ := I.open P
  obtain ⟨bm, newId, B, initId, O, _⟩ := G.lab n hn
  exact ld_global_at F (G.ng.keeps (I.base P)) O.bound h P.fn h2 h3
theorem sim_raise {N n : Nat} {id : PySem.Str} {np cpos pos : Pos} {c : C} {rest : List Stmt} (G : Gr b) (M : Amb b x A k) (hn : n < 4) (hc : isGlob x.sc id (labName n) = true) : SimC b x A μ N (.raise n c) (.Raise (some (.Call (.Name id np) [] [] cpos)) none pos :: rest) := by
  intro m f o m' f' s Q E he I D
  cases he
  have P := M.place
  obtain ⟨rfl, h2, h3⟩ := isGlob_at hc
  obtain ⟨mm, es, kn, F, Nw, hl, hf⟩ := I.open P
  obtain ⟨bm, newId, B, initId, O, FB⟩ := G.lab n hn
  refine wpAny_execs_cons (Raise_own0 F (G.ng.keeps (I.base P)) (O.keeps (I.base P)) FB M.handled (fun h' q hx => ?_) P.fn h2 h3)
  exact D q _ hn ⟨s, I, Rel.refl s, rfl, rfl, up_made I P hx⟩
theorem caught_of {n : Nat} {r : Res} {kk : Loc → F → Res} {o : O} {m' : Loc} {f' : F} (h : caught n r kk = some (o, m', f')) :
    ∃ o1 m1 f1, r = some (o1, m1, f1) ∧ (((o1 = .next ∨ o1 = .exc n) ∧ kk m1 f1 = some (o, m', f')) ∨ ((o1 = .brk ∨ o1 = .cont ∨ ∃ v, o1 = .ret v) ∧ o1 = o ∧ m1 = m' ∧ f1 = f')) := by
  rcases r with _ | ⟨o1, m1, f1⟩
  · first | exact no_none h | exact no_false h | cases h
  · refine ⟨o1, m1, f1, rfl, ?_⟩
    cases o1 with
    | next => exact .inl ⟨.inl rfl, h⟩
    | brk => cases h; exact .inr ⟨.inl rfl, rfl, rfl, rfl⟩
    | cont => cases h; exact .inr ⟨.inr (.inl rfl), rfl, rfl, rfl⟩
    | ret v => cases h; exact .inr ⟨.inr (.inr ⟨v, rfl⟩), rfl, rfl, rfl⟩
    | exc j =>
      have h : (if j = n then kk m1 f1 else Option.none) = some (o, m', f') := h
      by_cases e : j = n
      · rw [if_pos e] at h; exact .inl ⟨.inr (by rw [e]), h⟩
      · rw [if_neg e] at h; exact no_none h
theorem sim_try {N n : Nat} {id : PySem.Str} {np hp pp pos : Pos} {ca c : C} {ba rest : List Stmt} (G : Gr b) (M : Amb b x A k) (hn : n < 4) (hc : isGlob x.sc id (labName n) = true) (sa : SimC b x A μ N ca ba) (sk : SimC b x A μ N c rest) :
    SimC b x A μ N (.tryc n ca c) (.Try ba [.ExceptHandler (some (.Name id np)) none [.Pass pp] hp] [] [] pos :: rest) := by
  intro m f o m' f' s Q E he I D
  have P := M.place
  obtain ⟨o1, m1, f1, hr, hcase⟩ := caught_of he
  refine wpAny_execs_cons (wpAny_Try_except (sa m f o1 m1 f1 s _ _ hr I ?_))
  rcases hcase with ⟨rfl | rfl, h⟩ | ⟨ho, rfl, rfl, rfl⟩
  · exact fun s' I' r' => wpAny_execs_nil (sk m1 f1 o m' f' s' Q E h I' (D.from r'))
  · rintro q s' _ ⟨s₀, I₀, r₀, g₀, o₀, U, T⟩
    refine up_note M.frames U T fun h1 a0 U1 T1 => up_flight (fr := none) U1 T1 fun h2 U2 T2 => ?_
    obtain ⟨I2, K2⟩ := up_land I₀ P U2
    refine wpAny_handleBy_cons (codeAny_handlers_test (lab_name (s := { s' with heap := h2 }) G P hn hc I2 ?_)) (by intro z; cases z)
    obtain ⟨oe, vs, T', oT, ts, he, hcls, r⟩ := _root_.id T2
    obtain ⟨bm, newId, B, initId, O, FB⟩ := G.lab n hn
    obtain ⟨tl, Nn, nm, q', bs, hdct, sn, sub, ab, col, dd, k0, k1, k2, k3, k5, mN, hC, hN, hni, OT⟩ := O.obj
    refine wpAny_excMatches_sub_self (I2.old _ _ hC) he hcls.1 (OT.hasType FB.hasBase) ?_
    refine codeAny_handlers_suite (up_flight (fr := none) (s := { s' with heap := h2 }) U2 T2 fun h3 U3 T3 => wpAny_execs_cons (wpAny_Pass (wpAny_execs_nil ?_)))
    obtain ⟨I3, K3⟩ := up_land I₀ P U3
    exact sk m1 f1 o m' f' _ Q E h I3 (D.from (r₀.trans ⟨K3, g₀, o₀⟩))
  · rcases ho with rfl | rfl | ⟨v, rfl⟩
    · exact D
    · exact D
    · exact D
theorem turned_of {r : Res} {kk : Loc → F → Res} {o : O} {m' : Loc} {f' : F} (h : turned r kk = some (o, m', f')) :
    ∃ o1 m1 f1, r = some (o1, m1, f1) ∧ (((o1 = .next ∨ o1 = .cont) ∧ kk m1 f1 = some (o, m', f')) ∨ (o1 = .brk ∧ o = .next ∧ m1 = m' ∧ f1 = f') ∨ ((∃ v, o1 = .ret v) ∨ (∃ n, o1 = .exc n)) ∧ o1 = o ∧ m1 = m' ∧ f1 = f') := by
  rcases r with _ | ⟨o1, m1, f1⟩
  · first | exact no_none h | exact no_false h | cases h
  · refine ⟨o1, m1, f1, rfl, ?_⟩
    cases o1 with
    | next => exact .inl ⟨.inl rfl, h⟩
    | cont => exact .inl ⟨.inr rfl, h⟩
    | brk => cases h; exact .inr (.inl ⟨rfl, rfl, rfl, rfl⟩)
    | ret v => cases h; exact .inr (.inr ⟨.inl ⟨v, rfl⟩, rfl, rfl, rfl⟩)
    | exc n => cases h; exact .inr (.inr ⟨.inr ⟨n, rfl⟩, rfl, rfl, rfl⟩)
noncomputable def loopEnd (M : Model) (A : Around) (env : Env) (Q : Flow → Shared → Prop) (E : Value → Shared → Prop) : Result → Shared → Prop :=
  fun r s' => match r with | .ok f => Q f s' | .error e => cameBackBy M A env E e s'
theorem noted_fly {n : Nat} {s s' : Shared} {q : Addr} {Q : Flow → Shared → Prop} {E : Value → Shared → Prop} {M : Model} (hfr : A.frames = some (x.env :: x.envs)) (hn : n < 4) (H : Fly b x n f m s s' q) (D : Done b x s (.exc n) m f Q E) :
    notedBy M A x.env (fun e s'' => loopEnd M A x.env Q E (.error e) s'') (.ref q) s' := by
  obtain ⟨s₀, I₀, r₀, g₀, o₀, U, T⟩ := H
  unfold notedBy
  refine up_note hfr U T fun h1 a0 U1 T1 => ?_
  exact up_back (s := { s' with heap := h1 }) U1 T1 fun h2 a1 U2 T2 => D q _ hn ⟨s₀, I₀, r₀, g₀, o₀, U2, .inr ⟨a1, T2⟩⟩
theorem sim_wh {N : Nat} {t : CT} {e : PySem.Expr} {ca c : C} {ba rest : List Stmt} {pos : Pos} (M : Amb b x A k) (st : ∀ m, SimT b x A μ m t e) (sa : SimC b x A μ N ca ba) (sk : SimC b x A μ N c rest) :
    SimC b x A μ N (.wh t ca c) (.While e ba [] pos :: rest) := by
  intro m f o m' f' s Q E he I D
  obtain ⟨o1, m1, f1, hr, hcase⟩ := seq_of he
  have D' := D.seq sk hcase
  refine wpAny_execs_cons (wpAny_While ?_)
  refine codeAny_whileLoop (R := loopEnd (model b.prog b.w) A x.env (behind (model b.prog b.w) A rest x.env Q E) E)
    (fun n s' => ∃ m2 f2, loop (fun m f => test μ b.κ m t f) (exec N μ b.κ ca) n m2 f2 = some (o1, m1, f1) ∧ Inv b x f2 m2 s'.heap ∧ Rel b x s s') ?_ N ⟨m, f, hr, I, Rel.refl s⟩
  rintro n s2 ⟨m2, f2, hl, I2, r2⟩
  cases n with
  | zero => cases hl
  | succ n =>
    obtain ⟨⟨v, f3⟩, e1, hl⟩ := Option.bind_eq_some_iff.mp hl
    refine st m2 _ f2 v f3 s2 _ _ rfl e1 I2 fun s3 I3 k3 g3 o3 => ?_
    have r3 : Rel b x s s3 := r2.trans ⟨k3, g3, o3⟩
    cases v with
    | false =>
      cases hl
      exact wpAny_execs_nil (D' s3 I3 r3)
    | true =>
      obtain ⟨o4, m4, f4, hb, hc4⟩ := turned_of hl
      refine sa m2 f3 o4 m4 f4 s3 _ _ hb I3 ?_
      rcases hc4 with ⟨rfl | rfl, h⟩ | ⟨rfl, rfl, rfl, rfl⟩ | ⟨⟨v, rfl⟩ | ⟨n', rfl⟩, rfl, rfl, rfl⟩
      · exact fun s5 I5 r5 => ⟨n, Nat.lt_succ_self _, m4, f4, h, I5, r3.trans r5⟩
      · exact fun s5 I5 r5 => ⟨n, Nat.lt_succ_self _, m4, f4, h, I5, r3.trans r5⟩
      · exact D'.from r3
      · exact D'.from r3
      · exact fun q s5 hn H => noted_fly M.frames hn H (D'.from r3)
end
end Mine
end
section
open PySem PySem.W PySem.Calls PyProof.Rows
namespace Mine
section
variable {b : Bx} {x : Fx} {A : Around} {μ : Mu} {m : Loc} {k : Nat} {f : F}
noncomputable abbrev Fx.with (x : Fx) (l : List (Addr × Obj)) : Fx := { x with own := l }
theorem Place.with (P : Place b x) {l : List (Addr × Obj)} (h : ∀ p ∈ l, x.L < p.1) : Place b (x.with l) := ⟨P.sd, P.ns, P.nd, P.sl, P.dl, P.fr, P.fn, h⟩
theorem Amb.with (M : Amb b x A k) {l : List (Addr × Obj)} (h : ∀ p ∈ l, x.L < p.1) : Amb b (x.with l) A k := ⟨M.place.with h, M.handled, M.frames, M.depth, M.units⟩
theorem Inv.with {l : List (Addr × Obj)} {h : Heap} (I : Inv b x f m h) (hl : ∀ p ∈ l, h.get? p.1 = some p.2) : Inv b (x.with l) f m h := ⟨I.old, I.frame, I.inst, I.dict, I.frames, hl⟩
theorem Inv.push {h : Heap} (I : Inv b x f m h) (P : Place b x) (o : Obj) (hf : o.isFreed = false) : Inv b (x.with ((h.objs.size, o) :: x.own)) f m (h.push o) ∧ Keeps b.W x.L x.fr h (h.push o) := by
  obtain ⟨mm, es, n, F, N, hl, hff⟩ := I.open P
  have N' : News (below h x.L b.W.S b.W.d) x.L (h.push o) ((b.W.S, instObj b.W.C b.W.d) :: (b.W.d, dictOf es n) :: x.own) := fun p hp => (N.push F o hf) p (.tail _ hp)
  obtain ⟨I', k'⟩ := I.close P (F.push o) N' hl hff
  refine ⟨I'.with fun p hp => ?_, k'⟩
  rcases List.mem_cons.mp hp with rfl | hp
  · exact Heap.get?_push_size _ hf
  · exact I'.own p hp
theorem Inv.size {h : Heap} (I : Inv b x f m h) : x.L < h.objs.size := by
  obtain ⟨mm, ⟨o, es, n, ho, _⟩, _⟩ := I.frame
  exact Heap.lt_size ho
theorem Inv.turnOwn {h h' : Heap} {a : Addr} {o : Obj} {l : List (Addr × Obj)} (P : Place b x) (hl : ∀ p ∈ l, x.L < p.1 ∧ p.1 ≠ a) (ha : x.L < a) (I : Inv b (x.with ((a, o) :: l)) f m h) (hs : Heap.ExtBut a h h') :
    Inv b (x.with l) f m h' ∧ Keeps b.W x.L x.fr h h' := by
  have hne : ∀ c, c < x.L → c ≠ a := fun c hc => Nat.ne_of_lt (Nat.lt_trans hc ha)
  have keep : ∀ c o, c ≤ x.L → h.get? c = some o → h'.get? c = some o := fun c o hc e => hs c o (Nat.ne_of_lt (Nat.lt_of_le_of_lt hc ha)) e
  obtain ⟨mm, ⟨oL, es, n, hoL, rL⟩, hl'⟩ := I.frame
  obtain ⟨es', n', hd, hf⟩ := I.dict
  have k : Keeps b.W x.L x.fr h h' := fun c o h1 _ _ e => ⟨o.slots, keep c o (Nat.le_of_lt h1) e, fun _ => rfl⟩
  refine ⟨⟨fun c o e => keep c o (Nat.le_trans (Nat.le_of_lt (Heap.lt_size e)) P.nl) (I.old c o e), ⟨mm, ⟨oL, es, n, keep _ _ (Nat.le_refl _) hoL, rL⟩, hl'⟩, keep _ _ (Nat.le_of_lt P.sl) I.inst, ⟨es', n', keep _ _ (Nat.le_of_lt P.dl) hd, hf⟩,
    I.frames.keeps k fun c hc => (P.fr c hc).2, fun p hp => hs _ _ (hl p hp).2 (I.own p (.tail _ hp))⟩, k⟩
noncomputable def iterObj (c left step : Int) : Obj := { cls := .type "range_iterator", dict := none, data := .fields #[rawInt c, rawInt left, rawInt step], slots := #[] }
noncomputable def numsFrom (c step : Int) : Nat → List Int
  | 0 => []
  | n + 1 => c :: numsFrom (c + step) step n
theorem Done.with {s : Shared} {o : O} {Q : Flow → Shared → Prop} {E : Value → Shared → Prop} {l : List (Addr × Obj)} (I' : ∀ f m h, Inv b (x.with l) f m h → Inv b x f m h) (D : Done b x s o m f Q E) : Done b (x.with l) s o m f Q E := by
  cases o
  · exact fun s' I r => D s' (I' _ _ _ I) r
  · exact fun s' I r => D s' (I' _ _ _ I) r
  · exact fun s' I r => D s' (I' _ _ _ I) r
  · exact fun val s' hv I r => D val s' hv (I' _ _ _ I) r
  · exact fun q s' hn ⟨s₀, I, r, g, o, U, T⟩ => D q s' hn ⟨s₀, I' _ _ _ I, r, g, o, ⟨U.stays, U.new, U.frames, U.slots⟩, T⟩
theorem Done.seqW {s : Shared} {o1 o : O} {m1 m' : Loc} {f1 f' : F} {c : C} {rest : List Stmt} {N : Nat} {Q : Flow → Shared → Prop} {E : Value → Shared → Prop} (sk : SimC b x A μ N c rest) (D : Done b x s o m' f' Q E)
    (h : (o1 = .next ∧ exec N μ b.κ c m1 f1 = some (o, m', f')) ∨ (o1 ≠ .next ∧ o1 = o ∧ m1 = m' ∧ f1 = f')) : Done b x s o1 m1 f1 (behind (model b.prog b.w) A rest x.env Q E) E := D.seq sk h
theorem sim_for {N i : Nat} {id : PySem.Str} {p : Pos} {ca : C} {ba : List Stmt} {cur step : Int} {n : Nat} (M : Amb b x A k) (hc : isLoc x.names x.sc i id = true)
    (sa : ∀ own, (∀ q ∈ own, x.L < q.1) → SimC b (x.with own) A μ N ca ba) {s : Shared} {Q : Flow → Shared → Prop} {E : Value → Shared → Prop} {o1 : O} {m1 : Loc} {f1 : F}
    (D : Done b x s o1 m1 f1 Q E) (a : Addr) (ha : x.L < a) (hown : ∀ p ∈ x.own, p.1 ≠ a) (I : Inv b (x.with ((a, iterObj cur n step) :: x.own)) f m s.heap) (he : forL i (exec N μ b.κ ca) (numsFrom cur step n) m f = some (o1, m1, f1)) :
    codeAny (model b.prog b.w) A (.forLoop (.Name id p) (.ref a) ba [] x.env) (loopEnd (model b.prog b.w) A x.env Q E) s := by
  have P := M.place
  have drop : ∀ {l : List (Addr × Obj)} f m h, Inv b (x.with (l ++ x.own)) f m h → Inv b x f m h := fun {l} f m h I => ⟨I.old, I.frame, I.inst, I.dict, I.frames, fun p hp => I.own p (List.mem_append_right _ hp)⟩
  refine codeAny_forLoop
    (fun kk s' => ∃ n' cur' m2 f2, kk = n' ∧ forL i (exec N μ b.κ ca) (numsFrom cur' step n') m2 f2 = some (o1, m1, f1) ∧ Inv b (x.with ((a, iterObj cur' n' step) :: x.own)) f2 m2 s'.heap ∧ Rel b x s s') ?_ n ⟨n, cur, m, f, rfl, he, I, Rel.refl s⟩
  rintro kk s2 ⟨n', cur', m2, f2, rfl, hl, I2, r2⟩
  have hown' : ∀ p ∈ x.own, x.L < p.1 ∧ p.1 ≠ a := fun p hp => ⟨P.own p hp, hown p hp⟩
  cases kk with
  | zero =>
    cases hl
    refine wpAny_pyNext_range_end M.handled (I2.own _ (.head _)) (by decide) fun h' hx => ?_
    obtain ⟨I3, k3⟩ := I2.turnOwn P hown' ha hx
    exact wpAny_execs_nil (D _ I3 (r2.trans ⟨k3, rfl, rfl⟩))
  | succ kk =>
    refine wpAny_pyNext_range_item (I2.own _ (.head _)) (by lia) fun h' hi hx => ?_
    obtain ⟨I3, k3⟩ := I2.turnOwn P hown' ha hx.extBut
    have e : ((kk + 1 : Nat) : Int) - 1 = (kk : Int) := by lia
    rw [e] at hi
    have I4 : Inv b (x.with ((a, iterObj (cur' + step) kk step) :: x.own)) f2 m2 h' := I3.with fun p hp => by
      rcases List.mem_cons.mp hp with rfl | hp
      · exact hi
      · exact I3.own p hp
    have hlt : ∀ q ∈ (a, iterObj (cur' + step) kk step) :: x.own, x.L < q.1 := fun q hq => by
      rcases List.mem_cons.mp hq with rfl | hq
      · exact ha
      · exact P.own q hq
    refine wpAny_assign_Name (sim_store (x := x.with ((a, iterObj (cur' + step) kk step) :: x.own)) (s := { s2 with heap := h', toks := s2.toks + 1 }) (P.with hlt) hc I4 (v := .int cur') mk_int fun s5 I5 k5 g5 o5 => ?_)
    have r5 : Rel b x s s5 := r2.trans ⟨k3.trans k5, g5, o5⟩
    obtain ⟨o4, m4, f4, hb, hc4⟩ := turned_of hl
    refine sa _ hlt _ f2 o4 m4 f4 s5 _ _ hb I5 ?_
    have D' : Done b (x.with ((a, iterObj (cur' + step) kk step) :: x.own)) s5 o1 m1 f1 Q E := (D.from r5).with (drop (l := [(a, iterObj (cur' + step) kk step)]))
    rcases hc4 with ⟨rfl | rfl, h⟩ | ⟨rfl, rfl, rfl, rfl⟩ | ⟨⟨v, rfl⟩ | ⟨n', rfl⟩, rfl, rfl, rfl⟩
    · exact fun s6 I6 r6 => ⟨kk, Nat.lt_succ_self _, kk, _, m4, f4, rfl, h, I6, r5.trans r6⟩
    · exact fun s6 I6 r6 => ⟨kk, Nat.lt_succ_self _, kk, _, m4, f4, rfl, h, I6, r5.trans r6⟩
    · exact D'
    · exact D'
    · exact fun q s6 hn H => noted_fly (x := x.with ((a, iterObj (cur' + step) kk step) :: x.own)) (M.with hlt).frames hn H D'
theorem numsFrom_up : ∀ (n : Nat) (i : Int), numsFrom i 1 n = (List.range n).map fun (k : Nat) => i + (k : Int)
  | 0, _ => rfl
  | n + 1, i => by
    rw [numsFrom, numsFrom_up n, List.range_succ_eq_map, List.map_cons, List.map_map]
    refine congr (congrArg List.cons (by simp)) (List.map_congr_left fun k _ => ?_)
    show i + 1 + (k : Int) = i + ((k + 1 : Nat) : Int)
    lia
theorem numsFrom_down : ∀ (n : Nat) (i : Int), numsFrom i (-1) n = (List.range n).map fun (k : Nat) => i - (k : Int)
  | 0, _ => rfl
  | n + 1, i => by
    rw [numsFrom, numsFrom_down n, List.range_succ_eq_map, List.map_cons, List.map_map]
    refine congr (congrArg List.cons (by simp)) (List.map_congr_left fun k _ => ?_)
    show i + -1 - (k : Int) = i - ((k + 1 : Nat) : Int)
    lia
theorem rangeSize_up (i j : Int) : Builtin.Range.rangeSize i j 1 = ((j - i).toNat : Int) := by
  rw [rangeSize_one]; split <;> lia
theorem rangeSize_down (j : Int) : Builtin.Range.rangeSize j (-1) (-1) = ((j + 1).toNat : Int) := by
  unfold Builtin.Range.rangeSize
  simp only [show ¬ ((-1 : Int) > 0) by decide, if_false, show -(-1 : Int) = 1 from rfl, Int.ediv_one]
  split <;> lia
theorem small_down {j : Int} (h1 : -2000 ≤ j) (h2 : j ≤ 2000) : Builtin.Range.small j (-1) (-1) = true := by
  unfold Builtin.Range.small
  rw [rangeSize_down]
  simp only [Builtin.Range.rangeFitsLong, Bool.and_eq_true, Bool.or_eq_true, decide_eq_true_eq, beq_iff_eq, show ¬ ((-1 : Int) > 0) by decide, if_false]
  lia
theorem sim_iter {N i : Nat} {id : PySem.Str} {p : Pos} {ca : C} {ba : List Stmt} {aa bb cc : Int} {t u v : Tok} (M : Amb b x A k) (hc : isLoc x.names x.sc i id = true)
    (sa : ∀ own, (∀ q ∈ own, x.L < q.1) → SimC b (x.with own) A μ N ca ba) {s : Shared} {Q : Flow → Shared → Prop} {E : Value → Shared → Prop} {o1 : O} {m1 : Loc} {f1 : F} {r : Addr}
    (D : Done b x s o1 m1 f1 Q E) (I : Inv b x f m s.heap) (hr : IsRange s.heap r aa bb cc t u v) (hsmall : Builtin.Range.small aa bb cc = true) {n : Nat} (hz : Builtin.Range.rangeSize aa bb cc = (n : Int))
    (he : forL i (exec N μ b.κ ca) (numsFrom aa cc n) m f = some (o1, m1, f1)) :
    wpAny (model b.prog b.w) A (pyIter (.ref r)) (fun it s₂ => codeAny (model b.prog b.w) A (.forLoop (.Name id p) it ba [] x.env) (loopEnd (model b.prog b.w) A x.env Q E) s₂) E s := by
  have P := M.place
  refine wpAny_pyIter_range hr hsmall ?_
  obtain ⟨I', k'⟩ := I.push P (iterObj aa (Builtin.Range.rangeSize aa bb cc) cc) rfl
  rw [hz] at I' k' ⊢
  exact sim_for M hc sa (D.from (s₁ := { s with heap := _ }) ⟨k', rfl, rfl⟩) s.heap.objs.size I.size (fun q hq e => by
    have := Heap.lt_size (I.own q hq); rw [e] at this; exact Nat.lt_irrefl _ this) I' he
theorem sim_forU {N i : Nat} {id rid : PySem.Str} {p rp rpos pos : Pos} {cl ch : CE} {el eh : PySem.Expr} {ca c : C} {ba rest : List Stmt} (G : Gr b) (M : Amb b x A k) (hc : isLoc x.names x.sc i id = true) (hg : isGlob x.sc rid "range" = true)
    (hl : Bare x el) (hh : Bare x eh) (sl : ∀ m, SimE b x A μ m cl el) (sh : ∀ m, SimE b x A μ m ch eh)
    (sa : ∀ own, (∀ q ∈ own, x.L < q.1) → SimC b (x.with own) A μ N ca ba) (sk : SimC b x A μ N c rest) :
    SimC b x A μ N (.forU i cl ch ca c) (.For (.Name id p) (.Call (.Name rid rp) [el, eh] [] rpos) ba [] pos :: rest) := by
  intro m f o m' f' s Q E he I D
  obtain ⟨⟨vl, f1⟩, e1, he⟩ := Option.bind_eq_some_iff.mp he
  obtain ⟨⟨vh, f2⟩, e2, he⟩ := Option.bind_eq_some_iff.mp he
  dsimp only at he
  obtain ⟨a, rfl⟩ : ∃ a, vl = .int a := by cases vl <;> first | exact ⟨_, rfl⟩ | cases he
  obtain ⟨z, rfl⟩ : ∃ z, vh = .int z := by cases vh <;> first | exact ⟨_, rfl⟩ | cases he
  dsimp only at he
  split at he
  · rename_i hb
    obtain ⟨o1, m1, f3, hr, hcase⟩ := seq_of he
    have D' := D.seq sk hcase
    have hs : starEach [el, eh] x.env = [(false, eval el x.env), (false, eval eh x.env)] := by rw [hl, hh]; rfl
    refine wpAny_execs_cons (wpAny_For (wpAny_Call_Name_kw (global_blt (n := "range") G M.place (.tail _ (.tail _ (.tail _ (.head _)))) hg I ?_)))
    rw [hs]
    refine PyProof.Rows.callWith_type rfl (evalArgs_plain (spliced_cons (sl m f _ f1 s _ E e1 I fun u s₁ hu I₁ k₁ g₁ o₁ => spliced_cons (sh m f1 _ f2 s₁ _ E e2 I₁ fun w s₂ hw I₂ k₂ g₂ o₂ => spliced_nil ?_))))
    obtain ⟨tu, rfl⟩ := int_val hu
    obtain ⟨tw, rfl⟩ := int_val hw
    refine call_range_2 ?_
    obtain ⟨I₃, k₃⟩ := I₂.push M.place { cls := .type "range", data := .fields #[.int a tu, .int z tw, .int 1 s₂.toks] } rfl
    have r₃ : Rel b x s { s₂ with heap := s₂.heap.push { cls := .type "range", data := .fields #[.int a tu, .int z tw, .int 1 s₂.toks] }, toks := s₂.toks + 1 } := ⟨(k₁.trans k₂).trans k₃, g₂.trans g₁, o₂.trans o₁⟩
    refine sim_iter M hc sa (D'.from r₃) (I₃.with fun q hq => I₃.own q (.tail _ hq)) (IsRange.new ..) (small_one (by lia) (by lia) (by lia) (by lia)) (rangeSize_up a z) ?_
    rw [numsFrom_up]
    exact hr
  · first | exact no_none he | exact no_false he | cases he
theorem sim_forD {N i : Nat} {id rid : PySem.Str} {p rp rpos pos : Pos} {ch : CE} {eh em ee : PySem.Expr} {ca c : C} {ba rest : List Stmt} (G : Gr b) (M : Amb b x A k) (hc : isLoc x.names x.sc i id = true) (hg : isGlob x.sc rid "range" = true)
    (hh : Bare x eh) (hm : Bare x em) (he' : Bare x ee) (sh : ∀ m, SimE b x A μ m ch eh) (s1 : ∀ m, SimE b x A μ m (.neg 1) em) (s2 : ∀ m, SimE b x A μ m (.neg 1) ee)
    (sa : ∀ own, (∀ q ∈ own, x.L < q.1) → SimC b (x.with own) A μ N ca ba) (sk : SimC b x A μ N c rest) :
    SimC b x A μ N (.forD i ch ca c) (.For (.Name id p) (.Call (.Name rid rp) [eh, em, ee] [] rpos) ba [] pos :: rest) := by
  intro m f o m' f' s Q E he I D
  obtain ⟨⟨vh, f2⟩, e2, he⟩ := Option.bind_eq_some_iff.mp he
  dsimp only at he
  obtain ⟨z, rfl⟩ : ∃ z, vh = .int z := by cases vh <;> first | exact ⟨_, rfl⟩ | cases he
  dsimp only at he
  split at he
  · rename_i hb
    obtain ⟨o1, m1, f3, hr, hcase⟩ := seq_of he
    have D' := D.seq sk hcase
    have hs : starEach [eh, em, ee] x.env = [(false, eval eh x.env), (false, eval em x.env), (false, eval ee x.env)] := by rw [hh, hm, he']; rfl
    refine wpAny_execs_cons (wpAny_For (wpAny_Call_Name_kw (global_blt (n := "range") G M.place (.tail _ (.tail _ (.tail _ (.head _)))) hg I ?_)))
    rw [hs]
    refine PyProof.Rows.callWith_type rfl (evalArgs_plain (spliced_cons (sh m f _ f2 s _ E e2 I fun w s₂ hw I₂ k₂ g₂ o₂ => spliced_cons (s1 m f2 _ f2 s₂ _ E rfl I₂ fun w1 s₃ hw1 I₃ k₃ g₃ o₃ => spliced_cons (s2 m f2 _ f2 s₃ _ E rfl I₃ fun w2 s₄ hw2 I₄ k₄ g₄ o₄ => spliced_nil ?_)))))
    obtain ⟨tw, rfl⟩ := int_val hw
    obtain ⟨t1, rfl⟩ := int_val hw1
    obtain ⟨t2, rfl⟩ := int_val hw2
    refine call_range_3 (by decide) ?_ (.inl (PyProof.noPylong_small ?_))
    · obtain ⟨I₅, k₅⟩ := I₄.push M.place { cls := .type "range", data := .fields #[.int z tw, .int (-1) t1, .int (-1) t2] } rfl
      have r₅ : Rel b x s { s₄ with heap := s₄.heap.push { cls := .type "range", data := .fields #[.int z tw, .int (-1) t1, .int (-1) t2] }, toks := s₄.toks } := ⟨((k₂.trans k₃).trans k₄).trans k₅, (g₄.trans g₃).trans g₂, (o₄.trans o₃).trans o₂⟩
      refine sim_iter M hc sa (D'.from r₅) (I₅.with fun q hq => I₅.own q (.tail _ hq)) (IsRange.new ..) (small_down (by lia) (by lia)) (rangeSize_down z) ?_
      show forL i (exec N μ b.κ ca) (numsFrom z (-1) (z + 1).toNat) m f2 = _
      rw [numsFrom_down]
      exact hr
    · lia
  · first | exact no_none he | exact no_false he | cases he
end
end Mine
end
section
open PySem PySem.W PySem.Calls PyProof.Rows
namespace Mine
section
variable (names : List PySem.Str) (sc : Scope)
noncomputable def stmtsOf : C → Orc → List Stmt
  | .nil, _ => []
  | .pass c, π => .Pass π.p :: stmtsOf c (π.at 0)
  | .brk c, π => .Break π.p :: stmtsOf c (π.at 0)
  | .cont c, π => .Continue π.p :: stmtsOf c (π.at 0)
  | .ret e c, π => .Return (some (exprOf names e (π.at 1))) π.p :: stmtsOf c (π.at 0)
  | .expr e c, π => .Expr (exprOf names e (π.at 1)) π.p :: stmtsOf c (π.at 0)
  | .setl i e c, π => .Assign [lname names i (π.at 1)] (exprOf names e (π.at 2)) π.p :: stmtsOf c (π.at 0)
  | .setf a e c, π => .Assign [dot names 0 a.name (π.at 1)] (exprOf names e (π.at 2)) π.p :: stmtsOf c (π.at 0)
  | .augl i plus e c, π => .AugAssign (lname names i (π.at 1)) (if plus then PySem.Operator.Add else PySem.Operator.Sub) (exprOf names e (π.at 2)) π.p :: stmtsOf c (π.at 0)
  | .augf a plus e c, π => .AugAssign (dot names 0 a.name (π.at 1)) (if plus then PySem.Operator.Add else PySem.Operator.Sub) (exprOf names e (π.at 2)) π.p :: stmtsOf c (π.at 0)
  | .ite t a z c, π => .If (exprT names t (π.at 1)) (stmtsOf a (π.at 2)) (stmtsOf z (π.at 3)) π.p :: stmtsOf c (π.at 0)
  | .wh t a c, π => .While (exprT names t (π.at 1)) (stmtsOf a (π.at 2)) [] π.p :: stmtsOf c (π.at 0)
  | .forU i lo hi a c, π => .For (lname names i (π.at 1)) (.Call (.Name "range" ((π.at 2).at 0).p) [exprOf names lo ((π.at 2).at 1), exprOf names hi ((π.at 2).at 2)] [] (π.at 2).p) (stmtsOf a (π.at 3)) [] π.p :: stmtsOf c (π.at 0)
  | .forD i hi a c, π => .For (lname names i (π.at 1)) (.Call (.Name "range" ((π.at 2).at 0).p) [exprOf names hi ((π.at 2).at 1), exprOf names (.neg 1) ((π.at 2).at 2), exprOf names (.neg 1) ((π.at 2).at 3)] [] (π.at 2).p) (stmtsOf a (π.at 3)) [] π.p :: stmtsOf c (π.at 0)
  | .asrt t c, π => .Assert (exprT names t (π.at 1)) none π.p :: stmtsOf c (π.at 0)
  | .raise n c, π => .Raise (some (.Call (.Name (labName n) ((π.at 1).at 0).p) [] [] (π.at 1).p)) none π.p :: stmtsOf c (π.at 0)
  | .tryc n a c, π => .Try (stmtsOf a (π.at 1)) [.ExceptHandler (some (.Name (labName n) (π.at 2).p)) none [.Pass (π.at 3).p] (π.at 4).p] [] [] π.p :: stmtsOf c (π.at 0)
noncomputable def okC : C → Orc → Bool
  | .nil, _ => true
  | .pass c, π => okC c (π.at 0)
  | .brk _, _ => true
  | .cont _, _ => true
  | .ret e _, π => okE names sc e (π.at 1)
  | .expr e c, π => okE names sc e (π.at 1) && okC c (π.at 0)
  | .setl i e c, π => okL names sc i && (okE names sc e (π.at 2) && okC c (π.at 0))
  | .setf _ e c, π => okL names sc 0 && (okE names sc e (π.at 2) && okC c (π.at 0))
  | .augl i _ e c, π => okL names sc i && (okE names sc e (π.at 2) && okC c (π.at 0))
  | .augf _ _ e c, π => okL names sc 0 && (okE names sc e (π.at 2) && okC c (π.at 0))
  | .ite t a z c, π => okT names sc t (π.at 1) && (okC a (π.at 2) && (okC z (π.at 3) && okC c (π.at 0)))
  | .wh t a c, π => okT names sc t (π.at 1) && (okC a (π.at 2) && okC c (π.at 0))
  | .forU i lo hi a c, π => okL names sc i && (okG sc "range" && (okE names sc lo ((π.at 2).at 1) && (okE names sc hi ((π.at 2).at 2) && (okC a (π.at 3) && okC c (π.at 0)))))
  | .forD i hi a c, π => okL names sc i && (okG sc "range" && (okE names sc hi ((π.at 2).at 1) && (okC a (π.at 3) && okC c (π.at 0))))
  | .asrt t c, π => okT names sc t (π.at 1) && okC c (π.at 0)
  | .raise n _, _ => decide (n < 4) && okG sc (labName n)
  | .tryc n a c, π => decide (n < 4) && (okG sc (labName n) && (okC a (π.at 1) && okC c (π.at 0)))
end
section
variable {b : Bx} {A : Around} {μ : Mu} {k : Nat} {N : Nat}
theorem not_interactive {x : Fx} (P : Place b x) : interactive x.env = false := by
  unfold interactive
  rw [show x.env.scope.kind = .function from P.fn]; rfl
theorem simC (G : Gr b) (R : Real b μ k) (c : C) : ∀ (x : Fx) (π : Orc), Amb b x A k → okC x.names x.sc c π = true → SimC b x A μ N c (stmtsOf x.names c π) := by
  induction c with
  | nil => exact fun _ _ _ _ => sim_nil
  | pass c i1 => exact fun x _ M h => sim_pass (i1 x _ M h)
  | brk c i1 => exact fun _ _ _ _ => sim_brk
  | cont c i1 => exact fun _ _ _ _ => sim_cont
  | ret e c i1 => exact fun x _ M h => sim_ret fun m => simE G M R _ _ h
  | expr e c i1 => exact fun x _ M h => sim_expr (fun m => simE G M R _ _ (and_l h)) (not_interactive M.place) (swaps_of _ _ _ _ _ _) (i1 x _ M (and_r h))
  | setl i e c i1 => exact fun x _ M h => sim_setl M.place (and_l h) (fun m => simE G M R _ _ (and_l (and_r h))) (swaps_of _ _ _ _ _ _) (i1 x _ M (and_r (and_r h)))
  | setf a e c i1 => exact fun x _ M h => sim_setf G M.place (and_l h) rfl (fun m => simE G M R _ _ (and_l (and_r h))) (swaps_of _ _ _ _ _ _) (i1 x _ M (and_r (and_r h)))
  | augl i plus e c i1 => exact fun x _ M h => sim_augl M.place (and_l h) rfl (fun m => simE G M R _ _ (and_l (and_r h))) (i1 x _ M (and_r (and_r h)))
  | augf a plus e c i1 => exact fun x _ M h => sim_augf G M.place (and_l h) rfl rfl (fun m => simE G M R _ _ (and_l (and_r h))) (i1 x _ M (and_r (and_r h)))
  | ite t a z c i1 i2 i3 => exact fun x _ M h => sim_ite (fun m => simT G M R _ _ (and_l h)) (i1 x _ M (and_l (and_r h))) (i2 x _ M (and_l (and_r (and_r h)))) (i3 x _ M (and_r (and_r (and_r h))))
  | wh t a c i1 i2 => exact fun x _ M h => sim_wh M (fun m => simT G M R _ _ (and_l h)) (i1 x _ M (and_l (and_r h))) (i2 x _ M (and_r (and_r h)))
  | forU i lo hi a c i1 i2 => exact fun x _ M h => sim_forU G M (and_l h) (and_l (and_r h)) (bare_of _ _ _) (bare_of _ _ _) (fun m => simE G M R _ _ (and_l (and_r (and_r h)))) (fun m => simE G M R _ _ (and_l (and_r (and_r (and_r h))))) (fun own ho => i1 (x.with own) _ (M.with ho) (and_l (and_r (and_r (and_r (and_r h)))))) (i2 x _ M (and_r (and_r (and_r (and_r (and_r h))))))
  | forD i hi a c i1 i2 => exact fun x _ M h => sim_forD G M (and_l h) (and_l (and_r h)) (bare_of _ _ _) (bare_of _ _ _) (bare_of _ _ _) (fun m => simE G M R _ _ (and_l (and_r (and_r h)))) (fun m => sim_neg rfl) (fun m => sim_neg rfl) (fun own ho => i1 (x.with own) _ (M.with ho) (and_l (and_r (and_r (and_r h))))) (i2 x _ M (and_r (and_r (and_r (and_r h)))))
  | asrt t c i1 => exact fun x _ M h => sim_asrt (fun m => simT G M R _ _ (and_l h)) (i1 x _ M (and_r h))
  | raise n c i1 => exact fun x _ M h => sim_raise G M (of_decide_eq_true (and_l h)) (and_r h)
  | tryc n a c i1 i2 => exact fun x _ M h => sim_try G M (of_decide_eq_true (and_l h)) (and_l (and_r h)) (i1 x _ M (and_l (and_r (and_r h)))) (i2 x _ M (and_r (and_r (and_r h))))
end
end Mine
end
section
open PySem PySem.W PySem.Calls PyProof.Rows
namespace Mine
noncomputable def npOf : Mth → Nat
  | .set_current | .in_grouping | .go_in_grouping | .in_grouping_b | .go_out_grouping | .out_grouping_b | .eq_s | .eq_s_b | .find_among | .find_among_b | .slice_from | .stemWord => 2
  | .replace_s => 4
  | _ => 1
noncomputable def strNames (n : Mth) : List PySem.Str := (namesOf n).map PySem.Str.ofString
structure FnOk (K : Frag) (f : Addr) (fd : FuncData) : Prop where
  obj : ∃ o, K.lookup f = some o ∧ o.data = .func fd
  env : ∀ L a, callEnv fd L a = envOf fd.qualname fd.scope L a fd.code
  code : codeIn K fd.code fd.qualname = true
  co : fd.scope.isCoroutine = false
  gen : fd.scope.isGenerator = false
  kind : fd.scope.kind = .function
structure MethOk (b : Bx) (n : Mth) (fd : FuncData) (π : Orc) : Prop where
  fn : FnOk b.K (b.ma n) fd
  cell : ∀ y ∈ fd.scope.names, y.2 ≠ .cell
  loc : ∀ y ∈ (strNames n).take (npOf n), fd.scope.names.lookup y = some .local
  bind : ∀ vals : List Value, vals.length = npOf n → bindArgs fd ⟨vals, []⟩ = pure ((strNames n).zip vals)
  body : fd.body = .stmts (stmtsOf (strNames n) (codeOf n) π)
  ok : okC (strNames n) fd.scope (codeOf n) π = true
noncomputable def MethAt (b : Bx) (n : Mth) : Prop := ∃ fd π, MethOk b n fd π
noncomputable def muStep (N : Nat) (μ : Mu) (κ : Kap) : Mu := fun n args f => if args.length + 1 = npOf n then callC N μ κ (codeOf n) (namesOf n).length args f else none
theorem names_nodup (n : Mth) : (strNames n).Nodup := by
  cases n <;> decide +kernel
theorem names_np (n : Mth) : npOf n ≤ (strNames n).length := by
  cases n <;> decide +kernel
theorem all2_get {R : V → Value → Prop} {l : List V} {r : List Value} (h : All2 R l r) : ∀ {j : Nat} {v : V}, l[j]? = some v → ∃ u, r[j]? = some u ∧ R v u := by
  induction h with
  | nil => exact fun e => no_none e
  | cons h t ih =>
    intro j v e
    cases j with
    | zero => exact ⟨_, rfl, Option.some.inj e ▸ h⟩
    | succ j => exact ih e
theorem all2_len {R : V → Value → Prop} {l : List V} {r : List Value} (h : All2 R l r) : l.length = r.length := by
  induction h with
  | nil => rfl
  | cons _ _ ih => exact congrArg (· + 1) ih
theorem lookup_app {l r : List (PySem.Str × Value)} {n : PySem.Str} : (l ++ r).lookup n = (l.lookup n).or (r.lookup n) := List.lookup_append
theorem lookup_none {n : PySem.Str} : ∀ {l : List (PySem.Str × Value)}, (∀ p ∈ l, p.1 ≠ n) → l.lookup n = none
  | [], _ => rfl
  | p :: r, h => by
    obtain ⟨k, v⟩ := p
    rw [List.lookup_cons, beq_eq_false_iff_ne.mpr (Ne.symm (h _ (.head _)))]
    exact lookup_none fun q hq => h q (.tail _ hq)
theorem lookup_zip {n : PySem.Str} {v : Value} : ∀ {ns : List PySem.Str} {vals : List Value} {j : Nat}, ns.Nodup → ns[j]? = some n → vals[j]? = some v → (ns.zip vals).reverse.lookup n = some v
  | [], _, j, _, h, _ => by cases j <;> cases h
  | _ :: _, [], j, _, _, h => by cases j <;> cases h
  | n0 :: ns, v0 :: vals, 0, hn, h1, h2 => by
    cases h1; cases h2
    rw [List.zip_cons_cons, List.reverse_cons, lookup_app, lookup_none, List.lookup_cons, beq_self_eq_true]; rfl
    intro p hp
    have hm := List.of_mem_zip (List.mem_reverse.mp hp)
    rintro rfl
    exact (List.nodup_cons.mp hn).1 hm.1
  | n0 :: ns, v0 :: vals, j + 1, hn, h1, h2 => by
    rw [List.zip_cons_cons, List.reverse_cons, lookup_app, lookup_zip (List.nodup_cons.mp hn).2 (by simpa using h1) (by simpa using h2)]; rfl
theorem zip_take {ns : List PySem.Str} {vals : List Value} {p : PySem.Str × Value} : ∀ {k : Nat}, vals.length = k → p ∈ ns.zip vals → p.1 ∈ ns.take k := by
  intro k hk hp
  subst hk
  induction ns generalizing vals with
  | nil => cases hp
  | cons n ns ih =>
    cases vals with
    | nil => cases hp
    | cons v vals =>
      rw [List.zip_cons_cons] at hp
      rcases List.mem_cons.mp hp with rfl | hp
      · exact .head _
      · exact .tail _ (ih hp)
section
variable {b : Bx} {μ : Mu} {k : Nat} {N : Nat}
theorem enter_at {n : Nat} {args : List V} {j : Nat} {v : V} (h : Loc.at (enter n args) j = some v) : (V.self :: args)[j]? = some v := by
  unfold Loc.at enter at h
  rw [List.getD_eq_getElem?_getD] at h
  rw [← List.map_cons (f := some), List.getElem?_append] at h
  split at h
  · rename_i hlt
    rw [List.length_map] at hlt
    rw [List.getElem?_map, List.getElem?_eq_getElem hlt] at h
    rw [List.getElem?_eq_getElem hlt]
    exact h
  · rw [List.getElem?_replicate] at h
    split at h <;> cases h
noncomputable def Moved (b : Bx) (fr : List Addr) (h h' : Heap) : Prop := ∀ a o, a ≠ b.W.S → a ≠ b.W.d → h.get? a = some o → ∃ sl, h'.get? a = some { o with slots := sl } ∧ (a ∉ fr → sl = o.slots)
noncomputable def DictIs (b : Bx) (f : F) (h : Heap) : Prop := ∃ es n, h.get? b.W.d = some (dictOf es n) ∧ FieldsAre b.prog b.w b.K b.CA b.W.S f es
noncomputable def After (b : Bx) (fr : List Addr) (s : Shared) (v : V) (f : F) (Q : Value → Shared → Prop) : Prop :=
  ∀ val s', b.vrel v val → s'.heap.get? b.W.S = some (instObj b.W.C b.W.d) → DictIs b f s'.heap → Moved b fr s.heap s'.heap → s'.gens = s.gens → s'.os = s.os → Q val s'
theorem enter_len (n : Mth) (args : List V) (h : args.length + 1 = npOf n) : (enter (namesOf n).length args).length = (strNames n).length := by
  have := names_np n
  rw [show (strNames n).length = (namesOf n).length from List.length_map ..] at this ⊢
  simp only [enter, List.cons_append, List.length_cons, List.length_append, List.length_map, List.length_replicate]
  lia
theorem meth_call {A : Around} {n : Mth} {args : List V} {vals : List Value} {f f' : F} {v : V} {s : Shared} {Q E : Value → Shared → Prop} {fr : List Addr} {envs : List Env} (G : Gr b) (R : Real b μ k) (HM : MethAt b n) (hAh : A.handled = none) (hAf : A.frames = some envs) (hAd : A.depth + 5 * (k + 1) ≤ 600) (hAu : A.units + 50 * (k + 1) ≤ 8000)
    (PS : b.H.objs.size ≤ b.W.S) (Pd : b.H.objs.size ≤ b.W.d) (hSd : b.W.S ≠ b.W.d) (pfr : ∀ L ∈ fr, b.H.objs.size ≤ L ∧ L < s.heap.objs.size ∧ L ≠ b.W.S ∧ L ≠ b.W.d) (FR : Frames fr envs s.heap) (old : ∀ a o, b.H.get? a = some o → s.heap.get? a = some o)
    (iS : s.heap.get? b.W.S = some (instObj b.W.C b.W.d)) (idt : DictIs b f s.heap) (hμ : muStep N μ b.κ n args f = some (v, f')) (hargs : All2 b.vrel args vals) (kk : After b fr s v f' Q) : wpAny (model b.prog b.w) A (call (.ref (b.ma n)) (.ref b.W.S :: vals)) Q E s := by
  obtain ⟨fd, π, H⟩ := HM
  obtain ⟨o, ho, hdata⟩ := H.fn.obj
  by_cases hlen : args.length + 1 = npOf n
  · have hμ : callC N μ b.κ (codeOf n) (namesOf n).length args f = some (v, f') := (if_pos hlen).symm.trans hμ
    have X := G.X.keeps old
    have hvl : (Value.ref b.W.S :: vals).length = npOf n := by rw [List.length_cons, ← all2_len hargs]; exact hlen
    refine wpAny_call (codeAny_call_def (fd := fd) (binds := (strNames n).zip (Value.ref b.W.S :: vals)) (by show A.depth < 1000; lia) (X _ _ ho) hdata (G.lim.keeps old) (codeRec_of X H.fn.code) H.body (.of_eq (H.bind _ hvl)) H.cell
      (fun y hy => H.loc _ (zip_take hvl hy)) (fun h₁ hns hk₁ => ?_) H.fn.co H.fn.gen H.fn.kind)
    let x' : Fx := { names := strNames n, qual := fd.qualname, sc := fd.scope, a := b.ma n, cd := fd.code, L := s.heap.objs.size, fr := fr, envs := envs, own := [] }
    have P' : Place b x' := ⟨hSd, PS, Pd, Heap.lt_size iS, idt.elim fun _ h => h.elim fun _ h => Heap.lt_size h.1, pfr, H.fn.kind, fun p hp => by cases hp⟩
    obtain ⟨esd, nd, hd, hf⟩ := idt
    have hA : All2 b.vrel (V.self :: args) (Value.ref b.W.S :: vals) := .cons rfl hargs
    have I' : Inv b x' f (enter (namesOf n).length args) h₁ :=
      ⟨fun a o e => hk₁ a o (old a o e), ⟨_, hns, enter_len n args hlen, names_nodup n, fun j nm u hj hu => (all2_get hA (enter_at hu)).elim fun val h => ⟨val, lookup_zip (names_nodup n) hj h.1, h.2⟩⟩, hk₁ _ _ iS, ⟨esd, nd, hk₁ _ _ hd, hf⟩,
        ⟨FR.1, FR.2.1, fun L hL => by obtain ⟨o, es, n, e, d⟩ := FR.2.2 L hL; exact ⟨o, es, n, hk₁ _ _ e, d⟩⟩, fun p hp => by cases hp⟩
    have M' : Amb b x' (A.deeper x'.env) k := ⟨P', hAh, by show A.frames.map _ = _; rw [hAf]; rfl, by show A.depth + 1 + 5 * k ≤ 600; lia, by show A.units + 3 + 50 * k ≤ 8000; lia⟩
    have fin : ∀ (val : Value) (s' : Shared) (m' : Loc), b.vrel v val → Inv b x' f' m' s'.heap → Rel b x' { s with heap := h₁, toks := s.toks + ((strNames n).zip (Value.ref b.W.S :: vals)).length } s' → Q val s' := fun val s' m' hv I₂ r =>
      kk val s' hv I₂.inst I₂.dict (fun a o h2 h3 e => r.1 a o (Heap.lt_size e) h2 h3 (hk₁ a o e)) r.2.1 r.2.2
    unfold callC at hμ
    rcases hr : exec N μ b.κ (codeOf n) (enter (namesOf n).length args) f with _ | ⟨o1, m1, f1⟩
    · rw [hr] at hμ; cases hμ
    rw [hr] at hμ
    rw [H.fn.env]
    refine simC (N := N) G R (codeOf n) x' π M' H.ok _ f o1 m1 f1 { s with heap := h₁, toks := s.toks + ((strNames n).zip (Value.ref b.W.S :: vals)).length } _ _ hr I' ?_
    cases o1 with
    | next => cases hμ; exact fun s' I₂ r => fin .none s' m1 trivial I₂ r
    | brk => cases hμ
    | cont => cases hμ
    | ret u => cases hμ; exact fun val s' hv I₂ r => fin val s' m1 hv I₂ r
    | exc j => cases hμ
  · exact no_none ((if_neg hlen).symm.trans hμ)
theorem real_step (G : Gr b) (R : Real b μ k) (HM : ∀ n, MethAt b n) : Real b (muStep N μ b.κ) (k + 1) := by
  intro x A n args f v f' m vals s Q E hμ hargs M I kk
  have P := M.place
  have hsz : x.L < s.heap.objs.size := I.size
  obtain ⟨mm, ⟨oL, es, nL, hoL, hdL, rL⟩, hl⟩ := I.frame
  refine meth_call (fr := x.L :: x.fr) (envs := x.env :: x.envs) G R (HM n) M.handled M.frames M.depth M.units P.ns P.nd P.sd (fun L hL => ?_) ⟨by rw [List.map_cons, List.map_cons, I.frames.1]; rfl, fun e he => ?_, fun L hL => ?_⟩ I.old I.inst I.dict hμ hargs fun val s' hv iS iD Mv hg ho => ?_
  · rcases List.mem_cons.mp hL with rfl | hL
    · exact ⟨P.nl, hsz, Nat.ne_of_gt P.sl, Nat.ne_of_gt P.dl⟩
    · obtain ⟨p1, p2, p3, p4⟩ := P.fr L hL
      exact ⟨p1, Nat.lt_trans p2 hsz, p3, p4⟩
  · rcases List.mem_cons.mp he with rfl | he
    · exact P.fn
    · exact I.frames.2.1 e he
  · rcases List.mem_cons.mp hL with rfl | hL
    · exact ⟨oL, es, nL, hoL, hdL⟩
    · exact I.frames.2.2 L hL
  · have K2 : Keeps b.W x.L x.fr s.heap s'.heap := fun a o h1 h2 h3 e => by
      obtain ⟨sl, e', q⟩ := Mv a o h2 h3 e
      exact ⟨sl, e', fun hn => q fun hm => (List.mem_cons.mp hm).elim (fun e => Nat.ne_of_lt h1 e) hn⟩
    have ns : ∀ mm, s.heap.Ns x.L mm → s'.heap.Ns x.L mm := fun mm ⟨o2, es2, n2, ho2, hd2, r2⟩ => by
      obtain ⟨sl, e', _⟩ := Mv x.L o2 (Nat.ne_of_gt P.sl) (Nat.ne_of_gt P.dl) ho2
      exact ⟨_, es2, n2, e', hd2, r2⟩
    refine kk val s' hv ⟨fun a o e => ?_, ⟨mm, ns mm ⟨oL, es, nL, hoL, hdL, rL⟩, hl⟩, iS, iD, I.frames.keeps K2 fun l hl => (P.fr l hl).2, fun p hp => ?_⟩ K2 hg ho ns
    · have h1 := Heap.lt_size e
      exact K2.exact (Nat.lt_of_lt_of_le h1 P.nl) (Nat.ne_of_lt (Nat.lt_of_lt_of_le h1 P.ns)) (Nat.ne_of_lt (Nat.lt_of_lt_of_le h1 P.nd)) (fun hm => Nat.not_le_of_lt h1 (P.fr a hm).1) (I.old a o e)
    · have hlt := P.own p hp
      obtain ⟨sl, e', q⟩ := Mv p.1 p.2 (Nat.ne_of_gt (Nat.lt_trans P.sl hlt)) (Nat.ne_of_gt (Nat.lt_trans P.dl hlt)) (I.own p hp)
      rw [q fun hm => (List.mem_cons.mp hm).elim (fun e => Nat.ne_of_gt hlt e) fun hm => Nat.lt_asymm hlt (P.fr _ hm).2.1] at e'
      exact e'
theorem real_none : Real b (fun _ _ _ => none) 0 := by
  intro x A n args f v f' m vals s Q E hμ
  cases hμ
noncomputable def muOf (N : Nat) (κ : Kap) : Nat → Mu
  | 0 => fun _ _ _ => none
  | k + 1 => muStep N (muOf N κ k) κ
theorem real_mu (G : Gr b) (HM : ∀ n, MethAt b n) : ∀ k, Real b (muOf N b.κ k) k
  | 0 => real_none
  | k + 1 => real_step G (real_mu G HM k) HM
end
end Mine
end
section
open PySem PySem.W PySem.Calls PyProof.Rows
namespace Mine
section
variable (p : Program) (w : World) (n₀ : Nat) (ann : Option Value)
noncomputable def CallRuns (c : Code) (h : Option Value) (s : Shared) (pos : Pos) (m : Nat) (r : Result) (s' : Shared) : Prop :=
  ∀ (g : Bool) (l : List Value) (K : Result → Sem PySem.Fin) (code : Code) (B : List Frame), topGo treeTable p w n₀ ann m s ⟨.call c h g l K, code, pos, B⟩ = some (s', ⟨K r, code, pos, B⟩)
noncomputable def go {α : Type} : Nat → Sem α → (α → Pos → Shared → Prop) → Pos → Shared → Prop
  | _, .pure a, Q, q, s => Q a q s
  | n + 1, .rule _ k, Q, q, s => go n (k ()) Q q s
  | n + 1, .at q' k, Q, _, s => go n (k ()) Q q' s
  | n + 1, .load a _ k, Q, q, s => ∃ o, s.heap.get? a = some o ∧ go n (k o) Q q s
  | n + 1, .update a _ f k, Q, q, s => n₀ ≤ a ∧ (s.heap.get? a).isSome = true ∧ go n (k ()) Q q { s with heap := s.heap.update a f }
  | n + 1, .alloc o k, Q, q, s => go n (k s.heap.objs.size) Q q { s with heap := s.heap.push o }
  | n + 1, .fresh k, Q, q, s => go n (k s.toks) Q q { s with toks := s.toks + 1 }
  | n + 1, .ask k, Q, q, s => go n (k ⟨p, w.params⟩) Q q s
  | n + 1, .point _ k, Q, q, s => go n (k ()) Q q s
  | n + 1, .call c h _ _ k, Q, q, s => ∃ m r s', m ≤ 5 ∧ CallRuns p w n₀ ann c h s q m r s' ∧ 5 ≤ n ∧ go (n - 5) (k r) Q q s'
  | _, _, _, _, _ => False
end
section
variable {p : Program} {w : World} {n₀ : Nat} {ann : Option Value}
theorem topRun_le {n m : Nat} {s r : Shared} {t : Thread} (h : topRun treeTable p w n₀ ann n s t = some r) (hm : n ≤ m) : topRun treeTable p w n₀ ann m s t = some r := by
  have := topRun_mono (m - n) n s t r h
  rwa [show n + (m - n) = m by lia] at this
structure St (p : Program) (w : World) (n₀ : Nat) (ann : Option Value) {α : Type} (x y : Sem α) (q q₁ : Pos) (s s₁ : Shared) : Prop where
  up : ∀ {n : Nat} {Q : α → Pos → Shared → Prop}, go p w n₀ ann n y Q q₁ s₁ → go p w n₀ ann (n + 1) x Q q s
  upw : ∀ {β : Type} {K : α → Sem β} {H : Value → Sem β} {gd : Bool → Bool} {lv : List Value → List Value} {n : Nat} {Q : β → Pos → Shared → Prop}, go p w n₀ ann n (y.wrap K H gd lv) Q q₁ s₁ → go p w n₀ ann (n + 1) (x.wrap K H gd lv) Q q s
  run : ∀ (K : α → Sem PySem.Fin) (H : Value → Sem PySem.Fin) (gd : Bool → Bool) (lv : List Value → List Value) (c : Code) (B : List Frame), through ⟨x.wrap K H gd lv, c, q, B⟩ = false ∧ stepOk n₀ ann ⟨x.wrap K H gd lv, c, q, B⟩ = true ∧ step (denote treeTable) p w s ⟨x.wrap K H gd lv, c, q, B⟩ = .go s₁ ⟨y.wrap K H gd lv, c, q₁, B⟩
section
variable {α : Type} {q : Pos} {s : Shared}
theorem st_load {a : Addr} {pt : _} {k : Obj → Sem α} {o : Obj} (e : s.heap.get? a = some o) : St p w n₀ ann (.load a pt k) (k o) q q s s :=
  ⟨fun h => ⟨o, e, h⟩, fun h => ⟨o, e, h⟩, fun K H gd lv c B => ⟨Bool.and_false _, rfl, by obtain ⟨hp, g, d, t, os⟩ := s; simp only [Sem.wrap, step, e]⟩⟩
theorem st_update {a : Addr} {pt : _} {f : Obj → Obj} {k : Unit → Sem α} (e0 : n₀ ≤ a) (e : (s.heap.get? a).isSome = true) : St p w n₀ ann (.update a pt f k) (k ()) q q s { s with heap := s.heap.update a f } :=
  ⟨fun h => ⟨e0, e, h⟩, fun h => ⟨e0, e, h⟩, fun K H gd lv c B => ⟨Bool.and_false _, by simp only [Sem.wrap, stepOk]; rw [Nat.ble_eq_true_of_le e0]; rfl, by obtain ⟨hp, g, d, t, os⟩ := s; simp only [Sem.wrap, step, e, if_true]⟩⟩
theorem st_alloc {o : Obj} {k : Addr → Sem α} : St p w n₀ ann (.alloc o k) (k s.heap.objs.size) q q s { s with heap := s.heap.push o } :=
  ⟨fun h => h, fun h => h, fun K H gd lv c B => ⟨Bool.and_false _, rfl, by obtain ⟨hp, g, d, t, os⟩ := s; simp only [Sem.wrap, step]⟩⟩
theorem st_fresh {k : Tok → Sem α} : St p w n₀ ann (.fresh k) (k s.toks) q q s { s with toks := s.toks + 1 } :=
  ⟨fun h => h, fun h => h, fun K H gd lv c B => ⟨Bool.and_false _, rfl, by obtain ⟨hp, g, d, t, os⟩ := s; simp only [Sem.wrap, step]⟩⟩
inductive GoI (p : Program) (w : World) (n₀ : Nat) (ann : Option Value) {α : Type} (Q : α → Pos → Shared → Prop) (q : Pos) (s : Shared) : Nat → Sem α → Prop
  | pure {n : Nat} {a : α} : Q a q s → GoI p w n₀ ann Q q s n (.pure a)
  | step {n : Nat} {x y : Sem α} {q₁ : Pos} {s₁ : Shared} : St p w n₀ ann x y q q₁ s s₁ → go p w n₀ ann n y Q q₁ s₁ → GoI p w n₀ ann Q q s (n + 1) x
  | call {n : Nat} {c : Code} {h' : Option Value} {g : Bool} {l : List Value} {k : Result → Sem α} {m : Nat} {r : Result} {s₁ : Shared} : m ≤ 5 → CallRuns p w n₀ ann c h' s q m r s₁ → 5 ≤ n → go p w n₀ ann (n - 5) (k r) Q q s₁ → GoI p w n₀ ann Q q s (n + 1) (.call c h' g l k)
theorem go_inv {n : Nat} {x : Sem α} {Q : α → Pos → Shared → Prop} (h : go p w n₀ ann n x Q q s) : GoI p w n₀ ann Q q s n x := by
  cases n with
  | zero =>
    cases x with
    | pure a => exact .pure h
    | _ => exact h.elim
  | succ n =>
    cases x with
    | pure a => exact .pure h
    | call c h' g l k => exact h.elim fun _ h => h.elim fun _ h => h.elim fun _ h => .call h.1 h.2.1 h.2.2.1 h.2.2.2
    | load a pt k => exact h.elim fun _ h => .step (st_load h.1) h.2
    | update a pt f k => exact .step (st_update h.1 h.2.1) h.2.2
    | alloc o k => exact .step st_alloc h
    | fresh k => exact .step st_fresh h
    | rule t k => exact .step (y := k ()) (q₁ := q) (s₁ := s) ⟨fun h => h, fun h => h, fun _ _ _ _ _ _ => ⟨Bool.and_false _, rfl, rfl⟩⟩ h
    | «at» q' k => exact .step (y := k ()) (q₁ := q') (s₁ := s) ⟨fun h => h, fun h => h, fun _ _ _ _ _ _ => ⟨Bool.and_false _, rfl, rfl⟩⟩ h
    | ask k => exact .step (y := k ⟨p, w.params⟩) (q₁ := q) (s₁ := s) ⟨fun h => h, fun h => h, fun _ _ _ _ _ _ => ⟨Bool.and_false _, rfl, by obtain ⟨hp, g, d, t, os⟩ := s; rfl⟩⟩ h
    | point l k => exact .step (y := k ()) (q₁ := q) (s₁ := s) ⟨fun h => h, fun h => h, fun _ _ _ _ _ _ => ⟨Bool.and_false _, rfl, by obtain ⟨hp, g, d, t, os⟩ := s; rfl⟩⟩ h
    | _ => exact h.elim
end
theorem go_run {α : Type} (n : Nat) : ∀ (x : Sem α) (Q : α → Pos → Shared → Prop) (q : Pos) (s : Shared), go p w n₀ ann n x Q q s → ∃ a q' s', Q a q' s' ∧
    ∀ (K : α → Sem PySem.Fin) (H : Value → Sem PySem.Fin) (gd : Bool → Bool) (lv : List Value → List Value) (c : Code) (B : List Frame) (N : Nat) (r : Shared), topRun treeTable p w n₀ ann N s' ⟨K a, c, q', B⟩ = some r → topRun treeTable p w n₀ ann (n + N) s ⟨x.wrap K H gd lv, c, q, B⟩ = some r := by
  induction n using Nat.strongRecOn with
  | _ n ih =>
    intro x Q q s h
    rcases go_inv h with @⟨_, a, hq⟩ | @⟨n', _, y, q₁, s₁, S, hg⟩ | @⟨n', c, h', g, l, k, m, r', s₁, hm, hc, h5, hg⟩
    · exact ⟨a, q, s, hq, fun K H gd lv c B N r hr => topRun_le hr (Nat.le_add_left N n)⟩
    · obtain ⟨a, q', s', hQ, k⟩ := ih n' (Nat.lt_succ_self n') y Q q₁ s₁ hg
      refine ⟨a, q', s', hQ, fun K H gd lv c B N r hr => ?_⟩
      obtain ⟨e1, e2, e3⟩ := S.run K H gd lv c B
      rw [Nat.add_right_comm]
      unfold topRun
      rw [e1, e2, e3]
      exact k K H gd lv c B N r hr
    · obtain ⟨a, q', s', hQ, kk⟩ := ih (n' - 5) (Nat.lt_succ_of_le (Nat.sub_le n' 5)) (k r') Q q s₁ hg
      refine ⟨a, q', s', hQ, fun K H gd lv cc B N r hr => ?_⟩
      exact topRun_le (go_top (hc (gd g) (lv l) (fun x => (k x).wrap K H gd lv) cc B) (kk K H gd lv cc B N r hr)) (by lia)
theorem go_le {α : Type} {n : Nat} : ∀ {m : Nat} {x : Sem α} {Q : α → Pos → Shared → Prop} {q : Pos} {s : Shared}, go p w n₀ ann n x Q q s → n ≤ m → go p w n₀ ann m x Q q s := by
  induction n using Nat.strongRecOn with
  | _ n ih =>
    intro m x Q q s h hm
    rcases go_inv h with @⟨_, a, hq⟩ | @⟨n', _, y, q₁, s₁, S, hg⟩ | @⟨n', c, h', g, l, k, i, r', s₁, hi, hc, h5, hg⟩
    · cases m <;> exact hq
    · cases m with
      | zero => exact absurd hm (Nat.not_succ_le_zero n')
      | succ m => exact S.up (ih n' (Nat.lt_succ_self n') hg (Nat.le_of_succ_le_succ hm))
    · cases m with
      | zero => exact absurd hm (Nat.not_succ_le_zero n')
      | succ m => exact ⟨i, r', s₁, hi, hc, Nat.le_trans h5 (Nat.le_of_succ_le_succ hm), ih (n' - 5) (Nat.lt_succ_of_le (Nat.sub_le n' 5)) hg (Nat.sub_le_sub_right (Nat.le_of_succ_le_succ hm) 5)⟩
theorem go_wrap {α β : Type} {K : α → Sem β} {H : Value → Sem β} {gd : Bool → Bool} {lv : List Value → List Value} {m : Nat} {Q : β → Pos → Shared → Prop} {n : Nat} : ∀ {x : Sem α} {q : Pos} {s : Shared}, go p w n₀ ann n x (fun a q' s' => go p w n₀ ann m (K a) Q q' s') q s → go p w n₀ ann (n + m) (x.wrap K H gd lv) Q q s := by
  induction n using Nat.strongRecOn with
  | _ n ih =>
    intro x q s h
    rcases go_inv h with @⟨_, a, hq⟩ | @⟨n', _, y, q₁, s₁, S, hg⟩ | @⟨n', c, h', g, l, k, i, r', s₁, hi, hc, h5, hg⟩
    · exact go_le hq (Nat.le_add_left m n)
    · rw [Nat.add_right_comm]
      exact S.upw (ih n' (Nat.lt_succ_self n') hg)
    · rw [Nat.add_right_comm]
      exact ⟨i, r', s₁, hi, hc, Nat.le_trans h5 (Nat.le_add_right n' m), Nat.sub_add_comm h5 ▸ ih (n' - 5) (Nat.lt_succ_of_le (Nat.sub_le n' 5)) hg⟩
theorem go_mono {α : Type} {Q Q' : α → Pos → Shared → Prop} (hQ : ∀ a q s, Q a q s → Q' a q s) {n : Nat} : ∀ {x : Sem α} {q : Pos} {s : Shared}, go p w n₀ ann n x Q q s → go p w n₀ ann n x Q' q s := by
  induction n using Nat.strongRecOn with
  | _ n ih =>
    intro x q s h
    rcases go_inv h with @⟨_, a, hq⟩ | @⟨n', _, y, q₁, s₁, S, hg⟩ | @⟨n', c, h', g, l, k, i, r', s₁, hi, hc, h5, hg⟩
    · cases n <;> exact hQ _ _ _ hq
    · exact S.up (ih n' (Nat.lt_succ_self n') hg)
    · exact ⟨i, r', s₁, hi, hc, h5, ih (n' - 5) (Nat.lt_succ_of_le (Nat.sub_le n' 5)) hg⟩
theorem go_bind {α β : Type} {n m : Nat} {x : Sem α} {f : α → Sem β} {Q : β → Pos → Shared → Prop} {q : Pos} {s : Shared} (h : go p w n₀ ann n x (fun a q' s' => go p w n₀ ann m (f a) Q q' s') q s) : go p w n₀ ann (n + m) (x >>= f) Q q s := by
  rw [Sem.bind_eq_wrap']; exact go_wrap h
theorem go_keep {α : Type} {n : Nat} {vs : List Value} {x : Sem α} {Q : α → Pos → Shared → Prop} {q : Pos} {s : Shared} (h : go p w n₀ ann n x Q q s) : go p w n₀ ann n (x.keep vs) Q q s := by
  rw [Sem.keep_eq_wrap]
  have := go_wrap (K := (Sem.pure : α → Sem α)) (H := .raise) (gd := id) (lv := (vs ++ ·)) (m := 0) (Q := Q) (go_mono (fun a q s h => (h : go p w n₀ ann 0 (Sem.pure a) Q q s)) h)
  exact this
theorem go_holding {α : Type} {n : Nat} {vs : List Value} {x : Sem α} {Q : α → Pos → Shared → Prop} {q : Pos} {s : Shared} (h : go p w n₀ ann n x Q q s) : go p w n₀ ann n (holding vs x) Q q s := by
  unfold holding
  split
  · exact h
  · exact go_keep h
theorem go_pure {α : Type} {n : Nat} {a : α} {Q : α → Pos → Shared → Prop} {q : Pos} {s : Shared} (h : Q a q s) : go p w n₀ ann n (pure a) Q q s := by
  cases n <;> exact h
end
end Mine
end
section
open PySem PySem.W PySem.Calls PyProof.Rows
namespace Mine
section
variable {p : Program} {w : World} {n₀ : Nat} {ann : Option Value}
theorem hash_run {x : Str} {t : Tok} {s : Shared} {q : Pos} {h : Option Value} : CallRuns p w n₀ ann (.call (.builtin "str.__hash__") ⟨[.str x t], []⟩) h s q 5 (.ok (.ret (.int (hashStr w x) s.toks))) { s with toks := s.toks + 1 } := by
  intro g l K code B
  obtain ⟨hp, gs, d, tk, os⟩ := s
  have e : topGo treeTable p w n₀ ann 4 ⟨hp, gs, d, tk, os⟩ ⟨denote treeTable (.call (.builtin "str.__hash__") ⟨[.str x t], []⟩), .call (.builtin "str.__hash__") ⟨[.str x t], []⟩, default, .ret K h g l code q [] :: B⟩ = some (⟨hp, gs, d, tk + 1, os⟩, ⟨K (.ok (.ret (.int (hashStr w x) tk))), code, q, B⟩) := by kernel_rfl
  unfold topGo
  rw [show through ⟨Sem.call (.call (.builtin "str.__hash__") ⟨[.str x t], []⟩) h g l K, code, q, B⟩ = false from Bool.and_false _]
  exact e
theorem go_pyHash {x : Str} {t : Tok} {s : Shared} {q : Pos} {Q : Int → Pos → Shared → Prop} (h : Q (hashStr w x) q { s with toks := s.toks + 1 }) : go p w n₀ ann 20 (pyHash (.str x t)) Q q s := by
  have hl : ∀ v, specialOf (.str x t) "__hash__" = v → v = pure (some (.builtin "str.__hash__")) := fun v hv => by
    rw [← hv]; unfold specialOf
    show (typeLookup (.type "str") "__hash__") = _
    exact F.slot_str_hash.lookup
  unfold pyHash
  refine go_bind (n := 15) (m := 5) ?_
  unfold callSpecialIfBound?
  refine go_holding (go_bind (n := 5) (m := 10) ?_)
  unfold bindSpecialIfBound?
  rw [hl _ rfl]
  refine go_bind (n := 0) (m := 5) (go_pure ?_)
  dsimp only
  rw [F.slot_str_hash.bind]
  have fin : go p w n₀ ann 10 (do let r ← PySem.call (.builtin "str.__hash__") ([.str x t] ++ []); return some r : Sem (Option Value)) (fun _ q' s' => go p w n₀ ann 5 (strHash x) Q q' s') q s := by
    refine ⟨5, .ok (.ret (.int (hashStr w x) s.toks)), { s with toks := s.toks + 1 }, Nat.le_refl _, hash_run, by decide, ?_⟩
    exact h
  cases hf : w.params.followText "special-get-raises" with
  | true =>
    show go p w n₀ ann 4 (if w.params.followText "special-get-raises" = true then _ else _) _ q s
    rw [if_pos hf]; exact fin
  | false =>
    show go p w n₀ ann 4 (if w.params.followText "special-get-raises" = true then _ else _) _ q s
    rw [if_neg (by rw [hf]; decide)]; exact fin
noncomputable def slim (t : SetTable) : SetTable := if t.plain = true then { t with plain := false } else t
noncomputable def addTo (es : Array (Int × Value)) (t : SetTable) (n : Nat) (h : Int) (x : Value) : Array (Int × Value) × SetTable × Nat :=
  let r := layNew t es h x
  let t' := slim r.2.1
  if (!r.2.2.1 && t'.tooFull) = true then
    let z := relayAll t' r.1 (SetTable.grown r.1.size)
    (z.1, z.2.1, n + 2)
  else (r.1, t', n + 1)
noncomputable def setObj (es : Array (Int × Value)) (t : SetTable) (n : Nat) : Obj := { cls := .type "set", dict := none, data := .set es n t }
theorem slim_fits {t : SetTable} {n : Nat} (h : t.fits n = true) : (slim t).fits n = true := by
  unfold slim; split <;> exact h
theorem addTo_fits (es : Array (Int × Value)) (t : SetTable) (n : Nat) (h : Int) (x : Value) : (addTo es t n h x).2.1.fits (addTo es t n h x).1.size = true := by
  unfold addTo
  dsimp only
  split
  · exact relayAll_fits ..
  · exact slim_fits (layNew_fits ..)
theorem addTo_perm (es : Array (Int × Value)) (t : SetTable) (n : Nat) (h : Int) (x : Value) : (addTo es t n h x).1.toList.Perm (es.push (h, x)).toList := by
  unfold addTo
  dsimp only
  split
  · exact (relayAll_perm ..).trans (layNew_perm ..)
  · exact layNew_perm ..
theorem upd_upd (h : Heap) (a : Addr) (f g : Obj → Obj) : (h.update a f).update a g = h.update a (g ∘ f) := by
  obtain ⟨objs, life⟩ := h
  show Heap.mk ((objs.modify a f).modify a g) life = Heap.mk (objs.modify a (g ∘ f)) life
  congr 1
  apply Array.ext_getElem?
  intro i
  simp only [Array.getElem?_modify]
  by_cases e : a = i
  · simp [e]
  · simp [e]
theorem upd_at {h : Heap} {a : Addr} {f : Obj → Obj} {o : Obj} (e : h.get? a = some o) : h.update a f = h.update a fun _ => f o := by
  obtain ⟨objs, life⟩ := h
  show Heap.mk (objs.modify a f) life = Heap.mk (objs.modify a fun _ => f o) life
  congr 1
  apply Array.ext_getElem?
  intro i
  simp only [Array.getElem?_modify]
  by_cases q : a = i
  · subst q
    have := (Heap.get?_some_iff.mp e).1
    simp [this]
  · simp [q]
theorem go_setState {a : Addr} {es : Array (Int × Value)} {t : SetTable} {n : Nat} {s : Shared} {q : Pos} {Q : Array (Int × Value) × Nat × SetTable → Pos → Shared → Prop} (ho : s.heap.get? a = some (setObj es t n)) (hf : t.fits es.size = true) (h : Q (es, n, t) q s) :
    go p w n₀ ann 2 (setState a) Q q s := by
  unfold setState
  refine ⟨_, ho, ?_⟩
  have : (t.place.size != es.size || decide (t.fill > t.mask)) = false := by
    unfold SetTable.fits at hf
    simp only [Bool.and_eq_true, beq_iff_eq, decide_eq_true_eq] at hf
    simp only [Bool.or_eq_false_iff, bne_eq_false_iff_eq, decide_eq_false_iff_not]
    exact ⟨hf.1, by lia⟩
  show go p w n₀ ann 1 (if (t.place.size != es.size || decide (t.fill > t.mask)) = true then _ else _) Q q s
  rw [if_neg (by rw [this]; decide)]
  exact h
theorem go_storeSet {a : Addr} {es es' : Array (Int × Value)} {t t' : SetTable} {n : Nat} {s : Shared} {q : Pos} {Q : Unit → Pos → Shared → Prop} (ho : s.heap.get? a = some (setObj es t n)) (hn : n₀ ≤ a) (hz : es'.size ≤ sizeLine)
    (h : Q () q { s with heap := s.heap.update a (Obj.putSet es' t') }) : go p w n₀ ann 3 (storeSet a es' t') Q q s := by
  unfold storeSet
  refine ⟨_, ho, ?_⟩
  show go p w n₀ ann 2 (if es'.size > sizeLine then _ else _) Q q s
  rw [if_neg (by lia)]
  exact ⟨hn, by rw [ho]; rfl, h⟩
noncomputable def gw : Bool → Sem Unit
  | true => rule "set.scan.the-table-gave-way"
  | false => pure ()
theorem go_setAdd {a : Addr} {x : Str} {tk : Tok} {es : Array (Int × Value)} {t : SetTable} {n : Nat} {s : Shared} {q : Pos} {Q : Bool → Pos → Shared → Prop} (ho : s.heap.get? a = some (setObj es t n)) (hf : t.fits es.size = true) (hn : n₀ ≤ a)
    (hs : es.size < 4096) (hk : es.all (fun e => isExactStrKey e.2) = true) (hx : es.findIdx? (·.2.isStr x) = none)
    (h : ∀ heap', heap' = s.heap.update a (fun _ => setObj (addTo es t n (hashStr w x) (.str x tk)).1 (addTo es t n (hashStr w x) (.str x tk)).2.1 (addTo es t n (hashStr w x) (.str x tk)).2.2) → Q true q { s with heap := heap', toks := s.toks + 1 }) :
    go p w n₀ ann 60 (setAdd a (.str x tk)) Q q s := by
  unfold setAdd
  refine go_holding (go_bind (n := 20) (m := 40) (go_pyHash ?_))
  unfold setAddHashed
  refine go_holding ?_
  unfold setAddHashedIn
  refine go_bind (n := 2) (m := 38) (go_setState (s := { s with toks := s.toks + 1 }) ho hf ?_)
  dsimp only
  have hb : byScan (.str x tk) es = true := by
    unfold byScan
    rw [Bool.and_eq_true, Bool.and_eq_true]
    refine ⟨⟨rfl, decide_eq_true hs⟩, ?_⟩
    rw [Array.all_eq_true] at hk ⊢
    intro i hi
    have := hk i hi
    cases hv : es[i].2 <;> rw [hv] at this <;> first | rfl | exact no_none this | exact no_false this | cases this
  rw [if_pos hb]
  have hscan : setScan a (.str x tk) (hashStr w x) true es = pure .absent := by
    unfold setScan
    dsimp only
    rw [if_pos hk]
    unfold setScanStrs
    rw [hx]
  refine go_bind (n := 30) (m := 8) ?_
  unfold setAddByScan
  show go p w n₀ ann 29 _ _ q _
  rw [hscan]
  have hadd : addTo es t n (hashStr w x) (.str x tk) = addTo es t n (hashStr w x) (.str x tk) := rfl
  have hfit := layNew_fits t es (hashStr w x) (.str x tk)
  have hsz : (layNew t es (hashStr w x) (.str x tk)).1.size = es.size + 1 := by
    have := (layNew_perm t es (hashStr w x) (.str x tk)).length_eq
    simpa using this
  unfold addTo at h
  revert h hfit hsz
  rcases layNew t es (hashStr w x) (.str x tk) with ⟨es1, t1, wd, gv⟩
  intro h hfit hsz
  dsimp only at h hfit hsz
  refine go_bind (n := 0) (m := 29) (go_pure ?_)
  refine go_bind (n := 0) (m := 29) (go_pure ?_)
  dsimp only
  refine go_bind (n := 1) (m := 28) ?_
  have H : ∀ (t2 : SetTable), t2 = slim t1 → go p w n₀ ann 28 (do
      storeSet a es1 t2
      if (!wd && t2.tooFull) = true then
        match relayAll t2 es1 (SetTable.grown es1.size) with
        | (es, t, gave) => do
          gw gave
          let r ← storeSet a es t
          pure (some true)
      else pure (some true) : Sem (Option Bool)) (fun a_1 q' s' => go p w n₀ ann 8 (match a_1 with | some added => pure added | none => setAddHashedIn a (Value.str x tk) (hashStr w x) 99999) Q q' s') q { s with toks := s.toks + 1 } := by
    intro t2 ht2
    subst ht2
    refine go_bind (n := 3) (m := 25) (go_storeSet ho hn (by rw [hsz, sizeLine_eq]; lia) ?_)
    have e1 : Obj.putSet es1 (slim t1) (setObj es t n) = setObj es1 (slim t1) (n + 1) := rfl
    have g1 : (s.heap.update a (Obj.putSet es1 (slim t1))).get? a = some (setObj es1 (slim t1) (n + 1)) := by rw [← e1]; exact Heap.get?_update_self _ ho rfl
    split
    · rename_i hc
      rw [if_pos hc] at h
      have hz : (relayAll (slim t1) es1 (SetTable.grown es1.size)).1.size = es.size + 1 := by
        have := (relayAll_perm (slim t1) es1 (SetTable.grown es1.size)).length_eq
        rw [← hsz]; simpa using this
      revert h hz
      rcases relayAll (slim t1) es1 (SetTable.grown es1.size) with ⟨es2, t2, gv2⟩
      intro h hz
      dsimp only at h hz
      have fin : go p w n₀ ann 20 (do let r ← storeSet a es2 t2; pure (some true) : Sem (Option Bool)) (fun a_1 q' s' => go p w n₀ ann 8 (match a_1 with | some added => pure added | none => setAddHashedIn a (Value.str x tk) (hashStr w x) 99999) Q q' s') q { s with heap := s.heap.update a (Obj.putSet es1 (slim t1)), toks := s.toks + 1 } := by
        refine go_bind (n := 3) (m := 17) (go_storeSet (s := { s with heap := s.heap.update a (Obj.putSet es1 (slim t1)), toks := s.toks + 1 }) g1 hn (by rw [hz, sizeLine_eq]; lia) ?_)
        refine h _ ?_
        rw [upd_upd, upd_at ho]; rfl
      dsimp only
      refine go_bind (n := 1) (m := 24) ?_
      replace fin := go_le fin (m := 24) (by decide)
      cases gv2
      · exact fin
      · exact fin
    · rename_i hc
      rw [if_neg hc] at h
      refine h _ ?_
      rw [upd_at ho]; rfl
  have H2 : go p w n₀ ann 28 (do
      let byValue ← if t1.plain = true then hashByValue 8 (.str x tk) else pure true
      let t2 := if byValue = true then t1 else { t1 with plain := false }
      storeSet a es1 t2
      if (!wd && t2.tooFull) = true then
        match relayAll t2 es1 (SetTable.grown es1.size) with
        | (es, t, gave) => do
          gw gave
          let r ← storeSet a es t
          pure (some true)
      else pure (some true) : Sem (Option Bool)) (fun a_1 q' s' => go p w n₀ ann 8 (match a_1 with | some added => pure added | none => setAddHashedIn a (Value.str x tk) (hashStr w x) 99999) Q q' s') q { s with toks := s.toks + 1 } := by
    by_cases hp : t1.plain = true
    · rw [if_pos hp]
      exact H { t1 with plain := false } (by unfold slim; rw [if_pos hp])
    · rw [if_neg hp]
      exact H t1 (by unfold slim; rw [if_neg hp])
  cases gv
  · show go p w n₀ ann 28 _ _ q _
    exact H2
  · show go p w n₀ ann 28 _ _ q _
    exact H2
end
end Mine
end
section
open PySem PySem.W PySem.Calls PyProof.Rows
namespace Mine
noncomputable def toked : List Str → Nat → List (Str × Tok)
  | [], _ => []
  | x :: r, k => (x, k) :: toked r (k + 1)
theorem toked_len : ∀ (l : List Str) (k : Nat), (toked l k).length = l.length
  | [], _ => rfl
  | _ :: r, k => congrArg (· + 1) (toked_len r (k + 1))
theorem toked_fst : ∀ (l : List Str) (k : Nat), (toked l k).map (·.1) = l
  | [], _ => rfl
  | x :: r, k => by rw [toked, List.map_cons, toked_fst r]
noncomputable abbrev strOf' (x : Str × Tok) : Value := .str x.1 x.2
noncomputable def Laid' (w : World) (es : Array (Int × Value)) (done : List (Str × Tok)) : Prop := es.toList.Perm (done.map fun x => (hashStr w x.1, Value.str x.1 x.2))
theorem Laid'.size {w : World} {es : Array (Int × Value)} {done : List (Str × Tok)} (h : Laid' w es done) : es.size = done.length := by
  have := h.length_eq
  simpa using this
theorem Laid'.strs {w : World} {es : Array (Int × Value)} {done : List (Str × Tok)} (h : Laid' w es done) : es.all (fun e => isExactStrKey e.2) = true := by
  rw [Array.all_eq_true_iff_forall_mem]
  intro e he
  have := h.mem_iff.mp (Array.mem_toList_iff.mpr he)
  obtain ⟨x, _, rfl⟩ := List.mem_map.mp this
  rfl
theorem Laid'.absent {w : World} {es : Array (Int × Value)} {done : List (Str × Tok)} (h : Laid' w es done) {x : Str} (hx : x ∉ done.map (·.1)) : es.findIdx? (·.2.isStr x) = none := by
  rw [Array.findIdx?_eq_none_iff]
  intro e he
  have := h.mem_iff.mp (Array.mem_toList_iff.mpr he)
  obtain ⟨y, hy, rfl⟩ := List.mem_map.mp this
  show (y.1 == x) = false
  refine beq_eq_false_iff_ne.mpr fun e => hx ?_
  rw [← e]; exact List.mem_map_of_mem hy
noncomputable def addAll (w : World) : List (Str × Tok) → Array (Int × Value) × SetTable × Nat → Array (Int × Value) × SetTable × Nat
  | [], st => st
  | x :: r, st => addAll w r (addTo st.1 st.2.1 st.2.2 (hashStr w x.1) (.str x.1 x.2))
theorem addAll_laid (w : World) : ∀ (l done : List (Str × Tok)) (st : Array (Int × Value) × SetTable × Nat), Laid' w st.1 done → Laid' w (addAll w l st).1 (done ++ l)
  | [], done, st, h => by rw [List.append_nil]; exact h
  | x :: r, done, st, h => by
    have h1 : Laid' w (addTo st.1 st.2.1 st.2.2 (hashStr w x.1) (.str x.1 x.2)).1 (done ++ [x]) := by
      refine (addTo_perm ..).trans ?_
      rw [Array.toList_push, List.map_append]
      exact h.append_right _
    have := addAll_laid w r (done ++ [x]) (addTo st.1 st.2.1 st.2.2 (hashStr w x.1) (.str x.1 x.2)) h1
    rw [List.append_assoc] at this
    exact this
theorem addAll_fits (w : World) : ∀ (l : List (Str × Tok)) (st : Array (Int × Value) × SetTable × Nat), st.2.1.fits st.1.size = true → (addAll w l st).2.1.fits (addAll w l st).1.size = true
  | [], _, h => h
  | _ :: r, _, _ => addAll_fits w r _ (addTo_fits ..)
section
variable {p : Program} {w : World} {n₀ : Nat} {ann : Option Value}
theorem go_adds {a : Addr} (hn : n₀ ≤ a) : ∀ (l done : List (Str × Tok)) (st : Array (Int × Value) × SetTable × Nat) (s : Shared) (q : Pos) (Q : PUnit → Pos → Shared → Prop), s.heap.get? a = some (setObj st.1 st.2.1 st.2.2) → st.2.1.fits st.1.size = true → Laid' w st.1 done →
    ((done ++ l).map (·.1)).Nodup → (done ++ l).length < 4096 →
    (∀ heap', heap' = s.heap.update a (fun _ => setObj (addAll w l st).1 (addAll w l st).2.1 (addAll w l st).2.2) → Q ⟨⟩ q { s with heap := heap', toks := s.toks + l.length }) →
    go p w n₀ ann (60 * l.length + 1) (forIn (l.map strOf') PUnit.unit fun x _ => do let _ ← setAdd a x; pure (ForInStep.yield PUnit.unit)) Q q s
  | [], done, st, s, q, Q, ho, hf, hL, hN, hlt, h => by
    rw [List.map_nil, List.forIn_nil]
    refine go_pure ?_
    refine h s.heap ?_
    refine Eq.trans ?_ (upd_at (f := fun o => o) ho)
    obtain ⟨⟨objs, life⟩, gs, d, tk, os⟩ := s
    show Heap.mk objs life = Heap.mk (objs.modify a _) life
    congr 1
    apply Array.ext_getElem?
    intro i
    rw [Array.getElem?_modify]
    by_cases e : a = i <;> simp [e]
  | x :: r, done, st, s, q, Q, ho, hf, hL, hN, hlt, h => by
    rw [List.map_cons, List.forIn_cons]
    have hx : x.1 ∉ done.map (·.1) := by
      rw [List.map_append, List.map_cons] at hN
      intro hm
      exact (List.nodup_append.mp hN).2.2 _ hm _ (.head _) rfl
    have hlen : done.length < 4096 := by rw [List.length_append] at hlt; lia
    rw [show 60 * (x :: r).length + 1 = 60 + (60 * r.length + 1) by rw [List.length_cons]; lia]
    refine go_bind (go_bind (n := 60) (m := 0) (go_setAdd ho hf hn (by rw [hL.size]; exact hlen) hL.strs (hL.absent hx) fun heap' hh => go_pure ?_))
    subst hh
    have ho' : (s.heap.update a fun _ => setObj (addTo st.1 st.2.1 st.2.2 (hashStr w x.1) (.str x.1 x.2)).1 (addTo st.1 st.2.1 st.2.2 (hashStr w x.1) (.str x.1 x.2)).2.1 (addTo st.1 st.2.1 st.2.2 (hashStr w x.1) (.str x.1 x.2)).2.2).get? a = some (setObj (addTo st.1 st.2.1 st.2.2 (hashStr w x.1) (.str x.1 x.2)).1 (addTo st.1 st.2.1 st.2.2 (hashStr w x.1) (.str x.1 x.2)).2.1 (addTo st.1 st.2.1 st.2.2 (hashStr w x.1) (.str x.1 x.2)).2.2) :=
      Heap.get?_update_self _ ho rfl
    have h1 : Laid' w (addTo st.1 st.2.1 st.2.2 (hashStr w x.1) (.str x.1 x.2)).1 (done ++ [x]) := addAll_laid w [x] done st hL
    refine go_adds hn r (done ++ [x]) (addTo st.1 st.2.1 st.2.2 (hashStr w x.1) (.str x.1 x.2)) _ q Q ho' (addTo_fits ..) h1 (by rw [List.append_assoc]; exact hN) (by rw [List.append_assoc]; exact hlt) fun heap' hh => ?_
    have := h heap' (by rw [hh, upd_upd]; rfl)
    rw [List.length_cons] at this
    rw [show s.toks + 1 + r.length = s.toks + (r.length + 1) by lia]
    exact this
theorem go_evals {env : Env} {pos : Pos} : ∀ (l : List Str) (s : Shared) (q : Pos) (Q : List Value → Pos → Shared → Prop), (∀ q', Q ((toked l s.toks).map strOf') q' { s with toks := s.toks + l.length }) →
    go p w n₀ ann (2 * l.length) (evalAll (l.map fun x => (do let v ← constValue env (.str x); standAt pos; pure v))) Q q s
  | [], s, q, Q, h => h q
  | x :: r, s, q, Q, h => by
    rw [List.map_cons, evalAll]
    rw [show 2 * (x :: r).length = 2 + 2 * r.length by rw [List.length_cons]; lia]
    refine go_bind (n := 2) ?_
    show go p w n₀ ann (2 * r.length) _ Q pos { s with toks := s.toks + 1 }
    refine go_bind (n := 2 * r.length) (m := 0) (go_holding (go_evals r { s with toks := s.toks + 1 } pos _ fun q' => ?_))
    have := h q'
    rw [List.length_cons] at this
    rw [show s.toks + (r.length + 1) = s.toks + 1 + r.length by lia] at this
    exact this
theorem upd_push (h : Heap) (o o' : Obj) : (h.push o).update h.objs.size (fun _ => o') = h.push o' := by
  obtain ⟨objs, life⟩ := h
  show Heap.mk ((objs.push o).modify objs.size fun _ => o') life = Heap.mk (objs.push o') life
  congr 1
  apply Array.ext_getElem?
  intro i
  rw [Array.getElem?_modify, Array.getElem?_push, Array.getElem?_push]
  by_cases e : i = objs.size
  · subst e; simp
  · have : ¬ objs.size = i := fun q => e q.symm
    simp [e, this]
noncomputable def setStart (w : World) (l : List Str) (k : Nat) : Array (Int × Value) × SetTable × Nat := addAll w (toked l k) (#[], SetTable.fresh 0 0 (!w.params.followText "set-order"), 0)
noncomputable def setLeft (w : World) (l : List Str) (k : Nat) : Obj := setObj (setStart w l k).1 { (setStart w l k).2.1 with led := false } ((setStart w l k).2.2 + 1)
theorem go_display {env : Env} {pos : Pos} {l : List Str} {s : Shared} {q : Pos} {Q : Value → Pos → Shared → Prop} (hn : n₀ ≤ s.heap.objs.size) (hl : l.Nodup) (hlen : l.length ≤ 30)
    (h : ∀ q' heap', heap' = s.heap.push (setLeft w l s.toks) → Q (.ref s.heap.objs.size) q' { s with heap := heap', toks := s.toks + l.length + l.length }) :
    go p w n₀ ann (62 * l.length + 40) (setDisplay .unsure false (l.map fun x => (false, (do let v ← constValue env (.str x); standAt pos; pure v)))) Q q s := by
  have e1 : ((l.map fun x => (false, (do let v ← constValue env (.str x); standAt pos; pure v : Sem Value))).findIdx? (·.1)) = none := by
    rw [List.findIdx?_eq_none_iff]
    intro y hy
    obtain ⟨x, _, rfl⟩ := List.mem_map.mp hy
    rfl
  have e2 : (l.map fun x => (false, (do let v ← constValue env (.str x); standAt pos; pure v : Sem Value))).length = l.length := List.length_map ..
  have e3 : ((l.map fun x => (false, (do let v ← constValue env (.str x); standAt pos; pure v : Sem Value))).map (·.2)) = l.map fun x => (do let v ← constValue env (.str x); standAt pos; pure v : Sem Value) := by rw [List.map_map]; rfl
  unfold setDisplay
  rw [e1, e2, Option.getD_none, if_neg (show ¬ l.length > 30 by lia), if_neg (by decide)]
  rw [show 62 * l.length + 40 = 5 + (62 * l.length + 35) by lia]
  refine go_bind ?_
  have hnew : ∀ (Q' : Value → Pos → Shared → Prop), Q' (.ref s.heap.objs.size) q { s with heap := s.heap.push (setObj #[] (SetTable.fresh 0 0 (!w.params.followText "set-order")) 0) } → go p w n₀ ann 5 (newSet (.type "set")) Q' q s := fun Q' hq => hq
  refine hnew _ ?_
  dsimp only
  rw [show List.take l.length (l.map fun x => (false, (do let v ← constValue env (.str x); standAt pos; pure v : Sem Value))) = _ from List.take_of_length_le (by rw [e2]; exact Nat.le_refl _), e3]
  rw [show List.drop l.length (l.map fun x => (false, (do let v ← constValue env (.str x); standAt pos; pure v : Sem Value))) = [] from List.drop_of_length_le (by rw [e2]; exact Nat.le_refl _)]
  refine go_bind (n := 62 * l.length + 35) (m := 0) (go_holding ?_)
  rw [show 62 * l.length + 35 = 2 * l.length + (60 * l.length + 35) by lia]
  refine go_bind (go_evals l _ q _ fun q' => ?_)
  rw [show 60 * l.length + 35 = (60 * l.length + 35) + 0 by lia]
  refine go_bind (go_holding ?_)
  rw [show 60 * l.length + 35 = (60 * l.length + 1) + 34 by lia]
  refine go_bind ?_
  have h0 : (s.heap.push (setObj #[] (SetTable.fresh 0 0 (!w.params.followText "set-order")) 0)).get? s.heap.objs.size = some (setObj #[] (SetTable.fresh 0 0 (!w.params.followText "set-order")) 0) := Heap.get?_push_size _ rfl
  have hL0 : Laid' w #[] [] := List.Perm.refl _
  refine go_le (n := 60 * (toked l s.toks).length + 1) (go_adds hn (toked l s.toks) [] (#[], SetTable.fresh 0 0 (!w.params.followText "set-order"), 0) { s with heap := s.heap.push (setObj #[] (SetTable.fresh 0 0 (!w.params.followText "set-order")) 0), toks := s.toks + l.length } q' _ h0 rfl hL0 (by rw [List.nil_append, toked_fst]; exact hl) (by rw [List.nil_append, toked_len]; lia) fun heap' hh => ?_) (by rw [toked_len]; exact Nat.le_refl _)
  rw [upd_push] at hh
  subst hh
  rw [if_pos (by decide)]
  have h1 : (s.heap.push (setObj (setStart w l s.toks).1 (setStart w l s.toks).2.1 (setStart w l s.toks).2.2)).get? s.heap.objs.size = some (setObj (setStart w l s.toks).1 (setStart w l s.toks).2.1 (setStart w l s.toks).2.2) := Heap.get?_push_size _ rfl
  have hfit : (setStart w l s.toks).2.1.fits (setStart w l s.toks).1.size = true := addAll_fits w _ _ rfl
  have hsz : (setStart w l s.toks).1.size = l.length := by
    have := (addAll_laid w (toked l s.toks) [] (#[], SetTable.fresh 0 0 (!w.params.followText "set-order"), 0) hL0).size
    rw [List.nil_append, toked_len] at this
    exact this
  show go p w n₀ ann 33 (setUnled s.heap.objs.size) _ q' _
  unfold setUnled
  refine go_bind (n := 2) (m := 31) (go_setState h1 hfit ?_)
  dsimp only
  refine go_le (n := 3) (go_storeSet h1 hn (by rw [hsz, sizeLine_eq]; lia) ?_) (by decide)
  have hfin := h q' (s.heap.push (setLeft w l s.toks)) rfl
  rw [toked_len, List.forIn_nil]
  have hh : (s.heap.push (setObj (setStart w l s.toks).1 (setStart w l s.toks).2.1 (setStart w l s.toks).2.2)).update s.heap.objs.size (Obj.putSet (setStart w l s.toks).1 { (setStart w l s.toks).2.1 with led := false }) = s.heap.push (setLeft w l s.toks) := by
    rw [upd_at h1, upd_push]; rfl
  show Q (.ref s.heap.objs.size) q' { s with heap := (s.heap.push (setObj (setStart w l s.toks).1 (setStart w l s.toks).2.1 (setStart w l s.toks).2.2)).update s.heap.objs.size (Obj.putSet (setStart w l s.toks).1 { (setStart w l s.toks).2.1 with led := false }), toks := s.toks + l.length + l.length }
  rw [hh]
  exact hfin
theorem starEach_strs {env : Env} {pos : Pos} : ∀ {l : List Str} {elts : List PySem.Expr}, elts.length = l.length → (∀ (i : Nat) (e : PySem.Expr) (x : Str), elts[i]? = some e → l[i]? = some x → ∃ k q, e = .Constant (.str x) k q) →
    (starEach elts env).map (fun (star, t) => (star, (do let v ← t; standAt pos; pure v : Sem Value))) = l.map fun x => (false, (do let v ← constValue env (.str x); standAt pos; pure v : Sem Value))
  | [], [], _, _ => rfl
  | [], _ :: _, h, _ => by cases h
  | _ :: _, [], h, _ => by cases h
  | x :: l, e :: elts, h, hh => by
    obtain ⟨k, q, rfl⟩ := hh 0 e x rfl rfl
    have ih := starEach_strs (env := env) (pos := pos) (l := l) (elts := elts) (by simpa using h) fun i e x he hx => hh (i + 1) e x (by simpa using he) (by simpa using hx)
    rw [List.map_cons, ← ih]
    rfl
noncomputable def areStrs : List PySem.Expr → List Str → Bool
  | [], [] => true
  | .Constant (.str y) _ _ :: r, x :: l => y == x && areStrs r l
  | _, _ => false
theorem areStrs_map {env : Env} {pos : Pos} : ∀ {l : List Str} {elts : List PySem.Expr}, areStrs elts l = true →
    (starEach elts env).map (fun (star, t) => (star, (do let v ← t; standAt pos; pure v : Sem Value))) = l.map fun x => (false, (do let v ← constValue env (.str x); standAt pos; pure v : Sem Value)) := by
  intro l elts h
  fun_induction areStrs elts l
  · rfl
  · rename_i ih
    obtain ⟨h1, h2⟩ := Bool.and_eq_true_iff.mp h
    rw [List.map_cons, ← ih h2, ← beq_iff_eq.mp h1]
    rfl
  · first | exact no_none h | exact no_false h | cases h
theorem go_set {env : Env} {elts : List PySem.Expr} {pos : Pos} {l : List Str} {s : Shared} {q : Pos} {Q : Value → Pos → Shared → Prop} {c : Addr} {cc : Value} {cd : Option Addr} {vs : Array Value} {sl : Array (Option Value)} (hn : n₀ ≤ s.heap.objs.size) (hl : l.Nodup) (hlen : l.length ≤ 30)
    (he : areStrs elts l = true) (hr : displayRoad 0 elts = .unsure) (hc : env.code = .ref c) (ho : s.heap.get? c = some ⟨cc, cd, .fields vs, sl⟩)
    (h : ∀ q' heap', heap' = s.heap.push (setLeft w l s.toks) → Q (.ref s.heap.objs.size) q' { s with heap := heap', toks := s.toks + l.length + l.length }) :
    go p w n₀ ann (62 * l.length + 50) (eval (.Set elts 0 pos) env) Q q s := by
  have ev : eval (.Set elts 0 pos) env = (do standAt pos; setDisplay (displayRoad 0 elts) (← inMainModule env) ((starEach elts env).map fun (star, t) => (star, do let v ← t; standAt pos; pure v))) := rfl
  rw [ev, hr, areStrs_map he]
  rw [show 62 * l.length + 50 = 1 + (62 * l.length + 49) by lia]
  refine go_bind ?_
  show go p w n₀ ann (62 * l.length + 49) _ Q pos s
  rw [show 62 * l.length + 49 = 9 + (62 * l.length + 40) by lia]
  refine go_bind ?_
  have hroad : ∀ b, setDisplay .unsure b (l.map fun x => (false, (do let v ← constValue env (.str x); standAt pos; pure v))) = setDisplay .unsure false (l.map fun x => (false, (do let v ← constValue env (.str x); standAt pos; pure v))) := fun b => by cases b <;> rfl
  have fin : ∀ b, go p w n₀ ann (62 * l.length + 40) (setDisplay .unsure b (l.map fun x => (false, (do let v ← constValue env (.str x); standAt pos; pure v)))) Q pos s := fun b => by rw [hroad b]; exact go_display hn hl hlen h
  unfold inMainModule
  rw [hc]
  rw [if_neg (show ¬ ((Value.ref c == Value.none) = true) by simp)]
  refine go_bind (n := 2) (m := 7) ⟨_, ho, ?_⟩
  show go p w n₀ ann 7 _ _ pos s
  split
  · rename_i file _ _
    exact fin (!p.modules.any fun (_, _, m) => m.file == file)
  · exact fin false
end
end Mine
end
section
open PySem PySem.W PySem.Calls PyProof.Rows
namespace Mine
theorem setLeft_of {prog : Program} {w : World} {l : List Str} {k : Nat} {h : Heap} {a : Addr} (ho : h.get? a = some (setLeft w l k)) (hlen : l.length ≤ 30) : h.SetOf (strKind prog w) a (fun x => l.any fun y => x == y) l.length := by
  have hL : Laid' w (setStart w l k).1 (toked l k) := by
    have := addAll_laid w (toked l k) [] (#[], SetTable.fresh 0 0 (!w.params.followText "set-order"), 0) (List.Perm.refl _)
    rw [List.nil_append] at this; exact this
  have hsz : (setStart w l k).1.size = l.length := by rw [hL.size, toked_len]
  have hfit : (setStart w l k).2.1.fits (setStart w l k).1.size = true := addAll_fits w _ _ rfl
  refine ⟨_, _, _, _, ho, ⟨rfl, rfl, rfl⟩, rfl, ?_, ?_, ?_, hfit, hsz⟩
  · intro e he
    obtain ⟨x, hx, rfl⟩ := List.mem_map.mp (hL.mem_iff.mp he)
    exact ⟨⟨x.1, strKind_is _ _ _ _, rfl⟩, rfl⟩
  · intro x
    rw [List.any_eq_true]
    constructor
    · rintro ⟨y, hy, e⟩
      rw [← toked_fst l k] at hy
      obtain ⟨z, hz, rfl⟩ := List.mem_map.mp hy
      exact ⟨_, hL.mem_iff.mpr (List.mem_map_of_mem hz), by rw [beq_iff_eq.mp e]; exact strKind_is _ _ _ _⟩
    · rintro ⟨e, he, hk⟩
      obtain ⟨z, hz, rfl⟩ := List.mem_map.mp (hL.mem_iff.mp he)
      have e' : z.1 = x := (strKind prog w).inj _ _ _ (strKind_is _ _ _ _) hk
      refine ⟨z.1, ?_, by rw [e']; exact beq_self_eq_true _⟩
      rw [← toked_fst l k]
      exact List.mem_map_of_mem hz
  · rw [hsz]; unfold scanBound; lia
noncomputable def oneSigns (l : List Nat) : List Str := l.map fun c => ⟨#[c]⟩
theorem setIs_of {prog : Program} {w : World} {K : Frag} {a : Addr} {l : List Nat} {k : Nat} (hK : K.lookup a = some (setLeft w (oneSigns l) k)) (hlen : l.length ≤ 30) : SetIs prog w K a l := by
  refine ⟨(oneSigns l).length, fun h X => ?_⟩
  have := setLeft_of (prog := prog) (X _ _ hK) (by unfold oneSigns; rw [List.length_map]; exact hlen)
  have e : (fun x : Str => (oneSigns l).any fun y => x == y) = fun k => l.any fun c => k == (⟨#[c]⟩ : PySem.Str) := by
    funext x
    unfold oneSigns
    rw [List.any_map]; rfl
  rw [← e]
  exact this
end Mine
end
section
open PySem PySem.W PySem.Calls PyProof.Rows
open PySem.W.BT (node nil)
namespace Mine
noncomputable section
noncomputable def kh (P : Params) (x : Str) : Int := PyData.keyHash P x
noncomputable abbrev hde (P : Params) (k : Str) (t : Tok) (v : Value) : DictEntry := ⟨kh P k, .str k t, v⟩
noncomputable abbrev hfr (P : Params) (a : Addr) (t : Nat) (x : Str) (i r : Int) : Obj := ⟨(.type "frame"), none, (.dict #[hde P "self" (t + 4) (.ref a), hde P "s" (t + 5) (.str x t), hde P "substring_i" (t + 6) (.int i (t + 2)), hde P "result" (t + 7) (.int r (t + 3))] 4), #[]⟩
noncomputable abbrev ham (P : Params) (t : Nat) (x : Str) (i r : Int) : Obj := ⟨(.type "dict"), none, (.dict #[hde P "s" (t + 9) (.str x t), hde P "substring_i" (t + 11) (.int i (t + 2)), hde P "result" (t + 13) (.int r (t + 3))] 3), #[]⟩
noncomputable def top : List Stmt := PySem.Challenge.pw_is0021_02.main.body
noncomputable def bodyAt (l : List Stmt) (i : Nat) : List Stmt := match l[i]? with
  | some (.ClassDef _ _ _ b ..) => b
  | _ => []
noncomputable def fnAt (l : List Stmt) (i : Nat) : Option Stmt := l[i]?
noncomputable def fnData (f : Option Stmt) (q : Str) (g : Addr) (cl : List (Str × Addr)) (d kd doc pm : Value) (an : Option Addr) (cd ct : Value) (bi : Addr) : Data := match f with
  | some (.FunctionDef n a b _ _ _ sc ..) => .func { name := n, qualname := q, params := a, body := .stmts b, scope := sc, globals := g, closure := cl, defaults := d, kwdefaults := kd, doc := doc, pyModule := pm, annotations := an, code := cd, closureTuple := ct, builtins := bi }
  | _ => .freed
noncomputable def paramsWorld (P : Params) : World := ⟨fun _ _ => 0, P⟩
noncomputable def set0 (P : Params) : Obj := setLeft (paramsWorld P) (oneSigns [97, 101, 105, 111, 117, 121, 224, 226, 232, 233, 234, 235, 238, 239, 244, 249, 251]) 487
noncomputable def set1 (P : Params) : Obj := setLeft (paramsWorld P) (oneSigns [98, 104, 106, 108, 110, 112]) 522
noncomputable def set2 (P : Params) : Obj := setLeft (paramsWorld P) (oneSigns [99, 100, 106, 108, 109, 110, 115, 116]) 535
noncomputable def set3 (P : Params) : Obj := setLeft (paramsWorld P) (oneSigns [97, 105, 111, 115, 117, 232]) 552
noncomputable def o11 : Obj := ⟨(.type "tuple"), none, (.seq #[] 0), #[]⟩
noncomputable def o12 : Obj := ⟨.none, none, (.fields #[]), #[]⟩
noncomputable def o13 : Obj := ⟨(.type "code"), none, (.fields #[(.str "<module>" 182), (.str "<module>" 183), (.str "/claim/cut.py" 184), (.int 1 0), (.int 0 0), (.int 0 0), (.int 0 0), (.int 0 0), (.ref 11), (.bool false), (.int 181 0), (.ref 12), .none, .none, .none, .none, (.int 185 0), (.int 1 0), (.str "/claim/cut.py" 186)]), #[]⟩
noncomputable def o14 : Obj := ⟨(.type "frame"), none, .plain, #[(some (.ref 13)), (some (.ref 3)), (some (.ref 3)), none, (some (.str "__main__" 164)), none, (some (.ref 0))]⟩
noncomputable abbrev lf (o : Obj) : BT := node o nil nil
noncomputable def HP (P : Params) : BT := (node (boot_o_0 P) (node (boot_o_1 P) (node (boot_o_3 P) (lf (boot_o_7 P)) (lf o11)) (node (boot_o_5 P) (lf (boot_o_9 P)) (lf o13))) (node (boot_o_2 P) (node (boot_o_4 P) (lf (boot_o_8 P)) (lf o12)) (node (boot_o_6 P) (lf (boot_o_10 P)) (lf o14))))
noncomputable def o3HA (P : Params) : Obj := ⟨(.type "dict"), none, (.dict #[(hde P "__name__" 165 (.str "snowballstemmer.french_stemmer" 473)), (hde P "__doc__" 166 .none), (hde P "__package__" 167 .none), (hde P "__loader__" 168 (.builtin "__main__.__loader__#opaque")), (hde P "__spec__" 169 .none), (hde P "__annotations__" 170 (.ref 6)), (hde P "__builtins__" 171 (.ref 4)), (hde P "__file__" 173 (.str "/claim/cut.py" 172)), (hde P "__cached__" 174 .none), (hde P "_wall" 193 (.ref 21)), (hde P "BaseStemmer" 437 (.ref 199)), (hde P "Among" 472 (.ref 220))] 12), #[]⟩
noncomputable def o12HA : Obj := ⟨.none, none, (.fields #[(.int 1 0), (.int 0 0), (.ref 20), (.int 5 0), (.int 0 0), (.ref 27), (.int 211 0), (.int 0 0), (.ref 209)]), #[]⟩
noncomputable def o17 : Obj := ⟨(.type "tuple"), none, (.seq #[(.str "k" 190)] 0), #[]⟩
noncomputable def o19 : Obj := ⟨.none, none, (fnData (fnAt top 0) "_wall" 0 [] .none .none .none .none none .none .none 0), #[]⟩
noncomputable def o20 : Obj := ⟨(.type "code"), none, (.fields #[(.str "_wall" 187), (.str "_wall" 188), (.str "/claim/cut.py" 189), (.int 1 0), (.int 1 0), (.int 0 0), (.int 0 0), (.int 3 0), (.ref 15), (.bool true), (.int 181 0), (.ref 16), .none, (.ref 17), (.ref 18), (.ref 19), (.int 191 0), (.int 1 0), (.str "/claim/cut.py" 192)]), #[]⟩
noncomputable def o21 : Obj := ⟨(.type "function"), none, (fnData (fnAt top 0) "_wall" 3 [] .none .none .none (.str "__main__" 164) none (.ref 20) .none 0), #[]⟩
noncomputable def o23 : Obj := ⟨(.type "builtin_function_or_method"), none, (.fields #[(.builtin "type.__prepare__"), (.type "type")]), #[]⟩
noncomputable def o24 (P : Params) : Obj := ⟨(.type "dict"), none, (.dict #[(hde P "__module__" 203 (.str "snowballstemmer.basestemmer" 194)), (hde P "__qualname__" 205 (.str "BaseStemmer" 204)), (hde P "__firstlineno__" 207 (.int 5 206)), (hde P "__init__" 214 (.ref 35)), (hde P "set_current" 222 (.ref 42)), (hde P "get_current" 229 (.ref 49)), (hde P "copy_from" 237 (.ref 56)), (hde P "in_grouping" 245 (.ref 63)), (hde P "go_in_grouping" 253 (.ref 70)), (hde P "in_grouping_b" 261 (.ref 77)), (hde P "go_in_grouping_b" 269 (.ref 84)), (hde P "out_grouping" 277 (.ref 91)), (hde P "go_out_grouping" 285 (.ref 98)), (hde P "out_grouping_b" 293 (.ref 105)), (hde P "go_out_grouping_b" 301 (.ref 112)), (hde P "eq_s" 309 (.ref 119)), (hde P "eq_s_b" 317 (.ref 126)), (hde P "find_among" 337 (.ref 133)), (hde P "find_among_b" 357 (.ref 140)), (hde P "replace_s" 368 (.ref 147)), (hde P "slice_from" 376 (.ref 154)), (hde P "slice_del" 383 (.ref 161)), (hde P "insert" 393 (.ref 168)), (hde P "slice_to" 400 (.ref 175)), (hde P "assign_to" 407 (.ref 182)), (hde P "stemWord" 415 (.ref 189)), (hde P "stemWords" 423 (.ref 196)), (hde P "__static_attributes__" 430 (.ref 197))] 28), #[]⟩
noncomputable def o26 : Obj := ⟨.none, none, (.fields #[(.int 7 0), (.int 4 0), (.ref 34), (.int 10 0), (.int 4 0), (.ref 41), (.int 18 0), (.int 4 0), (.ref 48), (.int 21 0), (.int 4 0), (.ref 55), (.int 24 0), (.int 4 0), (.ref 62), (.int 32 0), (.int 4 0), (.ref 69), (.int 39 0), (.int 4 0), (.ref 76), (.int 47 0), (.int 4 0), (.ref 83), (.int 50 0), (.int 4 0), (.ref 90), (.int 53 0), (.int 4 0), (.ref 97), (.int 60 0), (.int 4 0), (.ref 104), (.int 68 0), (.int 4 0), (.ref 111), (.int 71 0), (.int 4 0), (.ref 118), (.int 77 0), (.int 4 0), (.ref 125), (.int 83 0), (.int 4 0), (.ref 132), (.int 128 0), (.int 4 0), (.ref 139), (.int 173 0), (.int 4 0), (.ref 146), (.int 183 0), (.int 4 0), (.ref 153), (.int 191 0), (.int 4 0), (.ref 160), (.int 194 0), (.int 4 0), (.ref 167), (.int 197 0), (.int 4 0), (.ref 174), (.int 200 0), (.int 4 0), (.ref 181), (.int 203 0), (.int 4 0), (.ref 188), (.int 208 0), (.int 4 0), (.ref 195)]), #[]⟩
noncomputable def o27 : Obj := ⟨(.type "code"), none, (.fields #[(.str "BaseStemmer" 198), (.str "BaseStemmer" 199), (.str "/claim/cut.py" 200), (.int 5 0), (.int 0 0), (.int 0 0), (.int 0 0), (.int 0 0), (.ref 25), (.bool false), (.int 181 0), (.ref 26), .none, .none, .none, .none, (.int 201 0), (.int 5 0), (.str "/claim/cut.py" 202)]), #[]⟩
noncomputable def o28 : Obj := ⟨(.type "frame"), none, .plain, #[(some (.ref 27)), (some (.ref 3)), (some (.ref 24)), none, (some (.str "snowballstemmer.basestemmer" 194)), none, (some (.ref 0))]⟩
noncomputable def o31 : Obj := ⟨(.type "tuple"), none, (.seq #[(.str "self" 211)] 0), #[]⟩
noncomputable def o33 : Obj := ⟨.none, none, (fnData (fnAt (bodyAt top 2) 0) "BaseStemmer.__init__" 0 [] .none .none .none .none none .none .none 0), #[]⟩
noncomputable def o34 : Obj := ⟨(.type "code"), none, (.fields #[(.str "__init__" 208), (.str "BaseStemmer.__init__" 209), (.str "/claim/cut.py" 210), (.int 7 0), (.int 1 0), (.int 0 0), (.int 0 0), (.int 3 0), (.ref 29), (.bool true), (.int 181 0), (.ref 30), .none, (.ref 31), (.ref 32), (.ref 33), (.int 212 0), (.int 7 0), (.str "/claim/cut.py" 213)]), #[]⟩
noncomputable def o35 : Obj := ⟨(.type "function"), none, (fnData (fnAt (bodyAt top 2) 0) "BaseStemmer.__init__" 3 [] .none .none .none (.str "snowballstemmer.basestemmer" 194) none (.ref 34) .none 0), #[]⟩
noncomputable def o38 : Obj := ⟨(.type "tuple"), none, (.seq #[(.str "self" 218), (.str "value" 219)] 0), #[]⟩
noncomputable def o40 : Obj := ⟨.none, none, (fnData (fnAt (bodyAt top 2) 1) "BaseStemmer.set_current" 0 [] .none .none .none .none none .none .none 0), #[]⟩
noncomputable def o41 : Obj := ⟨(.type "code"), none, (.fields #[(.str "set_current" 215), (.str "BaseStemmer.set_current" 216), (.str "/claim/cut.py" 217), (.int 10 0), (.int 2 0), (.int 0 0), (.int 0 0), (.int 3 0), (.ref 36), (.bool true), (.int 181 0), (.ref 37), .none, (.ref 38), (.ref 39), (.ref 40), (.int 220 0), (.int 10 0), (.str "/claim/cut.py" 221)]), #[]⟩
noncomputable def o42 : Obj := ⟨(.type "function"), none, (fnData (fnAt (bodyAt top 2) 1) "BaseStemmer.set_current" 3 [] .none .none .none (.str "snowballstemmer.basestemmer" 194) none (.ref 41) .none 0), #[]⟩
noncomputable def o45 : Obj := ⟨(.type "tuple"), none, (.seq #[(.str "self" 226)] 0), #[]⟩
noncomputable def o47 : Obj := ⟨.none, none, (fnData (fnAt (bodyAt top 2) 2) "BaseStemmer.get_current" 0 [] .none .none .none .none none .none .none 0), #[]⟩
noncomputable def o48 : Obj := ⟨(.type "code"), none, (.fields #[(.str "get_current" 223), (.str "BaseStemmer.get_current" 224), (.str "/claim/cut.py" 225), (.int 18 0), (.int 1 0), (.int 0 0), (.int 0 0), (.int 3 0), (.ref 43), (.bool true), (.int 181 0), (.ref 44), .none, (.ref 45), (.ref 46), (.ref 47), (.int 227 0), (.int 18 0), (.str "/claim/cut.py" 228)]), #[]⟩
noncomputable def o49 : Obj := ⟨(.type "function"), none, (fnData (fnAt (bodyAt top 2) 2) "BaseStemmer.get_current" 3 [] .none .none .none (.str "snowballstemmer.basestemmer" 194) none (.ref 48) .none 0), #[]⟩
noncomputable def o52 : Obj := ⟨(.type "tuple"), none, (.seq #[(.str "self" 233), (.str "other" 234)] 0), #[]⟩
noncomputable def o54 : Obj := ⟨.none, none, (fnData (fnAt (bodyAt top 2) 3) "BaseStemmer.copy_from" 0 [] .none .none .none .none none .none .none 0), #[]⟩
noncomputable def o55 : Obj := ⟨(.type "code"), none, (.fields #[(.str "copy_from" 230), (.str "BaseStemmer.copy_from" 231), (.str "/claim/cut.py" 232), (.int 21 0), (.int 2 0), (.int 0 0), (.int 0 0), (.int 3 0), (.ref 50), (.bool true), (.int 181 0), (.ref 51), .none, (.ref 52), (.ref 53), (.ref 54), (.int 235 0), (.int 21 0), (.str "/claim/cut.py" 236)]), #[]⟩
noncomputable def o56 : Obj := ⟨(.type "function"), none, (fnData (fnAt (bodyAt top 2) 3) "BaseStemmer.copy_from" 3 [] .none .none .none (.str "snowballstemmer.basestemmer" 194) none (.ref 55) .none 0), #[]⟩
noncomputable def o59 : Obj := ⟨(.type "tuple"), none, (.seq #[(.str "self" 241), (.str "s" 242)] 0), #[]⟩
noncomputable def o61 : Obj := ⟨.none, none, (fnData (fnAt (bodyAt top 2) 4) "BaseStemmer.in_grouping" 0 [] .none .none .none .none none .none .none 0), #[]⟩
noncomputable def o62 : Obj := ⟨(.type "code"), none, (.fields #[(.str "in_grouping" 238), (.str "BaseStemmer.in_grouping" 239), (.str "/claim/cut.py" 240), (.int 24 0), (.int 2 0), (.int 0 0), (.int 0 0), (.int 3 0), (.ref 57), (.bool true), (.int 181 0), (.ref 58), .none, (.ref 59), (.ref 60), (.ref 61), (.int 243 0), (.int 24 0), (.str "/claim/cut.py" 244)]), #[]⟩
noncomputable def o63 : Obj := ⟨(.type "function"), none, (fnData (fnAt (bodyAt top 2) 4) "BaseStemmer.in_grouping" 3 [] .none .none .none (.str "snowballstemmer.basestemmer" 194) none (.ref 62) .none 0), #[]⟩
noncomputable def o66 : Obj := ⟨(.type "tuple"), none, (.seq #[(.str "self" 249), (.str "s" 250)] 0), #[]⟩
noncomputable def o68 : Obj := ⟨.none, none, (fnData (fnAt (bodyAt top 2) 5) "BaseStemmer.go_in_grouping" 0 [] .none .none .none .none none .none .none 0), #[]⟩
noncomputable def o69 : Obj := ⟨(.type "code"), none, (.fields #[(.str "go_in_grouping" 246), (.str "BaseStemmer.go_in_grouping" 247), (.str "/claim/cut.py" 248), (.int 32 0), (.int 2 0), (.int 0 0), (.int 0 0), (.int 3 0), (.ref 64), (.bool true), (.int 181 0), (.ref 65), .none, (.ref 66), (.ref 67), (.ref 68), (.int 251 0), (.int 32 0), (.str "/claim/cut.py" 252)]), #[]⟩
noncomputable def o70 : Obj := ⟨(.type "function"), none, (fnData (fnAt (bodyAt top 2) 5) "BaseStemmer.go_in_grouping" 3 [] .none .none .none (.str "snowballstemmer.basestemmer" 194) none (.ref 69) .none 0), #[]⟩
noncomputable def o73 : Obj := ⟨(.type "tuple"), none, (.seq #[(.str "self" 257), (.str "s" 258)] 0), #[]⟩
noncomputable def o75 : Obj := ⟨.none, none, (fnData (fnAt (bodyAt top 2) 6) "BaseStemmer.in_grouping_b" 0 [] .none .none .none .none none .none .none 0), #[]⟩
noncomputable def o76 : Obj := ⟨(.type "code"), none, (.fields #[(.str "in_grouping_b" 254), (.str "BaseStemmer.in_grouping_b" 255), (.str "/claim/cut.py" 256), (.int 39 0), (.int 2 0), (.int 0 0), (.int 0 0), (.int 3 0), (.ref 71), (.bool true), (.int 181 0), (.ref 72), .none, (.ref 73), (.ref 74), (.ref 75), (.int 259 0), (.int 39 0), (.str "/claim/cut.py" 260)]), #[]⟩
noncomputable def o77 : Obj := ⟨(.type "function"), none, (fnData (fnAt (bodyAt top 2) 6) "BaseStemmer.in_grouping_b" 3 [] .none .none .none (.str "snowballstemmer.basestemmer" 194) none (.ref 76) .none 0), #[]⟩
noncomputable def o80 : Obj := ⟨(.type "tuple"), none, (.seq #[(.str "self" 265), (.str "s" 266)] 0), #[]⟩
noncomputable def o82 : Obj := ⟨.none, none, (fnData (fnAt (bodyAt top 2) 7) "BaseStemmer.go_in_grouping_b" 0 [] .none .none .none .none none .none .none 0), #[]⟩
noncomputable def o83 : Obj := ⟨(.type "code"), none, (.fields #[(.str "go_in_grouping_b" 262), (.str "BaseStemmer.go_in_grouping_b" 263), (.str "/claim/cut.py" 264), (.int 47 0), (.int 2 0), (.int 0 0), (.int 0 0), (.int 3 0), (.ref 78), (.bool true), (.int 181 0), (.ref 79), .none, (.ref 80), (.ref 81), (.ref 82), (.int 267 0), (.int 47 0), (.str "/claim/cut.py" 268)]), #[]⟩
noncomputable def o84 : Obj := ⟨(.type "function"), none, (fnData (fnAt (bodyAt top 2) 7) "BaseStemmer.go_in_grouping_b" 3 [] .none .none .none (.str "snowballstemmer.basestemmer" 194) none (.ref 83) .none 0), #[]⟩
noncomputable def o87 : Obj := ⟨(.type "tuple"), none, (.seq #[(.str "self" 273), (.str "s" 274)] 0), #[]⟩
noncomputable def o89 : Obj := ⟨.none, none, (fnData (fnAt (bodyAt top 2) 8) "BaseStemmer.out_grouping" 0 [] .none .none .none .none none .none .none 0), #[]⟩
noncomputable def o90 : Obj := ⟨(.type "code"), none, (.fields #[(.str "out_grouping" 270), (.str "BaseStemmer.out_grouping" 271), (.str "/claim/cut.py" 272), (.int 50 0), (.int 2 0), (.int 0 0), (.int 0 0), (.int 3 0), (.ref 85), (.bool true), (.int 181 0), (.ref 86), .none, (.ref 87), (.ref 88), (.ref 89), (.int 275 0), (.int 50 0), (.str "/claim/cut.py" 276)]), #[]⟩
noncomputable def o91 : Obj := ⟨(.type "function"), none, (fnData (fnAt (bodyAt top 2) 8) "BaseStemmer.out_grouping" 3 [] .none .none .none (.str "snowballstemmer.basestemmer" 194) none (.ref 90) .none 0), #[]⟩
noncomputable def o94 : Obj := ⟨(.type "tuple"), none, (.seq #[(.str "self" 281), (.str "s" 282)] 0), #[]⟩
noncomputable def o96 : Obj := ⟨.none, none, (fnData (fnAt (bodyAt top 2) 9) "BaseStemmer.go_out_grouping" 0 [] .none .none .none .none none .none .none 0), #[]⟩
noncomputable def o97 : Obj := ⟨(.type "code"), none, (.fields #[(.str "go_out_grouping" 278), (.str "BaseStemmer.go_out_grouping" 279), (.str "/claim/cut.py" 280), (.int 53 0), (.int 2 0), (.int 0 0), (.int 0 0), (.int 3 0), (.ref 92), (.bool true), (.int 181 0), (.ref 93), .none, (.ref 94), (.ref 95), (.ref 96), (.int 283 0), (.int 53 0), (.str "/claim/cut.py" 284)]), #[]⟩
noncomputable def o98 : Obj := ⟨(.type "function"), none, (fnData (fnAt (bodyAt top 2) 9) "BaseStemmer.go_out_grouping" 3 [] .none .none .none (.str "snowballstemmer.basestemmer" 194) none (.ref 97) .none 0), #[]⟩
noncomputable def o101 : Obj := ⟨(.type "tuple"), none, (.seq #[(.str "self" 289), (.str "s" 290)] 0), #[]⟩
noncomputable def o103 : Obj := ⟨.none, none, (fnData (fnAt (bodyAt top 2) 10) "BaseStemmer.out_grouping_b" 0 [] .none .none .none .none none .none .none 0), #[]⟩
noncomputable def o104 : Obj := ⟨(.type "code"), none, (.fields #[(.str "out_grouping_b" 286), (.str "BaseStemmer.out_grouping_b" 287), (.str "/claim/cut.py" 288), (.int 60 0), (.int 2 0), (.int 0 0), (.int 0 0), (.int 3 0), (.ref 99), (.bool true), (.int 181 0), (.ref 100), .none, (.ref 101), (.ref 102), (.ref 103), (.int 291 0), (.int 60 0), (.str "/claim/cut.py" 292)]), #[]⟩
noncomputable def o105 : Obj := ⟨(.type "function"), none, (fnData (fnAt (bodyAt top 2) 10) "BaseStemmer.out_grouping_b" 3 [] .none .none .none (.str "snowballstemmer.basestemmer" 194) none (.ref 104) .none 0), #[]⟩
noncomputable def o108 : Obj := ⟨(.type "tuple"), none, (.seq #[(.str "self" 297), (.str "s" 298)] 0), #[]⟩
noncomputable def o110 : Obj := ⟨.none, none, (fnData (fnAt (bodyAt top 2) 11) "BaseStemmer.go_out_grouping_b" 0 [] .none .none .none .none none .none .none 0), #[]⟩
noncomputable def o111 : Obj := ⟨(.type "code"), none, (.fields #[(.str "go_out_grouping_b" 294), (.str "BaseStemmer.go_out_grouping_b" 295), (.str "/claim/cut.py" 296), (.int 68 0), (.int 2 0), (.int 0 0), (.int 0 0), (.int 3 0), (.ref 106), (.bool true), (.int 181 0), (.ref 107), .none, (.ref 108), (.ref 109), (.ref 110), (.int 299 0), (.int 68 0), (.str "/claim/cut.py" 300)]), #[]⟩
noncomputable def o112 : Obj := ⟨(.type "function"), none, (fnData (fnAt (bodyAt top 2) 11) "BaseStemmer.go_out_grouping_b" 3 [] .none .none .none (.str "snowballstemmer.basestemmer" 194) none (.ref 111) .none 0), #[]⟩
noncomputable def o115 : Obj := ⟨(.type "tuple"), none, (.seq #[(.str "self" 305), (.str "s" 306)] 0), #[]⟩
noncomputable def o117 : Obj := ⟨.none, none, (fnData (fnAt (bodyAt top 2) 12) "BaseStemmer.eq_s" 0 [] .none .none .none .none none .none .none 0), #[]⟩
noncomputable def o118 : Obj := ⟨(.type "code"), none, (.fields #[(.str "eq_s" 302), (.str "BaseStemmer.eq_s" 303), (.str "/claim/cut.py" 304), (.int 71 0), (.int 2 0), (.int 0 0), (.int 0 0), (.int 3 0), (.ref 113), (.bool true), (.int 181 0), (.ref 114), .none, (.ref 115), (.ref 116), (.ref 117), (.int 307 0), (.int 71 0), (.str "/claim/cut.py" 308)]), #[]⟩
noncomputable def o119 : Obj := ⟨(.type "function"), none, (fnData (fnAt (bodyAt top 2) 12) "BaseStemmer.eq_s" 3 [] .none .none .none (.str "snowballstemmer.basestemmer" 194) none (.ref 118) .none 0), #[]⟩
noncomputable def o122 : Obj := ⟨(.type "tuple"), none, (.seq #[(.str "self" 313), (.str "s" 314)] 0), #[]⟩
noncomputable def o124 : Obj := ⟨.none, none, (fnData (fnAt (bodyAt top 2) 13) "BaseStemmer.eq_s_b" 0 [] .none .none .none .none none .none .none 0), #[]⟩
noncomputable def o125 : Obj := ⟨(.type "code"), none, (.fields #[(.str "eq_s_b" 310), (.str "BaseStemmer.eq_s_b" 311), (.str "/claim/cut.py" 312), (.int 77 0), (.int 2 0), (.int 0 0), (.int 0 0), (.int 3 0), (.ref 120), (.bool true), (.int 181 0), (.ref 121), .none, (.ref 122), (.ref 123), (.ref 124), (.int 315 0), (.int 77 0), (.str "/claim/cut.py" 316)]), #[]⟩
noncomputable def o126 : Obj := ⟨(.type "function"), none, (fnData (fnAt (bodyAt top 2) 13) "BaseStemmer.eq_s_b" 3 [] .none .none .none (.str "snowballstemmer.basestemmer" 194) none (.ref 125) .none 0), #[]⟩
noncomputable def o129 : Obj := ⟨(.type "tuple"), none, (.seq #[(.str "self" 321), (.str "v" 322), (.str "i" 323), (.str "j" 324), (.str "c" 325), (.str "l" 326), (.str "common_i" 327), (.str "common_j" 328), (.str "first_key_inspected" 329), (.str "k" 330), (.str "diff" 331), (.str "common" 332), (.str "w" 333), (.str "i2" 334)] 0), #[]⟩
noncomputable def o131 : Obj := ⟨.none, none, (fnData (fnAt (bodyAt top 2) 14) "BaseStemmer.find_among" 0 [] .none .none .none .none none .none .none 0), #[]⟩
noncomputable def o132 : Obj := ⟨(.type "code"), none, (.fields #[(.str "find_among" 318), (.str "BaseStemmer.find_among" 319), (.str "/claim/cut.py" 320), (.int 83 0), (.int 2 0), (.int 0 0), (.int 0 0), (.int 3 0), (.ref 127), (.bool true), (.int 181 0), (.ref 128), .none, (.ref 129), (.ref 130), (.ref 131), (.int 335 0), (.int 83 0), (.str "/claim/cut.py" 336)]), #[]⟩
noncomputable def o133 : Obj := ⟨(.type "function"), none, (fnData (fnAt (bodyAt top 2) 14) "BaseStemmer.find_among" 3 [] .none .none .none (.str "snowballstemmer.basestemmer" 194) none (.ref 132) .none 0), #[]⟩
noncomputable def o136 : Obj := ⟨(.type "tuple"), none, (.seq #[(.str "self" 341), (.str "v" 342), (.str "i" 343), (.str "j" 344), (.str "c" 345), (.str "lb" 346), (.str "common_i" 347), (.str "common_j" 348), (.str "first_key_inspected" 349), (.str "k" 350), (.str "diff" 351), (.str "common" 352), (.str "w" 353), (.str "i2" 354)] 0), #[]⟩
noncomputable def o138 : Obj := ⟨.none, none, (fnData (fnAt (bodyAt top 2) 15) "BaseStemmer.find_among_b" 0 [] .none .none .none .none none .none .none 0), #[]⟩
noncomputable def o139 : Obj := ⟨(.type "code"), none, (.fields #[(.str "find_among_b" 338), (.str "BaseStemmer.find_among_b" 339), (.str "/claim/cut.py" 340), (.int 128 0), (.int 2 0), (.int 0 0), (.int 0 0), (.int 3 0), (.ref 134), (.bool true), (.int 181 0), (.ref 135), .none, (.ref 136), (.ref 137), (.ref 138), (.int 355 0), (.int 128 0), (.str "/claim/cut.py" 356)]), #[]⟩
noncomputable def o140 : Obj := ⟨(.type "function"), none, (fnData (fnAt (bodyAt top 2) 15) "BaseStemmer.find_among_b" 3 [] .none .none .none (.str "snowballstemmer.basestemmer" 194) none (.ref 139) .none 0), #[]⟩
noncomputable def o143 : Obj := ⟨(.type "tuple"), none, (.seq #[(.str "self" 361), (.str "c_bra" 362), (.str "c_ket" 363), (.str "s" 364), (.str "adjustment" 365)] 0), #[]⟩
noncomputable def o145 : Obj := ⟨.none, none, (fnData (fnAt (bodyAt top 2) 16) "BaseStemmer.replace_s" 0 [] .none .none .none .none none .none .none 0), #[]⟩
noncomputable def o146 : Obj := ⟨(.type "code"), none, (.fields #[(.str "replace_s" 358), (.str "BaseStemmer.replace_s" 359), (.str "/claim/cut.py" 360), (.int 173 0), (.int 4 0), (.int 0 0), (.int 0 0), (.int 3 0), (.ref 141), (.bool true), (.int 181 0), (.ref 142), .none, (.ref 143), (.ref 144), (.ref 145), (.int 366 0), (.int 173 0), (.str "/claim/cut.py" 367)]), #[]⟩
noncomputable def o147 : Obj := ⟨(.type "function"), none, (fnData (fnAt (bodyAt top 2) 16) "BaseStemmer.replace_s" 3 [] .none .none .none (.str "snowballstemmer.basestemmer" 194) none (.ref 146) .none 0), #[]⟩
noncomputable def o150 : Obj := ⟨(.type "tuple"), none, (.seq #[(.str "self" 372), (.str "s" 373)] 0), #[]⟩
noncomputable def o152 : Obj := ⟨.none, none, (fnData (fnAt (bodyAt top 2) 17) "BaseStemmer.slice_from" 0 [] .none .none .none .none none .none .none 0), #[]⟩
noncomputable def o153 : Obj := ⟨(.type "code"), none, (.fields #[(.str "slice_from" 369), (.str "BaseStemmer.slice_from" 370), (.str "/claim/cut.py" 371), (.int 183 0), (.int 2 0), (.int 0 0), (.int 0 0), (.int 3 0), (.ref 148), (.bool true), (.int 181 0), (.ref 149), .none, (.ref 150), (.ref 151), (.ref 152), (.int 374 0), (.int 183 0), (.str "/claim/cut.py" 375)]), #[]⟩
noncomputable def o154 : Obj := ⟨(.type "function"), none, (fnData (fnAt (bodyAt top 2) 17) "BaseStemmer.slice_from" 3 [] .none .none .none (.str "snowballstemmer.basestemmer" 194) none (.ref 153) .none 0), #[]⟩
noncomputable def o157 : Obj := ⟨(.type "tuple"), none, (.seq #[(.str "self" 380)] 0), #[]⟩
noncomputable def o159 : Obj := ⟨.none, none, (fnData (fnAt (bodyAt top 2) 18) "BaseStemmer.slice_del" 0 [] .none .none .none .none none .none .none 0), #[]⟩
noncomputable def o160 : Obj := ⟨(.type "code"), none, (.fields #[(.str "slice_del" 377), (.str "BaseStemmer.slice_del" 378), (.str "/claim/cut.py" 379), (.int 191 0), (.int 1 0), (.int 0 0), (.int 0 0), (.int 3 0), (.ref 155), (.bool true), (.int 181 0), (.ref 156), .none, (.ref 157), (.ref 158), (.ref 159), (.int 381 0), (.int 191 0), (.str "/claim/cut.py" 382)]), #[]⟩
noncomputable def o161 : Obj := ⟨(.type "function"), none, (fnData (fnAt (bodyAt top 2) 18) "BaseStemmer.slice_del" 3 [] .none .none .none (.str "snowballstemmer.basestemmer" 194) none (.ref 160) .none 0), #[]⟩
noncomputable def o164 : Obj := ⟨(.type "tuple"), none, (.seq #[(.str "self" 387), (.str "c_bra" 388), (.str "c_ket" 389), (.str "s" 390)] 0), #[]⟩
noncomputable def o166 : Obj := ⟨.none, none, (fnData (fnAt (bodyAt top 2) 19) "BaseStemmer.insert" 0 [] .none .none .none .none none .none .none 0), #[]⟩
noncomputable def o167 : Obj := ⟨(.type "code"), none, (.fields #[(.str "insert" 384), (.str "BaseStemmer.insert" 385), (.str "/claim/cut.py" 386), (.int 194 0), (.int 4 0), (.int 0 0), (.int 0 0), (.int 3 0), (.ref 162), (.bool true), (.int 181 0), (.ref 163), .none, (.ref 164), (.ref 165), (.ref 166), (.int 391 0), (.int 194 0), (.str "/claim/cut.py" 392)]), #[]⟩
noncomputable def o168 : Obj := ⟨(.type "function"), none, (fnData (fnAt (bodyAt top 2) 19) "BaseStemmer.insert" 3 [] .none .none .none (.str "snowballstemmer.basestemmer" 194) none (.ref 167) .none 0), #[]⟩
noncomputable def o171 : Obj := ⟨(.type "tuple"), none, (.seq #[(.str "self" 397)] 0), #[]⟩
noncomputable def o173 : Obj := ⟨.none, none, (fnData (fnAt (bodyAt top 2) 20) "BaseStemmer.slice_to" 0 [] .none .none .none .none none .none .none 0), #[]⟩
noncomputable def o174 : Obj := ⟨(.type "code"), none, (.fields #[(.str "slice_to" 394), (.str "BaseStemmer.slice_to" 395), (.str "/claim/cut.py" 396), (.int 197 0), (.int 1 0), (.int 0 0), (.int 0 0), (.int 3 0), (.ref 169), (.bool true), (.int 181 0), (.ref 170), .none, (.ref 171), (.ref 172), (.ref 173), (.int 398 0), (.int 197 0), (.str "/claim/cut.py" 399)]), #[]⟩
noncomputable def o175 : Obj := ⟨(.type "function"), none, (fnData (fnAt (bodyAt top 2) 20) "BaseStemmer.slice_to" 3 [] .none .none .none (.str "snowballstemmer.basestemmer" 194) none (.ref 174) .none 0), #[]⟩
noncomputable def o178 : Obj := ⟨(.type "tuple"), none, (.seq #[(.str "self" 404)] 0), #[]⟩
noncomputable def o180 : Obj := ⟨.none, none, (fnData (fnAt (bodyAt top 2) 21) "BaseStemmer.assign_to" 0 [] .none .none .none .none none .none .none 0), #[]⟩
noncomputable def o181 : Obj := ⟨(.type "code"), none, (.fields #[(.str "assign_to" 401), (.str "BaseStemmer.assign_to" 402), (.str "/claim/cut.py" 403), (.int 200 0), (.int 1 0), (.int 0 0), (.int 0 0), (.int 3 0), (.ref 176), (.bool true), (.int 181 0), (.ref 177), .none, (.ref 178), (.ref 179), (.ref 180), (.int 405 0), (.int 200 0), (.str "/claim/cut.py" 406)]), #[]⟩
noncomputable def o182 : Obj := ⟨(.type "function"), none, (fnData (fnAt (bodyAt top 2) 21) "BaseStemmer.assign_to" 3 [] .none .none .none (.str "snowballstemmer.basestemmer" 194) none (.ref 181) .none 0), #[]⟩
noncomputable def o185 : Obj := ⟨(.type "tuple"), none, (.seq #[(.str "self" 411), (.str "word" 412)] 0), #[]⟩
noncomputable def o187 : Obj := ⟨.none, none, (fnData (fnAt (bodyAt top 2) 22) "BaseStemmer.stemWord" 0 [] .none .none .none .none none .none .none 0), #[]⟩
noncomputable def o188 : Obj := ⟨(.type "code"), none, (.fields #[(.str "stemWord" 408), (.str "BaseStemmer.stemWord" 409), (.str "/claim/cut.py" 410), (.int 203 0), (.int 2 0), (.int 0 0), (.int 0 0), (.int 3 0), (.ref 183), (.bool true), (.int 181 0), (.ref 184), .none, (.ref 185), (.ref 186), (.ref 187), (.int 413 0), (.int 203 0), (.str "/claim/cut.py" 414)]), #[]⟩
noncomputable def o189 : Obj := ⟨(.type "function"), none, (fnData (fnAt (bodyAt top 2) 22) "BaseStemmer.stemWord" 3 [] .none .none .none (.str "snowballstemmer.basestemmer" 194) none (.ref 188) .none 0), #[]⟩
noncomputable def o192 : Obj := ⟨(.type "tuple"), none, (.seq #[(.str "self" 419), (.str "words" 420)] 0), #[]⟩
noncomputable def o194 : Obj := ⟨.none, none, (fnData (fnAt (bodyAt top 2) 23) "BaseStemmer.stemWords" 0 [] .none .none .none .none none .none .none 0), #[]⟩
noncomputable def o195 : Obj := ⟨(.type "code"), none, (.fields #[(.str "stemWords" 416), (.str "BaseStemmer.stemWords" 417), (.str "/claim/cut.py" 418), (.int 208 0), (.int 2 0), (.int 0 0), (.int 0 0), (.int 3 0), (.ref 190), (.bool true), (.int 181 0), (.ref 191), .none, (.ref 192), (.ref 193), (.ref 194), (.int 421 0), (.int 208 0), (.str "/claim/cut.py" 422)]), #[]⟩
noncomputable def o196 : Obj := ⟨(.type "function"), none, (fnData (fnAt (bodyAt top 2) 23) "BaseStemmer.stemWords" 3 [] .none .none .none (.str "snowballstemmer.basestemmer" 194) none (.ref 195) .none 0), #[]⟩
noncomputable def o197 : Obj := ⟨(.type "tuple"), none, (.seq #[(.str "bra" 424), (.str "current" 425), (.str "cursor" 426), (.str "ket" 427), (.str "limit" 428), (.str "limit_backward" 429)] 0), #[]⟩
noncomputable def o198 (P : Params) : Obj := ⟨(.type "dict"), none, (.dict #[(hde P "__module__" 203 (.str "snowballstemmer.basestemmer" 194)), (hde P "__firstlineno__" 207 (.int 5 206)), (hde P "__init__" 214 (.ref 35)), (hde P "set_current" 222 (.ref 42)), (hde P "get_current" 229 (.ref 49)), (hde P "copy_from" 237 (.ref 56)), (hde P "in_grouping" 245 (.ref 63)), (hde P "go_in_grouping" 253 (.ref 70)), (hde P "in_grouping_b" 261 (.ref 77)), (hde P "go_in_grouping_b" 269 (.ref 84)), (hde P "out_grouping" 277 (.ref 91)), (hde P "go_out_grouping" 285 (.ref 98)), (hde P "out_grouping_b" 293 (.ref 105)), (hde P "go_out_grouping_b" 301 (.ref 112)), (hde P "eq_s" 309 (.ref 119)), (hde P "eq_s_b" 317 (.ref 126)), (hde P "find_among" 337 (.ref 133)), (hde P "find_among_b" 357 (.ref 140)), (hde P "replace_s" 368 (.ref 147)), (hde P "slice_from" 376 (.ref 154)), (hde P "slice_del" 383 (.ref 161)), (hde P "insert" 393 (.ref 168)), (hde P "slice_to" 400 (.ref 175)), (hde P "assign_to" 407 (.ref 182)), (hde P "stemWord" 415 (.ref 189)), (hde P "stemWords" 423 (.ref 196)), (hde P "__static_attributes__" 430 (.ref 197)), (hde P "__dict__" 432 (.ref 200)), (hde P "__weakref__" 434 (.ref 201)), (hde P "__doc__" 435 .none)] 4), #[]⟩
noncomputable def o199 : Obj := ⟨(.type "type"), none, (.cls { name := "BaseStemmer", bases := [(.type "object")], mro := [(.ref 199), (.type "object")], ns := 198, qualname := "BaseStemmer", hasDict := true, slotNames := [], subclasses := [], abstract := false, collection := none, hasDel := false }), #[none, none, (some (.str "BaseStemmer" 196)), (some (.str "BaseStemmer" 204)), (some (.builtin "object.__new__")), (some (.bool true))]⟩
noncomputable def o200 : Obj := ⟨(.type "getset_descriptor"), none, (.fields #[(.str "__dict__" 431), (.ref 199), (.builtin "function.__dict__"), (.builtin "function.__dict__#set")]), #[]⟩
noncomputable def o201 : Obj := ⟨(.type "getset_descriptor"), none, (.fields #[(.str "__weakref__" 433), (.ref 199), (.builtin "ExceptionGroup.__weakref__"), .none]), #[]⟩
noncomputable def o202 : Obj := ⟨(.type "super"), none, (.fields #[(.ref 199), (.ref 199), (.ref 199)]), #[]⟩
noncomputable def o203 : Obj := ⟨(.type "builtin_function_or_method"), none, (.fields #[(.builtin "object.__init_subclass__"), (.ref 199)]), #[]⟩
noncomputable def o206 (P : Params) : Obj := ⟨(.type "dict"), none, (.dict #[(hde P "__module__" 447 (.str "snowballstemmer.among" 438)), (hde P "__qualname__" 449 (.str "Among" 448)), (hde P "__firstlineno__" 451 (.int 211 450)), (hde P "__init__" 461 (.ref 217)), (hde P "__static_attributes__" 465 (.ref 218))] 5), #[]⟩
noncomputable def o208 : Obj := ⟨.none, none, (.fields #[(.int 213 0), (.int 4 0), (.ref 216)]), #[]⟩
noncomputable def o209 : Obj := ⟨(.type "code"), none, (.fields #[(.str "Among" 442), (.str "Among" 443), (.str "/claim/cut.py" 444), (.int 211 0), (.int 0 0), (.int 0 0), (.int 0 0), (.int 0 0), (.ref 207), (.bool false), (.int 181 0), (.ref 208), .none, .none, .none, .none, (.int 445 0), (.int 211 0), (.str "/claim/cut.py" 446)]), #[]⟩
noncomputable def o210 : Obj := ⟨(.type "frame"), none, .plain, #[(some (.ref 209)), (some (.ref 3)), (some (.ref 206)), none, (some (.str "snowballstemmer.among" 438)), none, (some (.ref 0))]⟩
noncomputable def o213 : Obj := ⟨(.type "tuple"), none, (.seq #[(.str "self" 455), (.str "s" 456), (.str "substring_i" 457), (.str "result" 458)] 0), #[]⟩
noncomputable def o215 : Obj := ⟨.none, none, (fnData (fnAt (bodyAt top 4) 0) "Among.__init__" 0 [] .none .none .none .none none .none .none 0), #[]⟩
noncomputable def o216 : Obj := ⟨(.type "code"), none, (.fields #[(.str "__init__" 452), (.str "Among.__init__" 453), (.str "/claim/cut.py" 454), (.int 213 0), (.int 4 0), (.int 0 0), (.int 0 0), (.int 3 0), (.ref 211), (.bool true), (.int 181 0), (.ref 212), .none, (.ref 213), (.ref 214), (.ref 215), (.int 459 0), (.int 213 0), (.str "/claim/cut.py" 460)]), #[]⟩
noncomputable def o217 : Obj := ⟨(.type "function"), none, (fnData (fnAt (bodyAt top 4) 0) "Among.__init__" 3 [] .none .none .none (.str "snowballstemmer.among" 438) none (.ref 216) .none 0), #[]⟩
noncomputable def o218 : Obj := ⟨(.type "tuple"), none, (.seq #[(.str "result" 462), (.str "s" 463), (.str "substring_i" 464)] 0), #[]⟩
noncomputable def o219 (P : Params) : Obj := ⟨(.type "dict"), none, (.dict #[(hde P "__module__" 447 (.str "snowballstemmer.among" 438)), (hde P "__firstlineno__" 451 (.int 211 450)), (hde P "__init__" 461 (.ref 217)), (hde P "__static_attributes__" 465 (.ref 218)), (hde P "__dict__" 467 (.ref 221)), (hde P "__weakref__" 469 (.ref 222)), (hde P "__doc__" 470 .none)] 4), #[]⟩
noncomputable def o220 : Obj := ⟨(.type "type"), none, (.cls { name := "Among", bases := [(.type "object")], mro := [(.ref 220), (.type "object")], ns := 219, qualname := "Among", hasDict := true, slotNames := [], subclasses := [], abstract := false, collection := none, hasDel := false }), #[none, none, (some (.str "Among" 440)), (some (.str "Among" 448)), (some (.builtin "object.__new__")), (some (.bool true))]⟩
noncomputable def o221 : Obj := ⟨(.type "getset_descriptor"), none, (.fields #[(.str "__dict__" 466), (.ref 220), (.builtin "function.__dict__"), (.builtin "function.__dict__#set")]), #[]⟩
noncomputable def o222 : Obj := ⟨(.type "getset_descriptor"), none, (.fields #[(.str "__weakref__" 468), (.ref 220), (.builtin "ExceptionGroup.__weakref__"), .none]), #[]⟩
noncomputable def o223 : Obj := ⟨(.type "super"), none, (.fields #[(.ref 220), (.ref 220), (.ref 220)]), #[]⟩
noncomputable def o224 : Obj := ⟨(.type "builtin_function_or_method"), none, (.fields #[(.builtin "object.__init_subclass__"), (.ref 220)]), #[]⟩
noncomputable def hT0 (P : Params) : BT := (node o11 (node o31 (node o63 (lf o11) (lf o12)) (node o11 (lf o159) (lf o223))) (node o47 (node o12 (lf o143) (lf o11)) (node o111 (lf o175) nil)))
noncomputable def hT1 (P : Params) : BT := (node o11 (lf o12) (lf o199))
noncomputable def hT2 (P : Params) : BT := (node o55 (node o87 (lf o11) (lf o215)) (node o119 (lf o11) nil))
noncomputable def hT3 (P : Params) : BT := (node o11 (lf o131) (lf o195))
noncomputable def hT4 (P : Params) : BT := (node o12 (node o83 (lf o147) (lf o11)) (node o115 (lf o11) nil))
noncomputable def hT5 (P : Params) : BT := (node o75 (lf o139) (lf o203))
noncomputable def hT6 (P : Params) : BT := (node o59 (node o91 (lf o11) (lf (o219 P))) (node o11 (lf o187) nil))
noncomputable def hT7 (P : Params) : BT := (node o27 (node o11 (hT5 P) (node o12 (lf o171) nil)) (hT6 P))
noncomputable def hT8 (P : Params) : BT := (node o12 (lf o129) (lf o11))
noncomputable def hT9 (P : Params) : BT := (node o49 (node o11 (lf o145) (lf o209)) (node o11 (lf o12) nil))
noncomputable def hT10 (P : Params) : BT := (node o73 (lf o11) (lf o201))
noncomputable def hT11 (P : Params) : BT := (node o11 (node o89 (lf o153) (lf o217)) (node o12 (lf o185) nil))
noncomputable def hT12 (P : Params) : BT := (node o11 (node o41 (hT10 P) (node o105 (lf o11) nil)) (hT11 P))
noncomputable def hT13 (P : Params) : BT := (node o69 (lf o133) (lf o197))
noncomputable def hT14 (P : Params) : BT := (node o11 (node o11 (lf o12) (lf o213)) (node o117 (lf o181) nil))
noncomputable def hT15 (P : Params) : BT := (node o11 (node o45 (node o77 (lf o11) (lf o23)) (node o11 (lf o173) nil)) (node o61 (node o12 (lf o157) (lf o221)) (node o125 (lf o189) nil)))
noncomputable def hT16 (P : Params) : BT := (node o12 (node o11 (node o11 (lf o12) (lf o192)) (node o96 (lf o160) (lf o224))) (node o48 (node o80 (lf o11) (lf o208)) (node o112 (lf o11) nil)))
noncomputable def hT17 (P : Params) : BT := (node o12 (lf o136) (lf o200))
noncomputable def hT18 (P : Params) : BT := (node o56 (node o11 (lf o152) (lf o216)) (node o11 (lf o12) nil))
noncomputable def hT19 (P : Params) : BT := (node (boot_o_8 P) (hT16 P) (node (o24 P) (node o40 (hT17 P) (node o104 (lf o168) nil)) (hT18 P)))
noncomputable def hT20 (P : Params) : BT := (node o68 (lf o132) (lf o196))
noncomputable def hT21 (P : Params) : BT := (node o52 (node o84 (lf o11) (lf o12)) (node o11 (lf o180) nil))
noncomputable def hT22 (P : Params) : BT := (node o28 (node o12 (node o76 (lf o140) (lf o11)) (node o108 (lf o11) nil)) (node o11 (node o11 (lf o12) (lf o220)) (node o124 (lf o188) nil)))
noncomputable def hT23 (P : Params) : BT := (node o66 (lf o11) (lf o194))
noncomputable def hT24 (P : Params) : BT := (node o11 (node o82 (lf o146) (lf o210)) (node o12 (lf o178) nil))
noncomputable def hT25 (P : Params) : BT := (node o11 (lf o138) (lf o202))
noncomputable def hT26 (P : Params) : BT := (node o12 (node o90 (lf o154) (lf o218)) (node o122 (lf o11) nil))
noncomputable def hT27 (P : Params) : BT := (node o26 (node o42 (hT25 P) (node o11 (lf o12) nil)) (hT26 P))
noncomputable def hT28 (P : Params) : BT := (node o70 (lf o11) (lf (o198 P)))
noncomputable def hT29 (P : Params) : BT := (node o54 (node o12 (lf o150) (lf o11)) (node o118 (lf o182) nil))
noncomputable def hT30 (P : Params) : BT := (node o12 (node o11 (node o11 (lf o12) (lf (o206 P))) (node o110 (lf o174) nil)) (node o62 (node o94 (lf o11) (lf o222)) (node o126 (lf o11) nil)))
noncomputable def HA (P : Params) : BT := (node (boot_o_0 P) (node (boot_o_1 P) (node (o3HA P) (node (boot_o_7 P) (hT0 P) (node o23 (node o11 (hT1 P) (node o103 (lf o167) nil)) (hT2 P))) (node o11 (node o19 (node o35 (hT3 P) (node o11 (lf o12) nil)) (hT4 P)) (hT7 P))) (node (boot_o_5 P) (node (boot_o_9 P) (node o17 (node o33 (hT8 P) (node o97 (lf o161) nil)) (hT9 P)) (hT12 P)) (node o13 (node o21 (node o12 (hT13 P) (node o101 (lf o11) nil)) (hT14 P)) (hT15 P)))) (node (boot_o_2 P) (node (boot_o_4 P) (hT19 P) (node o12HA (node o20 (node o11 (hT20 P) (node o12 (lf o164) nil)) (hT21 P)) (hT22 P))) (node (boot_o_6 P) (node (boot_o_10 P) (node o11 (node o34 (hT23 P) (node o98 (lf o11) nil)) (hT24 P)) (hT27 P)) (node o14 (node o11 (node o38 (hT28 P) (node o11 (lf o166) nil)) (hT29 P)) (hT30 P)))))
noncomputable def o12HC0 : Obj := ⟨.none, none, (.fields #[(.int 1 0), (.int 0 0), (.ref 20), (.int 5 0), (.int 0 0), (.ref 27), (.int 211 0), (.int 0 0), (.ref 209), (.int 218 0), (.int 0 0), (.ref 230)]), #[]⟩
noncomputable def o225 : Obj := ⟨(.type "tuple"), none, (.seq #[(.ref 199)] 0), #[]⟩
noncomputable def o227 (P : Params) : Obj := ⟨(.type "dict"), none, (.dict #[(hde P "__module__" 482 (.str "snowballstemmer.french_stemmer" 473)), (hde P "__qualname__" 484 (.str "FrenchStemmer" 483)), (hde P "__firstlineno__" 486 (.int 218 485))] 3), #[]⟩
noncomputable def o230 : Obj := ⟨(.type "code"), none, (.fields #[(.str "FrenchStemmer" 477), (.str "FrenchStemmer" 478), (.str "/claim/cut.py" 479), (.int 218 0), (.int 0 0), (.int 0 0), (.int 0 0), (.int 0 0), (.ref 228), (.bool false), (.int 181 0), (.ref 229), .none, .none, .none, .none, (.int 480 0), (.int 218 0), (.str "/claim/cut.py" 481)]), #[]⟩
noncomputable def o231 : Obj := ⟨(.type "frame"), none, .plain, #[(some (.ref 230)), (some (.ref 3)), (some (.ref 227)), none, (some (.str "snowballstemmer.french_stemmer" 473)), none, (some (.ref 0))]⟩
noncomputable def hT31 (P : Params) : BT := (node (boot_o_7 P) (hT0 P) (node o23 (node o11 (hT1 P) (node o103 (lf o167) (lf o231))) (hT2 P)))
noncomputable def hT32 (P : Params) : BT := (node o17 (node o33 (hT8 P) (node o97 (lf o161) (lf o225))) (hT9 P))
noncomputable def hT33 (P : Params) : BT := (node o13 (node o21 (node o12 (hT13 P) (node o101 (lf o11) (lf o12))) (hT14 P)) (hT15 P))
noncomputable def hT34 (P : Params) : BT := (node (boot_o_5 P) (node (boot_o_9 P) (hT32 P) (hT12 P)) (hT33 P))
noncomputable def hT35 (P : Params) : BT := (node o12HC0 (node o20 (node o11 (hT20 P) (node o12 (lf o164) (lf o11))) (hT21 P)) (hT22 P))
noncomputable def hT36 (P : Params) : BT := (node o11 (node o34 (hT23 P) (node o98 (lf o11) (lf o23))) (hT24 P))
noncomputable def hT37 (P : Params) : BT := (node o14 (node o11 (node o38 (hT28 P) (node o11 (lf o166) (lf o230))) (hT29 P)) (hT30 P))
noncomputable def hT38 (P : Params) : BT := (node (boot_o_6 P) (node (boot_o_10 P) (hT36 P) (hT27 P)) (hT37 P))
noncomputable def HC0 (P : Params) : BT := (node (boot_o_0 P) (node (boot_o_1 P) (node (o3HA P) (hT31 P) (node o11 (node o19 (node o35 (hT3 P) (node o11 (lf o12) (lf (o227 P)))) (hT4 P)) (hT7 P))) (hT34 P)) (node (boot_o_2 P) (node (boot_o_4 P) (hT19 P) (hT35 P)) (hT38 P)))
noncomputable def o227HC1 (P : Params) : Obj := ⟨(.type "dict"), none, (.dict #[(hde P "__module__" 482 (.str "snowballstemmer.french_stemmer" 473)), (hde P "__qualname__" 484 (.str "FrenchStemmer" 483)), (hde P "__firstlineno__" 486 (.int 218 485)), (hde P "g_v" 521 (.ref 232))] 4), #[]⟩
noncomputable def hT39 (P : Params) : BT := (node (boot_o_4 P) (node (boot_o_8 P) (hT16 P) (node (o24 P) (node o40 (hT17 P) (node o104 (lf o168) (lf (set0 P)))) (hT18 P))) (hT35 P))
noncomputable def hT40 (P : Params) : BT := (node (boot_o_2 P) (hT39 P) (hT38 P))
noncomputable def HC1 (P : Params) : BT := (node (boot_o_0 P) (node (boot_o_1 P) (node (o3HA P) (hT31 P) (node o11 (node o19 (node o35 (hT3 P) (node o11 (lf o12) (lf (o227HC1 P)))) (hT4 P)) (hT7 P))) (hT34 P)) (hT40 P))
noncomputable def o227HC2 (P : Params) : Obj := ⟨(.type "dict"), none, (.dict #[(hde P "__module__" 482 (.str "snowballstemmer.french_stemmer" 473)), (hde P "__qualname__" 484 (.str "FrenchStemmer" 483)), (hde P "__firstlineno__" 486 (.int 218 485)), (hde P "g_v" 521 (.ref 232)), (hde P "g_oux_ending" 534 (.ref 233))] 5), #[]⟩
noncomputable def hT41 (P : Params) : BT := (node (boot_o_5 P) (node (boot_o_9 P) (hT32 P) (node o11 (node o41 (hT10 P) (node o105 (lf o11) (lf (set1 P)))) (hT11 P))) (hT33 P))
noncomputable def HC2 (P : Params) : BT := (node (boot_o_0 P) (node (boot_o_1 P) (node (o3HA P) (hT31 P) (node o11 (node o19 (node o35 (hT3 P) (node o11 (lf o12) (lf (o227HC2 P)))) (hT4 P)) (hT7 P))) (hT41 P)) (hT40 P))
noncomputable def o227HC3 (P : Params) : Obj := ⟨(.type "dict"), none, (.dict #[(hde P "__module__" 482 (.str "snowballstemmer.french_stemmer" 473)), (hde P "__qualname__" 484 (.str "FrenchStemmer" 483)), (hde P "__firstlineno__" 486 (.int 218 485)), (hde P "g_v" 521 (.ref 232)), (hde P "g_oux_ending" 534 (.ref 233)), (hde P "g_elision_char" 551 (.ref 234))] 6), #[]⟩
noncomputable def hT42 (P : Params) : BT := (node (boot_o_2 P) (hT39 P) (node (boot_o_6 P) (node (boot_o_10 P) (hT36 P) (node o26 (node o42 (hT25 P) (node o11 (lf o12) (lf (set2 P)))) (hT26 P))) (hT37 P)))
noncomputable def HC3 (P : Params) : BT := (node (boot_o_0 P) (node (boot_o_1 P) (node (o3HA P) (hT31 P) (node o11 (node o19 (node o35 (hT3 P) (node o11 (lf o12) (lf (o227HC3 P)))) (hT4 P)) (hT7 P))) (hT41 P)) (hT42 P))
noncomputable def o227HC4 (P : Params) : Obj := ⟨(.type "dict"), none, (.dict #[(hde P "__module__" 482 (.str "snowballstemmer.french_stemmer" 473)), (hde P "__qualname__" 484 (.str "FrenchStemmer" 483)), (hde P "__firstlineno__" 486 (.int 218 485)), (hde P "g_v" 521 (.ref 232)), (hde P "g_oux_ending" 534 (.ref 233)), (hde P "g_elision_char" 551 (.ref 234)), (hde P "g_keep_with_s" 564 (.ref 235))] 7), #[]⟩
noncomputable def HC4 (P : Params) : BT := (node (boot_o_0 P) (node (boot_o_1 P) (node (o3HA P) (hT31 P) (node o11 (node o19 (node o35 (hT3 P) (node o11 (lf o12) (lf (o227HC4 P)))) (hT4 P)) (node o27 (node o11 (hT5 P) (node o12 (lf o171) (lf (set3 P)))) (hT6 P)))) (hT41 P)) (hT42 P))
noncomputable def o227HC5 (P : Params) : Obj := ⟨(.type "dict"), none, (.dict #[(hde P "__module__" 482 (.str "snowballstemmer.french_stemmer" 473)), (hde P "__qualname__" 484 (.str "FrenchStemmer" 483)), (hde P "__firstlineno__" 486 (.int 218 485)), (hde P "g_v" 521 (.ref 232)), (hde P "g_oux_ending" 534 (.ref 233)), (hde P "g_elision_char" 551 (.ref 234)), (hde P "g_keep_with_s" 564 (.ref 235)), (hde P "I_p2" 566 (.int 0 565)), (hde P "I_p1" 568 (.int 0 567)), (hde P "I_pV" 570 (.int 0 569)), (hde P "r_elisions" 577 (.ref 242)), (hde P "r_prelude" 588 (.ref 249)), (hde P "r_mark_regions" 599 (.ref 256)), (hde P "r_postlude" 608 (.ref 263)), (hde P "r_RV" 615 (.ref 270)), (hde P "r_R1" 622 (.ref 277)), (hde P "r_R2" 629 (.ref 284)), (hde P "r_standard_suffix" 648 (.ref 291)), (hde P "r_i_verb_suffix" 656 (.ref 298)), (hde P "r_verb_suffix" 667 (.ref 305)), (hde P "r_residual_suffix" 678 (.ref 312)), (hde P "r_un_double" 686 (.ref 319)), (hde P "r_un_accent" 694 (.ref 326)), (hde P "_stem" 712 (.ref 333))] 24), #[]⟩
noncomputable def o229HC5 : Obj := ⟨.none, none, (.fields #[(.int 227 0), (.int 4 0), (.ref 241), (.int 248 0), (.int 4 0), (.ref 248), (.int 357 0), (.int 4 0), (.ref 255), (.int 420 0), (.int 4 0), (.ref 262), (.int 450 0), (.int 4 0), (.ref 269), (.int 453 0), (.int 4 0), (.ref 276), (.int 456 0), (.int 4 0), (.ref 283), (.int 459 0), (.int 4 0), (.ref 290), (.int 691 0), (.int 4 0), (.ref 297), (.int 716 0), (.int 4 0), (.ref 304), (.int 767 0), (.int 4 0), (.ref 311), (.int 827 0), (.int 4 0), (.ref 318), (.int 840 0), (.int 4 0), (.ref 325), (.int 870 0), (.int 4 0), (.ref 332)]), #[]⟩
noncomputable def o238 : Obj := ⟨(.type "tuple"), none, (.seq #[(.str "self" 574)] 0), #[]⟩
noncomputable def o240 : Obj := ⟨.none, none, (fnData (fnAt (bodyAt top 6) 7) "FrenchStemmer.r_elisions" 0 [] .none .none .none .none none .none .none 0), #[]⟩
noncomputable def o241 : Obj := ⟨(.type "code"), none, (.fields #[(.str "r_elisions" 571), (.str "FrenchStemmer.r_elisions" 572), (.str "/claim/cut.py" 573), (.int 227 0), (.int 1 0), (.int 0 0), (.int 0 0), (.int 3 0), (.ref 236), (.bool true), (.int 181 0), (.ref 237), .none, (.ref 238), (.ref 239), (.ref 240), (.int 575 0), (.int 227 0), (.str "/claim/cut.py" 576)]), #[]⟩
noncomputable def o242 : Obj := ⟨(.type "function"), none, (fnData (fnAt (bodyAt top 6) 7) "FrenchStemmer.r_elisions" 3 [] .none .none .none (.str "snowballstemmer.french_stemmer" 473) none (.ref 241) .none 0), #[]⟩
noncomputable def o245 : Obj := ⟨(.type "tuple"), none, (.seq #[(.str "self" 581), (.str "v_1" 582), (.str "v_2" 583), (.str "v_3" 584), (.str "v_4" 585)] 0), #[]⟩
noncomputable def o247 : Obj := ⟨.none, none, (fnData (fnAt (bodyAt top 6) 8) "FrenchStemmer.r_prelude" 0 [] .none .none .none .none none .none .none 0), #[]⟩
noncomputable def o248 : Obj := ⟨(.type "code"), none, (.fields #[(.str "r_prelude" 578), (.str "FrenchStemmer.r_prelude" 579), (.str "/claim/cut.py" 580), (.int 248 0), (.int 1 0), (.int 0 0), (.int 0 0), (.int 3 0), (.ref 243), (.bool true), (.int 181 0), (.ref 244), .none, (.ref 245), (.ref 246), (.ref 247), (.int 586 0), (.int 248 0), (.str "/claim/cut.py" 587)]), #[]⟩
noncomputable def o249 : Obj := ⟨(.type "function"), none, (fnData (fnAt (bodyAt top 6) 8) "FrenchStemmer.r_prelude" 3 [] .none .none .none (.str "snowballstemmer.french_stemmer" 473) none (.ref 248) .none 0), #[]⟩
noncomputable def o252 : Obj := ⟨(.type "tuple"), none, (.seq #[(.str "self" 592), (.str "v_1" 593), (.str "v_2" 594), (.str "among_var" 595), (.str "v_3" 596)] 0), #[]⟩
noncomputable def o254 : Obj := ⟨.none, none, (fnData (fnAt (bodyAt top 6) 9) "FrenchStemmer.r_mark_regions" 0 [] .none .none .none .none none .none .none 0), #[]⟩
noncomputable def o255 : Obj := ⟨(.type "code"), none, (.fields #[(.str "r_mark_regions" 589), (.str "FrenchStemmer.r_mark_regions" 590), (.str "/claim/cut.py" 591), (.int 357 0), (.int 1 0), (.int 0 0), (.int 0 0), (.int 3 0), (.ref 250), (.bool true), (.int 181 0), (.ref 251), .none, (.ref 252), (.ref 253), (.ref 254), (.int 597 0), (.int 357 0), (.str "/claim/cut.py" 598)]), #[]⟩
noncomputable def o256 : Obj := ⟨(.type "function"), none, (fnData (fnAt (bodyAt top 6) 9) "FrenchStemmer.r_mark_regions" 3 [] .none .none .none (.str "snowballstemmer.french_stemmer" 473) none (.ref 255) .none 0), #[]⟩
noncomputable def o259 : Obj := ⟨(.type "tuple"), none, (.seq #[(.str "self" 603), (.str "v_1" 604), (.str "among_var" 605)] 0), #[]⟩
noncomputable def o261 : Obj := ⟨.none, none, (fnData (fnAt (bodyAt top 6) 10) "FrenchStemmer.r_postlude" 0 [] .none .none .none .none none .none .none 0), #[]⟩
noncomputable def o262 : Obj := ⟨(.type "code"), none, (.fields #[(.str "r_postlude" 600), (.str "FrenchStemmer.r_postlude" 601), (.str "/claim/cut.py" 602), (.int 420 0), (.int 1 0), (.int 0 0), (.int 0 0), (.int 3 0), (.ref 257), (.bool true), (.int 181 0), (.ref 258), .none, (.ref 259), (.ref 260), (.ref 261), (.int 606 0), (.int 420 0), (.str "/claim/cut.py" 607)]), #[]⟩
noncomputable def o263 : Obj := ⟨(.type "function"), none, (fnData (fnAt (bodyAt top 6) 10) "FrenchStemmer.r_postlude" 3 [] .none .none .none (.str "snowballstemmer.french_stemmer" 473) none (.ref 262) .none 0), #[]⟩
noncomputable def o266 : Obj := ⟨(.type "tuple"), none, (.seq #[(.str "self" 612)] 0), #[]⟩
noncomputable def o268 : Obj := ⟨.none, none, (fnData (fnAt (bodyAt top 6) 11) "FrenchStemmer.r_RV" 0 [] .none .none .none .none none .none .none 0), #[]⟩
noncomputable def o269 : Obj := ⟨(.type "code"), none, (.fields #[(.str "r_RV" 609), (.str "FrenchStemmer.r_RV" 610), (.str "/claim/cut.py" 611), (.int 450 0), (.int 1 0), (.int 0 0), (.int 0 0), (.int 3 0), (.ref 264), (.bool true), (.int 181 0), (.ref 265), .none, (.ref 266), (.ref 267), (.ref 268), (.int 613 0), (.int 450 0), (.str "/claim/cut.py" 614)]), #[]⟩
noncomputable def o270 : Obj := ⟨(.type "function"), none, (fnData (fnAt (bodyAt top 6) 11) "FrenchStemmer.r_RV" 3 [] .none .none .none (.str "snowballstemmer.french_stemmer" 473) none (.ref 269) .none 0), #[]⟩
noncomputable def o273 : Obj := ⟨(.type "tuple"), none, (.seq #[(.str "self" 619)] 0), #[]⟩
noncomputable def o275 : Obj := ⟨.none, none, (fnData (fnAt (bodyAt top 6) 12) "FrenchStemmer.r_R1" 0 [] .none .none .none .none none .none .none 0), #[]⟩
noncomputable def o276 : Obj := ⟨(.type "code"), none, (.fields #[(.str "r_R1" 616), (.str "FrenchStemmer.r_R1" 617), (.str "/claim/cut.py" 618), (.int 453 0), (.int 1 0), (.int 0 0), (.int 0 0), (.int 3 0), (.ref 271), (.bool true), (.int 181 0), (.ref 272), .none, (.ref 273), (.ref 274), (.ref 275), (.int 620 0), (.int 453 0), (.str "/claim/cut.py" 621)]), #[]⟩
noncomputable def o277 : Obj := ⟨(.type "function"), none, (fnData (fnAt (bodyAt top 6) 12) "FrenchStemmer.r_R1" 3 [] .none .none .none (.str "snowballstemmer.french_stemmer" 473) none (.ref 276) .none 0), #[]⟩
noncomputable def o280 : Obj := ⟨(.type "tuple"), none, (.seq #[(.str "self" 626)] 0), #[]⟩
noncomputable def o282 : Obj := ⟨.none, none, (fnData (fnAt (bodyAt top 6) 13) "FrenchStemmer.r_R2" 0 [] .none .none .none .none none .none .none 0), #[]⟩
noncomputable def o283 : Obj := ⟨(.type "code"), none, (.fields #[(.str "r_R2" 623), (.str "FrenchStemmer.r_R2" 624), (.str "/claim/cut.py" 625), (.int 456 0), (.int 1 0), (.int 0 0), (.int 0 0), (.int 3 0), (.ref 278), (.bool true), (.int 181 0), (.ref 279), .none, (.ref 280), (.ref 281), (.ref 282), (.int 627 0), (.int 456 0), (.str "/claim/cut.py" 628)]), #[]⟩
noncomputable def o284 : Obj := ⟨(.type "function"), none, (fnData (fnAt (bodyAt top 6) 13) "FrenchStemmer.r_R2" 3 [] .none .none .none (.str "snowballstemmer.french_stemmer" 473) none (.ref 283) .none 0), #[]⟩
noncomputable def o287 : Obj := ⟨(.type "tuple"), none, (.seq #[(.str "self" 633), (.str "among_var" 634), (.str "v_1" 635), (.str "v_2" 636), (.str "v_3" 637), (.str "v_4" 638), (.str "v_5" 639), (.str "v_6" 640), (.str "v_7" 641), (.str "v_8" 642), (.str "v_9" 643), (.str "v_10" 644), (.str "v_11" 645)] 0), #[]⟩
noncomputable def o289 : Obj := ⟨.none, none, (fnData (fnAt (bodyAt top 6) 14) "FrenchStemmer.r_standard_suffix" 0 [] .none .none .none .none none .none .none 0), #[]⟩
noncomputable def o290 : Obj := ⟨(.type "code"), none, (.fields #[(.str "r_standard_suffix" 630), (.str "FrenchStemmer.r_standard_suffix" 631), (.str "/claim/cut.py" 632), (.int 459 0), (.int 1 0), (.int 0 0), (.int 0 0), (.int 3 0), (.ref 285), (.bool true), (.int 181 0), (.ref 286), .none, (.ref 287), (.ref 288), (.ref 289), (.int 646 0), (.int 459 0), (.str "/claim/cut.py" 647)]), #[]⟩
noncomputable def o291 : Obj := ⟨(.type "function"), none, (fnData (fnAt (bodyAt top 6) 14) "FrenchStemmer.r_standard_suffix" 3 [] .none .none .none (.str "snowballstemmer.french_stemmer" 473) none (.ref 290) .none 0), #[]⟩
noncomputable def o294 : Obj := ⟨(.type "tuple"), none, (.seq #[(.str "self" 652), (.str "v_2" 653)] 0), #[]⟩
noncomputable def o296 : Obj := ⟨.none, none, (fnData (fnAt (bodyAt top 6) 15) "FrenchStemmer.r_i_verb_suffix" 0 [] .none .none .none .none none .none .none 0), #[]⟩
noncomputable def o297 : Obj := ⟨(.type "code"), none, (.fields #[(.str "r_i_verb_suffix" 649), (.str "FrenchStemmer.r_i_verb_suffix" 650), (.str "/claim/cut.py" 651), (.int 691 0), (.int 1 0), (.int 0 0), (.int 0 0), (.int 3 0), (.ref 292), (.bool true), (.int 181 0), (.ref 293), .none, (.ref 294), (.ref 295), (.ref 296), (.int 654 0), (.int 691 0), (.str "/claim/cut.py" 655)]), #[]⟩
noncomputable def o298 : Obj := ⟨(.type "function"), none, (fnData (fnAt (bodyAt top 6) 15) "FrenchStemmer.r_i_verb_suffix" 3 [] .none .none .none (.str "snowballstemmer.french_stemmer" 473) none (.ref 297) .none 0), #[]⟩
noncomputable def o301 : Obj := ⟨(.type "tuple"), none, (.seq #[(.str "self" 660), (.str "v_2" 661), (.str "among_var" 662), (.str "v_3" 663), (.str "v_4" 664)] 0), #[]⟩
noncomputable def o303 : Obj := ⟨.none, none, (fnData (fnAt (bodyAt top 6) 16) "FrenchStemmer.r_verb_suffix" 0 [] .none .none .none .none none .none .none 0), #[]⟩
noncomputable def o304 : Obj := ⟨(.type "code"), none, (.fields #[(.str "r_verb_suffix" 657), (.str "FrenchStemmer.r_verb_suffix" 658), (.str "/claim/cut.py" 659), (.int 716 0), (.int 1 0), (.int 0 0), (.int 0 0), (.int 3 0), (.ref 299), (.bool true), (.int 181 0), (.ref 300), .none, (.ref 301), (.ref 302), (.ref 303), (.int 665 0), (.int 716 0), (.str "/claim/cut.py" 666)]), #[]⟩
noncomputable def o305 : Obj := ⟨(.type "function"), none, (fnData (fnAt (bodyAt top 6) 16) "FrenchStemmer.r_verb_suffix" 3 [] .none .none .none (.str "snowballstemmer.french_stemmer" 473) none (.ref 304) .none 0), #[]⟩
noncomputable def o308 : Obj := ⟨(.type "tuple"), none, (.seq #[(.str "self" 671), (.str "v_1" 672), (.str "v_2" 673), (.str "v_4" 674), (.str "among_var" 675)] 0), #[]⟩
noncomputable def o310 : Obj := ⟨.none, none, (fnData (fnAt (bodyAt top 6) 17) "FrenchStemmer.r_residual_suffix" 0 [] .none .none .none .none none .none .none 0), #[]⟩
noncomputable def o311 : Obj := ⟨(.type "code"), none, (.fields #[(.str "r_residual_suffix" 668), (.str "FrenchStemmer.r_residual_suffix" 669), (.str "/claim/cut.py" 670), (.int 767 0), (.int 1 0), (.int 0 0), (.int 0 0), (.int 3 0), (.ref 306), (.bool true), (.int 181 0), (.ref 307), .none, (.ref 308), (.ref 309), (.ref 310), (.int 676 0), (.int 767 0), (.str "/claim/cut.py" 677)]), #[]⟩
noncomputable def o312 : Obj := ⟨(.type "function"), none, (fnData (fnAt (bodyAt top 6) 17) "FrenchStemmer.r_residual_suffix" 3 [] .none .none .none (.str "snowballstemmer.french_stemmer" 473) none (.ref 311) .none 0), #[]⟩
noncomputable def o315 : Obj := ⟨(.type "tuple"), none, (.seq #[(.str "self" 682), (.str "v_1" 683)] 0), #[]⟩
noncomputable def o317 : Obj := ⟨.none, none, (fnData (fnAt (bodyAt top 6) 18) "FrenchStemmer.r_un_double" 0 [] .none .none .none .none none .none .none 0), #[]⟩
noncomputable def o318 : Obj := ⟨(.type "code"), none, (.fields #[(.str "r_un_double" 679), (.str "FrenchStemmer.r_un_double" 680), (.str "/claim/cut.py" 681), (.int 827 0), (.int 1 0), (.int 0 0), (.int 0 0), (.int 3 0), (.ref 313), (.bool true), (.int 181 0), (.ref 314), .none, (.ref 315), (.ref 316), (.ref 317), (.int 684 0), (.int 827 0), (.str "/claim/cut.py" 685)]), #[]⟩
noncomputable def o319 : Obj := ⟨(.type "function"), none, (fnData (fnAt (bodyAt top 6) 18) "FrenchStemmer.r_un_double" 3 [] .none .none .none (.str "snowballstemmer.french_stemmer" 473) none (.ref 318) .none 0), #[]⟩
noncomputable def o322 : Obj := ⟨(.type "tuple"), none, (.seq #[(.str "self" 690), (.str "v_1" 691)] 0), #[]⟩
noncomputable def o324 : Obj := ⟨.none, none, (fnData (fnAt (bodyAt top 6) 19) "FrenchStemmer.r_un_accent" 0 [] .none .none .none .none none .none .none 0), #[]⟩
noncomputable def o325 : Obj := ⟨(.type "code"), none, (.fields #[(.str "r_un_accent" 687), (.str "FrenchStemmer.r_un_accent" 688), (.str "/claim/cut.py" 689), (.int 840 0), (.int 1 0), (.int 0 0), (.int 0 0), (.int 3 0), (.ref 320), (.bool true), (.int 181 0), (.ref 321), .none, (.ref 322), (.ref 323), (.ref 324), (.int 692 0), (.int 840 0), (.str "/claim/cut.py" 693)]), #[]⟩
noncomputable def o326 : Obj := ⟨(.type "function"), none, (fnData (fnAt (bodyAt top 6) 19) "FrenchStemmer.r_un_accent" 3 [] .none .none .none (.str "snowballstemmer.french_stemmer" 473) none (.ref 325) .none 0), #[]⟩
noncomputable def o329 : Obj := ⟨(.type "tuple"), none, (.seq #[(.str "self" 698), (.str "v_1" 699), (.str "v_2" 700), (.str "v_3" 701), (.str "v_4" 702), (.str "v_5" 703), (.str "v_6" 704), (.str "v_7" 705), (.str "v_8" 706), (.str "v_9" 707), (.str "v_10" 708), (.str "v_11" 709)] 0), #[]⟩
noncomputable def o331 : Obj := ⟨.none, none, (fnData (fnAt (bodyAt top 6) 20) "FrenchStemmer._stem" 0 [] .none .none .none .none none .none .none 0), #[]⟩
noncomputable def o332 : Obj := ⟨(.type "code"), none, (.fields #[(.str "_stem" 695), (.str "FrenchStemmer._stem" 696), (.str "/claim/cut.py" 697), (.int 870 0), (.int 1 0), (.int 0 0), (.int 0 0), (.int 3 0), (.ref 327), (.bool true), (.int 181 0), (.ref 328), .none, (.ref 329), (.ref 330), (.ref 331), (.int 710 0), (.int 870 0), (.str "/claim/cut.py" 711)]), #[]⟩
noncomputable def o333 : Obj := ⟨(.type "function"), none, (fnData (fnAt (bodyAt top 6) 20) "FrenchStemmer._stem" 3 [] .none .none .none (.str "snowballstemmer.french_stemmer" 473) none (.ref 332) .none 0), #[]⟩
noncomputable def HC5 (P : Params) : BT := (node (boot_o_0 P) (node (boot_o_1 P) (node (o3HA P) (node (boot_o_7 P) (node o11 (node o31 (node o63 (node o11 (lf o255) nil) (node o12 (lf o319) nil)) (node o11 (node o159 (lf o287) nil) (lf o223))) (node o47 (node o12 (node o143 (lf o11) nil) (lf o11)) (node o111 (node o175 (lf o303) nil) (lf o11)))) (node o23 (node o11 (node o11 (node o12 (lf o263) nil) (node o199 (lf o11) nil)) (node o103 (node o167 (lf o11) nil) (lf o231))) (node o55 (node o87 (node o11 (lf o12) nil) (lf o215)) (node o119 (node o11 (lf o311) nil) (lf o247))))) (node o11 (node o19 (node o35 (node o11 (node o131 (lf o259) nil) (node o195 (lf o11) nil)) (node o11 (node o12 (lf o291) nil) (lf (o227HC5 P)))) (node o12 (node o83 (node o147 (lf o275) nil) (lf o11)) (node o115 (node o11 (lf o12) nil) (lf o11)))) (node o27 (node o11 (node o75 (node o139 (lf o11) nil) (node o203 (lf o331) nil)) (node o12 (node o171 (lf o11) nil) (lf (set3 P)))) (node o59 (node o91 (node o11 (lf o283) nil) (lf (o219 P))) (node o11 (node o187 (lf o315) nil) (lf o12)))))) (node (boot_o_5 P) (node (boot_o_9 P) (node o17 (node o33 (node o12 (node o129 (lf o11) nil) (node o11 (lf o12) nil)) (node o97 (node o161 (lf o289) nil) (lf o225))) (node o49 (node o11 (node o145 (lf o273) nil) (lf o209)) (node o11 (node o12 (lf o305) nil) (lf o241)))) (node o11 (node o41 (node o73 (node o11 (lf o12) nil) (node o201 (lf o329) nil)) (node o105 (node o11 (lf o297) nil) (lf (set1 P)))) (node o11 (node o89 (node o153 (lf o11) nil) (lf o217)) (node o12 (node o185 (lf o11) nil) (lf o249))))) (node o13 (node o21 (node o12 (node o69 (node o133 (lf o261) nil) (node o197 (lf o325) nil)) (node o101 (node o11 (lf o12) nil) (lf o229HC5))) (node o11 (node o11 (node o12 (lf o277) nil) (lf o213)) (node o117 (node o181 (lf o11) nil) (lf o245)))) (node o11 (node o45 (node o77 (node o11 (lf o269) nil) (node o23 (lf o333) nil)) (node o11 (node o173 (lf o301) nil) (lf o12))) (node o61 (node o12 (node o157 (lf o11) nil) (lf o221)) (node o125 (node o189 (lf o317) nil) (lf o11))))))) (node (boot_o_2 P) (node (boot_o_4 P) (node (boot_o_8 P) (node o12 (node o11 (node o11 (node o12 (lf o256) nil) (node o192 (lf o11) nil)) (node o96 (node o160 (lf o11) nil) (lf o224))) (node o48 (node o80 (node o11 (lf o12) nil) (lf o208)) (node o112 (node o11 (lf o304) nil) (lf o240)))) (node (o24 P) (node o40 (node o12 (node o136 (lf o11) nil) (node o200 (lf o12) nil)) (node o104 (node o168 (lf o296) nil) (lf (set0 P)))) (node o56 (node o11 (node o152 (lf o280) nil) (lf o216)) (node o11 (node o12 (lf o312) nil) (lf o248))))) (node o12HC0 (node o20 (node o11 (node o68 (node o132 (lf o11) nil) (node o196 (lf o324) nil)) (node o12 (node o164 (lf o11) nil) (lf o11))) (node o52 (node o84 (node o11 (lf o276) nil) (lf o12)) (node o11 (node o180 (lf o308) nil) (lf o12)))) (node o28 (node o12 (node o76 (node o140 (lf o268) nil) (node o11 (lf o332) nil)) (node o108 (node o11 (lf o12) nil) (lf o11))) (node o11 (node o11 (node o12 (lf o284) nil) (lf o220)) (node o124 (node o188 (lf o11) nil) (lf o252)))))) (node (boot_o_6 P) (node (boot_o_10 P) (node o11 (node o34 (node o66 (node o11 (lf o12) nil) (node o194 (lf o322) nil)) (node o98 (node o11 (lf o290) nil) (lf o23))) (node o11 (node o82 (node o146 (lf o11) nil) (lf o210)) (node o12 (node o178 (lf o11) nil) (lf o242)))) (node o26 (node o42 (node o11 (node o138 (lf o266) nil) (node o202 (lf o11) nil)) (node o11 (node o12 (lf o298) nil) (lf (set2 P)))) (node o12 (node o90 (node o154 (lf o282) nil) (lf o218)) (node o122 (node o11 (lf o12) nil) (lf o11))))) (node o14 (node o11 (node o38 (node o70 (node o11 (lf o262) nil) (node (o198 P) (lf o326) nil)) (node o11 (node o166 (lf o294) nil) (lf o230))) (node o54 (node o12 (node o150 (lf o11) nil) (lf o11)) (node o118 (node o182 (lf o310) nil) (lf o11)))) (node o12 (node o11 (node o11 (node o12 (lf o270) nil) (lf (o206 P))) (node o110 (node o174 (lf o11) nil) (lf o238))) (node o62 (node o94 (node o11 (lf o12) nil) (lf o222)) (node o126 (node o11 (lf o318) nil) (lf o254))))))))
noncomputable def o227HC6 (P : Params) : Obj := ⟨(.type "dict"), none, (.dict #[(hde P "__module__" 482 (.str "snowballstemmer.french_stemmer" 473)), (hde P "__qualname__" 484 (.str "FrenchStemmer" 483)), (hde P "__firstlineno__" 486 (.int 218 485)), (hde P "g_v" 521 (.ref 232)), (hde P "g_oux_ending" 534 (.ref 233)), (hde P "g_elision_char" 551 (.ref 234)), (hde P "g_keep_with_s" 564 (.ref 235)), (hde P "I_p2" 566 (.int 0 565)), (hde P "I_p1" 568 (.int 0 567)), (hde P "I_pV" 570 (.int 0 569)), (hde P "r_elisions" 577 (.ref 242)), (hde P "r_prelude" 588 (.ref 249)), (hde P "r_mark_regions" 599 (.ref 256)), (hde P "r_postlude" 608 (.ref 263)), (hde P "r_RV" 615 (.ref 270)), (hde P "r_R1" 622 (.ref 277)), (hde P "r_R2" 629 (.ref 284)), (hde P "r_standard_suffix" 648 (.ref 291)), (hde P "r_i_verb_suffix" 656 (.ref 298)), (hde P "r_verb_suffix" 667 (.ref 305)), (hde P "r_residual_suffix" 678 (.ref 312)), (hde P "r_un_double" 686 (.ref 319)), (hde P "r_un_accent" 694 (.ref 326)), (hde P "_stem" 712 (.ref 333)), (hde P "a_0" 772 (.ref 346)), (hde P "a_1" 865 (.ref 368)), (hde P "a_2" 950 (.ref 387)), (hde P "a_3" 993 (.ref 397))] 28), #[]⟩
noncomputable def o334 (P : Params) : Obj := ⟨(.type "dict"), none, (.dict #[(hde P "s" 723 (.str "col" 713)), (hde P "substring_i" 725 (.int (-1) 715)), (hde P "result" 727 (.int (-1) 717))] 3), #[]⟩
noncomputable def o335 : Obj := ⟨(.ref 220), (some 334), .plain, #[]⟩
noncomputable def o336 (P : Params) : Obj := ⟨(.type "frame"), none, (.dict #[(hde P "self" 718 (.ref 335)), (hde P "s" 719 (.str "col" 713)), (hde P "substring_i" 720 (.int (-1) 715)), (hde P "result" 721 (.int (-1) 717))] 4), #[]⟩
noncomputable def o337 (P : Params) : Obj := ham P 728 "ni" (-1) 1
noncomputable def o338 : Obj := ⟨(.ref 220), (some 337), .plain, #[]⟩
noncomputable def o339 (P : Params) : Obj := hfr P 338 728 "ni" (-1) 1
noncomputable def o340 (P : Params) : Obj := ⟨(.type "dict"), none, (.dict #[(hde P "s" 752 (.str "par" 742)), (hde P "substring_i" 754 (.int (-1) 744)), (hde P "result" 756 (.int (-1) 746))] 3), #[]⟩
noncomputable def o341 : Obj := ⟨(.ref 220), (some 340), .plain, #[]⟩
noncomputable def o342 (P : Params) : Obj := ⟨(.type "frame"), none, (.dict #[(hde P "self" 747 (.ref 341)), (hde P "s" 748 (.str "par" 742)), (hde P "substring_i" 749 (.int (-1) 744)), (hde P "result" 750 (.int (-1) 746))] 4), #[]⟩
noncomputable def o343 (P : Params) : Obj := ⟨(.type "dict"), none, (.dict #[(hde P "s" 767 (.str "tap" 757)), (hde P "substring_i" 769 (.int (-1) 759)), (hde P "result" 771 (.int (-1) 761))] 3), #[]⟩
noncomputable def o344 : Obj := ⟨(.ref 220), (some 343), .plain, #[]⟩
noncomputable def o345 (P : Params) : Obj := ⟨(.type "frame"), none, (.dict #[(hde P "self" 762 (.ref 344)), (hde P "s" 763 (.str "tap" 757)), (hde P "substring_i" 764 (.int (-1) 759)), (hde P "result" 765 (.int (-1) 761))] 4), #[]⟩
noncomputable def o346 : Obj := ⟨(.type "list"), none, (.seq #[(.ref 335), (.ref 338), (.ref 341), (.ref 344)] 0), #[]⟩
noncomputable def o347 (P : Params) : Obj := ham P 773 "" (-1) 7
noncomputable def o348 : Obj := ⟨(.ref 220), (some 347), .plain, #[]⟩
noncomputable def o349 (P : Params) : Obj := hfr P 348 773 "" (-1) 7
noncomputable def o350 (P : Params) : Obj := ⟨(.type "dict"), none, (.dict #[(hde P "s" 795 (.str "H" 787)), (hde P "substring_i" 797 (.int 0 788)), (hde P "result" 799 (.int 6 789))] 3), #[]⟩
noncomputable def o351 : Obj := ⟨(.ref 220), (some 350), .plain, #[]⟩
noncomputable def o352 (P : Params) : Obj := ⟨(.type "frame"), none, (.dict #[(hde P "self" 790 (.ref 351)), (hde P "s" 791 (.str "H" 787)), (hde P "substring_i" 792 (.int 0 788)), (hde P "result" 793 (.int 6 789))] 4), #[]⟩
noncomputable def o353 (P : Params) : Obj := ⟨(.type "dict"), none, (.dict #[(hde P "s" 808 (.str "He" 800)), (hde P "substring_i" 810 (.int 1 801)), (hde P "result" 812 (.int 4 802))] 3), #[]⟩
noncomputable def o354 : Obj := ⟨(.ref 220), (some 353), .plain, #[]⟩
noncomputable def o355 (P : Params) : Obj := ⟨(.type "frame"), none, (.dict #[(hde P "self" 803 (.ref 354)), (hde P "s" 804 (.str "He" 800)), (hde P "substring_i" 805 (.int 1 801)), (hde P "result" 806 (.int 4 802))] 4), #[]⟩
noncomputable def o356 (P : Params) : Obj := ⟨(.type "dict"), none, (.dict #[(hde P "s" 821 (.str "Hi" 813)), (hde P "substring_i" 823 (.int 1 814)), (hde P "result" 825 (.int 5 815))] 3), #[]⟩
noncomputable def o357 : Obj := ⟨(.ref 220), (some 356), .plain, #[]⟩
noncomputable def o358 (P : Params) : Obj := ⟨(.type "frame"), none, (.dict #[(hde P "self" 816 (.ref 357)), (hde P "s" 817 (.str "Hi" 813)), (hde P "substring_i" 818 (.int 1 814)), (hde P "result" 819 (.int 5 815))] 4), #[]⟩
noncomputable def o359 (P : Params) : Obj := ⟨(.type "dict"), none, (.dict #[(hde P "s" 834 (.str "I" 826)), (hde P "substring_i" 836 (.int 0 827)), (hde P "result" 838 (.int 1 828))] 3), #[]⟩
noncomputable def o360 : Obj := ⟨(.ref 220), (some 359), .plain, #[]⟩
noncomputable def o361 (P : Params) : Obj := ⟨(.type "frame"), none, (.dict #[(hde P "self" 829 (.ref 360)), (hde P "s" 830 (.str "I" 826)), (hde P "substring_i" 831 (.int 0 827)), (hde P "result" 832 (.int 1 828))] 4), #[]⟩
noncomputable def o362 (P : Params) : Obj := ⟨(.type "dict"), none, (.dict #[(hde P "s" 847 (.str "U" 839)), (hde P "substring_i" 849 (.int 0 840)), (hde P "result" 851 (.int 2 841))] 3), #[]⟩
noncomputable def o363 : Obj := ⟨(.ref 220), (some 362), .plain, #[]⟩
noncomputable def o364 (P : Params) : Obj := ⟨(.type "frame"), none, (.dict #[(hde P "self" 842 (.ref 363)), (hde P "s" 843 (.str "U" 839)), (hde P "substring_i" 844 (.int 0 840)), (hde P "result" 845 (.int 2 841))] 4), #[]⟩
noncomputable def o365 (P : Params) : Obj := ⟨(.type "dict"), none, (.dict #[(hde P "s" 860 (.str "Y" 852)), (hde P "substring_i" 862 (.int 0 853)), (hde P "result" 864 (.int 3 854))] 3), #[]⟩
noncomputable def o366 : Obj := ⟨(.ref 220), (some 365), .plain, #[]⟩
noncomputable def o367 (P : Params) : Obj := ⟨(.type "frame"), none, (.dict #[(hde P "self" 855 (.ref 366)), (hde P "s" 856 (.str "Y" 852)), (hde P "substring_i" 857 (.int 0 853)), (hde P "result" 858 (.int 3 854))] 4), #[]⟩
noncomputable def o368 : Obj := ⟨(.type "list"), none, (.seq #[(.ref 348), (.ref 351), (.ref 354), (.ref 357), (.ref 360), (.ref 363), (.ref 366)] 0), #[]⟩
noncomputable def o369 (P : Params) : Obj := ham P 866 "iqU" (-1) 3
noncomputable def o370 : Obj := ⟨(.ref 220), (some 369), .plain, #[]⟩
noncomputable def o371 (P : Params) : Obj := hfr P 370 866 "iqU" (-1) 3
noncomputable def o372 (P : Params) : Obj := ham P 880 "abl" (-1) 3
noncomputable def o373 : Obj := ⟨(.ref 220), (some 372), .plain, #[]⟩
noncomputable def o374 (P : Params) : Obj := hfr P 373 880 "abl" (-1) 3
noncomputable def o375 (P : Params) : Obj := ham P 894 "Ièr" (-1) 4
noncomputable def o376 : Obj := ⟨(.ref 220), (some 375), .plain, #[]⟩
noncomputable def o377 (P : Params) : Obj := hfr P 376 894 "Ièr" (-1) 4
noncomputable def o378 (P : Params) : Obj := ham P 908 "ièr" (-1) 4
noncomputable def o379 : Obj := ⟨(.ref 220), (some 378), .plain, #[]⟩
noncomputable def o380 (P : Params) : Obj := hfr P 379 908 "ièr" (-1) 4
noncomputable def o381 (P : Params) : Obj := ham P 922 "eus" (-1) 2
noncomputable def o382 : Obj := ⟨(.ref 220), (some 381), .plain, #[]⟩
noncomputable def o383 (P : Params) : Obj := hfr P 382 922 "eus" (-1) 2
noncomputable def o384 (P : Params) : Obj := ham P 936 "iv" (-1) 1
noncomputable def o385 : Obj := ⟨(.ref 220), (some 384), .plain, #[]⟩
noncomputable def o386 (P : Params) : Obj := hfr P 385 936 "iv" (-1) 1
noncomputable def o387 : Obj := ⟨(.type "list"), none, (.seq #[(.ref 370), (.ref 373), (.ref 376), (.ref 379), (.ref 382), (.ref 385)] 0), #[]⟩
noncomputable def o388 (P : Params) : Obj := ham P 951 "ic" (-1) 2
noncomputable def o389 : Obj := ⟨(.ref 220), (some 388), .plain, #[]⟩
noncomputable def o390 (P : Params) : Obj := hfr P 389 951 "ic" (-1) 2
noncomputable def o391 (P : Params) : Obj := ham P 965 "abil" (-1) 1
noncomputable def o392 : Obj := ⟨(.ref 220), (some 391), .plain, #[]⟩
noncomputable def o393 (P : Params) : Obj := hfr P 392 965 "abil" (-1) 1
noncomputable def o394 (P : Params) : Obj := ham P 979 "iv" (-1) 3
noncomputable def o395 : Obj := ⟨(.ref 220), (some 394), .plain, #[]⟩
noncomputable def o396 (P : Params) : Obj := hfr P 395 979 "iv" (-1) 3
noncomputable def o397 : Obj := ⟨(.type "list"), none, (.seq #[(.ref 389), (.ref 392), (.ref 395)] 0), #[]⟩
noncomputable def HC6 (P : Params) : BT := (node (boot_o_0 P) (node (boot_o_1 P) (node (o3HA P) (node (boot_o_7 P) (node o11 (node o31 (node o63 (node o11 (lf o255) (lf (o383 P))) (node o12 (lf o319) nil)) (node o11 (node o159 (lf o287) nil) (node o223 (lf o351) nil))) (node o47 (node o12 (node o143 (lf o11) nil) (node o11 (lf o335) nil)) (node o111 (node o175 (lf o303) nil) (node o11 (lf (o367 P)) nil)))) (node o23 (node o11 (node o11 (node o12 (lf o263) (lf (o391 P))) (node o199 (lf o11) nil)) (node o103 (node o167 (lf o11) nil) (node o231 (lf (o359 P)) nil))) (node o55 (node o87 (node o11 (lf o12) nil) (node o215 (lf (o343 P)) nil)) (node o119 (node o11 (lf o311) nil) (node o247 (lf (o375 P)) nil))))) (node o11 (node o19 (node o35 (node o11 (node o131 (lf o259) (lf o387)) (node o195 (lf o11) nil)) (node o11 (node o12 (lf o291) nil) (node (o227HC6 P) (lf (o355 P)) nil))) (node o12 (node o83 (node o147 (lf o275) nil) (node o11 (lf (o339 P)) nil)) (node o115 (node o11 (lf o12) nil) (node o11 (lf (o371 P)) nil)))) (node o27 (node o11 (node o75 (node o139 (lf o11) (lf o395)) (node o203 (lf o331) nil)) (node o12 (node o171 (lf o11) nil) (node (set3 P) (lf o363) nil))) (node o59 (node o91 (node o11 (lf o283) nil) (node (o219 P) (lf (o347 P)) nil)) (node o11 (node o187 (lf o315) nil) (node o12 (lf o379) nil)))))) (node (boot_o_5 P) (node (boot_o_9 P) (node o17 (node o33 (node o12 (node o129 (lf o11) (lf o385)) (node o11 (lf o12) nil)) (node o97 (node o161 (lf o289) nil) (node o225 (lf (o353 P)) nil))) (node o49 (node o11 (node o145 (lf o273) nil) (node o209 (lf (o337 P)) nil)) (node o11 (node o12 (lf o305) nil) (node o241 (lf (o369 P)) nil)))) (node o11 (node o41 (node o73 (node o11 (lf o12) (lf (o393 P))) (node o201 (lf o329) nil)) (node o105 (node o11 (lf o297) nil) (node (set1 P) (lf (o361 P)) nil))) (node o11 (node o89 (node o153 (lf o11) nil) (node o217 (lf (o345 P)) nil)) (node o12 (node o185 (lf o11) nil) (node o249 (lf (o377 P)) nil))))) (node o13 (node o21 (node o12 (node o69 (node o133 (lf o261) (lf o389)) (node o197 (lf o325) nil)) (node o101 (node o11 (lf o12) nil) (node o229HC5 (lf o357) nil))) (node o11 (node o11 (node o12 (lf o277) nil) (node o213 (lf o341) nil)) (node o117 (node o181 (lf o11) nil) (node o245 (lf o373) nil)))) (node o11 (node o45 (node o77 (node o11 (lf o269) (lf o397)) (node o23 (lf o333) nil)) (node o11 (node o173 (lf o301) nil) (node o12 (lf (o365 P)) nil))) (node o61 (node o12 (node o157 (lf o11) nil) (node o221 (lf (o349 P)) nil)) (node o125 (node o189 (lf o317) nil) (node o11 (lf (o381 P)) nil))))))) (node (boot_o_2 P) (node (boot_o_4 P) (node (boot_o_8 P) (node o12 (node o11 (node o11 (node o12 (lf o256) (lf (o384 P))) (node o192 (lf o11) nil)) (node o96 (node o160 (lf o11) nil) (node o224 (lf (o352 P)) nil))) (node o48 (node o80 (node o11 (lf o12) nil) (node o208 (lf (o336 P)) nil)) (node o112 (node o11 (lf o304) nil) (node o240 (lf o368) nil)))) (node (o24 P) (node o40 (node o12 (node o136 (lf o11) (lf o392)) (node o200 (lf o12) nil)) (node o104 (node o168 (lf o296) nil) (node (set0 P) (lf o360) nil))) (node o56 (node o11 (node o152 (lf o280) nil) (node o216 (lf o344) nil)) (node o11 (node o12 (lf o312) nil) (node o248 (lf o376) nil))))) (node o12HC0 (node o20 (node o11 (node o68 (node o132 (lf o11) (lf (o388 P))) (node o196 (lf o324) nil)) (node o12 (node o164 (lf o11) nil) (node o11 (lf (o356 P)) nil))) (node o52 (node o84 (node o11 (lf o276) nil) (node o12 (lf (o340 P)) nil)) (node o11 (node o180 (lf o308) nil) (node o12 (lf (o372 P)) nil)))) (node o28 (node o12 (node o76 (node o140 (lf o268) (lf (o396 P))) (node o11 (lf o332) nil)) (node o108 (node o11 (lf o12) nil) (node o11 (lf (o364 P)) nil))) (node o11 (node o11 (node o12 (lf o284) nil) (node o220 (lf o348) nil)) (node o124 (node o188 (lf o11) nil) (node o252 (lf (o380 P)) nil)))))) (node (boot_o_6 P) (node (boot_o_10 P) (node o11 (node o34 (node o66 (node o11 (lf o12) (lf (o386 P))) (node o194 (lf o322) nil)) (node o98 (node o11 (lf o290) nil) (node o23 (lf o354) nil))) (node o11 (node o82 (node o146 (lf o11) nil) (node o210 (lf o338) nil)) (node o12 (node o178 (lf o11) nil) (node o242 (lf o370) nil)))) (node o26 (node o42 (node o11 (node o138 (lf o266) (lf (o394 P))) (node o202 (lf o11) nil)) (node o11 (node o12 (lf o298) nil) (node (set2 P) (lf (o362 P)) nil))) (node o12 (node o90 (node o154 (lf o282) nil) (node o218 (lf o346) nil)) (node o122 (node o11 (lf o12) nil) (node o11 (lf (o378 P)) nil))))) (node o14 (node o11 (node o38 (node o70 (node o11 (lf o262) (lf (o390 P))) (node (o198 P) (lf o326) nil)) (node o11 (node o166 (lf o294) nil) (node o230 (lf (o358 P)) nil))) (node o54 (node o12 (node o150 (lf o11) nil) (node o11 (lf (o342 P)) nil)) (node o118 (node o182 (lf o310) nil) (node o11 (lf (o374 P)) nil)))) (node o12 (node o11 (node o11 (node o12 (lf o270) nil) (node (o206 P) (lf (o334 P)) nil)) (node o110 (node o174 (lf o11) nil) (node o238 (lf o366) nil))) (node o62 (node o94 (node o11 (lf o12) nil) (node o222 (lf (o350 P)) nil)) (node o126 (node o11 (lf o318) nil) (node o254 (lf o382) nil))))))))
noncomputable def o227HC7 (P : Params) : Obj := ⟨(.type "dict"), none, (.dict #[(hde P "__module__" 482 (.str "snowballstemmer.french_stemmer" 473)), (hde P "__qualname__" 484 (.str "FrenchStemmer" 483)), (hde P "__firstlineno__" 486 (.int 218 485)), (hde P "g_v" 521 (.ref 232)), (hde P "g_oux_ending" 534 (.ref 233)), (hde P "g_elision_char" 551 (.ref 234)), (hde P "g_keep_with_s" 564 (.ref 235)), (hde P "I_p2" 566 (.int 0 565)), (hde P "I_p1" 568 (.int 0 567)), (hde P "I_pV" 570 (.int 0 569)), (hde P "r_elisions" 577 (.ref 242)), (hde P "r_prelude" 588 (.ref 249)), (hde P "r_mark_regions" 599 (.ref 256)), (hde P "r_postlude" 608 (.ref 263)), (hde P "r_RV" 615 (.ref 270)), (hde P "r_R1" 622 (.ref 277)), (hde P "r_R2" 629 (.ref 284)), (hde P "r_standard_suffix" 648 (.ref 291)), (hde P "r_i_verb_suffix" 656 (.ref 298)), (hde P "r_verb_suffix" 667 (.ref 305)), (hde P "r_residual_suffix" 678 (.ref 312)), (hde P "r_un_double" 686 (.ref 319)), (hde P "r_un_accent" 694 (.ref 326)), (hde P "_stem" 712 (.ref 333)), (hde P "a_0" 772 (.ref 346)), (hde P "a_1" 865 (.ref 368)), (hde P "a_2" 950 (.ref 387)), (hde P "a_3" 993 (.ref 397)), (hde P "a_4" 1603 (.ref 530))] 29), #[]⟩
noncomputable def o398 (P : Params) : Obj := ham P 994 "iqUe" (-1) 1
noncomputable def o399 : Obj := ⟨(.ref 220), (some 398), .plain, #[]⟩
noncomputable def o400 (P : Params) : Obj := hfr P 399 994 "iqUe" (-1) 1
noncomputable def o401 (P : Params) : Obj := ham P 1008 "atrice" (-1) 2
noncomputable def o402 : Obj := ⟨(.ref 220), (some 401), .plain, #[]⟩
noncomputable def o403 (P : Params) : Obj := hfr P 402 1008 "atrice" (-1) 2
noncomputable def o404 (P : Params) : Obj := ham P 1022 "ance" (-1) 1
noncomputable def o405 : Obj := ⟨(.ref 220), (some 404), .plain, #[]⟩
noncomputable def o406 (P : Params) : Obj := hfr P 405 1022 "ance" (-1) 1
noncomputable def o407 (P : Params) : Obj := ham P 1036 "ence" (-1) 5
noncomputable def o408 : Obj := ⟨(.ref 220), (some 407), .plain, #[]⟩
noncomputable def o409 (P : Params) : Obj := hfr P 408 1036 "ence" (-1) 5
noncomputable def o410 (P : Params) : Obj := ham P 1050 "logie" (-1) 3
noncomputable def o411 : Obj := ⟨(.ref 220), (some 410), .plain, #[]⟩
noncomputable def o412 (P : Params) : Obj := hfr P 411 1050 "logie" (-1) 3
noncomputable def o413 (P : Params) : Obj := ham P 1064 "able" (-1) 1
noncomputable def o414 : Obj := ⟨(.ref 220), (some 413), .plain, #[]⟩
noncomputable def o415 (P : Params) : Obj := hfr P 414 1064 "able" (-1) 1
noncomputable def o416 (P : Params) : Obj := ham P 1078 "isme" (-1) 1
noncomputable def o417 : Obj := ⟨(.ref 220), (some 416), .plain, #[]⟩
noncomputable def o418 (P : Params) : Obj := hfr P 417 1078 "isme" (-1) 1
noncomputable def o419 (P : Params) : Obj := ham P 1092 "euse" (-1) 12
noncomputable def o420 : Obj := ⟨(.ref 220), (some 419), .plain, #[]⟩
noncomputable def o421 (P : Params) : Obj := hfr P 420 1092 "euse" (-1) 12
noncomputable def o422 (P : Params) : Obj := ham P 1106 "iste" (-1) 1
noncomputable def o423 : Obj := ⟨(.ref 220), (some 422), .plain, #[]⟩
noncomputable def o424 (P : Params) : Obj := hfr P 423 1106 "iste" (-1) 1
noncomputable def o425 (P : Params) : Obj := ham P 1120 "ive" (-1) 8
noncomputable def o426 : Obj := ⟨(.ref 220), (some 425), .plain, #[]⟩
noncomputable def o427 (P : Params) : Obj := hfr P 426 1120 "ive" (-1) 8
noncomputable def o428 (P : Params) : Obj := ham P 1134 "if" (-1) 8
noncomputable def o429 : Obj := ⟨(.ref 220), (some 428), .plain, #[]⟩
noncomputable def o430 (P : Params) : Obj := hfr P 429 1134 "if" (-1) 8
noncomputable def o431 (P : Params) : Obj := ham P 1148 "usion" (-1) 4
noncomputable def o432 : Obj := ⟨(.ref 220), (some 431), .plain, #[]⟩
noncomputable def o433 (P : Params) : Obj := hfr P 432 1148 "usion" (-1) 4
noncomputable def o434 (P : Params) : Obj := ham P 1162 "ation" (-1) 2
noncomputable def o435 : Obj := ⟨(.ref 220), (some 434), .plain, #[]⟩
noncomputable def o436 (P : Params) : Obj := hfr P 435 1162 "ation" (-1) 2
noncomputable def o437 (P : Params) : Obj := ham P 1176 "ution" (-1) 4
noncomputable def o438 : Obj := ⟨(.ref 220), (some 437), .plain, #[]⟩
noncomputable def o439 (P : Params) : Obj := hfr P 438 1176 "ution" (-1) 4
noncomputable def o440 (P : Params) : Obj := ham P 1190 "ateur" (-1) 2
noncomputable def o441 : Obj := ⟨(.ref 220), (some 440), .plain, #[]⟩
noncomputable def o442 (P : Params) : Obj := hfr P 441 1190 "ateur" (-1) 2
noncomputable def o443 (P : Params) : Obj := ham P 1204 "iqUes" (-1) 1
noncomputable def o444 : Obj := ⟨(.ref 220), (some 443), .plain, #[]⟩
noncomputable def o445 (P : Params) : Obj := hfr P 444 1204 "iqUes" (-1) 1
noncomputable def o446 (P : Params) : Obj := ham P 1218 "atrices" (-1) 2
noncomputable def o447 : Obj := ⟨(.ref 220), (some 446), .plain, #[]⟩
noncomputable def o448 (P : Params) : Obj := hfr P 447 1218 "atrices" (-1) 2
noncomputable def o449 (P : Params) : Obj := ham P 1232 "ances" (-1) 1
noncomputable def o450 : Obj := ⟨(.ref 220), (some 449), .plain, #[]⟩
noncomputable def o451 (P : Params) : Obj := hfr P 450 1232 "ances" (-1) 1
noncomputable def o452 (P : Params) : Obj := ham P 1246 "ences" (-1) 5
noncomputable def o453 : Obj := ⟨(.ref 220), (some 452), .plain, #[]⟩
noncomputable def o454 (P : Params) : Obj := hfr P 453 1246 "ences" (-1) 5
noncomputable def o455 (P : Params) : Obj := ham P 1260 "logies" (-1) 3
noncomputable def o456 : Obj := ⟨(.ref 220), (some 455), .plain, #[]⟩
noncomputable def o457 (P : Params) : Obj := hfr P 456 1260 "logies" (-1) 3
noncomputable def o458 (P : Params) : Obj := ham P 1274 "ables" (-1) 1
noncomputable def o459 : Obj := ⟨(.ref 220), (some 458), .plain, #[]⟩
noncomputable def o460 (P : Params) : Obj := hfr P 459 1274 "ables" (-1) 1
noncomputable def o461 (P : Params) : Obj := ham P 1288 "ismes" (-1) 1
noncomputable def o462 : Obj := ⟨(.ref 220), (some 461), .plain, #[]⟩
noncomputable def o463 (P : Params) : Obj := hfr P 462 1288 "ismes" (-1) 1
noncomputable def o464 (P : Params) : Obj := ham P 1302 "euses" (-1) 12
noncomputable def o465 : Obj := ⟨(.ref 220), (some 464), .plain, #[]⟩
noncomputable def o466 (P : Params) : Obj := hfr P 465 1302 "euses" (-1) 12
noncomputable def o467 (P : Params) : Obj := ham P 1316 "istes" (-1) 1
noncomputable def o468 : Obj := ⟨(.ref 220), (some 467), .plain, #[]⟩
noncomputable def o469 (P : Params) : Obj := hfr P 468 1316 "istes" (-1) 1
noncomputable def o470 (P : Params) : Obj := ham P 1330 "ives" (-1) 8
noncomputable def o471 : Obj := ⟨(.ref 220), (some 470), .plain, #[]⟩
noncomputable def o472 (P : Params) : Obj := hfr P 471 1330 "ives" (-1) 8
noncomputable def o473 (P : Params) : Obj := ham P 1344 "ifs" (-1) 8
noncomputable def o474 : Obj := ⟨(.ref 220), (some 473), .plain, #[]⟩
noncomputable def o475 (P : Params) : Obj := hfr P 474 1344 "ifs" (-1) 8
noncomputable def o476 (P : Params) : Obj := ham P 1358 "usions" (-1) 4
noncomputable def o477 : Obj := ⟨(.ref 220), (some 476), .plain, #[]⟩
noncomputable def o478 (P : Params) : Obj := hfr P 477 1358 "usions" (-1) 4
noncomputable def o479 (P : Params) : Obj := ham P 1372 "ations" (-1) 2
noncomputable def o480 : Obj := ⟨(.ref 220), (some 479), .plain, #[]⟩
noncomputable def o481 (P : Params) : Obj := hfr P 480 1372 "ations" (-1) 2
noncomputable def o482 (P : Params) : Obj := ham P 1386 "utions" (-1) 4
noncomputable def o483 : Obj := ⟨(.ref 220), (some 482), .plain, #[]⟩
noncomputable def o484 (P : Params) : Obj := hfr P 483 1386 "utions" (-1) 4
noncomputable def o485 (P : Params) : Obj := ham P 1400 "ateurs" (-1) 2
noncomputable def o486 : Obj := ⟨(.ref 220), (some 485), .plain, #[]⟩
noncomputable def o487 (P : Params) : Obj := hfr P 486 1400 "ateurs" (-1) 2
noncomputable def o488 (P : Params) : Obj := ham P 1414 "ments" (-1) 16
noncomputable def o489 : Obj := ⟨(.ref 220), (some 488), .plain, #[]⟩
noncomputable def o490 (P : Params) : Obj := hfr P 489 1414 "ments" (-1) 16
noncomputable def o491 (P : Params) : Obj := ⟨(.type "dict"), none, (.dict #[(hde P "s" 1436 (.str "ements" 1428)), (hde P "substring_i" 1438 (.int 30 1429)), (hde P "result" 1440 (.int 6 1430))] 3), #[]⟩
noncomputable def o492 : Obj := ⟨(.ref 220), (some 491), .plain, #[]⟩
noncomputable def o493 (P : Params) : Obj := ⟨(.type "frame"), none, (.dict #[(hde P "self" 1431 (.ref 492)), (hde P "s" 1432 (.str "ements" 1428)), (hde P "substring_i" 1433 (.int 30 1429)), (hde P "result" 1434 (.int 6 1430))] 4), #[]⟩
noncomputable def o494 (P : Params) : Obj := ⟨(.type "dict"), none, (.dict #[(hde P "s" 1449 (.str "issements" 1441)), (hde P "substring_i" 1451 (.int 31 1442)), (hde P "result" 1453 (.int 13 1443))] 3), #[]⟩
noncomputable def o495 : Obj := ⟨(.ref 220), (some 494), .plain, #[]⟩
noncomputable def o496 (P : Params) : Obj := ⟨(.type "frame"), none, (.dict #[(hde P "self" 1444 (.ref 495)), (hde P "s" 1445 (.str "issements" 1441)), (hde P "substring_i" 1446 (.int 31 1442)), (hde P "result" 1447 (.int 13 1443))] 4), #[]⟩
noncomputable def o497 (P : Params) : Obj := ham P 1454 "ités" (-1) 7
noncomputable def o498 : Obj := ⟨(.ref 220), (some 497), .plain, #[]⟩
noncomputable def o499 (P : Params) : Obj := hfr P 498 1454 "ités" (-1) 7
noncomputable def o500 (P : Params) : Obj := ham P 1468 "ment" (-1) 16
noncomputable def o501 : Obj := ⟨(.ref 220), (some 500), .plain, #[]⟩
noncomputable def o502 (P : Params) : Obj := hfr P 501 1468 "ment" (-1) 16
noncomputable def o503 (P : Params) : Obj := ⟨(.type "dict"), none, (.dict #[(hde P "s" 1490 (.str "ement" 1482)), (hde P "substring_i" 1492 (.int 34 1483)), (hde P "result" 1494 (.int 6 1484))] 3), #[]⟩
noncomputable def o504 : Obj := ⟨(.ref 220), (some 503), .plain, #[]⟩
noncomputable def o505 (P : Params) : Obj := ⟨(.type "frame"), none, (.dict #[(hde P "self" 1485 (.ref 504)), (hde P "s" 1486 (.str "ement" 1482)), (hde P "substring_i" 1487 (.int 34 1483)), (hde P "result" 1488 (.int 6 1484))] 4), #[]⟩
noncomputable def o506 (P : Params) : Obj := ⟨(.type "dict"), none, (.dict #[(hde P "s" 1503 (.str "issement" 1495)), (hde P "substring_i" 1505 (.int 35 1496)), (hde P "result" 1507 (.int 13 1497))] 3), #[]⟩
noncomputable def o507 : Obj := ⟨(.ref 220), (some 506), .plain, #[]⟩
noncomputable def o508 (P : Params) : Obj := ⟨(.type "frame"), none, (.dict #[(hde P "self" 1498 (.ref 507)), (hde P "s" 1499 (.str "issement" 1495)), (hde P "substring_i" 1500 (.int 35 1496)), (hde P "result" 1501 (.int 13 1497))] 4), #[]⟩
noncomputable def o509 (P : Params) : Obj := ⟨(.type "dict"), none, (.dict #[(hde P "s" 1516 (.str "amment" 1508)), (hde P "substring_i" 1518 (.int 34 1509)), (hde P "result" 1520 (.int 14 1510))] 3), #[]⟩
noncomputable def o510 : Obj := ⟨(.ref 220), (some 509), .plain, #[]⟩
noncomputable def o511 (P : Params) : Obj := ⟨(.type "frame"), none, (.dict #[(hde P "self" 1511 (.ref 510)), (hde P "s" 1512 (.str "amment" 1508)), (hde P "substring_i" 1513 (.int 34 1509)), (hde P "result" 1514 (.int 14 1510))] 4), #[]⟩
noncomputable def o512 (P : Params) : Obj := ⟨(.type "dict"), none, (.dict #[(hde P "s" 1529 (.str "emment" 1521)), (hde P "substring_i" 1531 (.int 34 1522)), (hde P "result" 1533 (.int 15 1523))] 3), #[]⟩
noncomputable def o513 : Obj := ⟨(.ref 220), (some 512), .plain, #[]⟩
noncomputable def o514 (P : Params) : Obj := ⟨(.type "frame"), none, (.dict #[(hde P "self" 1524 (.ref 513)), (hde P "s" 1525 (.str "emment" 1521)), (hde P "substring_i" 1526 (.int 34 1522)), (hde P "result" 1527 (.int 15 1523))] 4), #[]⟩
noncomputable def o515 (P : Params) : Obj := ham P 1534 "aux" (-1) 10
noncomputable def o516 : Obj := ⟨(.ref 220), (some 515), .plain, #[]⟩
noncomputable def o517 (P : Params) : Obj := hfr P 516 1534 "aux" (-1) 10
noncomputable def o518 (P : Params) : Obj := ⟨(.type "dict"), none, (.dict #[(hde P "s" 1556 (.str "eaux" 1548)), (hde P "substring_i" 1558 (.int 39 1549)), (hde P "result" 1560 (.int 9 1550))] 3), #[]⟩
noncomputable def o519 : Obj := ⟨(.ref 220), (some 518), .plain, #[]⟩
noncomputable def o520 (P : Params) : Obj := ⟨(.type "frame"), none, (.dict #[(hde P "self" 1551 (.ref 519)), (hde P "s" 1552 (.str "eaux" 1548)), (hde P "substring_i" 1553 (.int 39 1549)), (hde P "result" 1554 (.int 9 1550))] 4), #[]⟩
noncomputable def o521 (P : Params) : Obj := ham P 1561 "eux" (-1) 1
noncomputable def o522 : Obj := ⟨(.ref 220), (some 521), .plain, #[]⟩
noncomputable def o523 (P : Params) : Obj := hfr P 522 1561 "eux" (-1) 1
noncomputable def o524 (P : Params) : Obj := ham P 1575 "oux" (-1) 11
noncomputable def o525 : Obj := ⟨(.ref 220), (some 524), .plain, #[]⟩
noncomputable def o526 (P : Params) : Obj := hfr P 525 1575 "oux" (-1) 11
noncomputable def o527 (P : Params) : Obj := ham P 1589 "ité" (-1) 7
noncomputable def o528 : Obj := ⟨(.ref 220), (some 527), .plain, #[]⟩
noncomputable def o529 (P : Params) : Obj := hfr P 528 1589 "ité" (-1) 7
noncomputable def o530 : Obj := ⟨(.type "list"), none, (.seq #[(.ref 399), (.ref 402), (.ref 405), (.ref 408), (.ref 411), (.ref 414), (.ref 417), (.ref 420), (.ref 423), (.ref 426), (.ref 429), (.ref 432), (.ref 435), (.ref 438), (.ref 441), (.ref 444), (.ref 447), (.ref 450), (.ref 453), (.ref 456), (.ref 459), (.ref 462), (.ref 465), (.ref 468), (.ref 471), (.ref 474), (.ref 477), (.ref 480), (.ref 483), (.ref 486), (.ref 489), (.ref 492), (.ref 495), (.ref 498), (.ref 501), (.ref 504), (.ref 507), (.ref 510), (.ref 513), (.ref 516), (.ref 519), (.ref 522), (.ref 525), (.ref 528)] 0), #[]⟩
noncomputable def hT43 (P : Params) : BT := (node o11 (node o255 (lf (o511 P)) nil) (lf (o383 P)))
noncomputable def hT44 (P : Params) : BT := (node o143 (node o11 (lf (o527 P)) nil) (lf o399))
noncomputable def hT45 (P : Params) : BT := (node o12 (node o263 (lf o519) nil) (lf (o391 P)))
noncomputable def hT46 (P : Params) : BT := (node o131 (node o259 (lf (o515 P)) nil) (lf o387))
noncomputable def hT47 (P : Params) : BT := (node o139 (node o11 (lf (o523 P)) nil) (lf o395))
noncomputable def hT48 (P : Params) : BT := (node o129 (node o11 (lf o513) nil) (lf o385))
noncomputable def hT49 (P : Params) : BT := (node o145 (node o273 (lf (o529 P)) nil) (lf (o401 P)))
noncomputable def hT50 (P : Params) : BT := (node o11 (node o12 (lf (o521 P)) nil) (lf (o393 P)))
noncomputable def hT51 (P : Params) : BT := (node o133 (node o261 (lf (o517 P)) nil) (lf o389))
noncomputable def hT52 (P : Params) : BT := (node o11 (node o269 (lf o525) nil) (lf o397))
noncomputable def hT53 (P : Params) : BT := (node o11 (lf (o381 P)) (lf (o509 P)))
noncomputable def hT54 (P : Params) : BT := (node o12 (node o256 (lf (o512 P)) nil) (lf (o384 P)))
noncomputable def hT55 (P : Params) : BT := (node o11 (node o12 (lf o528) nil) (lf (o400 P)))
noncomputable def hT56 (P : Params) : BT := (node o136 (node o11 (lf (o520 P)) nil) (lf o392))
noncomputable def hT57 (P : Params) : BT := (node o132 (node o11 (lf o516) nil) (lf (o388 P)))
noncomputable def hT58 (P : Params) : BT := (node o140 (node o268 (lf (o524 P)) nil) (lf (o396 P)))
noncomputable def hT59 (P : Params) : BT := (node o11 (node o12 (lf (o514 P)) nil) (lf (o386 P)))
noncomputable def hT60 (P : Params) : BT := (node o146 (node o11 (lf o530) nil) (lf o402))
noncomputable def hT61 (P : Params) : BT := (node o138 (node o266 (lf o522) nil) (lf (o394 P)))
noncomputable def hT62 (P : Params) : BT := (node o11 (node o262 (lf (o518 P)) nil) (lf (o390 P)))
noncomputable def hT63 (P : Params) : BT := (node o12 (node o270 (lf (o526 P)) nil) (lf (o398 P)))
noncomputable def hT64 (P : Params) : BT := (node o254 (lf o382) (lf o510))
noncomputable def HC7 (P : Params) : BT := (node (boot_o_0 P) (node (boot_o_1 P) (node (o3HA P) (node (boot_o_7 P) (node o11 (node o31 (node o63 (hT43 P) (node o12 (lf o319) (lf o447))) (node o11 (node o159 (lf o287) (lf (o415 P))) (node o223 (lf o351) (lf (o479 P))))) (node o47 (node o12 (hT44 P) (node o11 (lf o335) (lf (o463 P)))) (node o111 (node o175 (lf o303) (lf (o431 P))) (node o11 (lf (o367 P)) (lf o495))))) (node o23 (node o11 (node o11 (hT45 P) (node o199 (lf o11) (lf (o455 P)))) (node o103 (node o167 (lf o11) (lf o423)) (node o231 (lf (o359 P)) (lf (o487 P))))) (node o55 (node o87 (node o11 (lf o12) (lf (o407 P))) (node o215 (lf (o343 P)) (lf o471))) (node o119 (node o11 (lf o311) (lf (o439 P))) (node o247 (lf (o375 P)) (lf (o503 P))))))) (node o11 (node o19 (node o35 (node o11 (hT46 P) (node o195 (lf o11) (lf (o451 P)))) (node o11 (node o12 (lf o291) (lf (o419 P))) (node (o227HC7 P) (lf (o355 P)) (lf o483)))) (node o12 (node o83 (node o147 (lf o275) (lf (o403 P))) (node o11 (lf (o339 P)) (lf (o467 P)))) (node o115 (node o11 (lf o12) (lf o435)) (node o11 (lf (o371 P)) (lf (o499 P)))))) (node o27 (node o11 (node o75 (hT47 P) (node o203 (lf o331) (lf o459))) (node o12 (node o171 (lf o11) (lf (o427 P))) (node (set3 P) (lf o363) (lf (o491 P))))) (node o59 (node o91 (node o11 (lf o283) (lf o411)) (node (o219 P) (lf (o347 P)) (lf (o475 P)))) (node o11 (node o187 (lf o315) (lf (o443 P))) (node o12 (lf o379) (lf o507))))))) (node (boot_o_5 P) (node (boot_o_9 P) (node o17 (node o33 (node o12 (hT48 P) (node o11 (lf o12) (lf (o449 P)))) (node o97 (node o161 (lf o289) (lf o417)) (node o225 (lf (o353 P)) (lf (o481 P))))) (node o49 (node o11 (hT49 P) (node o209 (lf (o337 P)) (lf o465))) (node o11 (node o12 (lf o305) (lf (o433 P))) (node o241 (lf (o369 P)) (lf (o497 P)))))) (node o11 (node o41 (node o73 (hT50 P) (node o201 (lf o329) (lf (o457 P)))) (node o105 (node o11 (lf o297) (lf (o425 P))) (node (set1 P) (lf (o361 P)) (lf o489)))) (node o11 (node o89 (node o153 (lf o11) (lf (o409 P))) (node o217 (lf (o345 P)) (lf (o473 P)))) (node o12 (node o185 (lf o11) (lf o441)) (node o249 (lf (o377 P)) (lf (o505 P))))))) (node o13 (node o21 (node o12 (node o69 (hT51 P) (node o197 (lf o325) (lf o453))) (node o101 (node o11 (lf o12) (lf (o421 P))) (node o229HC5 (lf o357) (lf (o485 P))))) (node o11 (node o11 (node o12 (lf o277) (lf o405)) (node o213 (lf o341) (lf (o469 P)))) (node o117 (node o181 (lf o11) (lf (o437 P))) (node o245 (lf o373) (lf o501))))) (node o11 (node o45 (node o77 (hT52 P) (node o23 (lf o333) (lf (o461 P)))) (node o11 (node o173 (lf o301) (lf o429)) (node o12 (lf (o365 P)) (lf (o493 P))))) (node o61 (node o12 (node o157 (lf o11) (lf (o413 P))) (node o221 (lf (o349 P)) (lf o477))) (node o125 (node o189 (lf o317) (lf (o445 P))) (hT53 P))))))) (node (boot_o_2 P) (node (boot_o_4 P) (node (boot_o_8 P) (node o12 (node o11 (node o11 (hT54 P) (node o192 (lf o11) (lf (o448 P)))) (node o96 (node o160 (lf o11) (lf (o416 P))) (node o224 (lf (o352 P)) (lf o480)))) (node o48 (node o80 (hT55 P) (node o208 (lf (o336 P)) (lf (o464 P)))) (node o112 (node o11 (lf o304) (lf o432)) (node o240 (lf o368) (lf (o496 P)))))) (node (o24 P) (node o40 (node o12 (hT56 P) (node o200 (lf o12) (lf o456))) (node o104 (node o168 (lf o296) (lf (o424 P))) (node (set0 P) (lf o360) (lf (o488 P))))) (node o56 (node o11 (node o152 (lf o280) (lf o408)) (node o216 (lf o344) (lf (o472 P)))) (node o11 (node o12 (lf o312) (lf (o440 P))) (node o248 (lf o376) (lf o504)))))) (node o12HC0 (node o20 (node o11 (node o68 (hT57 P) (node o196 (lf o324) (lf (o452 P)))) (node o12 (node o164 (lf o11) (lf o420)) (node o11 (lf (o356 P)) (lf (o484 P))))) (node o52 (node o84 (node o11 (lf o276) (lf (o404 P))) (node o12 (lf (o340 P)) (lf o468))) (node o11 (node o180 (lf o308) (lf (o436 P))) (node o12 (lf (o372 P)) (lf (o500 P)))))) (node o28 (node o12 (node o76 (hT58 P) (node o11 (lf o332) (lf (o460 P)))) (node o108 (node o11 (lf o12) (lf (o428 P))) (node o11 (lf (o364 P)) (lf o492)))) (node o11 (node o11 (node o12 (lf o284) (lf (o412 P))) (node o220 (lf o348) (lf (o476 P)))) (node o124 (node o188 (lf o11) (lf o444)) (node o252 (lf (o380 P)) (lf (o508 P)))))))) (node (boot_o_6 P) (node (boot_o_10 P) (node o11 (node o34 (node o66 (hT59 P) (node o194 (lf o322) (lf o450))) (node o98 (node o11 (lf o290) (lf (o418 P))) (node o23 (lf o354) (lf (o482 P))))) (node o11 (node o82 (hT60 P) (node o210 (lf o338) (lf (o466 P)))) (node o12 (node o178 (lf o11) (lf (o434 P))) (node o242 (lf o370) (lf o498))))) (node o26 (node o42 (node o11 (hT61 P) (node o202 (lf o11) (lf (o458 P)))) (node o11 (node o12 (lf o298) (lf o426)) (node (set2 P) (lf (o362 P)) (lf (o490 P))))) (node o12 (node o90 (node o154 (lf o282) (lf (o410 P))) (node o218 (lf o346) (lf o474))) (node o122 (node o11 (lf o12) (lf (o442 P))) (node o11 (lf (o378 P)) (lf (o506 P))))))) (node o14 (node o11 (node o38 (node o70 (hT62 P) (node (o198 P) (lf o326) (lf (o454 P)))) (node o11 (node o166 (lf o294) (lf (o422 P))) (node o230 (lf (o358 P)) (lf o486)))) (node o54 (node o12 (node o150 (lf o11) (lf (o406 P))) (node o11 (lf (o342 P)) (lf (o470 P)))) (node o118 (node o182 (lf o310) (lf o438)) (node o11 (lf (o374 P)) (lf (o502 P)))))) (node o12 (node o11 (node o11 (hT63 P) (node (o206 P) (lf (o334 P)) (lf o462))) (node o110 (node o174 (lf o11) (lf (o430 P))) (node o238 (lf o366) (lf (o494 P))))) (node o62 (node o94 (node o11 (lf o12) (lf o414)) (node o222 (lf (o350 P)) (lf (o478 P)))) (node o126 (node o11 (lf o318) (lf (o446 P))) (hT64 P))))))))
noncomputable def o227HC8 (P : Params) : Obj := ⟨(.type "dict"), none, (.dict #[(hde P "__module__" 482 (.str "snowballstemmer.french_stemmer" 473)), (hde P "__qualname__" 484 (.str "FrenchStemmer" 483)), (hde P "__firstlineno__" 486 (.int 218 485)), (hde P "g_v" 521 (.ref 232)), (hde P "g_oux_ending" 534 (.ref 233)), (hde P "g_elision_char" 551 (.ref 234)), (hde P "g_keep_with_s" 564 (.ref 235)), (hde P "I_p2" 566 (.int 0 565)), (hde P "I_p1" 568 (.int 0 567)), (hde P "I_pV" 570 (.int 0 569)), (hde P "r_elisions" 577 (.ref 242)), (hde P "r_prelude" 588 (.ref 249)), (hde P "r_mark_regions" 599 (.ref 256)), (hde P "r_postlude" 608 (.ref 263)), (hde P "r_RV" 615 (.ref 270)), (hde P "r_R1" 622 (.ref 277)), (hde P "r_R2" 629 (.ref 284)), (hde P "r_standard_suffix" 648 (.ref 291)), (hde P "r_i_verb_suffix" 656 (.ref 298)), (hde P "r_verb_suffix" 667 (.ref 305)), (hde P "r_residual_suffix" 678 (.ref 312)), (hde P "r_un_double" 686 (.ref 319)), (hde P "r_un_accent" 694 (.ref 326)), (hde P "_stem" 712 (.ref 333)), (hde P "a_0" 772 (.ref 346)), (hde P "a_1" 865 (.ref 368)), (hde P "a_2" 950 (.ref 387)), (hde P "a_3" 993 (.ref 397)), (hde P "a_4" 1603 (.ref 530)), (hde P "a_5" 2089 (.ref 636))] 30), #[]⟩
noncomputable def o531 (P : Params) : Obj := ham P 1604 "ira" (-1) 1
noncomputable def o532 : Obj := ⟨(.ref 220), (some 531), .plain, #[]⟩
noncomputable def o533 (P : Params) : Obj := hfr P 532 1604 "ira" (-1) 1
noncomputable def o534 (P : Params) : Obj := ham P 1618 "ie" (-1) 1
noncomputable def o535 : Obj := ⟨(.ref 220), (some 534), .plain, #[]⟩
noncomputable def o536 (P : Params) : Obj := hfr P 535 1618 "ie" (-1) 1
noncomputable def o537 (P : Params) : Obj := ham P 1632 "isse" (-1) 1
noncomputable def o538 : Obj := ⟨(.ref 220), (some 537), .plain, #[]⟩
noncomputable def o539 (P : Params) : Obj := hfr P 538 1632 "isse" (-1) 1
noncomputable def o540 (P : Params) : Obj := ham P 1646 "issante" (-1) 1
noncomputable def o541 : Obj := ⟨(.ref 220), (some 540), .plain, #[]⟩
noncomputable def o542 (P : Params) : Obj := hfr P 541 1646 "issante" (-1) 1
noncomputable def o543 (P : Params) : Obj := ham P 1660 "i" (-1) 1
noncomputable def o544 : Obj := ⟨(.ref 220), (some 543), .plain, #[]⟩
noncomputable def o545 (P : Params) : Obj := hfr P 544 1660 "i" (-1) 1
noncomputable def o546 (P : Params) : Obj := ⟨(.type "dict"), none, (.dict #[(hde P "s" 1682 (.str "irai" 1674)), (hde P "substring_i" 1684 (.int 4 1675)), (hde P "result" 1686 (.int 1 1676))] 3), #[]⟩
noncomputable def o547 : Obj := ⟨(.ref 220), (some 546), .plain, #[]⟩
noncomputable def o548 (P : Params) : Obj := ⟨(.type "frame"), none, (.dict #[(hde P "self" 1677 (.ref 547)), (hde P "s" 1678 (.str "irai" 1674)), (hde P "substring_i" 1679 (.int 4 1675)), (hde P "result" 1680 (.int 1 1676))] 4), #[]⟩
noncomputable def o549 (P : Params) : Obj := ham P 1687 "ir" (-1) 1
noncomputable def o550 : Obj := ⟨(.ref 220), (some 549), .plain, #[]⟩
noncomputable def o551 (P : Params) : Obj := hfr P 550 1687 "ir" (-1) 1
noncomputable def o552 (P : Params) : Obj := ham P 1701 "iras" (-1) 1
noncomputable def o553 : Obj := ⟨(.ref 220), (some 552), .plain, #[]⟩
noncomputable def o554 (P : Params) : Obj := hfr P 553 1701 "iras" (-1) 1
noncomputable def o555 (P : Params) : Obj := ham P 1715 "ies" (-1) 1
noncomputable def o556 : Obj := ⟨(.ref 220), (some 555), .plain, #[]⟩
noncomputable def o557 (P : Params) : Obj := hfr P 556 1715 "ies" (-1) 1
noncomputable def o558 (P : Params) : Obj := ham P 1729 "îmes" (-1) 1
noncomputable def o559 : Obj := ⟨(.ref 220), (some 558), .plain, #[]⟩
noncomputable def o560 (P : Params) : Obj := hfr P 559 1729 "îmes" (-1) 1
noncomputable def o561 (P : Params) : Obj := ham P 1743 "isses" (-1) 1
noncomputable def o562 : Obj := ⟨(.ref 220), (some 561), .plain, #[]⟩
noncomputable def o563 (P : Params) : Obj := hfr P 562 1743 "isses" (-1) 1
noncomputable def o564 (P : Params) : Obj := ham P 1757 "issantes" (-1) 1
noncomputable def o565 : Obj := ⟨(.ref 220), (some 564), .plain, #[]⟩
noncomputable def o566 (P : Params) : Obj := hfr P 565 1757 "issantes" (-1) 1
noncomputable def o567 (P : Params) : Obj := ham P 1771 "îtes" (-1) 1
noncomputable def o568 : Obj := ⟨(.ref 220), (some 567), .plain, #[]⟩
noncomputable def o569 (P : Params) : Obj := hfr P 568 1771 "îtes" (-1) 1
noncomputable def o570 (P : Params) : Obj := ham P 1785 "is" (-1) 1
noncomputable def o571 : Obj := ⟨(.ref 220), (some 570), .plain, #[]⟩
noncomputable def o572 (P : Params) : Obj := hfr P 571 1785 "is" (-1) 1
noncomputable def o573 (P : Params) : Obj := ⟨(.type "dict"), none, (.dict #[(hde P "s" 1807 (.str "irais" 1799)), (hde P "substring_i" 1809 (.int 13 1800)), (hde P "result" 1811 (.int 1 1801))] 3), #[]⟩
noncomputable def o574 : Obj := ⟨(.ref 220), (some 573), .plain, #[]⟩
noncomputable def o575 (P : Params) : Obj := ⟨(.type "frame"), none, (.dict #[(hde P "self" 1802 (.ref 574)), (hde P "s" 1803 (.str "irais" 1799)), (hde P "substring_i" 1804 (.int 13 1800)), (hde P "result" 1805 (.int 1 1801))] 4), #[]⟩
noncomputable def o576 (P : Params) : Obj := ⟨(.type "dict"), none, (.dict #[(hde P "s" 1820 (.str "issais" 1812)), (hde P "substring_i" 1822 (.int 13 1813)), (hde P "result" 1824 (.int 1 1814))] 3), #[]⟩
noncomputable def o577 : Obj := ⟨(.ref 220), (some 576), .plain, #[]⟩
noncomputable def o578 (P : Params) : Obj := ⟨(.type "frame"), none, (.dict #[(hde P "self" 1815 (.ref 577)), (hde P "s" 1816 (.str "issais" 1812)), (hde P "substring_i" 1817 (.int 13 1813)), (hde P "result" 1818 (.int 1 1814))] 4), #[]⟩
noncomputable def o579 (P : Params) : Obj := ham P 1825 "irions" (-1) 1
noncomputable def o580 : Obj := ⟨(.ref 220), (some 579), .plain, #[]⟩
noncomputable def o581 (P : Params) : Obj := hfr P 580 1825 "irions" (-1) 1
noncomputable def o582 (P : Params) : Obj := ham P 1839 "issions" (-1) 1
noncomputable def o583 : Obj := ⟨(.ref 220), (some 582), .plain, #[]⟩
noncomputable def o584 (P : Params) : Obj := hfr P 583 1839 "issions" (-1) 1
noncomputable def o585 (P : Params) : Obj := ham P 1853 "irons" (-1) 1
noncomputable def o586 : Obj := ⟨(.ref 220), (some 585), .plain, #[]⟩
noncomputable def o587 (P : Params) : Obj := hfr P 586 1853 "irons" (-1) 1
noncomputable def o588 (P : Params) : Obj := ham P 1867 "issons" (-1) 1
noncomputable def o589 : Obj := ⟨(.ref 220), (some 588), .plain, #[]⟩
noncomputable def o590 (P : Params) : Obj := hfr P 589 1867 "issons" (-1) 1
noncomputable def o591 (P : Params) : Obj := ham P 1881 "issants" (-1) 1
noncomputable def o592 : Obj := ⟨(.ref 220), (some 591), .plain, #[]⟩
noncomputable def o593 (P : Params) : Obj := hfr P 592 1881 "issants" (-1) 1
noncomputable def o594 (P : Params) : Obj := ham P 1895 "it" (-1) 1
noncomputable def o595 : Obj := ⟨(.ref 220), (some 594), .plain, #[]⟩
noncomputable def o596 (P : Params) : Obj := hfr P 595 1895 "it" (-1) 1
noncomputable def o597 (P : Params) : Obj := ⟨(.type "dict"), none, (.dict #[(hde P "s" 1917 (.str "irait" 1909)), (hde P "substring_i" 1919 (.int 21 1910)), (hde P "result" 1921 (.int 1 1911))] 3), #[]⟩
noncomputable def o598 : Obj := ⟨(.ref 220), (some 597), .plain, #[]⟩
noncomputable def o599 (P : Params) : Obj := ⟨(.type "frame"), none, (.dict #[(hde P "self" 1912 (.ref 598)), (hde P "s" 1913 (.str "irait" 1909)), (hde P "substring_i" 1914 (.int 21 1910)), (hde P "result" 1915 (.int 1 1911))] 4), #[]⟩
noncomputable def o600 (P : Params) : Obj := ⟨(.type "dict"), none, (.dict #[(hde P "s" 1930 (.str "issait" 1922)), (hde P "substring_i" 1932 (.int 21 1923)), (hde P "result" 1934 (.int 1 1924))] 3), #[]⟩
noncomputable def o601 : Obj := ⟨(.ref 220), (some 600), .plain, #[]⟩
noncomputable def o602 (P : Params) : Obj := ⟨(.type "frame"), none, (.dict #[(hde P "self" 1925 (.ref 601)), (hde P "s" 1926 (.str "issait" 1922)), (hde P "substring_i" 1927 (.int 21 1923)), (hde P "result" 1928 (.int 1 1924))] 4), #[]⟩
noncomputable def o603 (P : Params) : Obj := ham P 1935 "issant" (-1) 1
noncomputable def o604 : Obj := ⟨(.ref 220), (some 603), .plain, #[]⟩
noncomputable def o605 (P : Params) : Obj := hfr P 604 1935 "issant" (-1) 1
noncomputable def o606 (P : Params) : Obj := ham P 1949 "iraIent" (-1) 1
noncomputable def o607 : Obj := ⟨(.ref 220), (some 606), .plain, #[]⟩
noncomputable def o608 (P : Params) : Obj := hfr P 607 1949 "iraIent" (-1) 1
noncomputable def o609 (P : Params) : Obj := ham P 1963 "issaIent" (-1) 1
noncomputable def o610 : Obj := ⟨(.ref 220), (some 609), .plain, #[]⟩
noncomputable def o611 (P : Params) : Obj := hfr P 610 1963 "issaIent" (-1) 1
noncomputable def o612 (P : Params) : Obj := ham P 1977 "irent" (-1) 1
noncomputable def o613 : Obj := ⟨(.ref 220), (some 612), .plain, #[]⟩
noncomputable def o614 (P : Params) : Obj := hfr P 613 1977 "irent" (-1) 1
noncomputable def o615 (P : Params) : Obj := ham P 1991 "issent" (-1) 1
noncomputable def o616 : Obj := ⟨(.ref 220), (some 615), .plain, #[]⟩
noncomputable def o617 (P : Params) : Obj := hfr P 616 1991 "issent" (-1) 1
noncomputable def o618 (P : Params) : Obj := ham P 2005 "iront" (-1) 1
noncomputable def o619 : Obj := ⟨(.ref 220), (some 618), .plain, #[]⟩
noncomputable def o620 (P : Params) : Obj := hfr P 619 2005 "iront" (-1) 1
noncomputable def o621 (P : Params) : Obj := ham P 2019 "ît" (-1) 1
noncomputable def o622 : Obj := ⟨(.ref 220), (some 621), .plain, #[]⟩
noncomputable def o623 (P : Params) : Obj := hfr P 622 2019 "ît" (-1) 1
noncomputable def o624 (P : Params) : Obj := ham P 2033 "iriez" (-1) 1
noncomputable def o625 : Obj := ⟨(.ref 220), (some 624), .plain, #[]⟩
noncomputable def o626 (P : Params) : Obj := hfr P 625 2033 "iriez" (-1) 1
noncomputable def o627 (P : Params) : Obj := ham P 2047 "issiez" (-1) 1
noncomputable def o628 : Obj := ⟨(.ref 220), (some 627), .plain, #[]⟩
noncomputable def o629 (P : Params) : Obj := hfr P 628 2047 "issiez" (-1) 1
noncomputable def o630 (P : Params) : Obj := ham P 2061 "irez" (-1) 1
noncomputable def o631 : Obj := ⟨(.ref 220), (some 630), .plain, #[]⟩
noncomputable def o632 (P : Params) : Obj := hfr P 631 2061 "irez" (-1) 1
noncomputable def o633 (P : Params) : Obj := ham P 2075 "issez" (-1) 1
noncomputable def o634 : Obj := ⟨(.ref 220), (some 633), .plain, #[]⟩
noncomputable def o635 (P : Params) : Obj := hfr P 634 2075 "issez" (-1) 1
noncomputable def o636 : Obj := ⟨(.type "list"), none, (.seq #[(.ref 532), (.ref 535), (.ref 538), (.ref 541), (.ref 544), (.ref 547), (.ref 550), (.ref 553), (.ref 556), (.ref 559), (.ref 562), (.ref 565), (.ref 568), (.ref 571), (.ref 574), (.ref 577), (.ref 580), (.ref 583), (.ref 586), (.ref 589), (.ref 592), (.ref 595), (.ref 598), (.ref 601), (.ref 604), (.ref 607), (.ref 610), (.ref 613), (.ref 616), (.ref 619), (.ref 622), (.ref 625), (.ref 628), (.ref 631), (.ref 634)] 0), #[]⟩
noncomputable def HC8 (P : Params) : BT := (node (boot_o_0 P) (node (boot_o_1 P) (node (o3HA P) (node (boot_o_7 P) (node o11 (node o31 (node o63 (hT43 P) (node o12 (node o319 (lf (o575 P)) nil) (lf o447))) (node o11 (node o159 (node o287 (lf (o543 P)) nil) (lf (o415 P))) (node o223 (node o351 (lf o607) nil) (lf (o479 P))))) (node o47 (node o12 (hT44 P) (node o11 (node o335 (lf (o591 P)) nil) (lf (o463 P)))) (node o111 (node o175 (node o303 (lf o559) nil) (lf (o431 P))) (node o11 (node (o367 P) (lf (o623 P)) nil) (lf o495))))) (node o23 (node o11 (node o11 (hT45 P) (node o199 (node o11 (lf o583) nil) (lf (o455 P)))) (node o103 (node o167 (node o11 (lf (o551 P)) nil) (lf o423)) (node o231 (node (o359 P) (lf (o615 P)) nil) (lf (o487 P))))) (node o55 (node o87 (node o11 (node o12 (lf o535) nil) (lf (o407 P))) (node o215 (node (o343 P) (lf (o599 P)) nil) (lf o471))) (node o119 (node o11 (node o311 (lf (o567 P)) nil) (lf (o439 P))) (node o247 (node (o375 P) (lf o631) nil) (lf (o503 P))))))) (node o11 (node o19 (node o35 (node o11 (hT46 P) (node o195 (node o11 (lf (o579 P)) nil) (lf (o451 P)))) (node o11 (node o12 (node o291 (lf o547) nil) (lf (o419 P))) (node (o227HC8 P) (node (o355 P) (lf (o611 P)) nil) (lf o483)))) (node o12 (node o83 (node o147 (node o275 (lf (o531 P)) nil) (lf (o403 P))) (node o11 (node (o339 P) (lf o595) nil) (lf (o467 P)))) (node o115 (node o11 (node o12 (lf (o563 P)) nil) (lf o435)) (node o11 (node (o371 P) (lf (o627 P)) nil) (lf (o499 P)))))) (node o27 (node o11 (node o75 (hT47 P) (node o203 (node o331 (lf (o587 P)) nil) (lf o459))) (node o12 (node o171 (node o11 (lf (o555 P)) nil) (lf (o427 P))) (node (set3 P) (node o363 (lf o619) nil) (lf (o491 P))))) (node o59 (node o91 (node o11 (node o283 (lf (o539 P)) nil) (lf o411)) (node (o219 P) (node (o347 P) (lf (o603 P)) nil) (lf (o475 P)))) (node o11 (node o187 (node o315 (lf o571) nil) (lf (o443 P))) (node o12 (node o379 (lf (o635 P)) nil) (lf o507))))))) (node (boot_o_5 P) (node (boot_o_9 P) (node o17 (node o33 (node o12 (hT48 P) (node o11 (node o12 (lf o577) nil) (lf (o449 P)))) (node o97 (node o161 (node o289 (lf (o545 P)) nil) (lf o417)) (node o225 (node (o353 P) (lf (o609 P)) nil) (lf (o481 P))))) (node o49 (node o11 (hT49 P) (node o209 (node (o337 P) (lf (o593 P)) nil) (lf o465))) (node o11 (node o12 (node o305 (lf (o561 P)) nil) (lf (o433 P))) (node o241 (node (o369 P) (lf o625) nil) (lf (o497 P)))))) (node o11 (node o41 (node o73 (hT50 P) (node o201 (node o329 (lf (o585 P)) nil) (lf (o457 P)))) (node o105 (node o11 (node o297 (lf o553) nil) (lf (o425 P))) (node (set1 P) (node (o361 P) (lf (o617 P)) nil) (lf o489)))) (node o11 (node o89 (node o153 (node o11 (lf (o537 P)) nil) (lf (o409 P))) (node o217 (node (o345 P) (lf o601) nil) (lf (o473 P)))) (node o12 (node o185 (node o11 (lf (o569 P)) nil) (lf o441)) (node o249 (node (o377 P) (lf (o633 P)) nil) (lf (o505 P))))))) (node o13 (node o21 (node o12 (node o69 (hT51 P) (node o197 (node o325 (lf (o581 P)) nil) (lf o453))) (node o101 (node o11 (node o12 (lf (o549 P)) nil) (lf (o421 P))) (node o229HC5 (node o357 (lf o613) nil) (lf (o485 P))))) (node o11 (node o11 (node o12 (node o277 (lf (o533 P)) nil) (lf o405)) (node o213 (node o341 (lf (o597 P)) nil) (lf (o469 P)))) (node o117 (node o181 (node o11 (lf o565) nil) (lf (o437 P))) (node o245 (node o373 (lf (o629 P)) nil) (lf o501))))) (node o11 (node o45 (node o77 (hT52 P) (node o23 (node o333 (lf o589) nil) (lf (o461 P)))) (node o11 (node o173 (node o301 (lf (o557 P)) nil) (lf o429)) (node o12 (node (o365 P) (lf (o621 P)) nil) (lf (o493 P))))) (node o61 (node o12 (node o157 (node o11 (lf o541) nil) (lf (o413 P))) (node o221 (node (o349 P) (lf (o605 P)) nil) (lf o477))) (node o125 (node o189 (node o317 (lf (o573 P)) nil) (lf (o445 P))) (hT53 P))))))) (node (boot_o_2 P) (node (boot_o_4 P) (node (boot_o_8 P) (node o12 (node o11 (node o11 (hT54 P) (node o192 (node o11 (lf (o576 P)) nil) (lf (o448 P)))) (node o96 (node o160 (node o11 (lf o544) nil) (lf (o416 P))) (node o224 (node (o352 P) (lf (o608 P)) nil) (lf o480)))) (node o48 (node o80 (hT55 P) (node o208 (node (o336 P) (lf o592) nil) (lf (o464 P)))) (node o112 (node o11 (node o304 (lf (o560 P)) nil) (lf o432)) (node o240 (node o368 (lf (o624 P)) nil) (lf (o496 P)))))) (node (o24 P) (node o40 (node o12 (hT56 P) (node o200 (node o12 (lf (o584 P)) nil) (lf o456))) (node o104 (node o168 (node o296 (lf (o552 P)) nil) (lf (o424 P))) (node (set0 P) (node o360 (lf o616) nil) (lf (o488 P))))) (node o56 (node o11 (node o152 (node o280 (lf (o536 P)) nil) (lf o408)) (node o216 (node o344 (lf (o600 P)) nil) (lf (o472 P)))) (node o11 (node o12 (node o312 (lf o568) nil) (lf (o440 P))) (node o248 (node o376 (lf (o632 P)) nil) (lf o504)))))) (node o12HC0 (node o20 (node o11 (node o68 (hT57 P) (node o196 (node o324 (lf o580) nil) (lf (o452 P)))) (node o12 (node o164 (node o11 (lf (o548 P)) nil) (lf o420)) (node o11 (node (o356 P) (lf (o612 P)) nil) (lf (o484 P))))) (node o52 (node o84 (node o11 (node o276 (lf o532) nil) (lf (o404 P))) (node o12 (node (o340 P) (lf (o596 P)) nil) (lf o468))) (node o11 (node o180 (node o308 (lf (o564 P)) nil) (lf (o436 P))) (node o12 (node (o372 P) (lf o628) nil) (lf (o500 P)))))) (node o28 (node o12 (node o76 (hT58 P) (node o11 (node o332 (lf (o588 P)) nil) (lf (o460 P)))) (node o108 (node o11 (node o12 (lf o556) nil) (lf (o428 P))) (node o11 (node (o364 P) (lf (o620 P)) nil) (lf o492)))) (node o11 (node o11 (node o12 (node o284 (lf (o540 P)) nil) (lf (o412 P))) (node o220 (node o348 (lf o604) nil) (lf (o476 P)))) (node o124 (node o188 (node o11 (lf (o572 P)) nil) (lf o444)) (node o252 (node (o380 P) (lf o636) nil) (lf (o508 P)))))))) (node (boot_o_6 P) (node (boot_o_10 P) (node o11 (node o34 (node o66 (hT59 P) (node o194 (node o322 (lf (o578 P)) nil) (lf o450))) (node o98 (node o11 (node o290 (lf (o546 P)) nil) (lf (o418 P))) (node o23 (node o354 (lf o610) nil) (lf (o482 P))))) (node o11 (node o82 (hT60 P) (node o210 (node o338 (lf (o594 P)) nil) (lf (o466 P)))) (node o12 (node o178 (node o11 (lf o562) nil) (lf (o434 P))) (node o242 (node o370 (lf (o626 P)) nil) (lf o498))))) (node o26 (node o42 (node o11 (hT61 P) (node o202 (node o11 (lf o586) nil) (lf (o458 P)))) (node o11 (node o12 (node o298 (lf (o554 P)) nil) (lf o426)) (node (set2 P) (node (o362 P) (lf (o618 P)) nil) (lf (o490 P))))) (node o12 (node o90 (node o154 (node o282 (lf o538) nil) (lf (o410 P))) (node o218 (node o346 (lf (o602 P)) nil) (lf o474))) (node o122 (node o11 (node o12 (lf (o570 P)) nil) (lf (o442 P))) (node o11 (node (o378 P) (lf o634) nil) (lf (o506 P))))))) (node o14 (node o11 (node o38 (node o70 (hT62 P) (node (o198 P) (node o326 (lf (o582 P)) nil) (lf (o454 P)))) (node o11 (node o166 (node o294 (lf o550) nil) (lf (o422 P))) (node o230 (node (o358 P) (lf (o614 P)) nil) (lf o486)))) (node o54 (node o12 (node o150 (node o11 (lf (o534 P)) nil) (lf (o406 P))) (node o11 (node (o342 P) (lf o598) nil) (lf (o470 P)))) (node o118 (node o182 (node o310 (lf (o566 P)) nil) (lf o438)) (node o11 (node (o374 P) (lf (o630 P)) nil) (lf (o502 P)))))) (node o12 (node o11 (node o11 (hT63 P) (node (o206 P) (node (o334 P) (lf (o590 P)) nil) (lf o462))) (node o110 (node o174 (node o11 (lf (o558 P)) nil) (lf (o430 P))) (node o238 (node o366 (lf o622) nil) (lf (o494 P))))) (node o62 (node o94 (node o11 (node o12 (lf (o542 P)) nil) (lf o414)) (node o222 (node (o350 P) (lf (o606 P)) nil) (lf (o478 P)))) (node o126 (node o11 (node o318 (lf o574) nil) (lf (o446 P))) (hT64 P))))))))
noncomputable def o227HC9 (P : Params) : Obj := ⟨(.type "dict"), none, (.dict #[(hde P "__module__" 482 (.str "snowballstemmer.french_stemmer" 473)), (hde P "__qualname__" 484 (.str "FrenchStemmer" 483)), (hde P "__firstlineno__" 486 (.int 218 485)), (hde P "g_v" 521 (.ref 232)), (hde P "g_oux_ending" 534 (.ref 233)), (hde P "g_elision_char" 551 (.ref 234)), (hde P "g_keep_with_s" 564 (.ref 235)), (hde P "I_p2" 566 (.int 0 565)), (hde P "I_p1" 568 (.int 0 567)), (hde P "I_pV" 570 (.int 0 569)), (hde P "r_elisions" 577 (.ref 242)), (hde P "r_prelude" 588 (.ref 249)), (hde P "r_mark_regions" 599 (.ref 256)), (hde P "r_postlude" 608 (.ref 263)), (hde P "r_RV" 615 (.ref 270)), (hde P "r_R1" 622 (.ref 277)), (hde P "r_R2" 629 (.ref 284)), (hde P "r_standard_suffix" 648 (.ref 291)), (hde P "r_i_verb_suffix" 656 (.ref 298)), (hde P "r_verb_suffix" 667 (.ref 305)), (hde P "r_residual_suffix" 678 (.ref 312)), (hde P "r_un_double" 686 (.ref 319)), (hde P "r_un_accent" 694 (.ref 326)), (hde P "_stem" 712 (.ref 333)), (hde P "a_0" 772 (.ref 346)), (hde P "a_1" 865 (.ref 368)), (hde P "a_2" 950 (.ref 387)), (hde P "a_3" 993 (.ref 397)), (hde P "a_4" 1603 (.ref 530)), (hde P "a_5" 2089 (.ref 636)), (hde P "a_6" 2134 (.ref 646)), (hde P "a_7" 2696 (.ref 770))] 32), #[]⟩
noncomputable def o637 (P : Params) : Obj := ham P 2090 "al" (-1) 1
noncomputable def o638 : Obj := ⟨(.ref 220), (some 637), .plain, #[]⟩
noncomputable def o639 (P : Params) : Obj := hfr P 638 2090 "al" (-1) 1
noncomputable def o640 (P : Params) : Obj := ⟨(.type "dict"), none, (.dict #[(hde P "s" 2114 (.str "épl" 2104)), (hde P "substring_i" 2116 (.int (-1) 2106)), (hde P "result" 2118 (.int (-1) 2108))] 3), #[]⟩
noncomputable def o641 : Obj := ⟨(.ref 220), (some 640), .plain, #[]⟩
noncomputable def o642 (P : Params) : Obj := ⟨(.type "frame"), none, (.dict #[(hde P "self" 2109 (.ref 641)), (hde P "s" 2110 (.str "épl" 2104)), (hde P "substring_i" 2111 (.int (-1) 2106)), (hde P "result" 2112 (.int (-1) 2108))] 4), #[]⟩
noncomputable def o643 (P : Params) : Obj := ⟨(.type "dict"), none, (.dict #[(hde P "s" 2129 (.str "auv" 2119)), (hde P "substring_i" 2131 (.int (-1) 2121)), (hde P "result" 2133 (.int (-1) 2123))] 3), #[]⟩
noncomputable def o644 : Obj := ⟨(.ref 220), (some 643), .plain, #[]⟩
noncomputable def o645 (P : Params) : Obj := ⟨(.type "frame"), none, (.dict #[(hde P "self" 2124 (.ref 644)), (hde P "s" 2125 (.str "auv" 2119)), (hde P "substring_i" 2126 (.int (-1) 2121)), (hde P "result" 2127 (.int (-1) 2123))] 4), #[]⟩
noncomputable def o646 : Obj := ⟨(.type "list"), none, (.seq #[(.ref 638), (.ref 641), (.ref 644)] 0), #[]⟩
noncomputable def o647 (P : Params) : Obj := ham P 2135 "a" (-1) 3
noncomputable def o648 : Obj := ⟨(.ref 220), (some 647), .plain, #[]⟩
noncomputable def o649 (P : Params) : Obj := hfr P 648 2135 "a" (-1) 3
noncomputable def o650 (P : Params) : Obj := ⟨(.type "dict"), none, (.dict #[(hde P "s" 2157 (.str "era" 2149)), (hde P "substring_i" 2159 (.int 0 2150)), (hde P "result" 2161 (.int 2 2151))] 3), #[]⟩
noncomputable def o651 : Obj := ⟨(.ref 220), (some 650), .plain, #[]⟩
noncomputable def o652 (P : Params) : Obj := ⟨(.type "frame"), none, (.dict #[(hde P "self" 2152 (.ref 651)), (hde P "s" 2153 (.str "era" 2149)), (hde P "substring_i" 2154 (.int 0 2150)), (hde P "result" 2155 (.int 2 2151))] 4), #[]⟩
noncomputable def o653 (P : Params) : Obj := ham P 2162 "aise" (-1) 4
noncomputable def o654 : Obj := ⟨(.ref 220), (some 653), .plain, #[]⟩
noncomputable def o655 (P : Params) : Obj := hfr P 654 2162 "aise" (-1) 4
noncomputable def o656 (P : Params) : Obj := ham P 2176 "asse" (-1) 3
noncomputable def o657 : Obj := ⟨(.ref 220), (some 656), .plain, #[]⟩
noncomputable def o658 (P : Params) : Obj := hfr P 657 2176 "asse" (-1) 3
noncomputable def o659 (P : Params) : Obj := ham P 2190 "ante" (-1) 3
noncomputable def o660 : Obj := ⟨(.ref 220), (some 659), .plain, #[]⟩
noncomputable def o661 (P : Params) : Obj := hfr P 660 2190 "ante" (-1) 3
noncomputable def o662 (P : Params) : Obj := ham P 2204 "ée" (-1) 2
noncomputable def o663 : Obj := ⟨(.ref 220), (some 662), .plain, #[]⟩
noncomputable def o664 (P : Params) : Obj := hfr P 663 2204 "ée" (-1) 2
noncomputable def o665 (P : Params) : Obj := ham P 2218 "ai" (-1) 3
noncomputable def o666 : Obj := ⟨(.ref 220), (some 665), .plain, #[]⟩
noncomputable def o667 (P : Params) : Obj := hfr P 666 2218 "ai" (-1) 3
noncomputable def o668 (P : Params) : Obj := ⟨(.type "dict"), none, (.dict #[(hde P "s" 2240 (.str "erai" 2232)), (hde P "substring_i" 2242 (.int 6 2233)), (hde P "result" 2244 (.int 2 2234))] 3), #[]⟩
noncomputable def o669 : Obj := ⟨(.ref 220), (some 668), .plain, #[]⟩
noncomputable def o670 (P : Params) : Obj := ⟨(.type "frame"), none, (.dict #[(hde P "self" 2235 (.ref 669)), (hde P "s" 2236 (.str "erai" 2232)), (hde P "substring_i" 2237 (.int 6 2233)), (hde P "result" 2238 (.int 2 2234))] 4), #[]⟩
noncomputable def o671 (P : Params) : Obj := ham P 2245 "er" (-1) 2
noncomputable def o672 : Obj := ⟨(.ref 220), (some 671), .plain, #[]⟩
noncomputable def o673 (P : Params) : Obj := hfr P 672 2245 "er" (-1) 2
noncomputable def o674 (P : Params) : Obj := ham P 2259 "as" (-1) 3
noncomputable def o675 : Obj := ⟨(.ref 220), (some 674), .plain, #[]⟩
noncomputable def o676 (P : Params) : Obj := hfr P 675 2259 "as" (-1) 3
noncomputable def o677 (P : Params) : Obj := ⟨(.type "dict"), none, (.dict #[(hde P "s" 2281 (.str "eras" 2273)), (hde P "substring_i" 2283 (.int 9 2274)), (hde P "result" 2285 (.int 2 2275))] 3), #[]⟩
noncomputable def o678 : Obj := ⟨(.ref 220), (some 677), .plain, #[]⟩
noncomputable def o679 (P : Params) : Obj := ⟨(.type "frame"), none, (.dict #[(hde P "self" 2276 (.ref 678)), (hde P "s" 2277 (.str "eras" 2273)), (hde P "substring_i" 2278 (.int 9 2274)), (hde P "result" 2279 (.int 2 2275))] 4), #[]⟩
noncomputable def o680 (P : Params) : Obj := ham P 2286 "âmes" (-1) 3
noncomputable def o681 : Obj := ⟨(.ref 220), (some 680), .plain, #[]⟩
noncomputable def o682 (P : Params) : Obj := hfr P 681 2286 "âmes" (-1) 3
noncomputable def o683 (P : Params) : Obj := ham P 2300 "aises" (-1) 4
noncomputable def o684 : Obj := ⟨(.ref 220), (some 683), .plain, #[]⟩
noncomputable def o685 (P : Params) : Obj := hfr P 684 2300 "aises" (-1) 4
noncomputable def o686 (P : Params) : Obj := ham P 2314 "asses" (-1) 3
noncomputable def o687 : Obj := ⟨(.ref 220), (some 686), .plain, #[]⟩
noncomputable def o688 (P : Params) : Obj := hfr P 687 2314 "asses" (-1) 3
noncomputable def o689 (P : Params) : Obj := ham P 2328 "antes" (-1) 3
noncomputable def o690 : Obj := ⟨(.ref 220), (some 689), .plain, #[]⟩
noncomputable def o691 (P : Params) : Obj := hfr P 690 2328 "antes" (-1) 3
noncomputable def o692 (P : Params) : Obj := ham P 2342 "âtes" (-1) 3
noncomputable def o693 : Obj := ⟨(.ref 220), (some 692), .plain, #[]⟩
noncomputable def o694 (P : Params) : Obj := hfr P 693 2342 "âtes" (-1) 3
noncomputable def o695 (P : Params) : Obj := ham P 2356 "ées" (-1) 2
noncomputable def o696 : Obj := ⟨(.ref 220), (some 695), .plain, #[]⟩
noncomputable def o697 (P : Params) : Obj := hfr P 696 2356 "ées" (-1) 2
noncomputable def o698 (P : Params) : Obj := ham P 2370 "ais" (-1) 4
noncomputable def o699 : Obj := ⟨(.ref 220), (some 698), .plain, #[]⟩
noncomputable def o700 (P : Params) : Obj := hfr P 699 2370 "ais" (-1) 4
noncomputable def o701 (P : Params) : Obj := ⟨(.type "dict"), none, (.dict #[(hde P "s" 2392 (.str "eais" 2384)), (hde P "substring_i" 2394 (.int 17 2385)), (hde P "result" 2396 (.int 2 2386))] 3), #[]⟩
noncomputable def o702 : Obj := ⟨(.ref 220), (some 701), .plain, #[]⟩
noncomputable def o703 (P : Params) : Obj := ⟨(.type "frame"), none, (.dict #[(hde P "self" 2387 (.ref 702)), (hde P "s" 2388 (.str "eais" 2384)), (hde P "substring_i" 2389 (.int 17 2385)), (hde P "result" 2390 (.int 2 2386))] 4), #[]⟩
noncomputable def o704 (P : Params) : Obj := ⟨(.type "dict"), none, (.dict #[(hde P "s" 2405 (.str "erais" 2397)), (hde P "substring_i" 2407 (.int 17 2398)), (hde P "result" 2409 (.int 2 2399))] 3), #[]⟩
noncomputable def o705 : Obj := ⟨(.ref 220), (some 704), .plain, #[]⟩
noncomputable def o706 (P : Params) : Obj := ⟨(.type "frame"), none, (.dict #[(hde P "self" 2400 (.ref 705)), (hde P "s" 2401 (.str "erais" 2397)), (hde P "substring_i" 2402 (.int 17 2398)), (hde P "result" 2403 (.int 2 2399))] 4), #[]⟩
noncomputable def o707 (P : Params) : Obj := ham P 2410 "ions" (-1) 1
noncomputable def o708 : Obj := ⟨(.ref 220), (some 707), .plain, #[]⟩
noncomputable def o709 (P : Params) : Obj := hfr P 708 2410 "ions" (-1) 1
noncomputable def o710 (P : Params) : Obj := ⟨(.type "dict"), none, (.dict #[(hde P "s" 2432 (.str "erions" 2424)), (hde P "substring_i" 2434 (.int 20 2425)), (hde P "result" 2436 (.int 2 2426))] 3), #[]⟩
noncomputable def o711 : Obj := ⟨(.ref 220), (some 710), .plain, #[]⟩
noncomputable def o712 (P : Params) : Obj := ⟨(.type "frame"), none, (.dict #[(hde P "self" 2427 (.ref 711)), (hde P "s" 2428 (.str "erions" 2424)), (hde P "substring_i" 2429 (.int 20 2425)), (hde P "result" 2430 (.int 2 2426))] 4), #[]⟩
noncomputable def o713 (P : Params) : Obj := ⟨(.type "dict"), none, (.dict #[(hde P "s" 2445 (.str "assions" 2437)), (hde P "substring_i" 2447 (.int 20 2438)), (hde P "result" 2449 (.int 3 2439))] 3), #[]⟩
noncomputable def o714 : Obj := ⟨(.ref 220), (some 713), .plain, #[]⟩
noncomputable def o715 (P : Params) : Obj := ⟨(.type "frame"), none, (.dict #[(hde P "self" 2440 (.ref 714)), (hde P "s" 2441 (.str "assions" 2437)), (hde P "substring_i" 2442 (.int 20 2438)), (hde P "result" 2443 (.int 3 2439))] 4), #[]⟩
noncomputable def o716 (P : Params) : Obj := ham P 2450 "erons" (-1) 2
noncomputable def o717 : Obj := ⟨(.ref 220), (some 716), .plain, #[]⟩
noncomputable def o718 (P : Params) : Obj := hfr P 717 2450 "erons" (-1) 2
noncomputable def o719 (P : Params) : Obj := ham P 2464 "ants" (-1) 3
noncomputable def o720 : Obj := ⟨(.ref 220), (some 719), .plain, #[]⟩
noncomputable def o721 (P : Params) : Obj := hfr P 720 2464 "ants" (-1) 3
noncomputable def o722 (P : Params) : Obj := ham P 2478 "és" (-1) 2
noncomputable def o723 : Obj := ⟨(.ref 220), (some 722), .plain, #[]⟩
noncomputable def o724 (P : Params) : Obj := hfr P 723 2478 "és" (-1) 2
noncomputable def o725 (P : Params) : Obj := ham P 2492 "ait" (-1) 3
noncomputable def o726 : Obj := ⟨(.ref 220), (some 725), .plain, #[]⟩
noncomputable def o727 (P : Params) : Obj := hfr P 726 2492 "ait" (-1) 3
noncomputable def o728 (P : Params) : Obj := ⟨(.type "dict"), none, (.dict #[(hde P "s" 2514 (.str "erait" 2506)), (hde P "substring_i" 2516 (.int 26 2507)), (hde P "result" 2518 (.int 2 2508))] 3), #[]⟩
noncomputable def o729 : Obj := ⟨(.ref 220), (some 728), .plain, #[]⟩
noncomputable def o730 (P : Params) : Obj := ⟨(.type "frame"), none, (.dict #[(hde P "self" 2509 (.ref 729)), (hde P "s" 2510 (.str "erait" 2506)), (hde P "substring_i" 2511 (.int 26 2507)), (hde P "result" 2512 (.int 2 2508))] 4), #[]⟩
noncomputable def o731 (P : Params) : Obj := ham P 2519 "ant" (-1) 3
noncomputable def o732 : Obj := ⟨(.ref 220), (some 731), .plain, #[]⟩
noncomputable def o733 (P : Params) : Obj := hfr P 732 2519 "ant" (-1) 3
noncomputable def o734 (P : Params) : Obj := ham P 2533 "aIent" (-1) 3
noncomputable def o735 : Obj := ⟨(.ref 220), (some 734), .plain, #[]⟩
noncomputable def o736 (P : Params) : Obj := hfr P 735 2533 "aIent" (-1) 3
noncomputable def o737 (P : Params) : Obj := ⟨(.type "dict"), none, (.dict #[(hde P "s" 2555 (.str "eraIent" 2547)), (hde P "substring_i" 2557 (.int 29 2548)), (hde P "result" 2559 (.int 2 2549))] 3), #[]⟩
noncomputable def o738 : Obj := ⟨(.ref 220), (some 737), .plain, #[]⟩
noncomputable def o739 (P : Params) : Obj := ⟨(.type "frame"), none, (.dict #[(hde P "self" 2550 (.ref 738)), (hde P "s" 2551 (.str "eraIent" 2547)), (hde P "substring_i" 2552 (.int 29 2548)), (hde P "result" 2553 (.int 2 2549))] 4), #[]⟩
noncomputable def o740 (P : Params) : Obj := ham P 2560 "èrent" (-1) 2
noncomputable def o741 : Obj := ⟨(.ref 220), (some 740), .plain, #[]⟩
noncomputable def o742 (P : Params) : Obj := hfr P 741 2560 "èrent" (-1) 2
noncomputable def o743 (P : Params) : Obj := ham P 2574 "assent" (-1) 3
noncomputable def o744 : Obj := ⟨(.ref 220), (some 743), .plain, #[]⟩
noncomputable def o745 (P : Params) : Obj := hfr P 744 2574 "assent" (-1) 3
noncomputable def o746 (P : Params) : Obj := ham P 2588 "eront" (-1) 2
noncomputable def o747 : Obj := ⟨(.ref 220), (some 746), .plain, #[]⟩
noncomputable def o748 (P : Params) : Obj := hfr P 747 2588 "eront" (-1) 2
noncomputable def o749 (P : Params) : Obj := ham P 2602 "ât" (-1) 3
noncomputable def o750 : Obj := ⟨(.ref 220), (some 749), .plain, #[]⟩
noncomputable def o751 (P : Params) : Obj := hfr P 750 2602 "ât" (-1) 3
noncomputable def o752 (P : Params) : Obj := ham P 2616 "ez" (-1) 2
noncomputable def o753 : Obj := ⟨(.ref 220), (some 752), .plain, #[]⟩
noncomputable def o754 (P : Params) : Obj := hfr P 753 2616 "ez" (-1) 2
noncomputable def o755 (P : Params) : Obj := ⟨(.type "dict"), none, (.dict #[(hde P "s" 2638 (.str "iez" 2630)), (hde P "substring_i" 2640 (.int 35 2631)), (hde P "result" 2642 (.int 2 2632))] 3), #[]⟩
noncomputable def o756 : Obj := ⟨(.ref 220), (some 755), .plain, #[]⟩
noncomputable def o757 (P : Params) : Obj := ⟨(.type "frame"), none, (.dict #[(hde P "self" 2633 (.ref 756)), (hde P "s" 2634 (.str "iez" 2630)), (hde P "substring_i" 2635 (.int 35 2631)), (hde P "result" 2636 (.int 2 2632))] 4), #[]⟩
noncomputable def o758 (P : Params) : Obj := ⟨(.type "dict"), none, (.dict #[(hde P "s" 2651 (.str "eriez" 2643)), (hde P "substring_i" 2653 (.int 36 2644)), (hde P "result" 2655 (.int 2 2645))] 3), #[]⟩
noncomputable def o759 : Obj := ⟨(.ref 220), (some 758), .plain, #[]⟩
noncomputable def o760 (P : Params) : Obj := ⟨(.type "frame"), none, (.dict #[(hde P "self" 2646 (.ref 759)), (hde P "s" 2647 (.str "eriez" 2643)), (hde P "substring_i" 2648 (.int 36 2644)), (hde P "result" 2649 (.int 2 2645))] 4), #[]⟩
noncomputable def o761 (P : Params) : Obj := ⟨(.type "dict"), none, (.dict #[(hde P "s" 2664 (.str "assiez" 2656)), (hde P "substring_i" 2666 (.int 36 2657)), (hde P "result" 2668 (.int 3 2658))] 3), #[]⟩
noncomputable def o762 : Obj := ⟨(.ref 220), (some 761), .plain, #[]⟩
noncomputable def o763 (P : Params) : Obj := ⟨(.type "frame"), none, (.dict #[(hde P "self" 2659 (.ref 762)), (hde P "s" 2660 (.str "assiez" 2656)), (hde P "substring_i" 2661 (.int 36 2657)), (hde P "result" 2662 (.int 3 2658))] 4), #[]⟩
noncomputable def o764 (P : Params) : Obj := ⟨(.type "dict"), none, (.dict #[(hde P "s" 2677 (.str "erez" 2669)), (hde P "substring_i" 2679 (.int 35 2670)), (hde P "result" 2681 (.int 2 2671))] 3), #[]⟩
noncomputable def o765 : Obj := ⟨(.ref 220), (some 764), .plain, #[]⟩
noncomputable def o766 (P : Params) : Obj := ⟨(.type "frame"), none, (.dict #[(hde P "self" 2672 (.ref 765)), (hde P "s" 2673 (.str "erez" 2669)), (hde P "substring_i" 2674 (.int 35 2670)), (hde P "result" 2675 (.int 2 2671))] 4), #[]⟩
noncomputable def o767 (P : Params) : Obj := ham P 2682 "é" (-1) 2
noncomputable def o768 : Obj := ⟨(.ref 220), (some 767), .plain, #[]⟩
noncomputable def o769 (P : Params) : Obj := hfr P 768 2682 "é" (-1) 2
noncomputable def o770 : Obj := ⟨(.type "list"), none, (.seq #[(.ref 648), (.ref 651), (.ref 654), (.ref 657), (.ref 660), (.ref 663), (.ref 666), (.ref 669), (.ref 672), (.ref 675), (.ref 678), (.ref 681), (.ref 684), (.ref 687), (.ref 690), (.ref 693), (.ref 696), (.ref 699), (.ref 702), (.ref 705), (.ref 708), (.ref 711), (.ref 714), (.ref 717), (.ref 720), (.ref 723), (.ref 726), (.ref 729), (.ref 732), (.ref 735), (.ref 738), (.ref 741), (.ref 744), (.ref 747), (.ref 750), (.ref 753), (.ref 756), (.ref 759), (.ref 762), (.ref 765), (.ref 768)] 0), #[]⟩
noncomputable def hT65 (P : Params) : BT := (node o255 (lf (o511 P)) (lf (o767 P)))
noncomputable def hT66 (P : Params) : BT := (node o63 (node o11 (hT65 P) (node (o383 P) (lf (o639 P)) nil)) (node o12 (node o319 (lf (o575 P)) nil) (node o447 (lf (o703 P)) nil)))
noncomputable def hT67 (P : Params) : BT := (node o223 (node o351 (lf o607) nil) (node (o479 P) (lf o735) nil))
noncomputable def hT68 (P : Params) : BT := (node o11 (node o335 (lf (o591 P)) nil) (node (o463 P) (lf (o719 P)) nil))
noncomputable def hT69 (P : Params) : BT := (node o111 (node o175 (node o303 (lf o559) nil) (node (o431 P) (lf o687) nil)) (node o11 (node (o367 P) (lf (o623 P)) nil) (node o495 (lf (o751 P)) nil)))
noncomputable def hT70 (P : Params) : BT := (node o199 (node o11 (lf o583) nil) (node (o455 P) (lf o711) nil))
noncomputable def hT71 (P : Params) : BT := (node o231 (node (o359 P) (lf (o615 P)) nil) (node (o487 P) (lf (o743 P)) nil))
noncomputable def hT72 (P : Params) : BT := (node o103 (node o167 (node o11 (lf (o551 P)) nil) (node o423 (lf (o679 P)) nil)) (hT71 P))
noncomputable def hT73 (P : Params) : BT := (node o215 (node (o343 P) (lf (o599 P)) nil) (node o471 (lf (o727 P)) nil))
noncomputable def hT74 (P : Params) : BT := (node o119 (node o11 (node o311 (lf (o567 P)) nil) (node (o439 P) (lf (o695 P)) nil)) (node o247 (node (o375 P) (lf o631) nil) (node (o503 P) (lf o759) nil)))
noncomputable def hT75 (P : Params) : BT := (node o195 (node o11 (lf (o579 P)) nil) (node (o451 P) (lf (o707 P)) nil))
noncomputable def hT76 (P : Params) : BT := (node o11 (node (o339 P) (lf o595) nil) (node (o467 P) (lf o723) nil))
noncomputable def hT77 (P : Params) : BT := (node o115 (node o11 (node o12 (lf (o563 P)) nil) (node o435 (lf (o691 P)) nil)) (node o11 (node (o371 P) (lf (o627 P)) nil) (node (o499 P) (lf (o755 P)) nil)))
noncomputable def hT78 (P : Params) : BT := (node o203 (node o331 (lf (o587 P)) nil) (node o459 (lf (o715 P)) nil))
noncomputable def hT79 (P : Params) : BT := (node o12 (node o171 (node o11 (lf (o555 P)) nil) (node (o427 P) (lf (o683 P)) nil)) (node (set3 P) (node o363 (lf o619) nil) (node (o491 P) (lf o747) nil)))
noncomputable def hT80 (P : Params) : BT := (node (o219 P) (node (o347 P) (lf (o603 P)) nil) (node (o475 P) (lf (o731 P)) nil))
noncomputable def hT81 (P : Params) : BT := (node o11 (node o187 (node o315 (lf o571) nil) (node (o443 P) (lf o699) nil)) (node o12 (node o379 (lf (o635 P)) nil) (node o507 (lf (o763 P)) nil)))
noncomputable def hT82 (P : Params) : BT := (node o129 (node o11 (lf o513) (lf (o769 P))) (node o385 (lf o641) nil))
noncomputable def hT83 (P : Params) : BT := (node o12 (hT82 P) (node o11 (node o12 (lf o577) nil) (node (o449 P) (lf o705) nil)))
noncomputable def hT84 (P : Params) : BT := (node o225 (node (o353 P) (lf (o609 P)) nil) (node (o481 P) (lf (o737 P)) nil))
noncomputable def hT85 (P : Params) : BT := (node o209 (node (o337 P) (lf (o593 P)) nil) (node o465 (lf (o721 P)) nil))
noncomputable def hT86 (P : Params) : BT := (node o11 (node o12 (node o305 (lf (o561 P)) nil) (node (o433 P) (lf (o689 P)) nil)) (node o241 (node (o369 P) (lf o625) nil) (node (o497 P) (lf o753) nil)))
noncomputable def hT87 (P : Params) : BT := (node o201 (node o329 (lf (o585 P)) nil) (node (o457 P) (lf (o713 P)) nil))
noncomputable def hT88 (P : Params) : BT := (node (set1 P) (node (o361 P) (lf (o617 P)) nil) (node o489 (lf (o745 P)) nil))
noncomputable def hT89 (P : Params) : BT := (node o105 (node o11 (node o297 (lf o553) nil) (node (o425 P) (lf o681) nil)) (hT88 P))
noncomputable def hT90 (P : Params) : BT := (node o217 (node (o345 P) (lf o601) nil) (node (o473 P) (lf o729) nil))
noncomputable def hT91 (P : Params) : BT := (node o12 (node o185 (node o11 (lf (o569 P)) nil) (node o441 (lf (o697 P)) nil)) (node o249 (node (o377 P) (lf (o633 P)) nil) (node (o505 P) (lf (o761 P)) nil)))
noncomputable def hT92 (P : Params) : BT := (node o197 (node o325 (lf (o581 P)) nil) (node o453 (lf (o709 P)) nil))
noncomputable def hT93 (P : Params) : BT := (node o229HC5 (node o357 (lf o613) nil) (node (o485 P) (lf o741) nil))
noncomputable def hT94 (P : Params) : BT := (node o213 (node o341 (lf (o597 P)) nil) (node (o469 P) (lf (o725 P)) nil))
noncomputable def hT95 (P : Params) : BT := (node o117 (node o181 (node o11 (lf o565) nil) (node (o437 P) (lf o693) nil)) (node o245 (node o373 (lf (o629 P)) nil) (node o501 (lf (o757 P)) nil)))
noncomputable def hT96 (P : Params) : BT := (node o23 (node o333 (lf o589) nil) (node (o461 P) (lf o717) nil))
noncomputable def hT97 (P : Params) : BT := (node o11 (node o173 (node o301 (lf (o557 P)) nil) (node o429 (lf (o685 P)) nil)) (node o12 (node (o365 P) (lf (o621 P)) nil) (node (o493 P) (lf (o749 P)) nil)))
noncomputable def hT98 (P : Params) : BT := (node o221 (node (o349 P) (lf (o605 P)) nil) (node o477 (lf (o733 P)) nil))
noncomputable def hT99 (P : Params) : BT := (node o125 (node o189 (node o317 (lf (o573 P)) nil) (node (o445 P) (lf (o701 P)) nil)) (node o11 (node (o381 P) (lf (o637 P)) nil) (node (o509 P) (lf o765) nil)))
noncomputable def hT100 (P : Params) : BT := (node o12 (node o256 (lf (o512 P)) (lf o768)) (node (o384 P) (lf (o640 P)) nil))
noncomputable def hT101 (P : Params) : BT := (node o11 (hT100 P) (node o192 (node o11 (lf (o576 P)) nil) (node (o448 P) (lf (o704 P)) nil)))
noncomputable def hT102 (P : Params) : BT := (node o224 (node (o352 P) (lf (o608 P)) nil) (node o480 (lf (o736 P)) nil))
noncomputable def hT103 (P : Params) : BT := (node o208 (node (o336 P) (lf o592) nil) (node (o464 P) (lf o720) nil))
noncomputable def hT104 (P : Params) : BT := (node o112 (node o11 (node o304 (lf (o560 P)) nil) (node o432 (lf (o688 P)) nil)) (node o240 (node o368 (lf (o624 P)) nil) (node (o496 P) (lf (o752 P)) nil)))
noncomputable def hT105 (P : Params) : BT := (node o200 (node o12 (lf (o584 P)) nil) (node o456 (lf (o712 P)) nil))
noncomputable def hT106 (P : Params) : BT := (node (set0 P) (node o360 (lf o616) nil) (node (o488 P) (lf o744) nil))
noncomputable def hT107 (P : Params) : BT := (node o104 (node o168 (node o296 (lf (o552 P)) nil) (node (o424 P) (lf (o680 P)) nil)) (hT106 P))
noncomputable def hT108 (P : Params) : BT := (node o216 (node o344 (lf (o600 P)) nil) (node (o472 P) (lf (o728 P)) nil))
noncomputable def hT109 (P : Params) : BT := (node o11 (node o12 (node o312 (lf o568) nil) (node (o440 P) (lf o696) nil)) (node o248 (node o376 (lf (o632 P)) nil) (node o504 (lf (o760 P)) nil)))
noncomputable def hT110 (P : Params) : BT := (node o196 (node o324 (lf o580) nil) (node (o452 P) (lf o708) nil))
noncomputable def hT111 (P : Params) : BT := (node o11 (node (o356 P) (lf (o612 P)) nil) (node (o484 P) (lf (o740 P)) nil))
noncomputable def hT112 (P : Params) : BT := (node o12 (node (o340 P) (lf (o596 P)) nil) (node o468 (lf (o724 P)) nil))
noncomputable def hT113 (P : Params) : BT := (node o11 (node o180 (node o308 (lf (o564 P)) nil) (node (o436 P) (lf (o692 P)) nil)) (node o12 (node (o372 P) (lf o628) nil) (node (o500 P) (lf o756) nil)))
noncomputable def hT114 (P : Params) : BT := (node o11 (node o332 (lf (o588 P)) nil) (node (o460 P) (lf (o716 P)) nil))
noncomputable def hT115 (P : Params) : BT := (node o108 (node o11 (node o12 (lf o556) nil) (node (o428 P) (lf o684) nil)) (node o11 (node (o364 P) (lf (o620 P)) nil) (node o492 (lf (o748 P)) nil)))
noncomputable def hT116 (P : Params) : BT := (node o220 (node o348 (lf o604) nil) (node (o476 P) (lf o732) nil))
noncomputable def hT117 (P : Params) : BT := (node o124 (node o188 (node o11 (lf (o572 P)) nil) (node o444 (lf (o700 P)) nil)) (node o252 (node (o380 P) (lf o636) nil) (node (o508 P) (lf (o764 P)) nil)))
noncomputable def hT118 (P : Params) : BT := (node o11 (node o12 (lf (o514 P)) (lf o770)) (node (o386 P) (lf (o642 P)) nil))
noncomputable def hT119 (P : Params) : BT := (node o66 (hT118 P) (node o194 (node o322 (lf (o578 P)) nil) (node o450 (lf (o706 P)) nil)))
noncomputable def hT120 (P : Params) : BT := (node o23 (node o354 (lf o610) nil) (node (o482 P) (lf o738) nil))
noncomputable def hT121 (P : Params) : BT := (node o210 (node o338 (lf (o594 P)) nil) (node (o466 P) (lf (o722 P)) nil))
noncomputable def hT122 (P : Params) : BT := (node o12 (node o178 (node o11 (lf o562) nil) (node (o434 P) (lf o690) nil)) (node o242 (node o370 (lf (o626 P)) nil) (node o498 (lf (o754 P)) nil)))
noncomputable def hT123 (P : Params) : BT := (node o202 (node o11 (lf o586) nil) (node (o458 P) (lf o714) nil))
noncomputable def hT124 (P : Params) : BT := (node (set2 P) (node (o362 P) (lf (o618 P)) nil) (node (o490 P) (lf (o746 P)) nil))
noncomputable def hT125 (P : Params) : BT := (node o11 (node o12 (node o298 (lf (o554 P)) nil) (node o426 (lf (o682 P)) nil)) (hT124 P))
noncomputable def hT126 (P : Params) : BT := (node o218 (node o346 (lf (o602 P)) nil) (node o474 (lf (o730 P)) nil))
noncomputable def hT127 (P : Params) : BT := (node o122 (node o11 (node o12 (lf (o570 P)) nil) (node (o442 P) (lf (o698 P)) nil)) (node o11 (node (o378 P) (lf o634) nil) (node (o506 P) (lf o762) nil)))
noncomputable def hT128 (P : Params) : BT := (node (o198 P) (node o326 (lf (o582 P)) nil) (node (o454 P) (lf (o710 P)) nil))
noncomputable def hT129 (P : Params) : BT := (node o230 (node (o358 P) (lf (o614 P)) nil) (node o486 (lf (o742 P)) nil))
noncomputable def hT130 (P : Params) : BT := (node o11 (node o166 (node o294 (lf o550) nil) (node (o422 P) (lf o678) nil)) (hT129 P))
noncomputable def hT131 (P : Params) : BT := (node o11 (node (o342 P) (lf o598) nil) (node (o470 P) (lf o726) nil))
noncomputable def hT132 (P : Params) : BT := (node o118 (node o182 (node o310 (lf (o566 P)) nil) (node o438 (lf (o694 P)) nil)) (node o11 (node (o374 P) (lf (o630 P)) nil) (node (o502 P) (lf (o758 P)) nil)))
noncomputable def hT133 (P : Params) : BT := (node (o206 P) (node (o334 P) (lf (o590 P)) nil) (node o462 (lf (o718 P)) nil))
noncomputable def hT134 (P : Params) : BT := (node o110 (node o174 (node o11 (lf (o558 P)) nil) (node (o430 P) (lf (o686 P)) nil)) (node o238 (node o366 (lf o622) nil) (node (o494 P) (lf o750) nil)))
noncomputable def hT135 (P : Params) : BT := (node o222 (node (o350 P) (lf (o606 P)) nil) (node (o478 P) (lf (o734 P)) nil))
noncomputable def hT136 (P : Params) : BT := (node o126 (node o11 (node o318 (lf o574) nil) (node (o446 P) (lf o702) nil)) (node o254 (node o382 (lf o638) nil) (node o510 (lf (o766 P)) nil)))
noncomputable def HC9 (P : Params) : BT := (node (boot_o_0 P) (node (boot_o_1 P) (node (o3HA P) (node (boot_o_7 P) (node o11 (node o31 (hT66 P) (node o11 (node o159 (node o287 (lf (o543 P)) nil) (node (o415 P) (lf (o671 P)) nil)) (hT67 P))) (node o47 (node o12 (node o143 (node o11 (lf (o527 P)) nil) (node o399 (lf (o655 P)) nil)) (hT68 P)) (hT69 P))) (node o23 (node o11 (node o11 (node o12 (node o263 (lf o519) nil) (node (o391 P) (lf (o647 P)) nil)) (hT70 P)) (hT72 P)) (node o55 (node o87 (node o11 (node o12 (lf o535) nil) (node (o407 P) (lf o663) nil)) (hT73 P)) (hT74 P)))) (node o11 (node o19 (node o35 (node o11 (node o131 (node o259 (lf (o515 P)) nil) (node o387 (lf (o643 P)) nil)) (hT75 P)) (node o11 (node o12 (node o291 (lf o547) nil) (node (o419 P) (lf o675) nil)) (node (o227HC9 P) (node (o355 P) (lf (o611 P)) nil) (node o483 (lf (o739 P)) nil)))) (node o12 (node o83 (node o147 (node o275 (lf (o531 P)) nil) (node (o403 P) (lf (o659 P)) nil)) (hT76 P)) (hT77 P))) (node o27 (node o11 (node o75 (node o139 (node o11 (lf (o523 P)) nil) (node o395 (lf o651) nil)) (hT78 P)) (hT79 P)) (node o59 (node o91 (node o11 (node o283 (lf (o539 P)) nil) (node o411 (lf (o667 P)) nil)) (hT80 P)) (hT81 P))))) (node (boot_o_5 P) (node (boot_o_9 P) (node o17 (node o33 (hT83 P) (node o97 (node o161 (node o289 (lf (o545 P)) nil) (node o417 (lf (o673 P)) nil)) (hT84 P))) (node o49 (node o11 (node o145 (node o273 (lf (o529 P)) nil) (node (o401 P) (lf o657) nil)) (hT85 P)) (hT86 P))) (node o11 (node o41 (node o73 (node o11 (node o12 (lf (o521 P)) nil) (node (o393 P) (lf (o649 P)) nil)) (hT87 P)) (hT89 P)) (node o11 (node o89 (node o153 (node o11 (lf (o537 P)) nil) (node (o409 P) (lf (o665 P)) nil)) (hT90 P)) (hT91 P)))) (node o13 (node o21 (node o12 (node o69 (node o133 (node o261 (lf (o517 P)) nil) (node o389 (lf (o645 P)) nil)) (hT92 P)) (node o101 (node o11 (node o12 (lf (o549 P)) nil) (node (o421 P) (lf (o677 P)) nil)) (hT93 P))) (node o11 (node o11 (node o12 (node o277 (lf (o533 P)) nil) (node o405 (lf (o661 P)) nil)) (hT94 P)) (hT95 P))) (node o11 (node o45 (node o77 (node o11 (node o269 (lf o525) nil) (node o397 (lf (o653 P)) nil)) (hT96 P)) (hT97 P)) (node o61 (node o12 (node o157 (node o11 (lf o541) nil) (node (o413 P) (lf o669) nil)) (hT98 P)) (hT99 P)))))) (node (boot_o_2 P) (node (boot_o_4 P) (node (boot_o_8 P) (node o12 (node o11 (hT101 P) (node o96 (node o160 (node o11 (lf o544) nil) (node (o416 P) (lf o672) nil)) (hT102 P))) (node o48 (node o80 (node o11 (node o12 (lf o528) nil) (node (o400 P) (lf (o656 P)) nil)) (hT103 P)) (hT104 P))) (node (o24 P) (node o40 (node o12 (node o136 (node o11 (lf (o520 P)) nil) (node o392 (lf o648) nil)) (hT105 P)) (hT107 P)) (node o56 (node o11 (node o152 (node o280 (lf (o536 P)) nil) (node o408 (lf (o664 P)) nil)) (hT108 P)) (hT109 P)))) (node o12HC0 (node o20 (node o11 (node o68 (node o132 (node o11 (lf o516) nil) (node (o388 P) (lf o644) nil)) (hT110 P)) (node o12 (node o164 (node o11 (lf (o548 P)) nil) (node o420 (lf (o676 P)) nil)) (hT111 P))) (node o52 (node o84 (node o11 (node o276 (lf o532) nil) (node (o404 P) (lf o660) nil)) (hT112 P)) (hT113 P))) (node o28 (node o12 (node o76 (node o140 (node o268 (lf (o524 P)) nil) (node (o396 P) (lf (o652 P)) nil)) (hT114 P)) (hT115 P)) (node o11 (node o11 (node o12 (node o284 (lf (o540 P)) nil) (node (o412 P) (lf (o668 P)) nil)) (hT116 P)) (hT117 P))))) (node (boot_o_6 P) (node (boot_o_10 P) (node o11 (node o34 (hT119 P) (node o98 (node o11 (node o290 (lf (o546 P)) nil) (node (o418 P) (lf (o674 P)) nil)) (hT120 P))) (node o11 (node o82 (node o146 (node o11 (lf o530) nil) (node o402 (lf (o658 P)) nil)) (hT121 P)) (hT122 P))) (node o26 (node o42 (node o11 (node o138 (node o266 (lf o522) nil) (node (o394 P) (lf (o650 P)) nil)) (hT123 P)) (hT125 P)) (node o12 (node o90 (node o154 (node o282 (lf o538) nil) (node (o410 P) (lf o666) nil)) (hT126 P)) (hT127 P)))) (node o14 (node o11 (node o38 (node o70 (node o11 (node o262 (lf (o518 P)) nil) (node (o390 P) (lf o646) nil)) (hT128 P)) (hT130 P)) (node o54 (node o12 (node o150 (node o11 (lf (o534 P)) nil) (node (o406 P) (lf (o662 P)) nil)) (hT131 P)) (hT132 P))) (node o12 (node o11 (node o11 (node o12 (node o270 (lf (o526 P)) nil) (node (o398 P) (lf o654) nil)) (hT133 P)) (hT134 P)) (node o62 (node o94 (node o11 (node o12 (lf (o542 P)) nil) (node o414 (lf (o670 P)) nil)) (hT135 P)) (hT136 P)))))))
noncomputable def o227HC10 (P : Params) : Obj := ⟨(.type "dict"), none, (.dict #[(hde P "__module__" 482 (.str "snowballstemmer.french_stemmer" 473)), (hde P "__qualname__" 484 (.str "FrenchStemmer" 483)), (hde P "__firstlineno__" 486 (.int 218 485)), (hde P "g_v" 521 (.ref 232)), (hde P "g_oux_ending" 534 (.ref 233)), (hde P "g_elision_char" 551 (.ref 234)), (hde P "g_keep_with_s" 564 (.ref 235)), (hde P "I_p2" 566 (.int 0 565)), (hde P "I_p1" 568 (.int 0 567)), (hde P "I_pV" 570 (.int 0 569)), (hde P "r_elisions" 577 (.ref 242)), (hde P "r_prelude" 588 (.ref 249)), (hde P "r_mark_regions" 599 (.ref 256)), (hde P "r_postlude" 608 (.ref 263)), (hde P "r_RV" 615 (.ref 270)), (hde P "r_R1" 622 (.ref 277)), (hde P "r_R2" 629 (.ref 284)), (hde P "r_standard_suffix" 648 (.ref 291)), (hde P "r_i_verb_suffix" 656 (.ref 298)), (hde P "r_verb_suffix" 667 (.ref 305)), (hde P "r_residual_suffix" 678 (.ref 312)), (hde P "r_un_double" 686 (.ref 319)), (hde P "r_un_accent" 694 (.ref 326)), (hde P "_stem" 712 (.ref 333)), (hde P "a_0" 772 (.ref 346)), (hde P "a_1" 865 (.ref 368)), (hde P "a_2" 950 (.ref 387)), (hde P "a_3" 993 (.ref 397)), (hde P "a_4" 1603 (.ref 530)), (hde P "a_5" 2089 (.ref 636)), (hde P "a_6" 2134 (.ref 646)), (hde P "a_7" 2696 (.ref 770)), (hde P "a_8" 2779 (.ref 789)), (hde P "a_9" 2855 (.ref 805))] 34), #[]⟩
noncomputable def o771 (P : Params) : Obj := ham P 2697 "e" (-1) 3
noncomputable def o772 : Obj := ⟨(.ref 220), (some 771), .plain, #[]⟩
noncomputable def o773 (P : Params) : Obj := hfr P 772 2697 "e" (-1) 3
noncomputable def o774 (P : Params) : Obj := ⟨(.type "dict"), none, (.dict #[(hde P "s" 2719 (.str "Ière" 2711)), (hde P "substring_i" 2721 (.int 0 2712)), (hde P "result" 2723 (.int 2 2713))] 3), #[]⟩
noncomputable def o775 : Obj := ⟨(.ref 220), (some 774), .plain, #[]⟩
noncomputable def o776 (P : Params) : Obj := ⟨(.type "frame"), none, (.dict #[(hde P "self" 2714 (.ref 775)), (hde P "s" 2715 (.str "Ière" 2711)), (hde P "substring_i" 2716 (.int 0 2712)), (hde P "result" 2717 (.int 2 2713))] 4), #[]⟩
noncomputable def o777 (P : Params) : Obj := ⟨(.type "dict"), none, (.dict #[(hde P "s" 2732 (.str "ière" 2724)), (hde P "substring_i" 2734 (.int 0 2725)), (hde P "result" 2736 (.int 2 2726))] 3), #[]⟩
noncomputable def o778 : Obj := ⟨(.ref 220), (some 777), .plain, #[]⟩
noncomputable def o779 (P : Params) : Obj := ⟨(.type "frame"), none, (.dict #[(hde P "self" 2727 (.ref 778)), (hde P "s" 2728 (.str "ière" 2724)), (hde P "substring_i" 2729 (.int 0 2725)), (hde P "result" 2730 (.int 2 2726))] 4), #[]⟩
noncomputable def o780 (P : Params) : Obj := ham P 2737 "ion" (-1) 1
noncomputable def o781 : Obj := ⟨(.ref 220), (some 780), .plain, #[]⟩
noncomputable def o782 (P : Params) : Obj := hfr P 781 2737 "ion" (-1) 1
noncomputable def o783 (P : Params) : Obj := ham P 2751 "Ier" (-1) 2
noncomputable def o784 : Obj := ⟨(.ref 220), (some 783), .plain, #[]⟩
noncomputable def o785 (P : Params) : Obj := hfr P 784 2751 "Ier" (-1) 2
noncomputable def o786 (P : Params) : Obj := ham P 2765 "ier" (-1) 2
noncomputable def o787 : Obj := ⟨(.ref 220), (some 786), .plain, #[]⟩
noncomputable def o788 (P : Params) : Obj := hfr P 787 2765 "ier" (-1) 2
noncomputable def o789 : Obj := ⟨(.type "list"), none, (.seq #[(.ref 772), (.ref 775), (.ref 778), (.ref 781), (.ref 784), (.ref 787)] 0), #[]⟩
noncomputable def o790 (P : Params) : Obj := ⟨(.type "dict"), none, (.dict #[(hde P "s" 2790 (.str "ell" 2780)), (hde P "substring_i" 2792 (.int (-1) 2782)), (hde P "result" 2794 (.int (-1) 2784))] 3), #[]⟩
noncomputable def o791 : Obj := ⟨(.ref 220), (some 790), .plain, #[]⟩
noncomputable def o792 (P : Params) : Obj := ⟨(.type "frame"), none, (.dict #[(hde P "self" 2785 (.ref 791)), (hde P "s" 2786 (.str "ell" 2780)), (hde P "substring_i" 2787 (.int (-1) 2782)), (hde P "result" 2788 (.int (-1) 2784))] 4), #[]⟩
noncomputable def o793 (P : Params) : Obj := ⟨(.type "dict"), none, (.dict #[(hde P "s" 2805 (.str "eill" 2795)), (hde P "substring_i" 2807 (.int (-1) 2797)), (hde P "result" 2809 (.int (-1) 2799))] 3), #[]⟩
noncomputable def o794 : Obj := ⟨(.ref 220), (some 793), .plain, #[]⟩
noncomputable def o795 (P : Params) : Obj := ⟨(.type "frame"), none, (.dict #[(hde P "self" 2800 (.ref 794)), (hde P "s" 2801 (.str "eill" 2795)), (hde P "substring_i" 2802 (.int (-1) 2797)), (hde P "result" 2803 (.int (-1) 2799))] 4), #[]⟩
noncomputable def o796 (P : Params) : Obj := ⟨(.type "dict"), none, (.dict #[(hde P "s" 2820 (.str "enn" 2810)), (hde P "substring_i" 2822 (.int (-1) 2812)), (hde P "result" 2824 (.int (-1) 2814))] 3), #[]⟩
noncomputable def o797 : Obj := ⟨(.ref 220), (some 796), .plain, #[]⟩
noncomputable def o798 (P : Params) : Obj := ⟨(.type "frame"), none, (.dict #[(hde P "self" 2815 (.ref 797)), (hde P "s" 2816 (.str "enn" 2810)), (hde P "substring_i" 2817 (.int (-1) 2812)), (hde P "result" 2818 (.int (-1) 2814))] 4), #[]⟩
noncomputable def o799 (P : Params) : Obj := ⟨(.type "dict"), none, (.dict #[(hde P "s" 2835 (.str "onn" 2825)), (hde P "substring_i" 2837 (.int (-1) 2827)), (hde P "result" 2839 (.int (-1) 2829))] 3), #[]⟩
noncomputable def o800 : Obj := ⟨(.ref 220), (some 799), .plain, #[]⟩
noncomputable def o801 (P : Params) : Obj := ⟨(.type "frame"), none, (.dict #[(hde P "self" 2830 (.ref 800)), (hde P "s" 2831 (.str "onn" 2825)), (hde P "substring_i" 2832 (.int (-1) 2827)), (hde P "result" 2833 (.int (-1) 2829))] 4), #[]⟩
noncomputable def o802 (P : Params) : Obj := ⟨(.type "dict"), none, (.dict #[(hde P "s" 2850 (.str "ett" 2840)), (hde P "substring_i" 2852 (.int (-1) 2842)), (hde P "result" 2854 (.int (-1) 2844))] 3), #[]⟩
noncomputable def o803 : Obj := ⟨(.ref 220), (some 802), .plain, #[]⟩
noncomputable def o804 (P : Params) : Obj := ⟨(.type "frame"), none, (.dict #[(hde P "self" 2845 (.ref 803)), (hde P "s" 2846 (.str "ett" 2840)), (hde P "substring_i" 2847 (.int (-1) 2842)), (hde P "result" 2848 (.int (-1) 2844))] 4), #[]⟩
noncomputable def o805 : Obj := ⟨(.type "list"), none, (.seq #[(.ref 791), (.ref 794), (.ref 797), (.ref 800), (.ref 803)] 0), #[]⟩
noncomputable def hT137 (P : Params) : BT := (node o159 (node o287 (lf (o543 P)) (lf (o799 P))) (node (o415 P) (lf (o671 P)) nil))
noncomputable def hT138 (P : Params) : BT := (node o143 (node o11 (lf (o527 P)) (lf (o783 P))) (node o399 (lf (o655 P)) nil))
noncomputable def hT139 (P : Params) : BT := (node o11 (node o31 (hT66 P) (node o11 (hT137 P) (hT67 P))) (node o47 (node o12 (hT138 P) (hT68 P)) (hT69 P)))
noncomputable def hT140 (P : Params) : BT := (node o12 (node o263 (lf o519) (lf o775)) (node (o391 P) (lf (o647 P)) nil))
noncomputable def hT141 (P : Params) : BT := (node o11 (node o12 (lf o535) (lf o791)) (node (o407 P) (lf o663) nil))
noncomputable def hT142 (P : Params) : BT := (node o55 (node o87 (hT141 P) (hT73 P)) (hT74 P))
noncomputable def hT143 (P : Params) : BT := (node o131 (node o259 (lf (o515 P)) (lf (o771 P))) (node o387 (lf (o643 P)) nil))
noncomputable def hT144 (P : Params) : BT := (node o11 (hT143 P) (hT75 P))
noncomputable def hT145 (P : Params) : BT := (node o12 (node o291 (lf o547) (lf o803)) (node (o419 P) (lf o675) nil))
noncomputable def hT146 (P : Params) : BT := (node o147 (node o275 (lf (o531 P)) (lf o787)) (node (o403 P) (lf (o659 P)) nil))
noncomputable def hT147 (P : Params) : BT := (node o12 (node o83 (hT146 P) (hT76 P)) (hT77 P))
noncomputable def hT148 (P : Params) : BT := (node o139 (node o11 (lf (o523 P)) (lf (o779 P))) (node o395 (lf o651) nil))
noncomputable def hT149 (P : Params) : BT := (node o11 (node o283 (lf (o539 P)) (lf (o795 P))) (node o411 (lf (o667 P)) nil))
noncomputable def hT150 (P : Params) : BT := (node o27 (node o11 (node o75 (hT148 P) (hT78 P)) (hT79 P)) (node o59 (node o91 (hT149 P) (hT80 P)) (hT81 P)))
noncomputable def hT151 (P : Params) : BT := (node o161 (node o289 (lf (o545 P)) (lf (o801 P))) (node o417 (lf (o673 P)) nil))
noncomputable def hT152 (P : Params) : BT := (node o145 (node o273 (lf (o529 P)) (lf (o785 P))) (node (o401 P) (lf o657) nil))
noncomputable def hT153 (P : Params) : BT := (node o17 (node o33 (hT83 P) (node o97 (hT151 P) (hT84 P))) (node o49 (node o11 (hT152 P) (hT85 P)) (hT86 P)))
noncomputable def hT154 (P : Params) : BT := (node o11 (node o12 (lf (o521 P)) (lf (o777 P))) (node (o393 P) (lf (o649 P)) nil))
noncomputable def hT155 (P : Params) : BT := (node o73 (hT154 P) (hT87 P))
noncomputable def hT156 (P : Params) : BT := (node o153 (node o11 (lf (o537 P)) (lf (o793 P))) (node (o409 P) (lf (o665 P)) nil))
noncomputable def hT157 (P : Params) : BT := (node o11 (node o89 (hT156 P) (hT90 P)) (hT91 P))
noncomputable def hT158 (P : Params) : BT := (node o133 (node o261 (lf (o517 P)) (lf (o773 P))) (node o389 (lf (o645 P)) nil))
noncomputable def hT159 (P : Params) : BT := (node o11 (node o12 (lf (o549 P)) (lf o805)) (node (o421 P) (lf (o677 P)) nil))
noncomputable def hT160 (P : Params) : BT := (node o12 (node o277 (lf (o533 P)) (lf o789)) (node o405 (lf (o661 P)) nil))
noncomputable def hT161 (P : Params) : BT := (node o11 (node o269 (lf o525) (lf o781)) (node o397 (lf (o653 P)) nil))
noncomputable def hT162 (P : Params) : BT := (node o157 (node o11 (lf o541) (lf o797)) (node (o413 P) (lf o669) nil))
noncomputable def hT163 (P : Params) : BT := (node o13 (node o21 (node o12 (node o69 (hT158 P) (hT92 P)) (node o101 (hT159 P) (hT93 P))) (node o11 (node o11 (hT160 P) (hT94 P)) (hT95 P))) (node o11 (node o45 (node o77 (hT161 P) (hT96 P)) (hT97 P)) (node o61 (node o12 (hT162 P) (hT98 P)) (hT99 P))))
noncomputable def hT164 (P : Params) : BT := (node o160 (node o11 (lf o544) (lf o800)) (node (o416 P) (lf o672) nil))
noncomputable def hT165 (P : Params) : BT := (node o11 (node o12 (lf o528) (lf o784)) (node (o400 P) (lf (o656 P)) nil))
noncomputable def hT166 (P : Params) : BT := (node o12 (node o11 (hT101 P) (node o96 (hT164 P) (hT102 P))) (node o48 (node o80 (hT165 P) (hT103 P)) (hT104 P)))
noncomputable def hT167 (P : Params) : BT := (node o136 (node o11 (lf (o520 P)) (lf (o776 P))) (node o392 (lf o648) nil))
noncomputable def hT168 (P : Params) : BT := (node o12 (hT167 P) (hT105 P))
noncomputable def hT169 (P : Params) : BT := (node o152 (node o280 (lf (o536 P)) (lf (o792 P))) (node o408 (lf (o664 P)) nil))
noncomputable def hT170 (P : Params) : BT := (node o56 (node o11 (hT169 P) (hT108 P)) (hT109 P))
noncomputable def hT171 (P : Params) : BT := (node o132 (node o11 (lf o516) (lf o772)) (node (o388 P) (lf o644) nil))
noncomputable def hT172 (P : Params) : BT := (node o164 (node o11 (lf (o548 P)) (lf (o804 P))) (node o420 (lf (o676 P)) nil))
noncomputable def hT173 (P : Params) : BT := (node o11 (node o276 (lf o532) (lf (o788 P))) (node (o404 P) (lf o660) nil))
noncomputable def hT174 (P : Params) : BT := (node o140 (node o268 (lf (o524 P)) (lf (o780 P))) (node (o396 P) (lf (o652 P)) nil))
noncomputable def hT175 (P : Params) : BT := (node o12 (node o284 (lf (o540 P)) (lf (o796 P))) (node (o412 P) (lf (o668 P)) nil))
noncomputable def hT176 (P : Params) : BT := (node o12HC0 (node o20 (node o11 (node o68 (hT171 P) (hT110 P)) (node o12 (hT172 P) (hT111 P))) (node o52 (node o84 (hT173 P) (hT112 P)) (hT113 P))) (node o28 (node o12 (node o76 (hT174 P) (hT114 P)) (hT115 P)) (node o11 (node o11 (hT175 P) (hT116 P)) (hT117 P))))
noncomputable def hT177 (P : Params) : BT := (node o11 (node o290 (lf (o546 P)) (lf (o802 P))) (node (o418 P) (lf (o674 P)) nil))
noncomputable def hT178 (P : Params) : BT := (node o146 (node o11 (lf o530) (lf (o786 P))) (node o402 (lf (o658 P)) nil))
noncomputable def hT179 (P : Params) : BT := (node o11 (node o34 (hT119 P) (node o98 (hT177 P) (hT120 P))) (node o11 (node o82 (hT178 P) (hT121 P)) (hT122 P)))
noncomputable def hT180 (P : Params) : BT := (node o138 (node o266 (lf o522) (lf o778)) (node (o394 P) (lf (o650 P)) nil))
noncomputable def hT181 (P : Params) : BT := (node o11 (hT180 P) (hT123 P))
noncomputable def hT182 (P : Params) : BT := (node o154 (node o282 (lf o538) (lf o794)) (node (o410 P) (lf o666) nil))
noncomputable def hT183 (P : Params) : BT := (node o12 (node o90 (hT182 P) (hT126 P)) (hT127 P))
noncomputable def hT184 (P : Params) : BT := (node o11 (node o262 (lf (o518 P)) (lf (o774 P))) (node (o390 P) (lf o646) nil))
noncomputable def hT185 (P : Params) : BT := (node o70 (hT184 P) (hT128 P))
noncomputable def hT186 (P : Params) : BT := (node o150 (node o11 (lf (o534 P)) (lf (o790 P))) (node (o406 P) (lf (o662 P)) nil))
noncomputable def hT187 (P : Params) : BT := (node o54 (node o12 (hT186 P) (hT131 P)) (hT132 P))
noncomputable def hT188 (P : Params) : BT := (node o12 (node o270 (lf (o526 P)) (lf (o782 P))) (node (o398 P) (lf o654) nil))
noncomputable def hT189 (P : Params) : BT := (node o11 (node o12 (lf (o542 P)) (lf (o798 P))) (node o414 (lf (o670 P)) nil))
noncomputable def hT190 (P : Params) : BT := (node o12 (node o11 (node o11 (hT188 P) (hT133 P)) (hT134 P)) (node o62 (node o94 (hT189 P) (hT135 P)) (hT136 P)))
noncomputable def HC10 (P : Params) : BT := (node (boot_o_0 P) (node (boot_o_1 P) (node (o3HA P) (node (boot_o_7 P) (hT139 P) (node o23 (node o11 (node o11 (hT140 P) (hT70 P)) (hT72 P)) (hT142 P))) (node o11 (node o19 (node o35 (hT144 P) (node o11 (hT145 P) (node (o227HC10 P) (node (o355 P) (lf (o611 P)) nil) (node o483 (lf (o739 P)) nil)))) (hT147 P)) (hT150 P))) (node (boot_o_5 P) (node (boot_o_9 P) (hT153 P) (node o11 (node o41 (hT155 P) (hT89 P)) (hT157 P))) (hT163 P))) (node (boot_o_2 P) (node (boot_o_4 P) (node (boot_o_8 P) (hT166 P) (node (o24 P) (node o40 (hT168 P) (hT107 P)) (hT170 P))) (hT176 P)) (node (boot_o_6 P) (node (boot_o_10 P) (hT179 P) (node o26 (node o42 (hT181 P) (hT125 P)) (hT183 P))) (node o14 (node o11 (node o38 (hT185 P) (hT130 P)) (hT187 P)) (hT190 P)))))
noncomputable def o3HS (P : Params) : Obj := ⟨(.type "dict"), none, (.dict #[(hde P "__name__" 165 (.str "snowballstemmer.french_stemmer" 473)), (hde P "__doc__" 166 .none), (hde P "__package__" 167 .none), (hde P "__loader__" 168 (.builtin "__main__.__loader__#opaque")), (hde P "__spec__" 169 .none), (hde P "__annotations__" 170 (.ref 6)), (hde P "__builtins__" 171 (.ref 4)), (hde P "__file__" 173 (.str "/claim/cut.py" 172)), (hde P "__cached__" 174 .none), (hde P "_wall" 193 (.ref 21)), (hde P "BaseStemmer" 437 (.ref 199)), (hde P "Among" 472 (.ref 220)), (hde P "FrenchStemmer" 2866 (.ref 808))] 13), #[]⟩
noncomputable def o199HS : Obj := ⟨(.type "type"), none, (.cls { name := "BaseStemmer", bases := [(.type "object")], mro := [(.ref 199), (.type "object")], ns := 198, qualname := "BaseStemmer", hasDict := true, slotNames := [], subclasses := [(.ref 808)], abstract := false, collection := none, hasDel := false }), #[none, none, (some (.str "BaseStemmer" 196)), (some (.str "BaseStemmer" 204)), (some (.builtin "object.__new__")), (some (.bool true))]⟩
noncomputable def o227HS (P : Params) : Obj := ⟨(.type "dict"), none, (.dict #[(hde P "__module__" 482 (.str "snowballstemmer.french_stemmer" 473)), (hde P "__qualname__" 484 (.str "FrenchStemmer" 483)), (hde P "__firstlineno__" 486 (.int 218 485)), (hde P "g_v" 521 (.ref 232)), (hde P "g_oux_ending" 534 (.ref 233)), (hde P "g_elision_char" 551 (.ref 234)), (hde P "g_keep_with_s" 564 (.ref 235)), (hde P "I_p2" 566 (.int 0 565)), (hde P "I_p1" 568 (.int 0 567)), (hde P "I_pV" 570 (.int 0 569)), (hde P "r_elisions" 577 (.ref 242)), (hde P "r_prelude" 588 (.ref 249)), (hde P "r_mark_regions" 599 (.ref 256)), (hde P "r_postlude" 608 (.ref 263)), (hde P "r_RV" 615 (.ref 270)), (hde P "r_R1" 622 (.ref 277)), (hde P "r_R2" 629 (.ref 284)), (hde P "r_standard_suffix" 648 (.ref 291)), (hde P "r_i_verb_suffix" 656 (.ref 298)), (hde P "r_verb_suffix" 667 (.ref 305)), (hde P "r_residual_suffix" 678 (.ref 312)), (hde P "r_un_double" 686 (.ref 319)), (hde P "r_un_accent" 694 (.ref 326)), (hde P "_stem" 712 (.ref 333)), (hde P "a_0" 772 (.ref 346)), (hde P "a_1" 865 (.ref 368)), (hde P "a_2" 950 (.ref 387)), (hde P "a_3" 993 (.ref 397)), (hde P "a_4" 1603 (.ref 530)), (hde P "a_5" 2089 (.ref 636)), (hde P "a_6" 2134 (.ref 646)), (hde P "a_7" 2696 (.ref 770)), (hde P "a_8" 2779 (.ref 789)), (hde P "a_9" 2855 (.ref 805)), (hde P "__static_attributes__" 2863 (.ref 806))] 35), #[]⟩
noncomputable def o806 : Obj := ⟨(.type "tuple"), none, (.seq #[(.str "I_p1" 2856), (.str "I_p2" 2857), (.str "I_pV" 2858), (.str "bra" 2859), (.str "cursor" 2860), (.str "ket" 2861), (.str "limit_backward" 2862)] 0), #[]⟩
noncomputable def o807 (P : Params) : Obj := ⟨(.type "dict"), none, (.dict #[(hde P "__module__" 482 (.str "snowballstemmer.french_stemmer" 473)), (hde P "__firstlineno__" 486 (.int 218 485)), (hde P "g_v" 521 (.ref 232)), (hde P "g_oux_ending" 534 (.ref 233)), (hde P "g_elision_char" 551 (.ref 234)), (hde P "g_keep_with_s" 564 (.ref 235)), (hde P "I_p2" 566 (.int 0 565)), (hde P "I_p1" 568 (.int 0 567)), (hde P "I_pV" 570 (.int 0 569)), (hde P "r_elisions" 577 (.ref 242)), (hde P "r_prelude" 588 (.ref 249)), (hde P "r_mark_regions" 599 (.ref 256)), (hde P "r_postlude" 608 (.ref 263)), (hde P "r_RV" 615 (.ref 270)), (hde P "r_R1" 622 (.ref 277)), (hde P "r_R2" 629 (.ref 284)), (hde P "r_standard_suffix" 648 (.ref 291)), (hde P "r_i_verb_suffix" 656 (.ref 298)), (hde P "r_verb_suffix" 667 (.ref 305)), (hde P "r_residual_suffix" 678 (.ref 312)), (hde P "r_un_double" 686 (.ref 319)), (hde P "r_un_accent" 694 (.ref 326)), (hde P "_stem" 712 (.ref 333)), (hde P "a_0" 772 (.ref 346)), (hde P "a_1" 865 (.ref 368)), (hde P "a_2" 950 (.ref 387)), (hde P "a_3" 993 (.ref 397)), (hde P "a_4" 1603 (.ref 530)), (hde P "a_5" 2089 (.ref 636)), (hde P "a_6" 2134 (.ref 646)), (hde P "a_7" 2696 (.ref 770)), (hde P "a_8" 2779 (.ref 789)), (hde P "a_9" 2855 (.ref 805)), (hde P "__static_attributes__" 2863 (.ref 806)), (hde P "__doc__" 2864 .none)] 2), #[]⟩
noncomputable def o808 : Obj := ⟨(.type "type"), none, (.cls { name := "FrenchStemmer", bases := [(.ref 199)], mro := [(.ref 808), (.ref 199), (.type "object")], ns := 807, qualname := "FrenchStemmer", hasDict := true, slotNames := [], subclasses := [], abstract := false, collection := none, hasDel := false }), #[(some (.ref 225)), none, (some (.str "FrenchStemmer" 475)), (some (.str "FrenchStemmer" 483)), (some (.builtin "object.__new__")), (some (.bool true))]⟩
noncomputable def o809 : Obj := ⟨(.type "super"), none, (.fields #[(.ref 808), (.ref 808), (.ref 808)]), #[]⟩
noncomputable def o810 : Obj := ⟨(.type "builtin_function_or_method"), none, (.fields #[(.builtin "object.__init_subclass__"), (.ref 808)]), #[]⟩
noncomputable def hT191 (P : Params) : BT := (node o167 (node o11 (lf (o551 P)) (lf (o807 P))) (node o423 (lf (o679 P)) nil))
noncomputable def hT192 (P : Params) : BT := (node o11 (node o297 (lf o553) (lf o809)) (node (o425 P) (lf o681) nil))
noncomputable def hT193 (P : Params) : BT := (node o168 (node o296 (lf (o552 P)) (lf o808)) (node (o424 P) (lf (o680 P)) nil))
noncomputable def hT194 (P : Params) : BT := (node o12 (node o298 (lf (o554 P)) (lf o810)) (node o426 (lf (o682 P)) nil))
noncomputable def hT195 (P : Params) : BT := (node o166 (node o294 (lf o550) (lf o806)) (node (o422 P) (lf o678) nil))
noncomputable def HS (P : Params) : BT := (node (boot_o_0 P) (node (boot_o_1 P) (node (o3HS P) (node (boot_o_7 P) (hT139 P) (node o23 (node o11 (node o11 (hT140 P) (node o199HS (node o11 (lf o583) nil) (node (o455 P) (lf o711) nil))) (node o103 (hT191 P) (hT71 P))) (hT142 P))) (node o11 (node o19 (node o35 (hT144 P) (node o11 (hT145 P) (node (o227HS P) (node (o355 P) (lf (o611 P)) nil) (node o483 (lf (o739 P)) nil)))) (hT147 P)) (hT150 P))) (node (boot_o_5 P) (node (boot_o_9 P) (hT153 P) (node o11 (node o41 (hT155 P) (node o105 (hT192 P) (hT88 P))) (hT157 P))) (hT163 P))) (node (boot_o_2 P) (node (boot_o_4 P) (node (boot_o_8 P) (hT166 P) (node (o24 P) (node o40 (hT168 P) (node o104 (hT193 P) (hT106 P))) (hT170 P))) (hT176 P)) (node (boot_o_6 P) (node (boot_o_10 P) (hT179 P) (node o26 (node o42 (hT181 P) (node o11 (hT194 P) (hT124 P))) (hT183 P))) (node o14 (node o11 (node o38 (hT185 P) (node o11 (hT195 P) (hT129 P))) (hT187 P)) (hT190 P)))))
noncomputable def o2HF (P : Params) : Obj := ⟨.none, none, (.dict #[(hde P "type.__subclasses__.Exception.0" 2883 (.int 820 0)), (hde P "type.__subclasses__.Exception.n" 2884 (.int 4 0)), (hde P "type.__subclasses__.Exception.1" 2903 (.int 833 0)), (hde P "type.__subclasses__.Exception.2" 2923 (.int 846 0)), (hde P "type.__subclasses__.Exception.3" 2943 (.int 859 0))] 5), #[]⟩
noncomputable def o3HF (P : Params) : Obj := ⟨(.type "dict"), none, (.dict #[(hde P "__name__" 165 (.str "law_is0021_02" 2947)), (hde P "__doc__" 166 .none), (hde P "__package__" 167 .none), (hde P "__loader__" 168 (.builtin "__main__.__loader__#opaque")), (hde P "__spec__" 169 .none), (hde P "__annotations__" 170 (.ref 6)), (hde P "__builtins__" 171 (.ref 4)), (hde P "__file__" 173 (.str "/claim/cut.py" 172)), (hde P "__cached__" 174 .none), (hde P "_wall" 193 (.ref 21)), (hde P "BaseStemmer" 437 (.ref 199)), (hde P "Among" 472 (.ref 220)), (hde P "FrenchStemmer" 2866 (.ref 808)), (hde P "lab0" 2886 (.ref 820)), (hde P "lab1" 2906 (.ref 833)), (hde P "lab2" 2926 (.ref 846)), (hde P "lab3" 2946 (.ref 859)), (hde P "_law_signs" 2950 (.str "abcdefghijklmnopqrstuvwxyzàâçèéêëîïôùûœ" 2949)), (hde P "_law_heads" 2956 (.ref 869)), (hde P "_law_vowels" 2962 (.ref 876)), (hde P "_law_closes" 2968 (.ref 883)), (hde P "_law_ends" 2974 (.ref 890)), (hde P "law" 2980 (.ref 895))] 23), #[]⟩
noncomputable def o12HF : Obj := ⟨.none, none, (.fields #[(.int 1 0), (.int 0 0), (.ref 20), (.int 5 0), (.int 0 0), (.ref 27), (.int 211 0), (.int 0 0), (.ref 209), (.int 218 0), (.int 0 0), (.ref 230), (.int 961 0), (.int 0 0), (.ref 816), (.int 963 0), (.int 0 0), (.ref 829), (.int 965 0), (.int 0 0), (.ref 842), (.int 967 0), (.int 0 0), (.ref 855), (.int 971 0), (.int 0 0), (.ref 868), (.int 973 0), (.int 0 0), (.ref 875), (.int 975 0), (.int 0 0), (.ref 882), (.int 977 0), (.int 0 0), (.ref 889), (.int 979 0), (.int 0 0), (.ref 894)]), #[]⟩
noncomputable def o811 : Obj := ⟨(.type "tuple"), none, (.seq #[(.type "Exception")] 0), #[]⟩
noncomputable def o813 (P : Params) : Obj := ⟨(.type "dict"), none, (.dict #[(hde P "__module__" 2874 (.str "snowballstemmer.french_stemmer" 473)), (hde P "__qualname__" 2876 (.str "lab0" 2875)), (hde P "__firstlineno__" 2878 (.int 961 2877)), (hde P "__static_attributes__" 2879 (.ref 818))] 4), #[]⟩
noncomputable def o816 : Obj := ⟨(.type "code"), none, (.fields #[(.str "lab0" 2869), (.str "lab0" 2870), (.str "/claim/cut.py" 2871), (.int 961 0), (.int 0 0), (.int 0 0), (.int 0 0), (.int 0 0), (.ref 814), (.bool false), (.int 181 0), (.ref 815), .none, .none, .none, .none, (.int 2872 0), (.int 961 0), (.str "/claim/cut.py" 2873)]), #[]⟩
noncomputable def o817 : Obj := ⟨(.type "frame"), none, .plain, #[(some (.ref 816)), (some (.ref 3)), (some (.ref 813)), none, (some (.str "snowballstemmer.french_stemmer" 473)), none, (some (.ref 0))]⟩
noncomputable def o819 (P : Params) : Obj := ⟨(.type "dict"), none, (.dict #[(hde P "__module__" 2874 (.str "snowballstemmer.french_stemmer" 473)), (hde P "__firstlineno__" 2878 (.int 961 2877)), (hde P "__static_attributes__" 2879 (.ref 818)), (hde P "__weakref__" 2881 (.ref 821)), (hde P "__doc__" 2882 .none)] 3), #[]⟩
noncomputable def o820 : Obj := ⟨(.type "type"), none, (.cls { name := "lab0", bases := [(.type "Exception")], mro := [(.ref 820), (.type "Exception"), (.type "BaseException"), (.type "object")], ns := 819, qualname := "lab0", hasDict := true, slotNames := [], subclasses := [], abstract := false, collection := none, hasDel := false }), #[(some (.ref 811)), none, (some (.str "lab0" 2867)), (some (.str "lab0" 2875)), (some (.builtin "Exception.__new__")), (some (.bool true))]⟩
noncomputable def o821 : Obj := ⟨(.type "getset_descriptor"), none, (.fields #[(.str "__weakref__" 2880), (.ref 820), (.builtin "ExceptionGroup.__weakref__"), .none]), #[]⟩
noncomputable def o822 : Obj := ⟨(.type "super"), none, (.fields #[(.ref 820), (.ref 820), (.ref 820)]), #[]⟩
noncomputable def o823 : Obj := ⟨(.type "builtin_function_or_method"), none, (.fields #[(.builtin "object.__init_subclass__"), (.ref 820)]), #[]⟩
noncomputable def o826 (P : Params) : Obj := ⟨(.type "dict"), none, (.dict #[(hde P "__module__" 2894 (.str "snowballstemmer.french_stemmer" 473)), (hde P "__qualname__" 2896 (.str "lab1" 2895)), (hde P "__firstlineno__" 2898 (.int 963 2897)), (hde P "__static_attributes__" 2899 (.ref 831))] 4), #[]⟩
noncomputable def o829 : Obj := ⟨(.type "code"), none, (.fields #[(.str "lab1" 2889), (.str "lab1" 2890), (.str "/claim/cut.py" 2891), (.int 963 0), (.int 0 0), (.int 0 0), (.int 0 0), (.int 0 0), (.ref 827), (.bool false), (.int 181 0), (.ref 828), .none, .none, .none, .none, (.int 2892 0), (.int 963 0), (.str "/claim/cut.py" 2893)]), #[]⟩
noncomputable def o830 : Obj := ⟨(.type "frame"), none, .plain, #[(some (.ref 829)), (some (.ref 3)), (some (.ref 826)), none, (some (.str "snowballstemmer.french_stemmer" 473)), none, (some (.ref 0))]⟩
noncomputable def o832 (P : Params) : Obj := ⟨(.type "dict"), none, (.dict #[(hde P "__module__" 2894 (.str "snowballstemmer.french_stemmer" 473)), (hde P "__firstlineno__" 2898 (.int 963 2897)), (hde P "__static_attributes__" 2899 (.ref 831)), (hde P "__weakref__" 2901 (.ref 834)), (hde P "__doc__" 2902 .none)] 3), #[]⟩
noncomputable def o833 : Obj := ⟨(.type "type"), none, (.cls { name := "lab1", bases := [(.type "Exception")], mro := [(.ref 833), (.type "Exception"), (.type "BaseException"), (.type "object")], ns := 832, qualname := "lab1", hasDict := true, slotNames := [], subclasses := [], abstract := false, collection := none, hasDel := false }), #[(some (.ref 824)), none, (some (.str "lab1" 2887)), (some (.str "lab1" 2895)), (some (.builtin "Exception.__new__")), (some (.bool true))]⟩
noncomputable def o834 : Obj := ⟨(.type "getset_descriptor"), none, (.fields #[(.str "__weakref__" 2900), (.ref 833), (.builtin "ExceptionGroup.__weakref__"), .none]), #[]⟩
noncomputable def o835 : Obj := ⟨(.type "super"), none, (.fields #[(.ref 833), (.ref 833), (.ref 833)]), #[]⟩
noncomputable def o836 : Obj := ⟨(.type "builtin_function_or_method"), none, (.fields #[(.builtin "object.__init_subclass__"), (.ref 833)]), #[]⟩
noncomputable def o839 (P : Params) : Obj := ⟨(.type "dict"), none, (.dict #[(hde P "__module__" 2914 (.str "snowballstemmer.french_stemmer" 473)), (hde P "__qualname__" 2916 (.str "lab2" 2915)), (hde P "__firstlineno__" 2918 (.int 965 2917)), (hde P "__static_attributes__" 2919 (.ref 844))] 4), #[]⟩
noncomputable def o842 : Obj := ⟨(.type "code"), none, (.fields #[(.str "lab2" 2909), (.str "lab2" 2910), (.str "/claim/cut.py" 2911), (.int 965 0), (.int 0 0), (.int 0 0), (.int 0 0), (.int 0 0), (.ref 840), (.bool false), (.int 181 0), (.ref 841), .none, .none, .none, .none, (.int 2912 0), (.int 965 0), (.str "/claim/cut.py" 2913)]), #[]⟩
noncomputable def o843 : Obj := ⟨(.type "frame"), none, .plain, #[(some (.ref 842)), (some (.ref 3)), (some (.ref 839)), none, (some (.str "snowballstemmer.french_stemmer" 473)), none, (some (.ref 0))]⟩
noncomputable def o845 (P : Params) : Obj := ⟨(.type "dict"), none, (.dict #[(hde P "__module__" 2914 (.str "snowballstemmer.french_stemmer" 473)), (hde P "__firstlineno__" 2918 (.int 965 2917)), (hde P "__static_attributes__" 2919 (.ref 844)), (hde P "__weakref__" 2921 (.ref 847)), (hde P "__doc__" 2922 .none)] 3), #[]⟩
noncomputable def o846 : Obj := ⟨(.type "type"), none, (.cls { name := "lab2", bases := [(.type "Exception")], mro := [(.ref 846), (.type "Exception"), (.type "BaseException"), (.type "object")], ns := 845, qualname := "lab2", hasDict := true, slotNames := [], subclasses := [], abstract := false, collection := none, hasDel := false }), #[(some (.ref 837)), none, (some (.str "lab2" 2907)), (some (.str "lab2" 2915)), (some (.builtin "Exception.__new__")), (some (.bool true))]⟩
noncomputable def o847 : Obj := ⟨(.type "getset_descriptor"), none, (.fields #[(.str "__weakref__" 2920), (.ref 846), (.builtin "ExceptionGroup.__weakref__"), .none]), #[]⟩
noncomputable def o848 : Obj := ⟨(.type "super"), none, (.fields #[(.ref 846), (.ref 846), (.ref 846)]), #[]⟩
noncomputable def o849 : Obj := ⟨(.type "builtin_function_or_method"), none, (.fields #[(.builtin "object.__init_subclass__"), (.ref 846)]), #[]⟩
noncomputable def o852 (P : Params) : Obj := ⟨(.type "dict"), none, (.dict #[(hde P "__module__" 2934 (.str "snowballstemmer.french_stemmer" 473)), (hde P "__qualname__" 2936 (.str "lab3" 2935)), (hde P "__firstlineno__" 2938 (.int 967 2937)), (hde P "__static_attributes__" 2939 (.ref 857))] 4), #[]⟩
noncomputable def o855 : Obj := ⟨(.type "code"), none, (.fields #[(.str "lab3" 2929), (.str "lab3" 2930), (.str "/claim/cut.py" 2931), (.int 967 0), (.int 0 0), (.int 0 0), (.int 0 0), (.int 0 0), (.ref 853), (.bool false), (.int 181 0), (.ref 854), .none, .none, .none, .none, (.int 2932 0), (.int 967 0), (.str "/claim/cut.py" 2933)]), #[]⟩
noncomputable def o856 : Obj := ⟨(.type "frame"), none, .plain, #[(some (.ref 855)), (some (.ref 3)), (some (.ref 852)), none, (some (.str "snowballstemmer.french_stemmer" 473)), none, (some (.ref 0))]⟩
noncomputable def o858 (P : Params) : Obj := ⟨(.type "dict"), none, (.dict #[(hde P "__module__" 2934 (.str "snowballstemmer.french_stemmer" 473)), (hde P "__firstlineno__" 2938 (.int 967 2937)), (hde P "__static_attributes__" 2939 (.ref 857)), (hde P "__weakref__" 2941 (.ref 860)), (hde P "__doc__" 2942 .none)] 3), #[]⟩
noncomputable def o859 : Obj := ⟨(.type "type"), none, (.cls { name := "lab3", bases := [(.type "Exception")], mro := [(.ref 859), (.type "Exception"), (.type "BaseException"), (.type "object")], ns := 858, qualname := "lab3", hasDict := true, slotNames := [], subclasses := [], abstract := false, collection := none, hasDel := false }), #[(some (.ref 850)), none, (some (.str "lab3" 2927)), (some (.str "lab3" 2935)), (some (.builtin "Exception.__new__")), (some (.bool true))]⟩
noncomputable def o860 : Obj := ⟨(.type "getset_descriptor"), none, (.fields #[(.str "__weakref__" 2940), (.ref 859), (.builtin "ExceptionGroup.__weakref__"), .none]), #[]⟩
noncomputable def o861 : Obj := ⟨(.type "super"), none, (.fields #[(.ref 859), (.ref 859), (.ref 859)]), #[]⟩
noncomputable def o862 : Obj := ⟨(.type "builtin_function_or_method"), none, (.fields #[(.builtin "object.__init_subclass__"), (.ref 859)]), #[]⟩
noncomputable def o867 : Obj := ⟨.none, none, (fnData (fnAt top 13) "_law_heads" 0 [] .none .none .none .none none .none .none 0), #[]⟩
noncomputable def o868 : Obj := ⟨(.type "code"), none, (.fields #[(.str "_law_heads" 2951), (.str "_law_heads" 2952), (.str "/claim/cut.py" 2953), (.int 971 0), (.int 0 0), (.int 0 0), (.int 0 0), (.int 3 0), (.ref 863), (.bool true), (.int 181 0), (.ref 864), .none, (.ref 865), (.ref 866), (.ref 867), (.int 2954 0), (.int 971 0), (.str "/claim/cut.py" 2955)]), #[]⟩
noncomputable def o869 : Obj := ⟨(.type "function"), none, (fnData (fnAt top 13) "_law_heads" 3 [] .none .none .none (.str "law_is0021_02" 2947) none (.ref 868) .none 0), #[]⟩
noncomputable def o874 : Obj := ⟨.none, none, (fnData (fnAt top 14) "_law_vowels" 0 [] .none .none .none .none none .none .none 0), #[]⟩
noncomputable def o875 : Obj := ⟨(.type "code"), none, (.fields #[(.str "_law_vowels" 2957), (.str "_law_vowels" 2958), (.str "/claim/cut.py" 2959), (.int 973 0), (.int 0 0), (.int 0 0), (.int 0 0), (.int 3 0), (.ref 870), (.bool true), (.int 181 0), (.ref 871), .none, (.ref 872), (.ref 873), (.ref 874), (.int 2960 0), (.int 973 0), (.str "/claim/cut.py" 2961)]), #[]⟩
noncomputable def o876 : Obj := ⟨(.type "function"), none, (fnData (fnAt top 14) "_law_vowels" 3 [] .none .none .none (.str "law_is0021_02" 2947) none (.ref 875) .none 0), #[]⟩
noncomputable def o881 : Obj := ⟨.none, none, (fnData (fnAt top 15) "_law_closes" 0 [] .none .none .none .none none .none .none 0), #[]⟩
noncomputable def o882 : Obj := ⟨(.type "code"), none, (.fields #[(.str "_law_closes" 2963), (.str "_law_closes" 2964), (.str "/claim/cut.py" 2965), (.int 975 0), (.int 0 0), (.int 0 0), (.int 0 0), (.int 3 0), (.ref 877), (.bool true), (.int 181 0), (.ref 878), .none, (.ref 879), (.ref 880), (.ref 881), (.int 2966 0), (.int 975 0), (.str "/claim/cut.py" 2967)]), #[]⟩
noncomputable def o883 : Obj := ⟨(.type "function"), none, (fnData (fnAt top 15) "_law_closes" 3 [] .none .none .none (.str "law_is0021_02" 2947) none (.ref 882) .none 0), #[]⟩
noncomputable def o888 : Obj := ⟨.none, none, (fnData (fnAt top 16) "_law_ends" 0 [] .none .none .none .none none .none .none 0), #[]⟩
noncomputable def o889 : Obj := ⟨(.type "code"), none, (.fields #[(.str "_law_ends" 2969), (.str "_law_ends" 2970), (.str "/claim/cut.py" 2971), (.int 977 0), (.int 0 0), (.int 0 0), (.int 0 0), (.int 3 0), (.ref 884), (.bool true), (.int 181 0), (.ref 885), .none, (.ref 886), (.ref 887), (.ref 888), (.int 2972 0), (.int 977 0), (.str "/claim/cut.py" 2973)]), #[]⟩
noncomputable def o890 : Obj := ⟨(.type "function"), none, (fnData (fnAt top 16) "_law_ends" 3 [] .none .none .none (.str "law_is0021_02" 2947) none (.ref 889) .none 0), #[]⟩
noncomputable def o893 : Obj := ⟨.none, none, (fnData (fnAt top 17) "law" 0 [] .none .none .none .none none .none .none 0), #[]⟩
noncomputable def o894 : Obj := ⟨(.type "code"), none, (.fields #[(.str "law" 2975), (.str "law" 2976), (.str "/claim/cut.py" 2977), (.int 979 0), (.int 1 0), (.int 0 0), (.int 0 0), (.int 3 0), (.ref 891), (.bool true), (.int 181 0), (.ref 892), .none, .none, .none, (.ref 893), (.int 2978 0), (.int 979 0), (.str "/claim/cut.py" 2979)]), #[]⟩
noncomputable def o895 : Obj := ⟨(.type "function"), none, (fnData (fnAt top 17) "law" 3 [] .none .none .none (.str "law_is0021_02" 2947) none (.ref 894) .none 0), #[]⟩
noncomputable def HF (P : Params) : BT := (node (boot_o_0 P) (node (boot_o_1 P) (node (o3HF P) (node (boot_o_7 P) (node o11 (node o31 (node o63 (node o11 (hT65 P) (node (o383 P) (lf (o639 P)) (lf o895))) (node o12 (node o319 (lf (o575 P)) (lf o11)) (node o447 (lf (o703 P)) nil))) (node o11 (hT137 P) (node o223 (node o351 (lf o607) (lf o11)) (node (o479 P) (lf o735) nil)))) (node o47 (node o12 (hT138 P) (node o11 (node o335 (lf (o591 P)) (lf o847)) (node (o463 P) (lf (o719 P)) nil))) (node o111 (node o175 (node o303 (lf o559) (lf o12)) (node (o431 P) (lf o687) nil)) (node o11 (node (o367 P) (lf (o623 P)) (lf o11)) (node o495 (lf (o751 P)) nil))))) (node o23 (node o11 (node o11 (hT140 P) (node o199HS (node o11 (lf o583) (lf (o839 P))) (node (o455 P) (lf o711) nil))) (node o103 (hT191 P) (node o231 (node (o359 P) (lf (o615 P)) (lf o12)) (node (o487 P) (lf (o743 P)) nil)))) (node o55 (node o87 (hT141 P) (node o215 (node (o343 P) (lf (o599 P)) (lf o855)) (node o471 (lf (o727 P)) nil))) (node o119 (node o11 (node o311 (lf (o567 P)) (lf o823)) (node (o439 P) (lf (o695 P)) nil)) (node o247 (node (o375 P) (lf o631) (lf o11)) (node (o503 P) (lf o759) nil)))))) (node o11 (node o19 (node o35 (node o11 (hT143 P) (node o195 (node o11 (lf (o579 P)) (lf o835)) (node (o451 P) (lf (o707 P)) nil))) (node o11 (hT145 P) (node (o227HS P) (node (o355 P) (lf (o611 P)) (lf o867)) (node o483 (lf (o739 P)) nil)))) (node o12 (node o83 (hT146 P) (node o11 (node (o339 P) (lf o595) (lf o23)) (node (o467 P) (lf o723) nil))) (node o115 (node o11 (node o12 (lf (o563 P)) (lf (o819 P))) (node o435 (lf (o691 P)) nil)) (node o11 (node (o371 P) (lf (o627 P)) (lf o883)) (node (o499 P) (lf (o755 P)) nil))))) (node o27 (node o11 (node o75 (hT148 P) (node o203 (node o331 (lf (o587 P)) (lf o843)) (node o459 (lf (o715 P)) nil))) (node o12 (node o171 (node o11 (lf (o555 P)) (lf o811)) (node (o427 P) (lf (o683 P)) nil)) (node (set3 P) (node o363 (lf o619) (lf o875)) (node (o491 P) (lf o747) nil)))) (node o59 (node o91 (hT149 P) (node (o219 P) (node (o347 P) (lf (o603 P)) (lf o859)) (node (o475 P) (lf (o731 P)) nil))) (node o11 (node o187 (node o315 (lf o571) (lf o11)) (node (o443 P) (lf o699) nil)) (node o12 (node o379 (lf (o635 P)) (lf o11)) (node o507 (lf (o763 P)) nil))))))) (node (boot_o_5 P) (node (boot_o_9 P) (node o17 (node o33 (node o12 (hT82 P) (node o11 (node o12 (lf o577) (lf o833)) (node (o449 P) (lf o705) nil))) (node o97 (hT151 P) (node o225 (node (o353 P) (lf (o609 P)) (lf o11)) (node (o481 P) (lf (o737 P)) nil)))) (node o49 (node o11 (hT152 P) (node o209 (node (o337 P) (lf (o593 P)) (lf o849)) (node o465 (lf (o721 P)) nil))) (node o11 (node o12 (node o305 (lf (o561 P)) (lf o817)) (node (o433 P) (lf (o689 P)) nil)) (node o241 (node (o369 P) (lf o625) (lf o881)) (node (o497 P) (lf o753) nil))))) (node o11 (node o41 (node o73 (hT154 P) (node o201 (node o329 (lf (o585 P)) (lf o12)) (node (o457 P) (lf (o713 P)) nil))) (node o105 (hT192 P) (node (set1 P) (node (o361 P) (lf (o617 P)) (lf o11)) (node o489 (lf (o745 P)) nil)))) (node o11 (node o89 (hT156 P) (node o217 (node (o345 P) (lf o601) (lf o11)) (node (o473 P) (lf o729) nil))) (node o12 (node o185 (node o11 (lf (o569 P)) (lf o23)) (node o441 (lf (o697 P)) nil)) (node o249 (node (o377 P) (lf (o633 P)) (lf o889)) (node (o505 P) (lf (o761 P)) nil)))))) (node o13 (node o21 (node o12 (node o69 (hT158 P) (node o197 (node o325 (lf (o581 P)) (lf o811)) (node o453 (lf (o709 P)) nil))) (node o101 (hT159 P) (node o229HC5 (node o357 (lf o613) (lf o869)) (node (o485 P) (lf o741) nil)))) (node o11 (node o11 (hT160 P) (node o213 (node o341 (lf (o597 P)) (lf o11)) (node (o469 P) (lf (o725 P)) nil))) (node o117 (node o181 (node o11 (lf o565) (lf o821)) (node (o437 P) (lf o693) nil)) (node o245 (node o373 (lf (o629 P)) (lf o12)) (node o501 (lf (o757 P)) nil))))) (node o11 (node o45 (node o77 (hT161 P) (node o23 (node o333 (lf o589) (lf (o845 P))) (node (o461 P) (lf o717) nil))) (node o11 (node o173 (node o301 (lf (o557 P)) (lf (o813 P))) (node o429 (lf (o685 P)) nil)) (node o12 (node (o365 P) (lf (o621 P)) (lf o11)) (node (o493 P) (lf (o749 P)) nil)))) (node o61 (node o12 (hT162 P) (node o221 (node (o349 P) (lf (o605 P)) (lf o861)) (node o477 (lf (o733 P)) nil))) (node o125 (node o189 (node o317 (lf (o573 P)) (lf o829)) (node (o445 P) (lf (o701 P)) nil)) (node o11 (node (o381 P) (lf (o637 P)) (lf o893)) (node (o509 P) (lf o765) nil)))))))) (node (o2HF P) (node (boot_o_4 P) (node (boot_o_8 P) (node o12 (node o11 (node o11 (hT100 P) (node o192 (node o11 (lf (o576 P)) (lf (o832 P))) (node (o448 P) (lf (o704 P)) nil))) (node o96 (hT164 P) (node o224 (node (o352 P) (lf (o608 P)) (lf o12)) (node o480 (lf (o736 P)) nil)))) (node o48 (node o80 (hT165 P) (node o208 (node (o336 P) (lf o592) (lf o848)) (node (o464 P) (lf o720) nil))) (node o112 (node o11 (node o304 (lf (o560 P)) (lf o816)) (node o432 (lf (o688 P)) nil)) (node o240 (node o368 (lf (o624 P)) (lf o11)) (node (o496 P) (lf (o752 P)) nil))))) (node (o24 P) (node o40 (node o12 (hT167 P) (node o200 (node o12 (lf (o584 P)) (lf o11)) (node o456 (lf (o712 P)) nil))) (node o104 (hT193 P) (node (set0 P) (node o360 (lf o616) (lf o11)) (node (o488 P) (lf o744) nil)))) (node o56 (node o11 (hT169 P) (node o216 (node o344 (lf (o600 P)) (lf o856)) (node (o472 P) (lf (o728 P)) nil))) (node o11 (node o12 (node o312 (lf o568) (lf o811)) (node (o440 P) (lf o696) nil)) (node o248 (node o376 (lf (o632 P)) (lf o888)) (node o504 (lf (o760 P)) nil)))))) (node o12HF (node o20 (node o11 (node o68 (hT171 P) (node o196 (node o324 (lf o580) (lf o836)) (node (o452 P) (lf o708) nil))) (node o12 (hT172 P) (node o11 (node (o356 P) (lf (o612 P)) (lf o868)) (node (o484 P) (lf (o740 P)) nil)))) (node o52 (node o84 (hT173 P) (node o12 (node (o340 P) (lf (o596 P)) (lf (o852 P))) (node o468 (lf (o724 P)) nil))) (node o11 (node o180 (node o308 (lf (o564 P)) (lf o820)) (node (o436 P) (lf (o692 P)) nil)) (node o12 (node (o372 P) (lf o628) (lf o11)) (node (o500 P) (lf o756) nil))))) (node o28 (node o12 (node o76 (hT174 P) (node o11 (node o332 (lf (o588 P)) (lf o11)) (node (o460 P) (lf (o716 P)) nil))) (node o108 (node o11 (node o12 (lf o556) (lf o23)) (node (o428 P) (lf o684) nil)) (node o11 (node (o364 P) (lf (o620 P)) (lf o876)) (node o492 (lf (o748 P)) nil)))) (node o11 (node o11 (hT175 P) (node o220 (node o348 (lf o604) (lf o860)) (node (o476 P) (lf o732) nil))) (node o124 (node o188 (node o11 (lf (o572 P)) (lf o12)) (node o444 (lf (o700 P)) nil)) (node o252 (node (o380 P) (lf o636) (lf o12)) (node (o508 P) (lf (o764 P)) nil))))))) (node (boot_o_6 P) (node (boot_o_10 P) (node o11 (node o34 (node o66 (hT118 P) (node o194 (node o322 (lf (o578 P)) (lf o834)) (node o450 (lf (o706 P)) nil))) (node o98 (hT177 P) (node o23 (node o354 (lf o610) (lf o11)) (node (o482 P) (lf o738) nil)))) (node o11 (node o82 (hT178 P) (node o210 (node o338 (lf (o594 P)) (lf o811)) (node (o466 P) (lf (o722 P)) nil))) (node o12 (node o178 (node o11 (lf o562) (lf o11)) (node (o434 P) (lf o690) nil)) (node o242 (node o370 (lf (o626 P)) (lf o882)) (node o498 (lf (o754 P)) nil))))) (node o26 (node o42 (node o11 (hT180 P) (node o202 (node o11 (lf o586) (lf o842)) (node (o458 P) (lf o714) nil))) (node o11 (hT194 P) (node (set2 P) (node (o362 P) (lf (o618 P)) (lf o874)) (node (o490 P) (lf (o746 P)) nil)))) (node o12 (node o90 (hT182 P) (node o218 (node o346 (lf (o602 P)) (lf (o858 P))) (node o474 (lf (o730 P)) nil))) (node o122 (node o11 (node o12 (lf (o570 P)) (lf (o826 P))) (node (o442 P) (lf (o698 P)) nil)) (node o11 (node (o378 P) (lf o634) (lf o890)) (node (o506 P) (lf o762) nil)))))) (node o14 (node o11 (node o38 (node o70 (hT184 P) (node (o198 P) (node o326 (lf (o582 P)) (lf o23)) (node (o454 P) (lf (o710 P)) nil))) (node o11 (hT195 P) (node o230 (node (o358 P) (lf (o614 P)) (lf o11)) (node o486 (lf (o742 P)) nil)))) (node o54 (node o12 (hT186 P) (node o11 (node (o342 P) (lf o598) (lf o12)) (node (o470 P) (lf o726) nil))) (node o118 (node o182 (node o310 (lf (o566 P)) (lf o822)) (node o438 (lf (o694 P)) nil)) (node o11 (node (o374 P) (lf (o630 P)) (lf o11)) (node (o502 P) (lf (o758 P)) nil))))) (node o12 (node o11 (node o11 (hT188 P) (node (o206 P) (node (o334 P) (lf (o590 P)) (lf o846)) (node o462 (lf (o718 P)) nil))) (node o110 (node o174 (node o11 (lf (o558 P)) (lf o11)) (node (o430 P) (lf (o686 P)) nil)) (node o238 (node o366 (lf o622) (lf o12)) (node (o494 P) (lf o750) nil)))) (node o62 (node o94 (hT189 P) (node o222 (node (o350 P) (lf (o606 P)) (lf o862)) (node (o478 P) (lf (o734 P)) nil))) (node o126 (node o11 (node o318 (lf o574) (lf o830)) (node (o446 P) (lf o702) nil)) (node o254 (node o382 (lf o638) (lf o894)) (node o510 (lf (o766 P)) nil)))))))))
end
end Mine
end
section
open PySem PySem.W PySem.Calls PyProof.Rows
namespace Mine
noncomputable section
noncomputable abbrev RK := Result → Sem PySem.Fin
noncomputable abbrev pw : Program := PySem.Challenge.pw_is0021_02
noncomputable def tenv : Env := { scope := PySem.Challenge.pw_is0021_02.main.scope, locals := mainNs, globals := mainNs, cells := [], code := .ref 13, frame := some 14 }
noncomputable def cscope : Scope := match fnAt top 6 with
  | some (.ClassDef _ _ _ _ _ _ sc ..) => sc
  | _ => PySem.Challenge.pw_is0021_02.main.scope
noncomputable def cbody : List Stmt := bodyAt top 6
noncomputable def cenv : Env := { scope := cscope, locals := 227, globals := 3, cells := [], qual := "FrenchStemmer.", func := none, code := .ref 230, frame := some 231 }
noncomputable def tbody : List Stmt := behindTheImports PySem.Challenge.pw_is0021_02
noncomputable abbrev tcode : Code := .body tbody tenv
noncomputable abbrev ccode : Code := .body cbody cenv
noncomputable def q0 : Pos := ⟨0, 0, 0, 0⟩
noncomputable def B1 : List Frame := [topFrame q0]
noncomputable def cpos : Pos := ⟨218, 0, 960, 121⟩
noncomputable def B2 (k : RK) : List Frame := [.ret k none false [.ref 199, .ref 225, .ref 225, .ref 227, .ref 231] tcode cpos [], topFrame q0]
noncomputable def part (i n : Nat) (l : List Stmt) : List Stmt := (l.drop i).take n
noncomputable def shT (T : BT) (n : Nat) (toks : Nat) (os : OsState) : SharedT := ⟨T, n, {}, #[], {}, toks, os⟩
noncomputable def ann6 : Option Value := some (.ref 6)
noncomputable def bindSet (p1 : Pos) (nm : Str) (a : Addr) : Sem Flow := do standAt p1; bindName cenv nm (.ref a); pure Flow.next
noncomputable def CRun (w : World) (n : Nat) (T : BT) (a ta : Nat) (p : Pos) (l : List Stmt) (T' : BT) (b tb : Nat) (p' : Pos) : Prop :=
  (fun (os : OsState) (k : RK) => segRunT treeTable PySem.Challenge.pw_is0021_02 w 11 ann6 2 n (shT T a ta os) ⟨(execs l cenv).wrap doneF deadEnd id id, ccode, p, B2 k⟩) = fun os k => some (.next, shT T' b tb os, ccode, p')
end
end Mine
end
section
open PySem PySem.W PySem.Calls PyProof.Rows
namespace Mine
noncomputable section
theorem r_pre (w : World) : (fun (os : OsState) => topGo treeTable PySem.Challenge.pw_is0021_02 w 11 ann6 12 ⟨boot_heap w.params, #[], boot_drawn, boot_toks, os⟩ (topStub PySem.Challenge.pw_is0021_02)) =
    fun os => some ((shT (HP w.params) 15 187 os).abs, ⟨denote treeTable tcode, tcode, q0, B1⟩) := by
  unfold tcode
  rw [PySem.W.Fast.te15667345088766844465, PySem.W.Fast.te14364793385576792824, PySem.W.Fast.te11892475500146522536]
  kernel_rfl
end
end Mine
end
section
open PySem PySem.W PySem.Calls PyProof.Rows
namespace Mine
noncomputable section
theorem r_A (w : World) : (fun (os : OsState) => segRunT treeTable PySem.Challenge.pw_is0021_02 w 11 ann6 1 1400 (shT (HP w.params) 15 187 os) ⟨(execs (part 0 6 tbody) tenv).wrap doneF deadEnd id id, .body tbody tenv, q0, B1⟩) =
    fun os => some (.next, shT (HA w.params) 225 475 os, .body tbody tenv, ⟨217, 0, 217, 8⟩) := by
  rw [PySem.W.Fast.te10110043849684766642, PySem.W.Fast.te14364793385576792824, PySem.W.Fast.te12563942051412417395]
  kernel_rfl
theorem r_F (w : World) : (fun (os : OsState) => segRunT treeTable PySem.Challenge.pw_is0021_02 w 11 ann6 1 1200 (shT (HS w.params) 811 2867 os) ⟨(execs (part 7 11 tbody) tenv).wrap doneF deadEnd id id, .body tbody tenv, cpos, B1⟩) =
    fun os => some (.next, shT (HF w.params) 896 2981 os, .body tbody tenv, ⟨979, 0, 992, 15⟩) := by
  rw [PySem.W.Fast.te10110043849684766642, PySem.W.Fast.te14364793385576792824, PySem.W.Fast.te12563942051412417395]
  kernel_rfl
theorem r_fin (w : World) (s : Shared) : topRun treeTable PySem.Challenge.pw_is0021_02 w 11 ann6 3 s ⟨doneF .next, .body tbody tenv, ⟨979, 0, 992, 15⟩, B1⟩ = some s := by
  obtain ⟨h, g, d, t, os⟩ := s
  rfl
end
end Mine
end
section
open PySem PySem.W PySem.Calls PyProof.Rows
namespace Mine
noncomputable section
noncomputable def kC (w : World) (os : OsState) : RK := match PySem.W.Fast.tw10295753902157049106 PySem.W.Fast.tw14364793385576792824 PySem.Challenge.pw_is0021_02 w 11 ann6 0 64 (shT (HA w.params) 225 475 os)
    ⟨(PySem.W.Fast.tw12563942051412417395 (tbody.drop 6) tenv).wrap doneF (leaveH tenv) id id, .body tbody tenv, ⟨217, 0, 217, 8⟩, B1⟩ with
  | some (_, ⟨_, _, _, .ret k _ _ _ _ _ _ :: _⟩) => k
  | _ => fun _ => .unsupported ""
theorem r_in (w : World) : (fun (os : OsState) => segGoT treeTable PySem.Challenge.pw_is0021_02 w 11 ann6 0 64 (shT (HA w.params) 225 475 os) ⟨(execs (tbody.drop 6) tenv).wrap doneF (leaveH tenv) id id, .body tbody tenv, ⟨217, 0, 217, 8⟩, B1⟩) =
    fun os => some (shT (HC0 w.params) 232 487 os, ⟨denote treeTable (.body cbody cenv), .body cbody cenv, cpos, B2 (kC w os)⟩) := by
  rw [PySem.W.Fast.te10295753902157049106, PySem.W.Fast.te14364793385576792824, PySem.W.Fast.te12563942051412417395,
    PySem.W.Fast.te11892475500146522536]
  kernel_rfl
theorem r_out (w : World) : (fun (os : OsState) => segGoT treeTable PySem.Challenge.pw_is0021_02 w 11 ann6 0 183 (shT (HC10 w.params) 806 2856 os) ⟨doneF .next, .body cbody cenv, ⟨960, 4, 960, 7⟩, B2 (kC w os)⟩) =
    fun os => some (shT (HS w.params) 811 2867 os, ⟨(execs (tbody.drop 7) tenv).wrap doneF (leaveH tenv) id id, .body tbody tenv, cpos, B1⟩) := by
  rw [PySem.W.Fast.te10295753902157049106, PySem.W.Fast.te14364793385576792824, PySem.W.Fast.te12563942051412417395]
  kernel_rfl
end
end Mine
end
section
open PySem PySem.W PySem.Calls PyProof.Rows
namespace Mine
theorem r_b0 (w : World) : (fun (os : OsState) (k : RK) (q' : Pos) => segRunT treeTable PySem.Challenge.pw_is0021_02 w 11 ann6 2 20 (shT ((HC0 w.params).ins 232 (set0 w.params)) 233 521 os) ⟨(bindSet ⟨219, 4, 219, 7⟩ ⟨⟨[103, 95, 118]⟩⟩ 232).wrap doneF deadEnd id id, ccode, q', B2 k⟩) =
    fun os k _ => some (.next, shT (HC1 w.params) 233 522 os, ccode, ⟨219, 4, 219, 7⟩) := by
  unfold bindSet
  rw [PySem.W.Fast.te10110043849684766642, PySem.W.Fast.te14364793385576792824, PySem.W.Fast.te7536695828754713326]
  kernel_rfl
theorem r_b1 (w : World) : (fun (os : OsState) (k : RK) (q' : Pos) => segRunT treeTable PySem.Challenge.pw_is0021_02 w 11 ann6 2 20 (shT ((HC1 w.params).ins 233 (set1 w.params)) 234 534 os) ⟨(bindSet ⟨220, 4, 220, 16⟩ ⟨⟨[103, 95, 111, 117, 120, 95, 101, 110, 100, 105, 110, 103]⟩⟩ 233).wrap doneF deadEnd id id, ccode, q', B2 k⟩) =
    fun os k _ => some (.next, shT (HC2 w.params) 234 535 os, ccode, ⟨220, 4, 220, 16⟩) := by
  unfold bindSet
  rw [PySem.W.Fast.te10110043849684766642, PySem.W.Fast.te14364793385576792824, PySem.W.Fast.te7536695828754713326]
  kernel_rfl
theorem r_b2 (w : World) : (fun (os : OsState) (k : RK) (q' : Pos) => segRunT treeTable PySem.Challenge.pw_is0021_02 w 11 ann6 2 20 (shT ((HC2 w.params).ins 234 (set2 w.params)) 235 551 os) ⟨(bindSet ⟨221, 4, 221, 18⟩ ⟨⟨[103, 95, 101, 108, 105, 115, 105, 111, 110, 95, 99, 104, 97, 114]⟩⟩ 234).wrap doneF deadEnd id id, ccode, q', B2 k⟩) =
    fun os k _ => some (.next, shT (HC3 w.params) 235 552 os, ccode, ⟨221, 4, 221, 18⟩) := by
  unfold bindSet
  rw [PySem.W.Fast.te10110043849684766642, PySem.W.Fast.te14364793385576792824, PySem.W.Fast.te7536695828754713326]
  kernel_rfl
theorem r_b3 (w : World) : (fun (os : OsState) (k : RK) (q' : Pos) => segRunT treeTable PySem.Challenge.pw_is0021_02 w 11 ann6 2 20 (shT ((HC3 w.params).ins 235 (set3 w.params)) 236 564 os) ⟨(bindSet ⟨222, 4, 222, 17⟩ ⟨⟨[103, 95, 107, 101, 101, 112, 95, 119, 105, 116, 104, 95, 115]⟩⟩ 235).wrap doneF deadEnd id id, ccode, q', B2 k⟩) =
    fun os k _ => some (.next, shT (HC4 w.params) 236 565 os, ccode, ⟨222, 4, 222, 17⟩) := by
  unfold bindSet
  rw [PySem.W.Fast.te10110043849684766642, PySem.W.Fast.te14364793385576792824, PySem.W.Fast.te7536695828754713326]
  kernel_rfl
end Mine
end
section
open PySem PySem.W PySem.Calls PyProof.Rows
namespace Mine
section
variable {tb : String → Option Builtin} {p : Program} {w : World} {n₀ : Nat} {ann : Option Value}
theorem endAt_zero {t : Thread} (h : endAt 0 t = none) : through t = false := by
  obtain ⟨cur, code, pos, stack⟩ := t
  unfold through
  cases stack with
  | cons f r => rfl
  | nil =>
    show (true && _) = false
    rw [Bool.true_and]
    cases cur with
    | pure f => cases f <;> first | rfl | exact no_none h | exact no_false h | cases h
    | _ => rfl
theorem segGo_top : ∀ {n : Nat} {s : Shared} {t : Thread} {r : Shared × Thread}, segGo tb p w n₀ ann 0 n s t = some r → topGo tb p w n₀ ann n s t = some r
  | 0, _, _, _, h => h
  | n + 1, s, t, r, h => by
    unfold segGo at h
    unfold topGo
    cases he : endAt 0 t with
    | some f => rw [he] at h; cases h
    | none =>
      rw [he] at h
      rw [endAt_zero he]
      cases hk : stepOk n₀ ann t with
      | false => rw [hk] at h; cases h
      | true =>
        rw [hk] at h
        cases hs : step (denote tb) p w s t with
        | halt o s₂ => rw [hs] at h; cases h
        | go s₂ t₂ => rw [hs] at h; exact segGo_top h
theorem pieceB {B : List Frame} (hB : splitAtGen B = none) {x : Sem Flow} {K : Flow → Sem PySem.Fin} {H : Value → Sem PySem.Fin} {n N : Nat} {s s' r : Shared} {c : Code} {q p' : Pos} (h : segRun tb p w n₀ ann B.length n s ⟨x.wrap doneF deadEnd id id, c, q, B⟩ = some (.next, s', c, p'))
    (k : topRun tb p w n₀ ann N s' ⟨K .next, c, p', B⟩ = some r) : topRun tb p w n₀ ann (n + N) s ⟨x.wrap K H id id, c, q, B⟩ = some r := by
  obtain ⟨a, ha, hN⟩ := seg_top (res := _root_.id) (K' := K) (H' := H) (B := B) hB n s ⟨x.wrap doneF deadEnd _root_.id _root_.id, c, q, B⟩ ⟨x.wrap K H _root_.id _root_.id, c, q, B⟩ _ _ _ _ ⟨rfl, rfl, .inl ⟨rfl, rfl, _, rfl, rfl⟩⟩ h
  obtain rfl : a = .next := ha
  exact hN N r k
theorem listB {B : List Frame} (hB : splitAtGen B = none) {env : Env} {l rest : List Stmt} {n N : Nat} {s s' r : Shared} {c : Code} {q p' : Pos} (h : segRun tb p w n₀ ann B.length n s ⟨(execs l env).wrap doneF deadEnd id id, c, q, B⟩ = some (.next, s', c, p'))
    (k : topRun tb p w n₀ ann N s' (restOf rest env c p' B) = some r) : topRun tb p w n₀ ann (n + N) s (restOf (l ++ rest) env c q B) = some r := by
  unfold restOf at k ⊢
  rw [execs_app_wrap]
  exact pieceB hB h k
end
theorem part_app (i n : Nat) (l : List Stmt) : part i n l ++ l.drop (i + n) = l.drop i := by
  unfold part
  rw [← List.drop_drop]
  exact List.take_append_drop n (l.drop i)
theorem set_piece {w : World} {os : OsState} {k : RK} {nm : Str} {p1 p2 p3 q q1 : Pos} {elts : List PySem.Expr} {ls : List Str} {rest : List Stmt} {T : BT} {n tk : Nat} {oset : Obj} {S' : Shared} {N : Nat} {r : Shared} {cc : Value} {cd : Option Addr} {vs : Array Value} {sl : Array (Option Value)}
    (hl : ls.Nodup) (hlen : ls.length ≤ 30) (he : areStrs elts ls = true) (hr : displayRoad 0 elts = .unsure) (ho : T.get 230 = some ⟨cc, cd, .fields vs, sl⟩) (h230 : 230 < n) (hset : setLeft w ls tk = oset) (hins : ((T.ins n oset).get n).isSome = true)
    (hb : ∀ q', segRun treeTable PySem.Challenge.pw_is0021_02 w 11 ann6 2 20 (shT (T.ins n oset) (n + 1) (tk + ls.length + ls.length) os).abs ⟨(bindSet p1 nm n).wrap doneF deadEnd id id, ccode, q', B2 k⟩ = some (.next, S', ccode, q1))
    (hN : topRun treeTable PySem.Challenge.pw_is0021_02 w 11 ann6 N S' (restOf rest cenv ccode q1 (B2 k)) = some r) :
    topRun treeTable PySem.Challenge.pw_is0021_02 w 11 ann6 (1 + (62 * ls.length + 50) + (20 + N)) (shT T n tk os).abs (restOf (.Assign [.Name nm p1] (.Set elts 0 p2) p3 :: rest) cenv ccode q (B2 k)) = some r := by
  subst hset
  have hsz : (shT T n tk os).abs.heap.objs.size = n := absHeap_size T n {}
  have ho' : (shT T n tk os).abs.heap.get? 230 = some ⟨cc, cd, .fields vs, sl⟩ := by
    show (absHeap T n {}).get? 230 = _
    rw [abs_get h230 ho]; rfl
  have G : go PySem.Challenge.pw_is0021_02 w 11 ann6 (1 + (62 * ls.length + 50)) (do standAt p3; eval (.Set elts 0 p2) cenv : Sem Value) (fun v _ s' => v = .ref n ∧ s' = (shT (T.ins n (setLeft w ls tk)) (n + 1) (tk + ls.length + ls.length) os).abs) q (shT T n tk os).abs := by
    refine go_bind (n := 1) ?_
    show go _ w 11 ann6 (62 * ls.length + 50) _ _ p3 _
    refine go_set (c := 230) (by rw [hsz]; exact Nat.le_of_lt (Nat.lt_trans (by decide) h230)) hl hlen he hr rfl ho' fun q' heap' hh => ⟨by rw [hsz], ?_⟩
    rw [hh]
    show Shared.mk ((absHeap T n {}).push (setLeft w ls tk)) _ _ _ _ = Shared.mk (absHeap (T.ins n (setLeft w ls tk)) (n + 1) {}) _ _ _ _
    rw [absHeap_ins hins]; rfl
  obtain ⟨v, q', s', ⟨rfl, rfl⟩, run⟩ := go_run _ _ _ _ _ G
  unfold restOf
  rw [execs_cons_wrap, exec_Assign_Name _ _ _ _ _ rfl]
  have e : ∀ (K : Flow → Sem PySem.Fin) (H : Value → Sem PySem.Fin), (do standAt p3; let v ← eval (.Set elts 0 p2) cenv; standAt p1; bindName cenv nm v; pure Flow.next : Sem Flow).wrap K H id id =
      (do standAt p3; eval (.Set elts 0 p2) cenv : Sem Value).wrap (fun v => (do standAt p1; bindName cenv nm v; pure Flow.next : Sem Flow).wrap K H id id) H id id := fun K H => by
    simp only [Sem.bind_eq_wrap', Sem.wrap_wrap]
    rfl
  rw [e]
  exact run _ _ _ _ _ _ _ _ (pieceB (n := 20) rfl (hb q') hN)
end Mine
end
section
open PySem PySem.W PySem.Calls PyProof.Rows
namespace Mine
theorem cset0 : ∃ nm elts p2 p3, cbody.drop 0 = .Assign [.Name nm ⟨219, 4, 219, 7⟩] (.Set elts 0 p2) p3 :: cbody.drop 1 ∧ nm = ⟨⟨[103, 95, 118]⟩⟩ ∧ areStrs elts (oneSigns [97, 101, 105, 111, 117, 121, 224, 226, 232, 233, 234, 235, 238, 239, 244, 249, 251]) = true ∧ displayRoad 0 elts = .unsure :=
  ⟨_, _, _, _, rfl, by kernel_rfl, by kernel_rfl, by kernel_rfl⟩
theorem cset1 : ∃ nm elts p2 p3, cbody.drop 1 = .Assign [.Name nm ⟨220, 4, 220, 16⟩] (.Set elts 0 p2) p3 :: cbody.drop 2 ∧ nm = ⟨⟨[103, 95, 111, 117, 120, 95, 101, 110, 100, 105, 110, 103]⟩⟩ ∧ areStrs elts (oneSigns [98, 104, 106, 108, 110, 112]) = true ∧ displayRoad 0 elts = .unsure :=
  ⟨_, _, _, _, rfl, by kernel_rfl, by kernel_rfl, by kernel_rfl⟩
theorem cset2 : ∃ nm elts p2 p3, cbody.drop 2 = .Assign [.Name nm ⟨221, 4, 221, 18⟩] (.Set elts 0 p2) p3 :: cbody.drop 3 ∧ nm = ⟨⟨[103, 95, 101, 108, 105, 115, 105, 111, 110, 95, 99, 104, 97, 114]⟩⟩ ∧ areStrs elts (oneSigns [99, 100, 106, 108, 109, 110, 115, 116]) = true ∧ displayRoad 0 elts = .unsure :=
  ⟨_, _, _, _, rfl, by kernel_rfl, by kernel_rfl, by kernel_rfl⟩
theorem cset3 : ∃ nm elts p2 p3, cbody.drop 3 = .Assign [.Name nm ⟨222, 4, 222, 17⟩] (.Set elts 0 p2) p3 :: cbody.drop 4 ∧ nm = ⟨⟨[103, 95, 107, 101, 101, 112, 95, 119, 105, 116, 104, 95, 115]⟩⟩ ∧ areStrs elts (oneSigns [97, 105, 111, 115, 117, 232]) = true ∧ displayRoad 0 elts = .unsure :=
  ⟨_, _, _, _, rfl, by kernel_rfl, by kernel_rfl, by kernel_rfl⟩
theorem cbody_end : cbody.drop 31 = [] := by kernel_rfl
theorem tbody_end : tbody.drop 18 = [] := by kernel_rfl
theorem cblock0 : blockStart cbody cenv = pure () := by kernel_rfl
theorem tblock0 : blockStart tbody tenv = pure () := by kernel_rfl
theorem denote_body {b : List Stmt} {env : Env} (h : blockStart b env = pure ()) : denote treeTable (.body b env) = (execs b env).wrap doneF (leaveH env) id id := by
  rw [body_wrap, h]; rfl
theorem addAll_P (w : World) : ∀ (l : List (Str × Tok)) (st : Array (Int × Value) × SetTable × Nat), addAll w l st = addAll (paramsWorld w.params) l st
  | [], _ => rfl
  | x :: r, st => by
    show addAll w r _ = addAll (paramsWorld w.params) r _
    rw [addAll_P w r]; rfl
theorem setLeft_P (w : World) (l : List Str) (k : Nat) : setLeft w l k = setLeft (paramsWorld w.params) l k := by
  have e : setStart w l k = setStart (paramsWorld w.params) l k := by unfold setStart; exact addAll_P w _ _
  unfold setLeft
  rw [e]
end Mine
end
section
open PySem PySem.W PySem.Calls PyProof.Rows
namespace Mine
theorem r_HC5 (w : World) : CRun w 700 (HC4 w.params) 236 565 ⟨222, 4, 222, 17⟩ (part 4 17 cbody) (HC5 w.params) 334 713 ⟨870, 4, 950, 19⟩ := by
  unfold CRun
  rw [PySem.W.Fast.te10110043849684766642, PySem.W.Fast.te14364793385576792824, PySem.W.Fast.te12563942051412417395]
  kernel_rfl
end Mine
end
section
open PySem PySem.W PySem.Calls PyProof.Rows
namespace Mine
theorem r_HC6 (w : World) : CRun w 3600 (HC5 w.params) 334 713 ⟨870, 4, 950, 19⟩ (part 21 4 cbody) (HC6 w.params) 398 994 ⟨954, 4, 954, 7⟩ := by
  unfold CRun
  rw [PySem.W.Fast.te10110043849684766642, PySem.W.Fast.te14364793385576792824, PySem.W.Fast.te12563942051412417395]
  kernel_rfl
end Mine
end
section
open PySem PySem.W PySem.Calls PyProof.Rows
namespace Mine
theorem r_HC7 (w : World) : CRun w 7600 (HC6 w.params) 398 994 ⟨954, 4, 954, 7⟩ (part 25 1 cbody) (HC7 w.params) 531 1604 ⟨955, 4, 955, 7⟩ := by
  unfold CRun
  rw [PySem.W.Fast.te10110043849684766642, PySem.W.Fast.te14364793385576792824, PySem.W.Fast.te12563942051412417395]
  kernel_rfl
end Mine
end
section
open PySem PySem.W PySem.Calls PyProof.Rows
namespace Mine
theorem r_HC8 (w : World) : CRun w 6100 (HC7 w.params) 531 1604 ⟨955, 4, 955, 7⟩ (part 26 1 cbody) (HC8 w.params) 637 2090 ⟨956, 4, 956, 7⟩ := by
  unfold CRun
  rw [PySem.W.Fast.te10110043849684766642, PySem.W.Fast.te14364793385576792824, PySem.W.Fast.te12563942051412417395]
  kernel_rfl
end Mine
end
section
open PySem PySem.W PySem.Calls PyProof.Rows
namespace Mine
theorem r_HC9 (w : World) : CRun w 7600 (HC8 w.params) 637 2090 ⟨956, 4, 956, 7⟩ (part 27 2 cbody) (HC9 w.params) 771 2697 ⟨958, 4, 958, 7⟩ := by
  unfold CRun
  rw [PySem.W.Fast.te10110043849684766642, PySem.W.Fast.te14364793385576792824, PySem.W.Fast.te12563942051412417395]
  kernel_rfl
end Mine
end
section
open PySem PySem.W PySem.Calls PyProof.Rows
namespace Mine
theorem r_HC10 (w : World) : CRun w 2000 (HC9 w.params) 771 2697 ⟨958, 4, 958, 7⟩ (part 29 2 cbody) (HC10 w.params) 806 2856 ⟨960, 4, 960, 7⟩ := by
  unfold CRun
  rw [PySem.W.Fast.te10110043849684766642, PySem.W.Fast.te14364793385576792824, PySem.W.Fast.te12563942051412417395]
  kernel_rfl
end Mine
end
section
open PySem PySem.W PySem.Calls PyProof.Rows
namespace Mine
noncomputable def Ends (w : World) (os : OsState) (N : Nat) (s : Shared) (t : Thread) (r : Shared) : Prop := topRun treeTable PySem.Challenge.pw_is0021_02 w 11 ann6 N s t = some r
theorem cstep {w : World} {os : OsState} {k : RK} {n a ta b tb : Nat} {T T' : BT} {p p' : Pos} {i m j : Nat} {N : Nat} {r : Shared} (h : CRun w n T a ta p (part i m cbody) T' b tb p') (hj : i + m = j)
    (hN : Ends w os N (shT T' b tb os).abs (restOf (cbody.drop j) cenv ccode p' (B2 k)) r) : Ends w os (n + N) (shT T a ta os).abs (restOf (cbody.drop i) cenv ccode p (B2 k)) r := by
  unfold Ends at hN ⊢
  rw [← part_app i m cbody]
  rw [← hj] at hN
  exact listB rfl (segRun_of (congrFun (congrFun h os) k)) hN
theorem cset {w : World} {os : OsState} {k : RK} {q q1 p1 p2 p3 : Pos} {nm : Str} {elts : List PySem.Expr} {ls : List Nat} {j j' : Nat} {T T' : BT} {n n' tk tk' tk2 : Nat} {oset : Obj} {N : Nat} {r : Shared} {cc : Value} {cd : Option Addr} {vs : Array Value} {sl : Array (Option Value)}
    (hst : cbody.drop j = .Assign [.Name nm p1] (.Set elts 0 p2) p3 :: cbody.drop j') (hl : (oneSigns ls).Nodup) (hlen : ls.length ≤ 30) (he : areStrs elts (oneSigns ls) = true) (hr : displayRoad 0 elts = .unsure)
    (hset : oset = setLeft (paramsWorld w.params) (oneSigns ls) tk) (ho : T.get 230 = some ⟨cc, cd, .fields vs, sl⟩) (h230 : 230 < n) (hins : ((T.ins n oset).get n).isSome = true) (htk : tk' = tk + ls.length + ls.length) (hn' : n' = n + 1)
    (hb : (fun (os : OsState) (k : RK) (q' : Pos) => segRunT treeTable PySem.Challenge.pw_is0021_02 w 11 ann6 2 20 (shT (T.ins n oset) n' tk' os) ⟨(bindSet p1 nm n).wrap doneF deadEnd id id, ccode, q', B2 k⟩) = fun os k _ => some (.next, shT T' n' tk2 os, ccode, q1))
    (hN : Ends w os N (shT T' n' tk2 os).abs (restOf (cbody.drop j') cenv ccode q1 (B2 k)) r) :
    Ends w os (1 + (62 * ls.length + 50) + (20 + N)) (shT T n tk os).abs (restOf (cbody.drop j) cenv ccode q (B2 k)) r := by
  unfold Ends at hN ⊢
  have e : (oneSigns ls).length = ls.length := List.length_map ..
  subst hn'
  rw [hst, ← e]
  refine set_piece hl (by rw [e]; exact hlen) he hr ho h230 ((setLeft_P w _ _).trans hset.symm) hins (fun q' => ?_) hN
  rw [e, ← htk]
  exact segRun_of (congrFun (congrFun (congrFun hb os) k) q')
theorem g10 (w : World) (os : OsState) (k : RK) (N : Nat) (r : Shared) (h : Ends w os N (shT (HC10 w.params) 806 2856 os).abs (restOf (cbody.drop 31) cenv ccode ⟨960, 4, 960, 7⟩ (B2 k)) r) : Ends w os (700 + (3600 + (7600 + (6100 + (7600 + (2000 + N)))))) (shT (HC4 w.params) 236 565 os).abs (restOf (cbody.drop 4) cenv ccode ⟨222, 4, 222, 17⟩ (B2 k)) r :=
  cstep (r_HC5 w) (j := 21) rfl (cstep (r_HC6 w) (j := 25) rfl (cstep (r_HC7 w) (j := 26) rfl (cstep (r_HC8 w) (j := 27) rfl (cstep (r_HC9 w) (j := 29) rfl (cstep (r_HC10 w) (j := 31) rfl h)))))
end Mine
end
section
open PySem PySem.W PySem.Calls PyProof.Rows
namespace Mine
theorem get230_0 (P : Params) : (HC0 P).get 230 = some o230 := by kernel_rfl
theorem get230_1 (P : Params) : (HC1 P).get 230 = some o230 := by kernel_rfl
theorem get230_2 (P : Params) : (HC2 P).get 230 = some o230 := by kernel_rfl
theorem get230_3 (P : Params) : (HC3 P).get 230 = some o230 := by kernel_rfl
theorem ins_0 (P : Params) : (((HC0 P).ins 232 (set0 P)).get 232).isSome = true := by kernel_rfl
theorem ins_1 (P : Params) : (((HC1 P).ins 233 (set1 P)).get 233).isSome = true := by kernel_rfl
theorem ins_2 (P : Params) : (((HC2 P).ins 234 (set2 P)).get 234).isSome = true := by kernel_rfl
theorem ins_3 (P : Params) : (((HC3 P).ins 235 (set3 P)).get 235).isSome = true := by kernel_rfl
theorem g3 (w : World) (os : OsState) (k : RK) (q : Pos) (N : Nat) (r : Shared) (h : Ends w os N (shT (HC4 w.params) 236 565 os).abs (restOf (cbody.drop 4) cenv ccode ⟨222, 4, 222, 17⟩ (B2 k)) r) :
    Ends w os (1 + (62 * 6 + 50) + (20 + N)) (shT (HC3 w.params) 235 552 os).abs (restOf (cbody.drop 3) cenv ccode q (B2 k)) r := by
  obtain ⟨nm, elts, p2, p3, h1, h2, h3, h4⟩ := cset3
  subst h2
  exact cset (ls := [97, 105, 111, 115, 117, 232]) h1 (by decide +kernel) (by decide) h3 h4 (oset := set3 w.params) rfl (get230_3 w.params) (by decide) (ins_3 w.params) rfl rfl (r_b3 w) h
theorem g2 (w : World) (os : OsState) (k : RK) (q : Pos) (N : Nat) (r : Shared) (h : Ends w os N (shT (HC3 w.params) 235 552 os).abs (restOf (cbody.drop 3) cenv ccode ⟨221, 4, 221, 18⟩ (B2 k)) r) :
    Ends w os (1 + (62 * 8 + 50) + (20 + N)) (shT (HC2 w.params) 234 535 os).abs (restOf (cbody.drop 2) cenv ccode q (B2 k)) r := by
  obtain ⟨nm, elts, p2, p3, h1, h2, h3, h4⟩ := cset2
  subst h2
  exact cset (ls := [99, 100, 106, 108, 109, 110, 115, 116]) h1 (by decide +kernel) (by decide) h3 h4 (oset := set2 w.params) rfl (get230_2 w.params) (by decide) (ins_2 w.params) rfl rfl (r_b2 w) h
theorem g1 (w : World) (os : OsState) (k : RK) (q : Pos) (N : Nat) (r : Shared) (h : Ends w os N (shT (HC2 w.params) 234 535 os).abs (restOf (cbody.drop 2) cenv ccode ⟨220, 4, 220, 16⟩ (B2 k)) r) :
    Ends w os (1 + (62 * 6 + 50) + (20 + N)) (shT (HC1 w.params) 233 522 os).abs (restOf (cbody.drop 1) cenv ccode q (B2 k)) r := by
  obtain ⟨nm, elts, p2, p3, h1, h2, h3, h4⟩ := cset1
  subst h2
  exact cset (ls := [98, 104, 106, 108, 110, 112]) h1 (by decide +kernel) (by decide) h3 h4 (oset := set1 w.params) rfl (get230_1 w.params) (by decide) (ins_1 w.params) rfl rfl (r_b1 w) h
theorem g0 (w : World) (os : OsState) (k : RK) (q : Pos) (N : Nat) (r : Shared) (h : Ends w os N (shT (HC1 w.params) 233 522 os).abs (restOf (cbody.drop 1) cenv ccode ⟨219, 4, 219, 7⟩ (B2 k)) r) :
    Ends w os (1 + (62 * 17 + 50) + (20 + N)) (shT (HC0 w.params) 232 487 os).abs (restOf (cbody.drop 0) cenv ccode q (B2 k)) r := by
  obtain ⟨nm, elts, p2, p3, h1, h2, h3, h4⟩ := cset0
  subst h2
  exact cset (ls := [97, 101, 105, 111, 117, 121, 224, 226, 232, 233, 234, 235, 238, 239, 244, 249, 251]) h1 (by decide +kernel) (by decide) h3 h4 (oset := set0 w.params) rfl (get230_0 w.params) (by decide) (ins_0 w.params) rfl rfl (r_b0 w) h
end Mine
end
section
open PySem PySem.W PySem.Calls PyProof.Rows
namespace Mine
theorem restOf_nil (env : Env) (c : Code) (p : Pos) (B : List Frame) : restOf [] env c p B = ⟨doneF .next, c, p, B⟩ := rfl
theorem tstep {w : World} {os : OsState} {n a ta b tb : Nat} {T T' : BT} {p p' : Pos} {i m j : Nat} {N : Nat} {r : Shared}
    (h : (fun (os : OsState) => segRunT treeTable PySem.Challenge.pw_is0021_02 w 11 ann6 1 n (shT T a ta os) ⟨(execs (part i m tbody) tenv).wrap doneF deadEnd id id, .body tbody tenv, p, B1⟩) = fun os => some (.next, shT T' b tb os, .body tbody tenv, p')) (hj : i + m = j)
    (hN : Ends w os N (shT T' b tb os).abs (restOf (tbody.drop j) tenv tcode p' B1) r) : Ends w os (n + N) (shT T a ta os).abs (restOf (tbody.drop i) tenv tcode p B1) r := by
  unfold Ends at hN ⊢
  rw [← part_app i m tbody]
  rw [← hj] at hN
  exact listB rfl (segRun_of (congrFun h os)) hN
theorem gostep {w : World} {os : OsState} {n N : Nat} {s s' : OsState → SharedT} {t t' : OsState → Thread} {r : Shared} (h : (fun (os : OsState) => segGoT treeTable PySem.Challenge.pw_is0021_02 w 11 ann6 0 n (s os) (t os)) = fun os => some (s' os, t' os))
    (hN : Ends w os N (s' os).abs (t' os) r) : Ends w os (n + N) (s os).abs (t os) r :=
  go_top (segGo_top (segGo_of (congrFun h os))) hN
theorem gF (w : World) (os : OsState) : Ends w os (1200 + 3) (shT (HS w.params) 811 2867 os).abs (restOf (tbody.drop 7) tenv tcode cpos B1) (shT (HF w.params) 896 2981 os).abs := by
  refine tstep (r_F w) (j := 18) rfl ?_
  rw [tbody_end, restOf_nil]
  exact r_fin w _
theorem gOut (w : World) (os : OsState) : Ends w os (183 + (1200 + 3)) (shT (HC10 w.params) 806 2856 os).abs (restOf (cbody.drop 31) cenv ccode ⟨960, 4, 960, 7⟩ (B2 (kC w os))) (shT (HF w.params) 896 2981 os).abs := by
  rw [cbody_end, restOf_nil]
  exact gostep (r_out w) (gF w os)
end Mine
end
section
open PySem PySem.W PySem.Calls PyProof.Rows
namespace Mine
noncomputable def n1 : Nat := 1 + (62 * 6 + 50) + (20 + (700 + (3600 + (7600 + (6100 + (7600 + (2000 + (183 + (1200 + 3)))))))))
noncomputable def n2 : Nat := 1 + (62 * 17 + 50) + (20 + (1 + (62 * 6 + 50) + (20 + (1 + (62 * 8 + 50) + (20 + n1)))))
noncomputable def nAll : Nat := 12 + (1400 + (64 + n2))
theorem gIn3 (w : World) (os : OsState) (q : Pos) : Ends w os n1 (shT (HC3 w.params) 235 552 os).abs (restOf (cbody.drop 3) cenv ccode q (B2 (kC w os))) (shT (HF w.params) 896 2981 os).abs :=
  g3 w os _ q _ _ (g10 w os _ _ _ (gOut w os))
theorem gIn0 (w : World) (os : OsState) (q : Pos) : Ends w os n2 (shT (HC0 w.params) 232 487 os).abs (restOf (cbody.drop 0) cenv ccode q (B2 (kC w os))) (shT (HF w.params) 896 2981 os).abs :=
  g0 w os _ q _ _ (g1 w os _ _ _ _ (g2 w os _ _ _ _ (gIn3 w os _)))
theorem drop_zero' (l : List Stmt) : l.drop 0 = l := rfl
theorem gClass (w : World) (os : OsState) : Ends w os n2 (shT (HC0 w.params) 232 487 os).abs ⟨denote treeTable (.body cbody cenv), .body cbody cenv, cpos, B2 (kC w os)⟩ (shT (HF w.params) 896 2981 os).abs := by
  have h := gIn0 w os cpos
  rw [drop_zero'] at h
  rw [denote_body cblock0]
  exact h
theorem gA (w : World) (os : OsState) : Ends w os (64 + n2) (shT (HA w.params) 225 475 os).abs (restOf (tbody.drop 6) tenv tcode ⟨217, 0, 217, 8⟩ B1) (shT (HF w.params) 896 2981 os).abs := by
  have h := gostep (n := 64) (N := n2) (r_in w) (gClass w os)
  exact h
theorem gP (w : World) (os : OsState) : Ends w os (1400 + (64 + n2)) (shT (HP w.params) 15 187 os).abs ⟨denote treeTable tcode, tcode, q0, B1⟩ (shT (HF w.params) 896 2981 os).abs := by
  have h := tstep (r_A w) (j := 6) rfl (gA w os)
  rw [drop_zero'] at h
  rw [denote_body tblock0]
  exact h
theorem head_run (w : World) (os : OsState) : topRun treeTable PySem.Challenge.pw_is0021_02 w 11 ann6 nAll ⟨boot_heap w.params, #[], boot_drawn, boot_toks, os⟩ (topStub PySem.Challenge.pw_is0021_02) = some (shT (HF w.params) 896 2981 os).abs :=
  go_top (congrFun (r_pre w) os) (gP w os)
end Mine
end
section
open PySem PySem.W PySem.Calls PyProof.Rows
namespace Mine
noncomputable section
noncomputable def KF (P : Params) : Frag := [(0, boot_o_0 P), (1, boot_o_1 P), (2, o2HF P), (3, o3HF P), (4, boot_o_4 P), (5, boot_o_5 P), (6, boot_o_6 P), (7, boot_o_7 P), (8, boot_o_8 P), (9, boot_o_9 P), (10, boot_o_10 P), (11, o11), (12, o12HF), (13, o13), (14, o14), (15, o11), (16, o12), (17, o17), (18, o11), (19, o19), (20, o20), (21, o21), (22, o11), (23, o23), (24, o24 P), (25, o11), (26, o26), (27, o27), (28, o28), (29, o11), (30, o12), (31, o31), (32, o11), (33, o33), (34, o34), (35, o35), (36, o11), (37, o12), (38, o38), (39, o11), (40, o40), (41, o41), (42, o42), (43, o11), (44, o12), (45, o45), (46, o11), (47, o47), (48, o48), (49, o49), (50, o11), (51, o12), (52, o52), (53, o11), (54, o54), (55, o55), (56, o56), (57, o11), (58, o12), (59, o59), (60, o11), (61, o61), (62, o62), (63, o63), (64, o11), (65, o12), (66, o66), (67, o11), (68, o68), (69, o69), (70, o70), (71, o11), (72, o12), (73, o73), (74, o11), (75, o75), (76, o76), (77, o77), (78, o11), (79, o12), (80, o80), (81, o11), (82, o82), (83, o83), (84, o84), (85, o11), (86, o12), (87, o87), (88, o11), (89, o89), (90, o90), (91, o91), (92, o11), (93, o12), (94, o94), (95, o11), (96, o96), (97, o97), (98, o98), (99, o11), (100, o12), (101, o101), (102, o11), (103, o103), (104, o104), (105, o105), (106, o11), (107, o12), (108, o108), (109, o11), (110, o110), (111, o111), (112, o112), (113, o11), (114, o12), (115, o115), (116, o11), (117, o117), (118, o118), (119, o119), (120, o11), (121, o12), (122, o122), (123, o11), (124, o124), (125, o125), (126, o126), (127, o11), (128, o12), (129, o129), (130, o11), (131, o131), (132, o132), (133, o133), (134, o11), (135, o12), (136, o136), (137, o11), (138, o138), (139, o139), (140, o140), (141, o11), (142, o12), (143, o143), (144, o11), (145, o145), (146, o146), (147, o147), (148, o11), (149, o12), (150, o150), (151, o11), (152, o152), (153, o153), (154, o154), (155, o11), (156, o12), (157, o157), (158, o11), (159, o159), (160, o160), (161, o161), (162, o11), (163, o12), (164, o164), (165, o11), (166, o166), (167, o167), (168, o168), (169, o11), (170, o12), (171, o171), (172, o11), (173, o173), (174, o174), (175, o175), (176, o11), (177, o12), (178, o178), (179, o11), (180, o180), (181, o181), (182, o182), (183, o11), (184, o12), (185, o185), (186, o11), (187, o187), (188, o188), (189, o189), (190, o11), (191, o12), (192, o192), (193, o11), (194, o194), (195, o195), (196, o196), (197, o197), (198, o198 P), (199, o199HS), (200, o200), (201, o201), (202, o202), (203, o203), (204, o11), (205, o23), (206, o206 P), (207, o11), (208, o208), (209, o209), (210, o210), (211, o11), (212, o12), (213, o213), (214, o11), (215, o215), (216, o216), (217, o217), (218, o218), (219, o219 P), (220, o220), (221, o221), (222, o222), (223, o223), (224, o224), (225, o225), (226, o23), (227, o227HS P), (228, o11), (229, o229HC5), (230, o230), (231, o231), (232, set0 P), (233, set1 P), (234, set2 P), (235, set3 P), (236, o11), (237, o12), (238, o238), (239, o11), (240, o240), (241, o241), (242, o242), (243, o11), (244, o12), (245, o245), (246, o11), (247, o247), (248, o248), (249, o249), (250, o11), (251, o12), (252, o252), (253, o11), (254, o254), (255, o255), (256, o256), (257, o11), (258, o12), (259, o259), (260, o11), (261, o261), (262, o262), (263, o263), (264, o11), (265, o12), (266, o266), (267, o11), (268, o268), (269, o269), (270, o270), (271, o11), (272, o12), (273, o273), (274, o11), (275, o275), (276, o276), (277, o277), (278, o11), (279, o12), (280, o280), (281, o11), (282, o282), (283, o283), (284, o284), (285, o11), (286, o12), (287, o287), (288, o11), (289, o289), (290, o290), (291, o291), (292, o11), (293, o12), (294, o294), (295, o11), (296, o296), (297, o297), (298, o298), (299, o11), (300, o12), (301, o301), (302, o11), (303, o303), (304, o304), (305, o305), (306, o11), (307, o12), (308, o308), (309, o11), (310, o310), (311, o311), (312, o312), (313, o11), (314, o12), (315, o315), (316, o11), (317, o317), (318, o318), (319, o319), (320, o11), (321, o12), (322, o322), (323, o11), (324, o324), (325, o325), (326, o326), (327, o11), (328, o12), (329, o329), (330, o11), (331, o331), (332, o332), (333, o333), (334, o334 P), (335, o335), (336, o336 P), (337, o337 P), (338, o338), (339, o339 P), (340, o340 P), (341, o341), (342, o342 P), (343, o343 P), (344, o344), (345, o345 P), (346, o346), (347, o347 P), (348, o348), (349, o349 P), (350, o350 P), (351, o351), (352, o352 P), (353, o353 P), (354, o354), (355, o355 P), (356, o356 P), (357, o357), (358, o358 P), (359, o359 P), (360, o360), (361, o361 P), (362, o362 P), (363, o363), (364, o364 P), (365, o365 P), (366, o366), (367, o367 P), (368, o368), (369, o369 P), (370, o370), (371, o371 P), (372, o372 P), (373, o373), (374, o374 P), (375, o375 P), (376, o376), (377, o377 P), (378, o378 P), (379, o379), (380, o380 P), (381, o381 P), (382, o382), (383, o383 P), (384, o384 P), (385, o385), (386, o386 P), (387, o387), (388, o388 P), (389, o389), (390, o390 P), (391, o391 P), (392, o392), (393, o393 P), (394, o394 P), (395, o395), (396, o396 P), (397, o397), (398, o398 P), (399, o399), (400, o400 P), (401, o401 P), (402, o402), (403, o403 P), (404, o404 P), (405, o405), (406, o406 P), (407, o407 P), (408, o408), (409, o409 P), (410, o410 P), (411, o411), (412, o412 P), (413, o413 P), (414, o414), (415, o415 P), (416, o416 P), (417, o417), (418, o418 P), (419, o419 P), (420, o420), (421, o421 P), (422, o422 P), (423, o423), (424, o424 P), (425, o425 P), (426, o426), (427, o427 P), (428, o428 P), (429, o429), (430, o430 P), (431, o431 P), (432, o432), (433, o433 P), (434, o434 P), (435, o435), (436, o436 P), (437, o437 P), (438, o438), (439, o439 P), (440, o440 P), (441, o441), (442, o442 P), (443, o443 P), (444, o444), (445, o445 P), (446, o446 P), (447, o447), (448, o448 P), (449, o449 P), (450, o450), (451, o451 P), (452, o452 P), (453, o453), (454, o454 P), (455, o455 P), (456, o456), (457, o457 P), (458, o458 P), (459, o459), (460, o460 P), (461, o461 P), (462, o462), (463, o463 P), (464, o464 P), (465, o465), (466, o466 P), (467, o467 P), (468, o468), (469, o469 P), (470, o470 P), (471, o471), (472, o472 P), (473, o473 P), (474, o474), (475, o475 P), (476, o476 P), (477, o477), (478, o478 P), (479, o479 P), (480, o480), (481, o481 P), (482, o482 P), (483, o483), (484, o484 P), (485, o485 P), (486, o486), (487, o487 P), (488, o488 P), (489, o489), (490, o490 P), (491, o491 P), (492, o492), (493, o493 P), (494, o494 P), (495, o495), (496, o496 P), (497, o497 P), (498, o498), (499, o499 P), (500, o500 P), (501, o501), (502, o502 P), (503, o503 P), (504, o504), (505, o505 P), (506, o506 P), (507, o507), (508, o508 P), (509, o509 P), (510, o510), (511, o511 P), (512, o512 P), (513, o513), (514, o514 P), (515, o515 P), (516, o516), (517, o517 P), (518, o518 P), (519, o519), (520, o520 P), (521, o521 P), (522, o522), (523, o523 P), (524, o524 P), (525, o525), (526, o526 P), (527, o527 P), (528, o528), (529, o529 P), (530, o530), (531, o531 P), (532, o532), (533, o533 P), (534, o534 P), (535, o535), (536, o536 P), (537, o537 P), (538, o538), (539, o539 P), (540, o540 P), (541, o541), (542, o542 P), (543, o543 P), (544, o544), (545, o545 P), (546, o546 P), (547, o547), (548, o548 P), (549, o549 P), (550, o550), (551, o551 P), (552, o552 P), (553, o553), (554, o554 P), (555, o555 P), (556, o556), (557, o557 P), (558, o558 P), (559, o559), (560, o560 P), (561, o561 P), (562, o562), (563, o563 P), (564, o564 P), (565, o565), (566, o566 P), (567, o567 P), (568, o568), (569, o569 P), (570, o570 P), (571, o571), (572, o572 P), (573, o573 P), (574, o574), (575, o575 P), (576, o576 P), (577, o577), (578, o578 P), (579, o579 P), (580, o580), (581, o581 P), (582, o582 P), (583, o583), (584, o584 P), (585, o585 P), (586, o586), (587, o587 P), (588, o588 P), (589, o589), (590, o590 P), (591, o591 P), (592, o592), (593, o593 P), (594, o594 P), (595, o595), (596, o596 P), (597, o597 P), (598, o598), (599, o599 P), (600, o600 P), (601, o601), (602, o602 P), (603, o603 P), (604, o604), (605, o605 P), (606, o606 P), (607, o607), (608, o608 P), (609, o609 P), (610, o610), (611, o611 P), (612, o612 P), (613, o613), (614, o614 P), (615, o615 P), (616, o616), (617, o617 P), (618, o618 P), (619, o619), (620, o620 P), (621, o621 P), (622, o622), (623, o623 P), (624, o624 P), (625, o625), (626, o626 P), (627, o627 P), (628, o628), (629, o629 P), (630, o630 P), (631, o631), (632, o632 P), (633, o633 P), (634, o634), (635, o635 P), (636, o636), (637, o637 P), (638, o638), (639, o639 P), (640, o640 P), (641, o641), (642, o642 P), (643, o643 P), (644, o644), (645, o645 P), (646, o646), (647, o647 P), (648, o648), (649, o649 P), (650, o650 P), (651, o651), (652, o652 P), (653, o653 P), (654, o654), (655, o655 P), (656, o656 P), (657, o657), (658, o658 P), (659, o659 P), (660, o660), (661, o661 P), (662, o662 P), (663, o663), (664, o664 P), (665, o665 P), (666, o666), (667, o667 P), (668, o668 P), (669, o669), (670, o670 P), (671, o671 P), (672, o672), (673, o673 P), (674, o674 P), (675, o675), (676, o676 P), (677, o677 P), (678, o678), (679, o679 P), (680, o680 P), (681, o681), (682, o682 P), (683, o683 P), (684, o684), (685, o685 P), (686, o686 P), (687, o687), (688, o688 P), (689, o689 P), (690, o690), (691, o691 P), (692, o692 P), (693, o693), (694, o694 P), (695, o695 P), (696, o696), (697, o697 P), (698, o698 P), (699, o699), (700, o700 P), (701, o701 P), (702, o702), (703, o703 P), (704, o704 P), (705, o705), (706, o706 P), (707, o707 P), (708, o708), (709, o709 P), (710, o710 P), (711, o711), (712, o712 P), (713, o713 P), (714, o714), (715, o715 P), (716, o716 P), (717, o717), (718, o718 P), (719, o719 P), (720, o720), (721, o721 P), (722, o722 P), (723, o723), (724, o724 P), (725, o725 P), (726, o726), (727, o727 P), (728, o728 P), (729, o729), (730, o730 P), (731, o731 P), (732, o732), (733, o733 P), (734, o734 P), (735, o735), (736, o736 P), (737, o737 P), (738, o738), (739, o739 P), (740, o740 P), (741, o741), (742, o742 P), (743, o743 P), (744, o744), (745, o745 P), (746, o746 P), (747, o747), (748, o748 P), (749, o749 P), (750, o750), (751, o751 P), (752, o752 P), (753, o753), (754, o754 P), (755, o755 P), (756, o756), (757, o757 P), (758, o758 P), (759, o759), (760, o760 P), (761, o761 P), (762, o762), (763, o763 P), (764, o764 P), (765, o765), (766, o766 P), (767, o767 P), (768, o768), (769, o769 P), (770, o770), (771, o771 P), (772, o772), (773, o773 P), (774, o774 P), (775, o775), (776, o776 P), (777, o777 P), (778, o778), (779, o779 P), (780, o780 P), (781, o781), (782, o782 P), (783, o783 P), (784, o784), (785, o785 P), (786, o786 P), (787, o787), (788, o788 P), (789, o789), (790, o790 P), (791, o791), (792, o792 P), (793, o793 P), (794, o794), (795, o795 P), (796, o796 P), (797, o797), (798, o798 P), (799, o799 P), (800, o800), (801, o801 P), (802, o802 P), (803, o803), (804, o804 P), (805, o805), (806, o806), (807, o807 P), (808, o808), (809, o809), (810, o810), (811, o811), (812, o23), (813, o813 P), (814, o11), (815, o12), (816, o816), (817, o817), (818, o11), (819, o819 P), (820, o820), (821, o821), (822, o822), (823, o823), (824, o811), (825, o23), (826, o826 P), (827, o11), (828, o12), (829, o829), (830, o830), (831, o11), (832, o832 P), (833, o833), (834, o834), (835, o835), (836, o836), (837, o811), (838, o23), (839, o839 P), (840, o11), (841, o12), (842, o842), (843, o843), (844, o11), (845, o845 P), (846, o846), (847, o847), (848, o848), (849, o849), (850, o811), (851, o23), (852, o852 P), (853, o11), (854, o12), (855, o855), (856, o856), (857, o11), (858, o858 P), (859, o859), (860, o860), (861, o861), (862, o862), (863, o11), (864, o12), (865, o11), (866, o11), (867, o867), (868, o868), (869, o869), (870, o11), (871, o12), (872, o11), (873, o11), (874, o874), (875, o875), (876, o876), (877, o11), (878, o12), (879, o11), (880, o11), (881, o881), (882, o882), (883, o883), (884, o11), (885, o12), (886, o11), (887, o11), (888, o888), (889, o889), (890, o890), (891, o11), (892, o12), (893, o893), (894, o894), (895, o895)]
noncomputable def qv : Program := { PySem.Challenge.pw_is0021_02 with main := { PySem.Challenge.pw_is0021_02.main with body := PySem.Challenge.pw_is0021_02.main.body.drop 17 } }
noncomputable def loose : List Str := ["_wall", "BaseStemmer", "Among", "FrenchStemmer", "lab0", "lab1", "lab2", "lab3", "_law_signs", "_law_heads", "_law_vowels", "_law_closes", "_law_ends"]
noncomputable def HB1 (P : Params) : Heap := absHeap (HF P) 896 {}
noncomputable def Yf (s : Shared) : Heap := s.heap
noncomputable def Ya (w : World) : Heap := HB1 w.params
theorem l_open : ∀ w : World, (fencedOpening treeTable PySem.Challenge.pw_is0021_02 w 100000).map (fun s => (s.heap, s.gens, s.drawn, s.toks)) = some (boot_heap w.params, Array.mk [], boot_drawn, boot_toks) :=
  boot_open (by kernel_rfl) (by decide) (fun s => rfl)
theorem l_size (w : World) : ((boot_heap w.params).isNs mainGlobals && (#[] : Array GenState).size == 0, (boot_heap w.params).objs.size, (boot_heap w.params).nsMap mainGlobals "__annotations__") = (true, 11, ann6) := by kernel_rfl
end
end Mine
end
section
open PySem PySem.W PySem.Calls PyProof.Rows
namespace Mine
noncomputable def sF (w : World) (os : OsState) : Shared := ⟨HB1 w.params, #[], {}, 2981, os⟩
noncomputable abbrev modsF : List Str := importedModules PySem.Challenge.pw_is0021_02.main.body
theorem mods_nil : modsF = [] := by kernel_rfl
theorem k1 (w : World) : staticsOk [] (boot_heap w.params) (HB1 w.params) = true := by
  kernel_rfl
theorem k2 (w : World) : namesBound PySem.Challenge.pw_is0021_02 (HB1 w.params) = true := by
  kernel_rfl
theorem k3 (w : World) (os : OsState) : gensDone (sF w os) = true := by rfl
theorem k4 (w : World) : laidKept (boot_heap w.params) (HB1 w.params) = true := by
  kernel_rfl
theorem l3 (w : World) (os : OsState) : Yf (sF w os) = Ya w := rfl
theorem kf1 (P : Params) : (KF P).map (fun p => (HF P).get p.1) = (KF P).map fun p => some p.2 := by kernel_rfl
theorem kf2 (P : Params) : (KF P).map (fun p => alive p.2) = (KF P).map fun p => some p.2 := by kernel_rfl
theorem kf3 (P : Params) : (KF P).all (fun p => Nat.blt p.1 896) = true := by kernel_rfl
theorem lookup_mem {K : Frag} {a : Addr} {o : Obj} (h : K.lookup a = some o) : (a, o) ∈ K := by
  induction K with
  | nil => cases h
  | cons p r ih =>
    obtain ⟨b, o'⟩ := p
    rw [List.lookup_cons] at h
    cases e : a == b with
    | true => rw [e] at h; cases h; rw [beq_iff_eq.mp e]; exact .head _
    | false => rw [e] at h; exact .tail _ (ih h)
theorem map_at {α β : Type} {f g : α → β} : ∀ {l : List α}, l.map f = l.map g → ∀ x ∈ l, f x = g x
  | y :: r, h, x, hx => by
    rw [List.map_cons, List.map_cons, List.cons.injEq] at h
    rcases List.mem_cons.mp hx with rfl | hx
    · exact h.1
    · exact map_at h.2 x hx
theorem KF_in (P : Params) : (KF P).In (HB1 P) := fun a o h => by
  have m := lookup_mem h
  have e1 := map_at (kf1 P) _ m
  have e2 := map_at (kf2 P) _ m
  have e3 := List.all_eq_true.mp (kf3 P) _ m
  unfold HB1
  rw [abs_get (Nat.le_of_ble_eq_true e3) e1]
  exact e2
theorem s1 (w : World) (os : OsState) : seen ((recsOf qv).map (·.name)) (ownsOf qv) [] { sF w os with gens := #[] } = expectedOf qv := by kernel_rfl
theorem s2 (w : World) (os : OsState) : (sF w os).heap.bltView = bltViewBooted := by kernel_rfl
theorem s3 (w : World) (os : OsState) : (sF w os).heap.keysOk (looseW qv loose) ((recsOf qv).map (·.name)) ((litsOf qv).map (·.1)) ((clssOf qv (looseW qv loose)).map (·.name)) = true := by kernel_rfl
theorem s4 (w : World) (os : OsState) : (sF w os).heap.accountedOkI [] = true := by kernel_rfl
theorem s5 (w : World) (os : OsState) : ((sF w os).heap.isNs mainGlobals && (sF w os).heap.isNs builtinsNs) = true := by kernel_rfl
theorem s6 (w : World) (os : OsState) : tablesOk qv (sF w os).heap = true := by kernel_rfl
theorem s7 (w : World) (os : OsState) : tabsOk qv (sF w os) = true := by kernel_rfl
theorem s8 (w : World) (os : OsState) : pinSeenD qv (drecsOf qv) (sF w os) = pinGoodD (drecsOf qv) := by kernel_rfl
theorem s9 (w : World) (os : OsState) : plainSeenE qv (looseW qv loose) (sF w os) = plainGoodE qv (looseW qv loose) := by kernel_rfl
theorem s10 (w : World) (os : OsState) : plainSeenD qv loose (sF w os) = plainGoodD qv loose := by kernel_rfl
theorem s11 (w : World) (os : OsState) : wideSeen qv (sF w os) = wideGood qv := by kernel_rfl
theorem s12 (w : World) (os : OsState) : clsSeenW qv loose (sF w os) = clsGoodW qv loose := by kernel_rfl
end Mine
end
section
open PySem PySem.W PySem.Calls PyProof.Rows
namespace Mine
noncomputable def XtF (s : Shared) : Bool := xlAt qv [] s && recOk [] s
theorem xt_ok (w : World) (os : OsState) : XtF (sF w os) = true := by kernel_rfl
theorem mods0 : importedModules PySem.Challenge.pw_is0021_02.main.body = [] := mods_nil
theorem l_seen (w : World) (os : OsState) : openSeen qv loose [] XtF true (sF w os) = openGood qv loose := by
  unfold openSeen openGood
  rw [s1, s2, s3, s4, s7, s8, s9, s10, s11, s12, s6]
  have e := Bool.and_eq_true_iff.mp (s5 w os)
  rw [e.1, e.2, xt_ok]
  rfl
theorem l_looks (w : World) (os : OsState) : (staticsOk (importedModules PySem.Challenge.pw_is0021_02.main.body) (boot_heap w.params) (HB1 w.params) && namesBound PySem.Challenge.pw_is0021_02 (HB1 w.params) && gensDone (sF w os) && laidKept (boot_heap w.params) (HB1 w.params)) = true := by
  rw [mods0, k1, k2, k3, k4]; rfl
theorem left : LeftO PySem.Challenge.pw_is0021_02 qv loose XtF Yf Ya 100000 := by
  refine LeftO.of_pieces (H₀ := boot_heap) (H₁ := HB1) (gs₀ := #[]) (gs₁ := #[]) (d₀ := boot_drawn) (d₁ := {}) (k₀ := boot_toks) (k₁ := 2981) (m₀ := 11) (ann := ann6) (M := nAll) l_open l_size (fun w os => ?_) (by decide +kernel) (fun w => ?_)
  · exact head_run w os
  · funext os
    show (_, openSeen qv loose (importedModules PySem.Challenge.pw_is0021_02.main.body) XtF true (sF w os), Yf (sF w os)) = (true, openGood qv loose, Ya w)
    have e := l_looks w os
    rw [mods0] at e ⊢
    rw [l_seen]
    exact congrArg (fun b => (b, openGood qv loose, Ya w)) e
end Mine
end
section
open PySem PySem.W PySem.Calls PyProof.Rows
namespace Mine
noncomputable section
noncomputable def faF : Fld → Option Value
  | .p2 => some (.int 0 565)
  | .p1 => some (.int 0 567)
  | .pv => some (.int 0 569)
  | _ => none
theorem f_fld (P : Params) : ∀ a : Fld, findIn (KF P) (.ref 808) a.name = some (faF a) ∧ noGet (KF P) (faF a) = true ∧ takerIn (KF P) 808 a.name = some none := by
  intro a; cases a <;> exact ⟨by kernel_rfl, by kernel_rfl, by kernel_rfl⟩
theorem f_dict (P : Params) : hasDictIn (KF P) 808 = true := by kernel_rfl
theorem f_plain (P : Params) : plainGet (KF P) 808 "" = true := by kernel_rfl
theorem f_sets (P : Params) : findIn (KF P) (.ref 808) "__setattr__" = some (some (.builtin "object.__setattr__")) := by kernel_rfl
theorem f_over (P : Params) : plainOver (KF P) 808 = true := by kernel_rfl
theorem f_mct (P : Params) : typeIn (KF P) (.ref 808) = some (.type "type") := by kernel_rfl
theorem f_mcr (P : Params) : readsIn (KF P) 808 (.type "type") = true := by kernel_rfl
theorem f_dictA (P : Params) : hasDictIn (KF P) 220 = true := by kernel_rfl
theorem f_plainA (P : Params) : plainGet (KF P) 220 "" = true := by kernel_rfl
theorem f_fldA (P : Params) : ∀ n ∈ (["s", "substring_i", "result"] : List PySem.Str), findIn (KF P) (.ref 220) n = some none := by
  intro n hn
  simp only [List.mem_cons, List.not_mem_nil, or_false] at hn
  rcases hn with rfl | rfl | rfl <;> kernel_rfl
end
end Mine
end
section
open PySem PySem.W PySem.Calls PyProof.Rows
namespace Mine
noncomputable section
noncomputable def maF : Mth → Addr
  | .set_current => 42
  | .get_current => 49
  | .in_grouping => 63
  | .go_in_grouping => 70
  | .in_grouping_b => 77
  | .go_out_grouping => 98
  | .out_grouping_b => 105
  | .eq_s => 119
  | .eq_s_b => 126
  | .find_among => 133
  | .find_among_b => 140
  | .replace_s => 147
  | .slice_from => 154
  | .slice_del => 161
  | .stemWord => 189
  | .r_elisions => 242
  | .r_prelude => 249
  | .r_mark_regions => 256
  | .r_postlude => 263
  | .r_RV => 270
  | .r_R1 => 277
  | .r_R2 => 284
  | .r_standard_suffix => 291
  | .r_i_verb_suffix => 298
  | .r_verb_suffix => 305
  | .r_residual_suffix => 312
  | .r_un_double => 319
  | .r_un_accent => 326
  | .stem => 333
noncomputable def cvF : Cst → Value
  | .g_v => .ref 232
  | .g_oux_ending => .ref 233
  | .g_elision_char => .ref 234
  | .g_keep_with_s => .ref 235
  | .a_0 => .ref 346
  | .a_1 => .ref 368
  | .a_2 => .ref 387
  | .a_3 => .ref 397
  | .a_4 => .ref 530
  | .a_5 => .ref 636
  | .a_6 => .ref 646
  | .a_7 => .ref 770
  | .a_8 => .ref 789
  | .a_9 => .ref 805
theorem f_mth (P : Params) : ∀ m : Mth, findIn (KF P) (.ref 808) m.name = some (some (.ref (maF m))) ∧ isFn (KF P) (.ref (maF m)) = true ∧ keepIn (KF P) (.ref (maF m)) = true := by
  intro m; cases m <;> exact ⟨by kernel_rfl, by kernel_rfl, by kernel_rfl⟩
theorem f_cst (P : Params) : ∀ c : Cst, findCls (KF P) (.ref 808) (.type "type") c.name = some (.val (cvF c)) ∧ handedIn (cvF c) = true := by
  intro c; cases c <;> exact ⟨by kernel_rfl, by kernel_rfl⟩
noncomputable def fdF (P : Params) (m : Mth) : FuncData := match (KF P).lookup (maF m) with
  | some ⟨_, _, .func f, _⟩ => f
  | _ => default
noncomputable def bodyF (P : Params) (m : Mth) : List Stmt := match (fdF P m).body with
  | .stmts b => b
  | _ => []
noncomputable def kidsE : PySem.Expr → (Nat × Pos) × List PySem.Expr
  | .Constant _ k p => ((k, p), [])
  | .UnaryOp _ e p => ((0, p), [e])
  | .Name _ p => ((0, p), [])
  | .Attribute e _ p => ((0, p), [e])
  | .BinOp l _ r p => ((0, p), [l, r])
  | .Subscript v i p => ((0, p), [v, i])
  | .Slice l u _ p => ((0, p), l.toList ++ u.toList)
  | .Call g as _ p => ((0, p), g :: as)
  | .Compare l _ rs p => ((0, p), l :: rs)
  | .BoolOp _ vs p => ((0, p), vs)
  | .List es p => ((0, p), es)
  | .IfExp t a z p => ((0, p), [t, a, z])
  | .ListComp e gs _ p => ((0, p), e :: gs.flatMap fun g => [g.target, g.iter])
  | _ => default
noncomputable abbrev Nd := Sum PySem.Expr (List Stmt)
noncomputable def kidsH (l : List ExceptHandler) : List Nd := l.flatMap fun | .ExceptHandler t _ h p => t.toList.map .inl ++ [.inr h, .inl (.Name "" p)]
noncomputable def kidsT : Stmt → Pos × List Nd
  | .Pass p => (p, [])
  | .Break p => (p, [])
  | .Continue p => (p, [])
  | .Return e p => (p, e.toList.map .inl)
  | .Expr e p => (p, [.inl e])
  | .Assign ts e p => (p, (ts ++ [e]).map .inl)
  | .AugAssign t _ e p => (p, [.inl t, .inl e])
  | .If t a z p => (p, [.inl t, .inr a, .inr z])
  | .While t a _ p => (p, [.inl t, .inr a])
  | .For t i a _ p => (p, [.inl t, .inl i, .inr a])
  | .Assert t _ p => (p, [.inl t])
  | .Raise e _ p => (p, e.toList.map .inl)
  | .Try a h _ _ p => (p, .inr a :: kidsH h)
  | _ => default
noncomputable def kids : Nd → (Nat × Pos) × List Nd
  | .inl e => ((kidsE e).1, (kidsE e).2.map .inl)
  | .inr [] => default
  | .inr (s :: r) => ((0, (kidsT s).1), .inr r :: (kidsT s).2)
noncomputable def orc : List Nat → Nd → Nat × Pos
  | [], n => (kids n).1
  | i :: q, n => match (kids n).2[i]? with
    | some m => orc q m
    | none => default
noncomputable def orcF (P : Params) (m : Mth) : Orc := fun q => orc q (.inr (bodyF P m))
noncomputable def methChk (P : Params) (m : Mth) : Bool :=
  codeIn (KF P) (fdF P m).code (fdF P m).qualname && !(fdF P m).scope.isCoroutine && !(fdF P m).scope.isGenerator && decide ((fdF P m).scope.kind = .function) && (fdF P m).scope.names.all (fun y => decide (y.2 ≠ .cell)) &&
  ((strNames m).take (npOf m)).all (fun y => decide ((fdF P m).scope.names.lookup y = some .local)) && okC (strNames m) (fdF P m).scope (codeOf m) (orcF P m)
theorem f_chk (P : Params) : ∀ m : Mth, methChk P m = true := by
  intro m; cases m <;> kernel_rfl
theorem f_body (P : Params) : ∀ m : Mth, (fdF P m).body = .stmts (stmtsOf (strNames m) (codeOf m) (orcF P m)) := by
  intro m; cases m <;> kernel_rfl
theorem f_env (P : Params) : ∀ (m : Mth) (L a : Addr), callEnv (fdF P m) L a = envOf (fdF P m).qualname (fdF P m).scope L a (fdF P m).code := by
  intro m L a; cases m <;> kernel_rfl
theorem f_obj (P : Params) : ∀ m : Mth, (KF P).lookup (maF m) = some ⟨.type "function", none, .func (fdF P m), #[]⟩ := by
  intro m; cases m <;> kernel_rfl
end
end Mine
end
section
open PySem PySem.W PySem.Calls PyProof.Rows
namespace Mine
noncomputable section
theorem f_bind1 (P : Params) : ∀ m : Mth, npOf m = 1 → ∀ v, bindArgs (fdF P m) ⟨[v], []⟩ = pure ((strNames m).zip [v]) := by
  intro m h v; cases m <;> first | exact absurd h (by decide) | kernel_rfl
theorem f_bind2 (P : Params) : ∀ m : Mth, npOf m = 2 → ∀ v u, bindArgs (fdF P m) ⟨[v, u], []⟩ = pure ((strNames m).zip [v, u]) := by
  intro m h v u; cases m <;> first | exact absurd h (by decide) | kernel_rfl
theorem f_bind4 (P : Params) : ∀ m : Mth, npOf m = 4 → ∀ v u y z, bindArgs (fdF P m) ⟨[v, u, y, z], []⟩ = pure ((strNames m).zip [v, u, y, z]) := by
  intro m h v u y z; cases m <;> first | exact absurd h (by decide) | kernel_rfl
theorem np_cases (m : Mth) : npOf m = 1 ∨ npOf m = 2 ∨ npOf m = 4 := by
  cases m <;> first | exact .inl rfl | exact .inr (.inl rfl) | exact .inr (.inr rfl)
theorem f_bind (P : Params) (m : Mth) (vals : List Value) (h : vals.length = npOf m) : bindArgs (fdF P m) ⟨vals, []⟩ = pure ((strNames m).zip vals) := by
  rcases np_cases m with e | e | e <;> rw [e] at h
  · rcases vals with _ | ⟨v, _ | ⟨u, r⟩⟩ <;> first | exact no_none h | exact no_false h | cases h | skip
    exact f_bind1 P m e v
  · rcases vals with _ | ⟨v, _ | ⟨u, _ | ⟨y, r⟩⟩⟩ <;> first | exact no_none h | exact no_false h | cases h | skip
    exact f_bind2 P m e v u
  · rcases vals with _ | ⟨v, _ | ⟨u, _ | ⟨y, _ | ⟨z, _ | ⟨z', r⟩⟩⟩⟩⟩ <;> first | exact no_none h | exact no_false h | cases h | skip
    exact f_bind4 P m e v u y z
theorem f_fn (P : Params) (m : Mth) : FnOk (KF P) (maF m) (fdF P m) ∧ (∀ y ∈ (fdF P m).scope.names, y.2 ≠ .cell) ∧ (∀ y ∈ (strNames m).take (npOf m), (fdF P m).scope.names.lookup y = some .local) ∧ okC (strNames m) (fdF P m).scope (codeOf m) (orcF P m) = true := by
  have hc := f_chk P m
  unfold methChk at hc
  simp only [Bool.and_eq_true, Bool.not_eq_true', decide_eq_true_eq, List.all_eq_true] at hc
  obtain ⟨⟨⟨⟨⟨⟨c1, c2⟩, c3⟩, c4⟩, c5⟩, c6⟩, c7⟩ := hc
  exact ⟨⟨⟨_, f_obj P m, rfl⟩, f_env P m, c1, c2, c3, c4⟩, c5, c6, c7⟩
theorem methAt_of {b : Bx} {P : Params} (hK : b.K = KF P) (hm : b.ma = maF) (m : Mth) : MethAt b m :=
  ⟨fdF P m, orcF P m, by rw [hK, hm]; exact (f_fn P m).1, (f_fn P m).2.1, (f_fn P m).2.2.1, f_bind P m, f_body P m, (f_fn P m).2.2.2⟩
end
end Mine
end
section
open PySem PySem.W PySem.Calls PyProof.Rows
namespace Mine
noncomputable section
theorem kf4 (P : Params) : (KF P).map (·.1) = List.range 896 := by kernel_rfl
theorem lookup_some {K : Frag} {a : Addr} (h : a ∈ K.map (·.1)) : ∃ o, K.lookup a = some o := by
  induction K with
  | nil => cases h
  | cons p r ih =>
    obtain ⟨b, o⟩ := p
    rw [List.lookup_cons]
    cases e : a == b with
    | true => exact ⟨o, rfl⟩
    | false =>
      rw [List.map_cons] at h
      rcases List.mem_cons.mp h with rfl | h
      · rw [beq_self_eq_true] at e; cases e
      · exact ih h
theorem KF_at {P : Params} {a : Addr} {o : Obj} (h : a < 896) (e : (HF P).get a = some o) : (KF P).lookup a = some o := by
  obtain ⟨o', h'⟩ := lookup_some (K := KF P) (a := a) (by rw [kf4]; exact List.mem_range.mpr h)
  have := map_at (kf1 P) _ (lookup_mem h')
  rw [h', ← e, this]
noncomputable def obA (P : Params) (a : Addr) : Obj := ((HF P).get a).getD default
noncomputable def esA (P : Params) (a : Addr) : Array DictEntry × Nat := match (obA P a).data with
  | .dict es n => (es, n)
  | _ => (#[], 0)
noncomputable def vsA (P : Params) (a : Addr) : Array Value × Nat := match (obA P a).data with
  | .seq vs n => (vs, n)
  | _ => (#[], 0)
noncomputable def dxA (P : Params) (a : Addr) : Addr := (obA P a).dict.getD 0
noncomputable def tokA (P : Params) (k : Str) (a : Addr) : Tok := match getL k (esA P (dxA P a)).1.toList with
  | some (some (.str _ t)) => t
  | some (some (.int _ t)) => t
  | _ => 0
noncomputable def refA : Value → Addr
  | .ref a => a
  | _ => 0
noncomputable def kapTab (c : Cst) : List AM := match kap c with
  | .tab t => t
  | _ => []
noncomputable def isTab (c : Cst) : Bool := match kap c with
  | .tab _ => true
  | _ => false
noncomputable def adr (P : Params) (c : Cst) : List Addr := (vsA P (refA (cvF c))).1.toList.map refA
noncomputable def amL (P : Params) (p : Addr × AM) : Option Obj × Option Obj × Option (Option Value) × Option (Option Value) × Option (Option Value) :=
  ((HF P).get p.1, (HF P).get (dxA P p.1), getL "s" (esA P (dxA P p.1)).1.toList, getL "substring_i" (esA P (dxA P p.1)).1.toList, getL "result" (esA P (dxA P p.1)).1.toList)
noncomputable def amR (P : Params) (p : Addr × AM) : Option Obj × Option Obj × Option (Option Value) × Option (Option Value) × Option (Option Value) :=
  (some ⟨.ref 220, some (dxA P p.1), .plain, (obA P p.1).slots⟩, some (dictOf (esA P (dxA P p.1)).1.toList (esA P (dxA P p.1)).2), some (some (.str ⟨p.2.1.toArray⟩ (tokA P "s" p.1))), some (some (.int p.2.2.1 (tokA P "substring_i" p.1))), some (some (.int p.2.2.2 (tokA P "result" p.1))))
theorem f_am (P : Params) : ∀ c : Cst, ((adr P c).zip (kapTab c)).map (amL P) = ((adr P c).zip (kapTab c)).map (amR P) := by
  intro c; cases c <;> kernel_rfl
theorem f_lt (P : Params) : ∀ c : Cst, ((adr P c).zip (kapTab c)).all (fun p => Nat.blt p.1 896 && (Nat.blt (dxA P p.1) 896 && Nat.ble p.2.1.length 1000)) = true := by
  intro c; cases c <;> kernel_rfl
theorem f_len (P : Params) : ∀ c : Cst, isTab c = true → (adr P c).length = (kapTab c).length ∧ Nat.ble (kapTab c).length 1000 = true ∧ Nat.blt (refA (cvF c)) 896 = true ∧ kap c = .tab (kapTab c) ∧ cvF c = .ref (refA (cvF c)) ∧
    (HF P).get (refA (cvF c)) = some ⟨.type "list", (obA P (refA (cvF c))).dict, .seq ((adr P c).map Value.ref).toArray (vsA P (refA (cvF c))).2, (obA P (refA (cvF c))).slots⟩ := by
  intro c h; cases c <;> first | exact no_false h | exact ⟨by kernel_rfl, by kernel_rfl, by kernel_rfl, by kernel_rfl, by kernel_rfl, by kernel_rfl⟩
theorem among_of {P : Params} {c : Cst} {p : Addr × AM} (m : p ∈ (adr P c).zip (kapTab c)) : AmongIs (KF P) 220 p.1 p.2 := by
  have e : amL P p = amR P p := map_at (f_am P c) p m
  have l := List.all_eq_true.mp (f_lt P c) p m
  have e1 := congrArg (·.1) e
  have e2 := congrArg (·.2.1) e
  exact ⟨dxA P p.1, _, _, _, _, _, _, KF_at (Nat.le_of_ble_eq_true (and_l l)) e1, KF_at (Nat.le_of_ble_eq_true (and_l (and_r l))) e2, congrArg (·.2.2.1) e, congrArg (·.2.2.2.1) e, congrArg (·.2.2.2.2) e, Nat.le_of_ble_eq_true (and_r (and_r l))⟩
theorem zip_get {α β : Type} {l : List α} {r : List β} (h : l.length = r.length) {i : Nat} {y : β} (e : r[i]? = some y) : ∃ x, l[i]? = some x ∧ (x, y) ∈ l.zip r := by
  have hi : i < r.length := (List.getElem?_eq_some_iff.mp e).1
  have hl : i < l.length := h ▸ hi
  refine ⟨l[i], List.getElem?_eq_getElem hl, List.mem_of_getElem? (i := i) ?_⟩
  rw [List.getElem?_zip_eq_some]
  exact ⟨List.getElem?_eq_getElem hl, e⟩
theorem tab_of (prog : Program) (w : World) {P : Params} {S : Addr} {c : Cst} (h : isTab c = true) : VRel prog w (KF P) 220 S (kap c) (cvF c) := by
  obtain ⟨h1, h2, h3, h4, h5, h6⟩ := f_len P c h
  rw [h4, h5]
  refine ⟨(adr P c).map Value.ref, ⟨_, _, _, KF_at (Nat.le_of_ble_eq_true h3) h6⟩, (List.length_map _).trans h1, Nat.le_of_ble_eq_true h2, fun i x e => ?_⟩
  obtain ⟨a, ha, m⟩ := zip_get h1 e
  exact ⟨a, by rw [List.getElem?_map, ha]; rfl, among_of m⟩
theorem f_set (w : World) : (KF w.params).lookup 232 = some (set0 w.params) ∧ (KF w.params).lookup 233 = some (set1 w.params) ∧ (KF w.params).lookup 234 = some (set2 w.params) ∧ (KF w.params).lookup 235 = some (set3 w.params) :=
  ⟨KF_at (by decide) (by kernel_rfl), KF_at (by decide) (by kernel_rfl), KF_at (by decide) (by kernel_rfl), KF_at (by decide) (by kernel_rfl)⟩
theorem f_vrel (prog : Program) (w : World) (c : Cst) (S : Addr) : VRel prog w (KF w.params) 220 S (kap c) (cvF c) := by
  obtain ⟨s0, s1, s2, s3⟩ := f_set w
  have e0 : set0 w.params = setLeft w (oneSigns [97, 101, 105, 111, 117, 121, 224, 226, 232, 233, 234, 235, 238, 239, 244, 249, 251]) 487 := (setLeft_P w _ _).symm
  have e1 : set1 w.params = setLeft w (oneSigns [98, 104, 106, 108, 110, 112]) 522 := (setLeft_P w _ _).symm
  have e2 : set2 w.params = setLeft w (oneSigns [99, 100, 106, 108, 109, 110, 115, 116]) 535 := (setLeft_P w _ _).symm
  have e3 : set3 w.params = setLeft w (oneSigns [97, 105, 111, 115, 117, 232]) 552 := (setLeft_P w _ _).symm
  rw [e0] at s0; rw [e1] at s1; rw [e2] at s2; rw [e3] at s3
  cases c
  · exact setIs_of s0 (by decide)
  · exact setIs_of s1 (by decide)
  · exact setIs_of s2 (by decide)
  · exact setIs_of s3 (by decide)
  · exact tab_of prog w rfl
  · exact tab_of prog w rfl
  · exact tab_of prog w rfl
  · exact tab_of prog w rfl
  · exact tab_of prog w rfl
  · exact tab_of prog w rfl
  · exact tab_of prog w rfl
  · exact tab_of prog w rfl
  · exact tab_of prog w rfl
  · exact tab_of prog w rfl
end
end Mine
end
section
open PySem PySem.W PySem.Calls PyProof.Rows
namespace Mine
noncomputable section
noncomputable def laF : Nat → Addr
  | 0 => 820
  | 1 => 833
  | 2 => 846
  | _ => 859
theorem ns_of {K : Frag} {h : Heap} {a : Addr} {m : Str → Option Value} {n : Str} {v : Value} (X : K.In h) (G : h.Ns a m) (e : nsIn K a n = some (some v)) : m n = some v := by
  obtain ⟨o, es, ep, ho, hd, _, hf⟩ := G
  unfold nsIn at e
  split at e
  · rename_i c d es' n' sl q
    have := X _ _ q
    rw [ho] at this
    cases this
    cases hd
    split at e
    · rename_i en he
      cases e
      rw [← hf]
      unfold nsFind findBy
      rw [← Array.find?_toList, he]
      rfl
    · split at e <;> cases e
  · first | exact no_none e | exact no_false e | cases e
theorem f_cls (P : Params) : nsIn (KF P) mainGlobals "FrenchStemmer" = some (some (.ref 808)) := by kernel_rfl
theorem f_noblt (P : Params) : ∀ n ∈ (["len", "min", "ord", "range"] : List String), nsIn (KF P) mainGlobals (PySem.Str.ofString n) = some none := by
  intro n hn
  simp only [List.mem_cons, List.not_mem_nil, or_false] at hn
  rcases hn with rfl | rfl | rfl | rfl <;> kernel_rfl
theorem f_blt (P : Params) : ∀ n ∈ (["len", "min", "ord", "range"] : List String), nsIn (KF P) builtinsNs (PySem.Str.ofString n) = some (some (if n = "range" then .type n else .builtin n)) := by
  intro n hn
  simp only [List.mem_cons, List.not_mem_nil, or_false] at hn
  rcases hn with rfl | rfl | rfl | rfl <;> kernel_rfl
theorem f_labn (P : Params) : ∀ i, i < 4 → nsIn (KF P) mainGlobals (labName i) = some (some (.ref (laF i))) := by
  intro i hi
  match i, hi with
  | 0, _ => kernel_rfl
  | 1, _ => kernel_rfl
  | 2, _ => kernel_rfl
  | 3, _ => kernel_rfl
noncomputable def labNs : Nat → Addr
  | 0 => 819
  | 1 => 832
  | 2 => 845
  | _ => 858
noncomputable def labK : Nat → Option Value
  | 0 => some (.ref 811)
  | 1 => some (.ref 824)
  | 2 => some (.ref 837)
  | _ => some (.ref 850)
noncomputable def labT (i : Nat) (k : Nat) : Option Value := some (.str (labName i) (2867 + 20 * i + k))
theorem f_lab (P : Params) : ∀ i, i < 4 → (HF P).get (laF i) = some (excClassObj (labName i) (labName i) (laF i) (labNs i) [.type "Exception"] [.type "Exception", .type "BaseException", .type "object"] true [] [] false none none (labK i) none (labT i 0) (labT i 8) (some (.bool true)) "Exception.__new__") := by
  intro i hi
  match i, hi with
  | 0, _ => kernel_rfl
  | 1, _ => kernel_rfl
  | 2, _ => kernel_rfl
  | 3, _ => kernel_rfl
theorem f_labNs (P : Params) : ∀ i, i < 4 → (HB1 P).isNs (labNs i) = true ∧ (HB1 P).nsMap (labNs i) "__init__" = none := by
  intro i hi
  match i, hi with
  | 0, _ => exact ⟨by kernel_rfl, by kernel_rfl⟩
  | 1, _ => exact ⟨by kernel_rfl, by kernel_rfl⟩
  | 2, _ => exact ⟨by kernel_rfl, by kernel_rfl⟩
  | 3, _ => exact ⟨by kernel_rfl, by kernel_rfl⟩
theorem la_lt : ∀ i, i < 4 → laF i < 896 := by
  intro i hi
  match i, hi with
  | 0, _ => decide
  | 1, _ => decide
  | 2, _ => decide
  | 3, _ => decide
theorem lab_get (P : Params) (i : Nat) (hi : i < 4) : (HB1 P).get? (laF i) = some (excClassObj (labName i) (labName i) (laF i) (labNs i) [.type "Exception"] [.type "Exception", .type "BaseException", .type "object"] true [] [] false none none (labK i) none (labT i 0) (labT i 8) (some (.bool true)) "Exception.__new__") := by
  unfold HB1
  rw [abs_get (la_lt i hi) (f_lab P i hi)]; rfl
theorem lab_own {P : Params} {h : Heap} {mg : Str → Option Value} {i : Nat} (hi : i < 4) (old : ∀ b o, (HB1 P).get? b = some o → h.get? b = some o) (hm : mg (labName i) = some (.ref (laF i))) :
    OwnCls (labName i) (laF i) [.type "Exception", .type "BaseException", .type "object"] "Exception.__new__" mg h :=
  ⟨hm, _, labNs i, _, _, _, _, _, _, _, _, _, _, _, _, _, _, (HB1 P).nsMap (labNs i), old _ _ (lab_get P i hi), (Heap.Ns.of_isNs (f_labNs P i hi).1).keeps old, (f_labNs P i hi).2, .base⟩
noncomputable def bOf (w : World) (h : Heap) (mg mb : Str → Option Value) (S d : Addr) : Bx :=
  { prog := PySem.Challenge.pw_is0021_02, w := w, K := KF w.params, H := h, CA := 220, W := ⟨S, d, 808, 0⟩, mg := mg, mb := mb, κ := kap, fa := faF, cv := cvF, ma := maF, la := laF, mc := .type "type" }
theorem gr_of {w : World} {h : Heap} {mg mb : Str → Option Value} {S d : Addr} (old : ∀ b o, (HB1 w.params).get? b = some o → h.get? b = some o) (ng : h.Ns mainGlobals mg) (nb : h.Ns builtinsNs mb) (lim : h.NoLimit) : Gr (bOf w h mg mb S d) := by
  have X : (KF w.params).In h := fun a o e => old a o (KF_in w.params a o e)
  exact {
    X := X, ng := ng, nb := nb, lim := lim
    cls := mg_of X ng (f_cls w.params)
    dict := f_dict _, plain := f_plain _, sets := f_sets _, over := f_over _, mct := f_mct _, mcr := f_mcr _
    fld := f_fld _
    opt := fun a ha => by
      simp only [opt3, List.mem_cons, List.not_mem_nil, or_false] at ha
      rcases ha with rfl | rfl | rfl <;> exact ⟨_, rfl⟩
    cst := fun c => ⟨(f_cst w.params c).1, (f_cst w.params c).2, fun S => f_vrel _ w c S⟩
    mth := f_mth _
    dictA := f_dictA _, plainA := f_plainA _, fldA := f_fldA _
    blt := fun n hn => ⟨mg_none_of X ng (f_noblt w.params n hn), ns_of X nb (f_blt w.params n hn)⟩
    lab := fun i hi => ⟨_, _, _, _, lab_own hi old (mg_of X ng (f_labn w.params i hi)), PySem.F.excBase_Exception⟩ }
end
end Mine
end
section
open PySem PySem.W PySem.Calls PyProof.Rows
namespace Mine
noncomputable section
noncomputable def strsOf : List PySem.Expr → Option (List (List Nat))
  | [] => some []
  | .Constant (.str y) _ _ :: r => (strsOf r).map (y.cps.toList :: ·)
  | _ :: _ => none
noncomputable def strOf (l : List Nat) : PySem.Str := ⟨l.toArray⟩
theorem strOf_cps (y : PySem.Str) : strOf y.cps.toList = y := by
  unfold strOf; simp
theorem splice_strs {M : Model} {A : Around} {E : Value → Shared → Prop} {env : Env} {pos : Pos} : ∀ (elts : List PySem.Expr) (ys : List (List Nat)), strsOf elts = some ys → ∀ (s : Shared) (Q : List Value → Shared → Prop),
    (∀ vs t, StrsAre vs (ys.map strOf) → Q vs { s with toks := t }) → wpAny M A (spliced (backTo pos (starEach elts env))) Q E s
  | [], ys, h, s, Q, hQ => by
    cases h
    exact spliced_nil (hQ [] s.toks .nil)
  | e :: r, ys, h, s, Q, hQ => by
    cases e <;> first | exact no_none h | exact no_false h | cases h | skip
    rename_i c kd p
    cases c <;> first | exact no_none h | exact no_false h | cases h | skip
    rename_i y
    obtain ⟨zs, h1, h2⟩ := Option.map_eq_some_iff.mp h
    subst h2
    refine spliced_cons (Constant_str (k := kd) (pos := p) ?_)
    refine splice_strs r zs h1 _ _ fun vs t hv => hQ _ t ?_
    rw [List.map_cons, strOf_cps]
    exact .cons y _ hv
noncomputable def ListBack (B : Heap) (L : Addr) (m : PySem.Str → Option Value) (news : List (Addr × Obj)) (s : Shared) (ys : List (List Nat)) (Q : Value → Shared → Prop) : Prop :=
  ∀ D vs h' t, Fr B L h' m → News B L h' ((D, listOf vs.toArray 0) :: news) → StrsAre vs (ys.map strOf) → Q (.ref D) { s with heap := h', toks := t }
structure ListDef (K : Frag) (f : Addr) (ys : List (List Nat)) : Prop where
  fn : ∃ fd elts p q, FnOk K f fd ∧ fd.scope.names = [] ∧ bindArgs fd ⟨[], []⟩ = pure [] ∧ fd.body = .stmts [.Return (some (.List elts p)) q] ∧ strsOf elts = some ys
  few : ys.length ≤ 1000
section
variable {prog : Program} {w : World} {A : Around} {E : Value → Shared → Prop} {s : Shared} {B : Heap} {L : Addr} {m : PySem.Str → Option Value} {news : List (Addr × Obj)} {K : Frag}
theorem strsAre_len {vs : List Value} {ys : List PySem.Str} (h : StrsAre vs ys) : vs.length = ys.length := by
  induction h with
  | nil => rfl
  | cons _ _ _ ih => simp [ih]
theorem list_call {f : Addr} {ys : List (List Nat)} {Q : Value → Shared → Prop} (D : ListDef K f ys) (X : K.In s.heap) (lim : s.heap.NoLimit) (hA : A.depth < 900) (F : Fr B L s.heap m) (N : News B L s.heap news) (hQ : ListBack B L m news s ys Q) :
    wpAny (model prog w) A (call (.ref f) []) Q E s := by
  obtain ⟨⟨fd, elts, p, q, D, hnames, hbind, hbody, hys⟩, hfew⟩ := D
  obtain ⟨o, ho, hdata⟩ := D.obj
  refine wpAny_call (codeAny_call_def (fd := fd) (binds := []) (by show A.depth < 1000; lia) (X _ _ ho) hdata lim (codeRec_of X D.code) hbody (.of_eq hbind)
    (fun x hx => by rw [hnames] at hx; cases hx) (fun x hx => by cases hx) (fun h₁ hns hk₁ => ?_) D.co D.gen D.kind)
  rw [D.env]
  refine wpAny_execs_cons (wpAny_Return_some (List_ (splice_strs elts ys hys _ _ fun vs t hv => ?_)))
  have hlen := strsAre_len hv
  rw [List.length_map] at hlen
  have F1 : Fr B L h₁ m := F.keeps hk₁
  have N1 : News B L h₁ news := N.grown hk₁
  refine newList_N F1 N1 (fun h' F' N' => ?_) (by rw [hlen, sizeLine_eq]; lia)
  exact hQ _ vs h' _ F' N' hv
end
noncomputable def fdA (P : Params) (a : Addr) : FuncData := match (KF P).lookup a with
  | some ⟨_, _, .func f, _⟩ => f
  | _ => default
noncomputable def bodyA (P : Params) (a : Addr) : List Stmt := match (fdA P a).body with
  | .stmts b => b
  | _ => []
noncomputable def eltsA (P : Params) (a : Addr) : List PySem.Expr := match bodyA P a with
  | [.Return (some (.List e _)) _] => e
  | _ => []
noncomputable def posA (P : Params) (a : Addr) : Pos := match bodyA P a with
  | [.Return (some (.List _ p)) _] => p
  | _ => default
noncomputable def posB (P : Params) (a : Addr) : Pos := match bodyA P a with
  | [.Return _ p] => p
  | _ => default
theorem fn_heads (P : Params) : FnOk (KF P) 869 (fdA P 869) := ⟨⟨⟨.type "function", none, _, #[]⟩, by kernel_rfl, rfl⟩, fun L a => by kernel_rfl, by kernel_rfl, by kernel_rfl, by kernel_rfl, by kernel_rfl⟩
theorem fn_vowels (P : Params) : FnOk (KF P) 876 (fdA P 876) := ⟨⟨⟨.type "function", none, _, #[]⟩, by kernel_rfl, rfl⟩, fun L a => by kernel_rfl, by kernel_rfl, by kernel_rfl, by kernel_rfl, by kernel_rfl⟩
theorem fn_closes (P : Params) : FnOk (KF P) 883 (fdA P 883) := ⟨⟨⟨.type "function", none, _, #[]⟩, by kernel_rfl, rfl⟩, fun L a => by kernel_rfl, by kernel_rfl, by kernel_rfl, by kernel_rfl, by kernel_rfl⟩
theorem fn_ends (P : Params) : FnOk (KF P) 890 (fdA P 890) := ⟨⟨⟨.type "function", none, _, #[]⟩, by kernel_rfl, rfl⟩, fun L a => by kernel_rfl, by kernel_rfl, by kernel_rfl, by kernel_rfl, by kernel_rfl⟩
theorem listDef_of {P : Params} {a : Addr} {ys : List (List Nat)} (h : FnOk (KF P) a (fdA P a)) (h1 : (fdA P a).scope.names = []) (h2 : bindArgs (fdA P a) ⟨[], []⟩ = pure []) (h3 : (fdA P a).body = .stmts [.Return (some (.List (eltsA P a) (posA P a))) (posB P a)]) (h4 : strsOf (eltsA P a) = some ys) (h5 : ys.length ≤ 1000) : ListDef (KF P) a ys :=
  ⟨⟨_, _, _, _, h, h1, h2, h3, h4⟩, h5⟩
theorem ld_heads (P : Params) : ListDef (KF P) 869 tHeads := listDef_of (fn_heads P) (by kernel_rfl) (by kernel_rfl) (by kernel_rfl) (by kernel_rfl) (by decide)
theorem ld_vowels (P : Params) : ListDef (KF P) 876 (tVows.map fun v => [v]) := listDef_of (fn_vowels P) (by kernel_rfl) (by kernel_rfl) (by kernel_rfl) (by kernel_rfl) (by decide)
theorem ld_closes (P : Params) : ListDef (KF P) 883 tCloses := listDef_of (fn_closes P) (by kernel_rfl) (by kernel_rfl) (by kernel_rfl) (by kernel_rfl) (by decide)
theorem ld_ends (P : Params) : ListDef (KF P) 890 tEnds := listDef_of (fn_ends P) (by kernel_rfl) (by kernel_rfl) (by kernel_rfl) (by kernel_rfl) (by decide)
theorem g_heads (P : Params) : nsIn (KF P) mainGlobals "_law_heads" = some (some (.ref 869)) := by kernel_rfl
theorem g_vowels (P : Params) : nsIn (KF P) mainGlobals "_law_vowels" = some (some (.ref 876)) := by kernel_rfl
theorem g_closes (P : Params) : nsIn (KF P) mainGlobals "_law_closes" = some (some (.ref 883)) := by kernel_rfl
theorem g_ends (P : Params) : nsIn (KF P) mainGlobals "_law_ends" = some (some (.ref 890)) := by kernel_rfl
noncomputable def signsTok (P : Params) : Tok := match nsIn (KF P) mainGlobals "_law_signs" with
  | some (some (.str _ t)) => t
  | _ => 0
theorem g_signs (P : Params) : nsIn (KF P) mainGlobals "_law_signs" = some (some (.str (strOf tSigns) (signsTok P))) := by kernel_rfl
theorem keep_heads (P : Params) : keepIn (KF P) (.ref 869) = true := by kernel_rfl
theorem keep_vowels (P : Params) : keepIn (KF P) (.ref 876) = true := by kernel_rfl
theorem keep_closes (P : Params) : keepIn (KF P) (.ref 883) = true := by kernel_rfl
theorem keep_ends (P : Params) : keepIn (KF P) (.ref 890) = true := by kernel_rfl
end
end Mine
end
section
open PySem PySem.W PySem.Calls PyProof.Rows
namespace Mine
noncomputable section
structure Part (R : V → Value → Prop) (es : List DictEntry) (l : List (Fld × V)) : Prop where
  hit : ∀ a v, l.lookup a = some v → ∃ val, getL a.name es = some (some val) ∧ R v val
  miss : ∀ a, l.lookup a = none → getL a.name es = some none
  mth : ∀ m : Mth, getL m.name es = some none
  len : es.length = l.length
theorem Part.nil {R : V → Value → Prop} : Part R [] [] := ⟨fun _ _ h => (by cases h), fun _ _ => rfl, fun _ => rfl, rfl⟩
theorem Part.put {R : V → Value → Prop} {es : List DictEntry} {l : List (Fld × V)} (H : Part R es l) {a : Fld} (ha : l.lookup a = none) {v : V} {val : Value} (hv : R v val) (hs : Int) (t : Tok) : Part R (putL a.name hs (.str a.name t) val es) ((a, v) :: l) := by
  refine ⟨fun c u hc => ?_, fun c hc => ?_, fun m => ?_, ?_⟩
  · by_cases q : c = a
    · subst q
      rw [List.lookup_cons_self] at hc
      cases hc
      exact ⟨val, getL_put _ _ _ _ _, hv⟩
    · rw [List.lookup_cons, beq_eq_false_iff_ne.mpr q] at hc
      obtain ⟨x, h1, h2⟩ := H.hit c u hc
      exact ⟨x, by rw [getL_put_ne (fld_inj c a q)]; exact h1, h2⟩
  · by_cases q : c = a
    · subst q; rw [List.lookup_cons_self] at hc; cases hc
    · rw [List.lookup_cons, beq_eq_false_iff_ne.mpr q] at hc
      rw [getL_put_ne (fld_inj c a q)]; exact H.miss c hc
  · rw [getL_put_ne (fld_mth a m)]; exact H.mth m
  · rw [len_put_out (H.miss a ha), H.len]; rfl
noncomputable def f00 : F := ⟨[], 0, 0, 0, 0, 0, 0, 0, 0⟩
noncomputable def all6 : List (Fld × V) := [(.ket, .int 0), (.bra, .int 0), (.lb, .int 0), (.limit, .int 0), (.cursor, .int 0), (.current, .str [])]
theorem Part.done {prog : Program} {w : World} {K : Frag} {CA S : Addr} {es : List DictEntry} (H : Part (VRel prog w K CA S) es all6) : FieldsAre prog w K CA S f00 es := by
  refine ⟨fun a => ?_, H.mth, ?_⟩
  · first | exact no_none a | exact no_false a | cases a
    · exact .inl (H.hit .current _ rfl)
    · exact .inl (H.hit .cursor _ rfl)
    · exact .inl (H.hit .limit _ rfl)
    · exact .inl (H.hit .lb _ rfl)
    · exact .inl (H.hit .bra _ rfl)
    · exact .inl (H.hit .ket _ rfl)
    · exact .inr ⟨by simp [opt3], H.miss .pv rfl, rfl⟩
    · exact .inr ⟨by simp [opt3], H.miss .p1 rfl, rfl⟩
    · exact .inr ⟨by simp [opt3], H.miss .p2 rfl, rfl⟩
  · rw [missing_is, H.miss .pv rfl, H.miss .p1 rfl, H.miss .p2 rfl, H.len]; decide
section
variable {w : World} {A : Around} {E : Value → Shared → Prop} {s : Shared} {g : Heap} {L S d a : Addr} {m mg mb : PySem.Str → Option Value} {es : List DictEntry} {n : Nat} {qual : PySem.Str} {sc : Scope} {cd : Value} {l : List (Fld × V)}
noncomputable abbrev prw : Program := PySem.Challenge.pw_is0021_02
noncomputable abbrev two (S d : Addr) (es : List DictEntry) (n : Nat) : List (Addr × Obj) := [(S, instObj 808 d), (d, dictOf es n)]
theorem put_self {f : Fld} {v : V} {val : Value} {Q : Unit → Shared → Prop} (X : (KF w.params).In g) (F : Fr g L s.heap m) (N : News g L s.heap (two S d es n)) (hS : S ≠ d) (H : Part (VRel prw w (KF w.params) 220 S) es l) (ha : l.lookup f = none) (hv : VRel prw w (KF w.params) 220 S v val) (hl : l.length ≤ 20)
    (k : ∀ h' es' n', Fr g L h' m → News g L h' (two S d es' n') → Part (VRel prw w (KF w.params) 220 S) es' ((f, v) :: l) → Q () { s with heap := h', toks := s.toks + 2 }) :
    wpAny (model prw w) A (setAttr (.ref S) f.name val) Q E s := by
  have hI : InstAt s.heap S (instObj 808 d) 808 (some (dictOf es n)) := ⟨(N _ (.head _)).1, rfl, rfl, (N _ (.tail _ (.head _))).1⟩
  have H' := H.put ha hv (PyData.keyHash w.params f.name) (s.toks + 1)
  refine set_dict F X N hI rfl (f_sets _) (f_over _) (f_fld _ f).2.2 (f_dict _) ?_ rfl (.tail hS (.head fun p hp => by cases hp)) ?_ fun h' F' N' => ?_
  · rw [H.miss f ha]; rfl
  · rw [H'.len]; show l.length + 1 ≤ 1000; lia
  · exact k h' _ _ F' N' H'
theorem get_self {f : Fld} {v : V} {Q : Value → Shared → Prop} {p pos : Pos} (X : (KF w.params).In g) (F : Fr g L s.heap m) (N : News g L s.heap (two S d es n)) (H : Part (VRel prw w (KF w.params) 220 S) es l) (ha : l.lookup f = some v)
    (hm : m "self" = some (.ref S)) (hk : sc.kind = .function) (hx : sc.names.lookup ("self" : PySem.Str) = some .local) (hh : ∀ val, VRel prw w (KF w.params) 220 S v val → handedIn val = true)
    (k : ∀ val, VRel prw w (KF w.params) 220 S v val → Q val { s with toks := s.toks + 1 }) :
    wpAny (model prw w) A (eval (.Attribute (.Name "self" p) f.name pos) (envOf qual sc L a cd)) Q E s := by
  refine Attribute_Name_ (ld F hm ?_ hk hx)
  have hI : InstAt s.heap S (instObj 808 d) 808 (some (dictOf es n)) := ⟨(N _ (.head _)).1, rfl, rfl, (N _ (.tail _ (.head _))).1⟩
  obtain ⟨val, h1, h2⟩ := H.hit f v ha
  exact get_own F X hI (f_plain _) (f_dict _) (f_fld _ f).1 (f_fld _ f).2.1 h1 (hh val h2) (k val h2)
theorem handed_int {i : Int} {S : Addr} {val : Value} (h : VRel prw w (KF w.params) 220 S (.int i) val) : handedIn val = true := by
  cases val <;> first | exact h.elim | rfl
theorem handed_str {t : List Nat} {S : Addr} {val : Value} (h : VRel prw w (KF w.params) 220 S (.str t) val) : handedIn val = true := by
  cases val <;> first | exact h.elim | rfl
theorem self_asg {e : PySem.Expr} {p p' pos : Pos} {f : Fld} {v : V} {rest : List Stmt} {Q : Flow → Shared → Prop} (hS : S ≠ d) (X : (KF w.params).In g) (hl : l.length ≤ 20) (ha : l.lookup f = none) (hm : m "self" = some (.ref S)) (hk : sc.kind = .function) (hx : sc.names.lookup ("self" : PySem.Str) = some .local)
    (hs : swapsWith e (some (.Attribute (.Name "self" p) f.name p')) pos.line (envOf qual sc L a cd) = pure false)
    (he : wpAny (model prw w) A (eval e (envOf qual sc L a cd)) (fun val s₁ => VRel prw w (KF w.params) 220 S v val ∧ ∃ es n, s₁ = { s with heap := s₁.heap, toks := s₁.toks } ∧ Fr g L s₁.heap m ∧ News g L s₁.heap (two S d es n) ∧ Part (VRel prw w (KF w.params) 220 S) es l) E s)
    (k : ∀ h' t es' n', Fr g L h' m → News g L h' (two S d es' n') → Part (VRel prw w (KF w.params) 220 S) es' ((f, v) :: l) → wpAny (model prw w) A (execs rest (envOf qual sc L a cd)) Q E { s with heap := h', toks := t }) :
    wpAny (model prw w) A (execs (.Assign [.Attribute (.Name "self" p) f.name p'] e pos :: rest) (envOf qual sc L a cd)) Q E s := by
  refine wpAny_execs_cons (plainObj_wpAny_Assign_Attribute (wpAny_mono he (fun val s₁ h₁ => ?_) fun _ _ e => e) hs)
  obtain ⟨hv, es, n, e1, F, N, H⟩ := h₁
  obtain ⟨hh, gg, dd, tt, oo⟩ := s₁
  simp only [Shared.mk.injEq] at e1
  obtain ⟨-, rfl, rfl, -, rfl⟩ := e1
  refine ld F hm ?_ hk hx
  refine put_self X F N hS H ha hv hl fun h' es' n' F' N' H' => ?_
  exact k h' _ es' n' F' N' H'
end
end
end Mine
end
section
open PySem PySem.W PySem.Calls PyProof.Rows
namespace Mine
noncomputable section
noncomputable def bodyS (f : Option Stmt) : List Stmt := match f with
  | some (.FunctionDef _ _ b ..) => b
  | _ => []
noncomputable def iniBody : List Stmt := bodyS (fnAt (bodyAt top 2) 0)
theorem ini_body (P : Params) : (fdA P 35).body = .stmts iniBody := by kernel_rfl
theorem ini_shape : ∃ a1 a2 a3 a4 a5 a6, iniBody = [.Expr (.Call (.Attribute (.Name "self" a1) Mth.set_current.name a2) [.Constant (.str (strOf [])) a3 a4] [] a5) a6] ∧ (a2.endLine == a5.line) = true := ⟨_, _, _, _, _, _, rfl, rfl⟩
theorem fn_init (P : Params) : FnOk (KF P) 35 (fdA P 35) := ⟨⟨⟨.type "function", none, _, #[]⟩, by kernel_rfl, rfl⟩, fun L a => by kernel_rfl, by kernel_rfl, by kernel_rfl, by kernel_rfl, by kernel_rfl⟩
section
variable {w : World} {A : Around} {E : Value → Shared → Prop} {s : Shared} {g : Heap} {L S d a : Addr} {m mg mb : PySem.Str → Option Value} {n : Nat} {qual : PySem.Str} {sc : Scope} {cd : Value}
theorem cur_run {tv : Tok} (π : Orc) {Q : Flow → Shared → Prop} (X : (KF w.params).In g) (ng : g.Ns mainGlobals mg) (nb : g.Ns builtinsNs mb) (hS : S ≠ d) (F : Fr g L s.heap m) (N : News g L s.heap (two S d [] n)) (hm : m "self" = some (.ref S)) (hv : m "value" = some (.str (strOf []) tv))
    (hk : sc.kind = .function) (hx : sc.names.lookup ("self" : PySem.Str) = some .local) (hx2 : sc.names.lookup ("value" : PySem.Str) = some .local) (hx3 : sc.names.lookup ("len" : PySem.Str) = some .globalImplicit)
    (k : ∀ h' t es n, Fr g L h' m → News g L h' (two S d es n) → Part (VRel prw w (KF w.params) 220 S) es all6 → Q .next { s with heap := h', toks := t }) :
    wpAny (model prw w) A (execs (stmtsOf (strNames .set_current) code_set_current π) (envOf qual sc L a cd)) Q E s := by
  have hz : ∀ {t : Tok}, VRel prw w (KF w.params) 220 S (.int 0) (.int 0 t) := rfl
  refine self_asg (v := .str []) hS X (Nat.zero_le _) rfl hm hk hx rfl (ld F hv ⟨⟨rfl, Nat.zero_le _⟩, [], n, rfl, F, N, Part.nil⟩ hk hx2) fun h1 t1 es1 n1 F1 N1 H1 => ?_
  refine self_asg (v := .int 0) hS X (by decide) rfl hm hk hx rfl (wpAny_Constant_int ⟨hz, es1, n1, rfl, F1, N1, H1⟩) fun h2 t2 es2 n2 F2 N2 H2 => ?_
  refine self_asg (l := [(.cursor, .int 0), (.current, .str [])]) (v := .int 0) hS X (by decide) rfl hm hk hx rfl ?_ fun h3 t3 es3 n3 F3 N3 H3 => ?_
  · refine wpAny_Call_Name_kw (ld_builtin_at (v := .builtin "len") F2 ng (mg_none_of X ng (f_noblt _ "len" (.head _))) nb (ns_of X nb (f_blt _ "len" (.head _))) ?_ hk hx3)
    refine callWith_builtin rfl (evalArgs_plain (spliced_cons (get_self X F2 N2 H2 rfl hm hk hx (fun val h => handed_str h) fun val hval => spliced_nil ?_)))
    cases val <;> first | exact hval.elim | skip
    obtain ⟨rfl, -⟩ := hval
    refine len_str (by show ¬ ((0 : Int) ≥ 2 ^ 63); decide) ⟨rfl, es2, n2, rfl, F2, N2, H2⟩
  refine self_asg (v := .int 0) hS X (by decide) rfl hm hk hx rfl (wpAny_Constant_int ⟨hz, es3, n3, rfl, F3, N3, H3⟩) fun h4 t4 es4 n4 F4 N4 H4 => ?_
  refine self_asg (v := .int 0) hS X (by decide) rfl hm hk hx rfl (get_self X F4 N4 H4 rfl hm hk hx (fun val h => handed_int h) fun val hval => ⟨hval, es4, n4, rfl, F4, N4, H4⟩) fun h5 t5 es5 n5 F5 N5 H5 => ?_
  refine self_asg (v := .int 0) hS X (by decide) rfl hm hk hx rfl (get_self X F5 N5 H5 rfl hm hk hx (fun val h => handed_int h) fun val hval => ⟨hval, es5, n5, rfl, F5, N5, H5⟩) fun h6 t6 es6 n6 F6 N6 H6 => ?_
  exact wpAny_execs_nil (k h6 t6 es6 n6 F6 N6 H6)
end
end
end Mine
end
section
open PySem PySem.W PySem.Calls PyProof.Rows
namespace Mine
noncomputable section
theorem f_makes (P : Params) : makesIn (KF P) 808 = true := by kernel_rfl
theorem f_ini (P : Params) : findIn (KF P) (.ref 808) "__init__" = some (some (.ref 35)) := by kernel_rfl
theorem f_iniT (P : Params) : typeIn (KF P) (.ref 35) = some (.type "function") := by kernel_rfl
theorem f_cls2 (P : Params) : keepIn (KF P) (.ref 808) = true := by kernel_rfl
theorem ini_cell (P : Params) : ∀ x ∈ (fdA P 35).scope.names, x.2 ≠ .cell := by
  have h : ((fdA P 35).scope.names.all fun x => decide (x.2 ≠ .cell)) = true := by kernel_rfl
  intro x hx
  exact of_decide_eq_true (List.all_eq_true.mp h x hx)
theorem ini_self (P : Params) : (fdA P 35).scope.names.lookup ("self" : PySem.Str) = some .local := by kernel_rfl
theorem ini_bind (P : Params) (v : Value) : bindArgs (fdA P 35) ⟨[v], []⟩ = pure [(("self" : PySem.Str), v)] := by kernel_rfl
theorem cur_self (P : Params) : (fdF P .set_current).scope.names.lookup ("self" : PySem.Str) = some .local := by kernel_rfl
theorem cur_value (P : Params) : (fdF P .set_current).scope.names.lookup ("value" : PySem.Str) = some .local := by kernel_rfl
theorem cur_len (P : Params) : (fdF P .set_current).scope.names.lookup ("len" : PySem.Str) = some .globalImplicit := by kernel_rfl
section
variable {w : World} {A : Around} {E : Value → Shared → Prop} {s : Shared} {L S d a : Addr} {m mg mb : PySem.Str → Option Value} {n : Nat} {qual : PySem.Str} {sc : Scope} {cd : Value}
theorem cur_call {tv : Tok} {Q : Value → Shared → Prop} (X : (KF w.params).In s.heap) (ng : s.heap.Ns mainGlobals mg) (nb : s.heap.Ns builtinsNs mb) (lim : s.heap.NoLimit) (hA : A.depth < 900) (hS : S ≠ d) (hS0 : (KF w.params).lookup S = none) (hd0 : (KF w.params).lookup d = none)
    (hSm : S ≠ mainGlobals ∧ S ≠ builtinsNs) (hdm : d ≠ mainGlobals ∧ d ≠ builtinsNs) (iS : s.heap.get? S = some (instObj 808 d)) (id : s.heap.get? d = some (dictOf [] n))
    (k : ∀ h' t es n, (∀ b o, b ≠ S → b ≠ d → s.heap.get? b = some o → h'.get? b = some o) → h'.get? S = some (instObj 808 d) → h'.get? d = some (dictOf es n) → FieldsAre prw w (KF w.params) 220 S f00 es → Q .none { s with heap := h', toks := t }) :
    wpAny (model prw w) A (call (.ref 42) [.ref S, .str (strOf []) tv]) Q E s := by
  have D := (f_fn w.params .set_current).1
  have l1 := cur_self w.params
  have l2 := cur_value w.params
  have l3 := cur_len w.params
  have hcell := (f_fn w.params .set_current).2.1
  have hbody := f_body w.params .set_current
  have hbind : bindArgs (fdF w.params .set_current) ⟨[.ref S, .str (strOf []) tv], []⟩ = pure [(("self" : PySem.Str), .ref S), (("value" : PySem.Str), .str (strOf []) tv)] := f_bind w.params .set_current [.ref S, .str (strOf []) tv] rfl
  generalize fdF w.params .set_current = fd at D l1 l2 l3 hcell hbody hbind
  generalize orcF w.params .set_current = π at hbody
  obtain ⟨o, ho, hdata⟩ := D.obj
  refine wpAny_call (codeAny_call_def (fd := fd) (by show A.depth < 1000; lia) (X _ _ ho) hdata lim (codeRec_of X D.code) hbody (.of_eq hbind) hcell (fun x hx => ?_) (fun h₁ hns hk₁ => ?_) D.co D.gen D.kind)
  · rcases List.mem_cons.mp hx with rfl | hx
    · exact l1
    · rcases List.mem_cons.mp hx with rfl | hx
      · exact l2
      · first | exact no_none hx | exact no_false hx | cases hx
  rw [D.env]
  have kg : ∀ b o, b ≠ S → b ≠ d → s.heap.get? b = some o → ((s.heap.hide S).hide d).get? b = some o := fun b o h1 h2 e => by
    rw [Heap.hide_ne _ h2, Heap.hide_ne _ h1]; exact e
  have gk : ∀ b o, ((s.heap.hide S).hide d).get? b = some o → s.heap.get? b = some o := fun b o e => by
    by_cases h2 : b = d
    · subst h2; rw [Heap.hide_self] at e; cases e
    · rw [Heap.hide_ne _ h2] at e
      by_cases h1 : b = S
      · subst h1; rw [Heap.hide_self] at e; cases e
      · rw [Heap.hide_ne _ h1] at e; exact e
  have X' : (KF w.params).In ((s.heap.hide S).hide d) := fun b o e => kg b o (fun q => by rw [q, hS0] at e; cases e) (fun q => by rw [q, hd0] at e; cases e) (X b o e)
  have ng' : ((s.heap.hide S).hide d).Ns mainGlobals mg := by
    obtain ⟨o, es, ep, e1, e2⟩ := ng
    exact ⟨o, es, ep, kg _ _ (Ne.symm hSm.1) (Ne.symm hdm.1) e1, e2⟩
  have nb' : ((s.heap.hide S).hide d).Ns builtinsNs mb := by
    obtain ⟨o, es, ep, e1, e2⟩ := nb
    exact ⟨o, es, ep, kg _ _ (Ne.symm hSm.2) (Ne.symm hdm.2) e1, e2⟩
  have hsz : ((s.heap.hide S).hide d).objs.size = s.heap.objs.size := by rw [Heap.hide_size, Heap.hide_size]
  have F : Fr ((s.heap.hide S).hide d) s.heap.objs.size h₁ (fun y => List.lookup y [(("self" : PySem.Str), Value.ref S), (("value" : PySem.Str), .str (strOf []) tv)].reverse) := ⟨hns, fun b o e => hk₁ b o (gk b o e), by rw [hsz]; exact Nat.le_refl _⟩
  have N : News ((s.heap.hide S).hide d) s.heap.objs.size h₁ (two S d [] n) := fun p hp => by
    rcases List.mem_cons.mp hp with rfl | hp
    · exact ⟨hk₁ _ _ iS, Nat.ne_of_lt (Heap.lt_size iS), by rw [Heap.hide_ne _ hS]; exact Heap.hide_self _ _⟩
    · rcases List.mem_cons.mp hp with rfl | hp
      · exact ⟨hk₁ _ _ id, Nat.ne_of_lt (Heap.lt_size id), Heap.hide_self _ _⟩
      · first | exact no_none hp | exact no_false hp | cases hp
  refine cur_run π (s := { s with heap := h₁, toks := _ }) X' ng' nb' hS F N rfl rfl D.kind l1 l2 l3 fun h' t es n F' N' H' => ?_
  exact k h' t es n (fun b o h1 h2 e => F'.keep b o (kg b o h1 h2 e)) (N' _ (.head _)).1 (N' _ (.tail _ (.head _))).1 H'.done
theorem kf_lt (P : Params) {a : Addr} {o : Obj} {h : Heap} (X : (KF P).In h) (e : (KF P).lookup a = some o) : a < h.objs.size := Heap.lt_size (X _ _ e)
theorem init_call {Q : Value → Shared → Prop} (X : (KF w.params).In s.heap) (ng : s.heap.Ns mainGlobals mg) (nb : s.heap.Ns builtinsNs mb) (lim : s.heap.NoLimit) (hA : A.depth < 800) (hS : S ≠ d) (hS0 : (KF w.params).lookup S = none) (hd0 : (KF w.params).lookup d = none)
    (hSm : S ≠ mainGlobals ∧ S ≠ builtinsNs) (hdm : d ≠ mainGlobals ∧ d ≠ builtinsNs) (iS : s.heap.get? S = some (instObj 808 d)) (id : s.heap.get? d = some (dictOf [] n))
    (k : ∀ h' t es n, (∀ b o, b ≠ S → b ≠ d → s.heap.get? b = some o → h'.get? b = some o) → h'.get? S = some (instObj 808 d) → h'.get? d = some (dictOf es n) → FieldsAre prw w (KF w.params) 220 S f00 es → Q .none { s with heap := h', toks := t }) :
    codeAny (model prw w) A (.call (.ref 35) ⟨[.ref S], []⟩) (fun r s' => match r with | .ok (.ret v) => Q v s' | .ok _ => False | .error e => E e s') s := by
  have D := fn_init w.params
  have l1 := ini_self w.params
  have hcell := ini_cell w.params
  have hb := ini_body w.params
  have hbind := ini_bind w.params (.ref S)
  generalize fdA w.params 35 = fd at D l1 hcell hb hbind
  obtain ⟨o, ho, hdata⟩ := D.obj
  obtain ⟨a1, a2, a3, a4, a5, a6, hbody, hline⟩ := ini_shape
  refine codeAny_call_def (fd := fd) (by show A.depth < 1000; lia) (X _ _ ho) hdata lim (codeRec_of X D.code) hb (.of_eq hbind) hcell (fun x hx => ?_) (fun h₁ hns hk₁ => ?_) D.co D.gen D.kind
  · rcases List.mem_cons.mp hx with rfl | hx
    · exact l1
    · first | exact no_none hx | exact no_false hx | cases hx
  rw [D.env, hbody]
  have X1 : (KF w.params).In h₁ := X.keeps hk₁
  have F1 : Fr s.heap s.heap.objs.size h₁ (fun y => List.lookup y [(("self" : PySem.Str), Value.ref S)].reverse) := ⟨hns, hk₁, Nat.le_refl _⟩
  have hI : InstAt h₁ S (instObj 808 d) 808 (some (dictOf [] n)) := ⟨hk₁ _ _ iS, rfl, rfl, hk₁ _ _ id⟩
  obtain ⟨g1, g2, g3⟩ := f_mth w.params .set_current
  refine wpAny_execs_cons (wpAny_Expr_any (wpAny_methCall rfl rfl hline (ld F1 (v := .ref S) rfl (fun pl => ?_) D.kind l1)) (by show (fd.scope.kind == .module && _) = false; rw [D.kind]; rfl) rfl)
  refine method_inst F1 X hI (f_plain _) g1 g2 rfl ?_
  refine callWith_K X g3 ?_ rfl rfl
  refine spliced_cons (Constant_str (k := a3) (pos := a4) (spliced_nil ⟨X1, ?_⟩))
  refine cur_call (s := { s with heap := h₁, toks := _ }) X1 (ng.keeps hk₁) (nb.keeps hk₁) (lim.keeps hk₁) (by show A.depth + 1 < 900; lia) hS hS0 hd0 hSm hdm (hk₁ _ _ iS) (hk₁ _ _ id) fun h' t es n e1 e2 e3 e4 => ?_
  exact wpAny_execs_nil (k h' t es n (fun b o h1 h2 e => e1 b o h1 h2 (hk₁ b o e)) e2 e3 e4)
theorem make_stemmer {Q : Value → Shared → Prop} (X : (KF w.params).In s.heap) (ng : s.heap.Ns mainGlobals mg) (nb : s.heap.Ns builtinsNs mb) (lim : s.heap.NoLimit) (hA : A.depth < 700)
    (k : ∀ h' t es n, (∀ b o, s.heap.get? b = some o → h'.get? b = some o) → h'.get? (s.heap.objs.size + 1) = some (instObj 808 s.heap.objs.size) → h'.get? s.heap.objs.size = some (dictOf es n) →
      FieldsAre prw w (KF w.params) 220 (s.heap.objs.size + 1) f00 es → Q (.ref (s.heap.objs.size + 1)) { s with heap := h', toks := t }) :
    wpAny (model prw w) A (call (.ref 808) []) Q E s := by
  obtain ⟨hh, gg, dd, tt, oo⟩ := s
  have nf : ∀ a o, (KF w.params).lookup a = some o → a < hh.objs.size := fun a o e => kf_lt w.params X e
  have nl : ∀ a, hh.objs.size ≤ a → (KF w.params).lookup a = none := fun a ha => by
    cases q : (KF w.params).lookup a with
    | none => rfl
    | some o => exact absurd (nf a o q) (Nat.not_lt.mpr ha)
  have m1 : mainGlobals < hh.objs.size := by obtain ⟨_, _, _, e, _⟩ := ng; exact Heap.lt_size e
  have m2 : builtinsNs < hh.objs.size := by obtain ⟨_, _, _, e, _⟩ := nb; exact Heap.lt_size e
  have kp : ∀ b o, hh.get? b = some o → ((hh.push emptyDict).push (instObj 808 hh.objs.size)).get? b = some o := fun b o e => Heap.get?_push_of_some _ (Heap.get?_push_of_some _ e)
  have iS : ((hh.push emptyDict).push (instObj 808 hh.objs.size)).get? (hh.objs.size + 1) = some (instObj 808 hh.objs.size) := by heap_get
  have id : ((hh.push emptyDict).push (instObj 808 hh.objs.size)).get? hh.objs.size = some (dictOf [] 0) := by
    refine Heap.get?_push_of_some _ ?_
    exact Heap.get?_push_size _ rfl
  refine wpAny_call (make_core (makes_of X (f_makes _)) (looks_findIn X (f_ini _)) (fun self => bind_fn X self (f_iniT _)) (.inl rfl) ?_)
  refine codeAny_mono (init_call (A := A.under (.builtin "type.__call__" ⟨.ref 808 :: [], []⟩)) (E := fun e s' => E e s') (S := hh.objs.size + 1) (d := hh.objs.size) (Q := fun v s' => v = .none ∧ Q (.ref (hh.objs.size + 1)) s')
    (X.keeps kp) (ng.keeps kp) (nb.keeps kp) (lim.keeps kp) (by rw [depth_under_kw]; exact Nat.lt_of_lt_of_le (Nat.succ_lt_succ hA) (by decide)) (Nat.succ_ne_self _) (nl _ (Nat.le_succ _)) (nl _ (Nat.le_refl _)) ⟨Nat.ne_of_gt (Nat.lt_succ_of_lt m1), Nat.ne_of_gt (Nat.lt_succ_of_lt m2)⟩ ⟨Nat.ne_of_gt m1, Nat.ne_of_gt m2⟩ iS id fun h' t es n e1 e2 e3 e4 => ⟨rfl, k h' t es n (fun b o e => ?_) e2 e3 e4⟩) fun r s' z => ?_
  · have := Heap.lt_size e
    exact e1 b o (Nat.ne_of_lt (Nat.lt_succ_of_lt this)) (Nat.ne_of_lt this) (kp b o e)
  · rcases r with e | (v | _ | _ | _) <;> first | exact z | exact z.elim
end
end
end Mine
end
section
open PySem PySem.W PySem.Calls PyProof.Rows
namespace Mine
noncomputable section
section
variable {b : Bx} {A : Around} {N : Nat}
theorem top_call (G : Gr b) (HM : ∀ n, MethAt b n) {k : Nat} {L0 : Addr} {env0 : Env} {n : Mth} {args : List V} {vals : List Value} {f f' : F} {v : V} {s : Shared} {Q E : Value → Shared → Prop} (hf0 : env0.frame = some L0) (hk0 : env0.scope.kind = .function)
    (hAh : A.handled = none) (hAf : A.frames = some [env0]) (hAd : A.depth + 5 * (k + 1) ≤ 600) (hAu : A.units + 50 * (k + 1) ≤ 8000) (PL : b.H.objs.size ≤ L0) (PS : b.H.objs.size ≤ b.W.S) (Pd : b.H.objs.size ≤ b.W.d) (hSd : b.W.S ≠ b.W.d) (hLS : L0 ≠ b.W.S) (hLd : L0 ≠ b.W.d)
    (old : ∀ a o, b.H.get? a = some o → s.heap.get? a = some o) (iS : s.heap.get? b.W.S = some (instObj b.W.C b.W.d)) (idt : DictIs b f s.heap)
    (oL : ∃ o es n, s.heap.get? L0 = some o ∧ o.data = .dict es n) (hμ : muOf N b.κ (k + 1) n args f = some (v, f')) (hargs : All2 b.vrel args vals) (kk : After b [L0] s v f' Q) :
    wpAny (model b.prog b.w) A (call (.ref (b.ma n)) (.ref b.W.S :: vals)) Q E s := by
  have one : ∀ L ∈ [L0], L = L0 := fun L hL => List.mem_singleton.mp hL
  refine meth_call (fr := [L0]) (envs := [env0]) G (real_mu (N := N) G HM k) (HM n) hAh hAf hAd hAu PS Pd hSd (fun L hL => one L hL ▸ ⟨PL, oL.elim fun _ h => h.elim fun _ h => h.elim fun _ h => Heap.lt_size h.1, hLS, hLd⟩) ⟨congrArg (fun z => [z]) hf0, fun e he => List.mem_singleton.mp he ▸ hk0, fun L hL => one L hL ▸ oL⟩ old iS idt hμ hargs kk
theorem mu_is (N : Nat) (κ : Kap) : ∀ k, muOf N κ k = runM N κ k
  | 0 => rfl
  | k + 1 => by
    show muStep N (muOf N κ k) κ = stepM N (runM N κ k) κ
    rw [mu_is N κ k]
    funext n args f
    unfold muStep stepM
    rw [show npOf n = arP n from by cases n <;> rfl]
end
end
end Mine
end
section
open PySem PySem.W PySem.Calls PyProof.Rows
namespace Mine
noncomputable section
section
variable {prog : Program} {w : World} {A : Around} {E : Value → Shared → Prop} {s : Shared} {B : Heap} {L a : Addr} {m mg mb : PySem.Str → Option Value} {news : List (Addr × Obj)} {K : Frag} {qual : PySem.Str} {sc : Scope} {cd : Value}
theorem law_store {x : PySem.Str} {v : Value} {Q : Unit → Shared → Prop} (F : Fr B L s.heap m) (N : News B L s.heap news) (hk : sc.kind = .function) (hx : sc.names.lookup x = some .local)
    (k : ∀ h' m' t, Fr B L h' m' → News B L h' news → m' x = some v → (∀ y, y ≠ x → m' y = m y) → Q () { s with heap := h', toks := t }) : wpAny (model prog w) A (storeName (envOf qual sc L a cd) x v) Q E s :=
  stN F N (fun h' F' N' => k h' _ _ F' N' (if_pos rfl) fun y hy => if_neg hy) hk hx
theorem law_asg {x : PySem.Str} {e : PySem.Expr} {p pos : Pos} {rest : List Stmt} {Q : Flow → Shared → Prop} (hk : sc.kind = .function) (hx : sc.names.lookup x = some .local) (hs : swapsWith e (some (.Name x p)) pos.line (envOf qual sc L a cd) = pure false)
    (R : Value → Shared → List (Addr × Obj) → Prop)
    (he : wpAny (model prog w) A (eval e (envOf qual sc L a cd)) (fun v s₁ => ∃ news', Fr B L s₁.heap m ∧ News B L s₁.heap news' ∧ R v s₁ news') E s)
    (k : ∀ v s₁ news' h' m' t, R v s₁ news' → Fr B L h' m' → News B L h' news' → m' x = some v → (∀ y, y ≠ x → m' y = m y) → wpAny (model prog w) A (execs rest (envOf qual sc L a cd)) Q E { s₁ with heap := h', toks := t }) :
    wpAny (model prog w) A (execs (.Assign [.Name x p] e pos :: rest) (envOf qual sc L a cd)) Q E s := by
  refine wpAny_execs_cons (wpAny_Assign_Name (wpAny_mono he (fun v s₁ h₁ => ?_) fun _ _ e => e) hs)
  obtain ⟨news', F, N, hR⟩ := h₁
  exact law_store F N hk hx fun h' m' t F' N' e1 e2 => k v s₁ news' h' m' t hR F' N' e1 e2
theorem ints_get {vs : List Value} {ns : List Int} (h : IntsAre vs ns) : ∀ {i : Nat} {n : Int}, ns[i]? = some n → ∃ t, vs[i]? = some (.int n t) := by
  induction h with
  | nil => intro i n h; simp at h
  | cons x t _ ih =>
    intro i n h
    cases i with
    | zero => simp at h; exact ⟨t, by simp [h]⟩
    | succ i => simpa using ih (by simpa using h)
theorem strs_get {vs : List Value} {ys : List PySem.Str} (h : StrsAre vs ys) : ∀ {i : Nat} {y : PySem.Str}, ys[i]? = some y → ∃ t, vs[i]? = some (.str y t) := by
  induction h with
  | nil => intro i n h; simp at h
  | cons x t _ ih =>
    intro i n h
    cases i with
    | zero => simp at h; exact ⟨t, by simp [h]⟩
    | succ i => simpa using ih (by simpa using h)
theorem num_mod {D : Addr} {vs : List Value} {ns : List Int} {x : Int} {c : Int} {n : Int} {k1 k2 : Nat} {p1 p2 p3 p4 p5 : Pos} {Q : Value → Shared → Prop} (hk : sc.kind = .function) (hx : sc.names.lookup ("numbers" : PySem.Str) = some .local) (F : Fr B L s.heap m) (hl : s.heap.IsList D vs.toArray) (hi : IntsAre vs ns)
    (hm : m "numbers" = some (.ref D)) (hc : 0 ≤ c) (hc2 : c < 1000) (hn : n ≠ 0) (hg : ns[c.toNat]? = some x) (k : ∀ u t, Q (.int (x.fmod n) u) { s with toks := t }) :
    wpAny (model prog w) A (eval (.BinOp (.Subscript (.Name "numbers" p1) (.Constant (.int c) k1 p2) p3) .Mod (.Constant (.int n) k2 p4) p5) (envOf qual sc L a cd)) Q E s := by
  obtain ⟨t, ht⟩ := ints_get hi hg
  refine wpAny_BinOp (Subscript_ (ld F hm (wpAny_Constant_int ?_) hk hx))
  obtain ⟨ops, hops⟩ := sub_ops (.Constant (.int c) k1 p2) (.ref D) (.int c s.toks)
  refine tail_any (s := { s with toks := s.toks + 1 }) (T := "list") (Heap.IsList.typeIs (s := { s with toks := s.toks + 1 }) hl) slot_list_getitem.lookup (wpAny_getItem_list (s := { s with toks := s.toks + 1 }) hl hc (by lia) (by rw [arr_get]; exact ht) ?_) hops
  refine wpAny_Constant_int ?_
  exact mod_int hn (k _ _)
theorem name_mod {x : PySem.Str} {i : Int} {u0 : Tok} {n : Int} {k2 : Nat} {p1 p4 p5 : Pos} {Q : Value → Shared → Prop} (hk : sc.kind = .function) (hx : sc.names.lookup x = some .local) (hd : (x == ("__debug__" : PySem.Str)) = false) (F : Fr B L s.heap m)
    (hm : m x = some (.int i u0)) (hn : n ≠ 0) (k : ∀ u t, Q (.int (i.fmod n) u) { s with toks := t }) :
    wpAny (model prog w) A (eval (.BinOp (.Name x p1) .Mod (.Constant (.int n) k2 p4) p5) (envOf qual sc L a cd)) Q E s := by
  refine wpAny_BinOp (ld F hm (wpAny_Constant_int ?_) hk hx hd)
  exact mod_int hn (k _ _)
theorem pick {fn : PySem.Str} {f : Addr} {ys : List (List Nat)} {y : List Nat} {i : Int} {idx : PySem.Expr} {p q r : Pos} {Q : Value → Shared → Prop} (D : ListDef K f ys) (X : K.In B) (lim : B.NoLimit) (ng : B.Ns mainGlobals mg) (hg : mg fn = some (.ref f)) (hkeep : keepIn K (.ref f) = true) (hA : A.depth < 900)
    (hk : sc.kind = .function) (hx : sc.names.lookup fn = some .globalImplicit) (hd : (fn == ("__debug__" : PySem.Str)) = false) (F : Fr B L s.heap m) (N : News B L s.heap news)
    (hidx : ∀ s₁ news', (∀ p ∈ news, p ∈ news') → Fr B L s₁.heap m → News B L s₁.heap news' → s₁.gens = s.gens → s₁.os = s.os → ∀ Q', (∀ u t, Q' (.int i u) { s₁ with toks := t }) → wpAny (model prog w) A (eval idx (envOf qual sc L a cd)) Q' E s₁)
    (hi : 0 ≤ i) (hy : ys[i.toNat]? = some y) (k : ∀ h' u t, Fr B L h' m → News B L h' news → Q (.str (strOf y) u) { s with heap := h', toks := t }) :
    wpAny (model prog w) A (eval (.Subscript (.Call (.Name fn p) [] [] q) idx r) (envOf qual sc L a cd)) Q E s := by
  have X1 := X.keeps F.keep
  have hlen : i.toNat < ys.length := (List.getElem?_eq_some_iff.mp hy).1
  have hfew := D.few
  refine Subscript_ (wpAny_Call_Name_kw (ld_global_at F ng hg ?_ hk hx hd))
  refine callWith_K0 X1 hkeep ?_
  refine list_call D X1 (lim.keeps F.keep) hA F N fun D' vs h' t F' N' hv => ?_
  refine hidx { s with heap := h', toks := t } _ (fun p hp => .tail _ hp) F' N' rfl rfl _ fun u t' => ?_
  obtain ⟨ops, hops⟩ := sub_ops idx (.ref D') (.int i u)
  obtain ⟨tv, hvt⟩ := strs_get hv (i := i.toNat) (y := strOf y) (by rw [List.getElem?_map, hy]; rfl)
  have hL : h'.IsList D' vs.toArray := ⟨_, (N' _ (.head _)).1, rfl, 0, rfl⟩
  refine tail_any (s := { s with heap := h', toks := t' }) (T := "list") (Heap.IsList.typeIs (s := { s with heap := h', toks := t' }) hL) slot_list_getitem.lookup (wpAny_getItem_list (s := { s with heap := h', toks := t' }) hL hi (by lia) (by rw [arr_get]; exact hvt) ?_) hops
  exact k h' tv t' F' fun p hp => N' p (.tail _ hp)
end
end
end Mine
end
section
open PySem PySem.W PySem.Calls PyProof.Rows
namespace Mine
noncomputable section
noncomputable def signOf (i : Int) : Nat := tSigns.getD (i.fmod 39).toNat 0
theorem fmod_bd (i : Int) {n : Int} (hn : 0 < n) : 0 ≤ i.fmod n ∧ i.fmod n < n := ⟨fmod_lo i hn, fmod_hi i hn⟩
theorem sign_get (i : Int) : tSigns[(i.fmod 39).toNat]? = some (signOf i) := by
  have h := fmod_bd i (n := 39) (by decide)
  have hl : (i.fmod 39).toNat < tSigns.length := by show _ < 39; lia
  unfold signOf
  rw [List.getD_eq_getElem?_getD, List.getElem?_eq_getElem hl]; rfl
theorem sign_mem (i : Int) : signOf i ∈ tSigns := List.mem_of_getElem? (sign_get i)
theorem carried_strs {vs : List Value} : ∀ {ns : List Int}, CarriedAll vs (ns.map fun i => PyData.str (strOf [signOf i])) → StrsAre vs ((ns.map signOf).map fun k => (⟨#[k]⟩ : PySem.Str))
  | [], h => by cases h; exact .nil
  | i :: ns, h => by
    cases h with
    | cons h1 h2 =>
      cases h1
      exact .cons _ _ (carried_strs h2)
theorem join_signs (l : List Nat) : Txt.join (strOf []) (l.map fun k => (⟨#[k]⟩ : PySem.Str)) = strOf l := by
  have h := beq_iff_eq.mp (join_plain_closes (strOf []) (l.map fun k => (⟨#[k]⟩ : PySem.Str)))
  rw [h]
  exact join_ones l
noncomputable def intsOf : List PySem.Expr → Option (List Int)
  | [] => some []
  | .Constant (.int i) _ _ :: r => (intsOf r).map (i :: ·)
  | _ :: _ => none
theorem splice_ints {M : Model} {A : Around} {E : Value → Shared → Prop} {env : Env} {pos : Pos} : ∀ (elts : List PySem.Expr) (ns : List Int), intsOf elts = some ns → ∀ (s : Shared) (Q : List Value → Shared → Prop),
    (∀ vs t, IntsAre vs ns → Q vs { s with toks := t }) → wpAny M A (spliced (backTo pos (starEach elts env))) Q E s
  | [], ns, h, s, Q, hQ => by
    cases h
    exact spliced_nil (hQ [] s.toks .nil)
  | e :: r, ns, h, s, Q, hQ => by
    cases e <;> first | exact no_none h | exact no_false h | cases h | skip
    rename_i c kd p
    cases c <;> first | exact no_none h | exact no_false h | cases h | skip
    rename_i y
    obtain ⟨zs, h1, h2⟩ := Option.map_eq_some_iff.mp h
    subst h2
    refine spliced_cons (wpAny_Constant_int (k := kd) (pos := p) ?_)
    exact splice_ints r zs h1 _ _ fun vs t hv => hQ _ t (.cons y _ hv)
section
variable {prog : Program} {w : World} {A : Around} {E : Value → Shared → Prop} {s : Shared} {B : Heap} {L a : Addr} {m mg mb : PySem.Str → Option Value} {news : List (Addr × Obj)} {K : Frag} {qual : PySem.Str} {sc : Scope} {cd : Value}
theorem turn_any {value value' slice : PySem.Expr} {o i : Value} {Q : Value → Shared → Prop} (hv : ∀ r, letTemporaryGo value' o r = pure ())
    (h : wpAny (model prog w) A (subscriptTail value' slice o i) Q E s) : wpAny (model prog w) A (subscriptTail value slice o i) Q E s := by
  unfold subscriptTail at h ⊢
  intro Γ p hΓ
  have h1 := h Γ p hΓ
  rw [Sem.wp_bind'] at h1 ⊢
  refine Sem.wp_mono _ Γ _ (fun b p1 s1 h2 => ?_) (fun _ _ _ z => z) p s h1
  rw [Sem.wp_bind'] at h2 ⊢
  refine Sem.wp_mono _ Γ _ (fun r p2 s2 h3 => ?_) (fun _ _ _ z => z) p1 s1 h2
  rw [hv r, Sem.wp_bind'] at h3
  have h4 : Q r s2 := h3
  exact (wpAny_bind (wpAny_letTemporaryGo (wpAny_pure h4)) : wpAny (model prog w) A (letTemporaryGo value o r >>= fun _ => pure r) Q E s2) Γ p2 hΓ
theorem ev_numbers {sp : Addr} {vs : List Value} {ns : List Int} {p1 p2 p3 p4 p5 p6 : Pos} {q1 q2 q3 q4 q5 : Pos} {k1 k2 k3 k4 k5 k6 : Nat} {Q : Value → Shared → Prop} (hk : sc.kind = .function) (hx : sc.names.lookup ("script" : PySem.Str) = some .local) (F : Fr B L s.heap m) (N : News B L s.heap news)
    (hl : B.IsList sp vs.toArray) (hi : IntsAre vs ns) (hn : ns.length ≤ 63) (hm : m "script" = some (.ref sp))
    (k : ∀ D ws h' t, Fr B L h' m → News B L h' ((D, listOf ws.toArray 0) :: news) → IntsAre ws ((ns ++ [0, 0, 0, 0, 0]).take 5) → Q (.ref D) { s with heap := h', toks := t }) :
    wpAny (model prog w) A (eval (.Subscript (.BinOp (.Name "script" p1) .Add (.List [.Constant (.int 0) k1 q1, .Constant (.int 0) k2 q2, .Constant (.int 0) k3 q3, .Constant (.int 0) k4 q4, .Constant (.int 0) k5 q5] p2) p3) (.Slice none (some (.Constant (.int 5) k6 p4)) none p5) p6) (envOf qual sc L a cd)) Q E s := by
  refine Subscript_ (wpAny_BinOp (ld F hm ?_ hk hx))
  refine List_ (splice_ints _ [0, 0, 0, 0, 0] rfl _ _ fun zs t0 hz => ?_)
  refine newList_K F N (fun l1 h1 F1 N1 _ => ?_) (by rw [hz.length, sizeLine_eq]; decide)
  refine add_lists_ints F1 N1 (F1.lst hl) ⟨_, (N1 _ (.head _)).1, rfl, 0, rfl⟩ hi hz (fun h2 F2 N2 hi2 => ?_) (by show ns.length + 5 ≤ sizeLine; rw [sizeLine_eq]; lia)
  refine wpAny_Slice (wpAny_pure (wpAny_Constant_int (k := k6) (pos := p4) (wpAny_pure ?_)))
  refine turn_any (value' := PySem.Expr.Name "_" ⟨0, 0, 0, 0⟩) (fun _ => rfl) ?_
  refine slice_list (s := { s with heap := h2, toks := _ }) F2 N2 ⟨_, (N2 _ (.head _)).1, rfl, 0, rfl⟩ .none (.int 5 _) (fun h3 F3 N3 => ?_) (by with_unfolding_all rfl) (by intro _; rfl) ?_
  · have hi3 := slice_ints_uptoW hi2 (y := 5) (by decide)
    refine k _ (slicePick (vs ++ _).toArray none (some 5) none).toList h3 _ F3 (fun p hp => ?_) hi3
    rcases List.mem_cons.mp hp with rfl | hp
    · have := N3 _ (.head _)
      simpa using this
    · exact N3 p (.tail _ (.tail _ (.tail _ hp)))
  · show (vs ++ zs).toArray.size ≤ sizeLine
    rw [List.size_toArray, List.length_append, hi.length, hz.length, sizeLine_eq]
    show ns.length + 5 ≤ _
    lia
noncomputable def CompSc (csc : Scope) : Prop := csc.kind = .function ∧ csc.names = [((".0" : PySem.Str), .local), (("number" : PySem.Str), .local), (("_law_signs" : PySem.Str), .globalImplicit)]
theorem ev_front {sp : Addr} {vs : List Value} {ns : List Int} {st : Tok} {csc : Scope} {k0 k1 k2 k3 : Nat} {p0 p1 p2 p3 p4 p5 p6 p7 p8 p9 pa pb pc pd pe : Pos} {Q : Value → Shared → Prop} (hcs : CompSc csc) (hA : A.handled = none) (hk : sc.kind = .function) (hx : sc.names.lookup ("script" : PySem.Str) = some .local)
    (hline : (pc.endLine == pe.line) = true) (F : Fr B L s.heap m) (N : News B L s.heap news) (ng : B.Ns mainGlobals mg) (hg : mg "_law_signs" = some (.str (strOf tSigns) st))
    (hl : B.IsList sp vs.toArray) (hi : IntsAre vs ns) (hn : ns.length ≤ 63) (hm : m "script" = some (.ref sp))
    (k : ∀ (l : List Nat) h' t u, l.length ≤ 6 → (∀ x ∈ l, x ∈ tSigns) → Fr B L h' m → News B L h' news → Q (.str (strOf l) u) { s with heap := h', toks := t }) :
    wpAny (model prog w) A (eval (.Call (.Attribute (.Constant (.str (strOf [])) k0 p0) "join" pc) [.ListComp (.Subscript (.Name "_law_signs" p1) (.BinOp (.Name "number" p2) .Mod (.Constant (.int 39) k1 p3) p4) p5)
      [⟨.Name "number" p6, .Subscript (.Name "script" p7) (.Slice (some (.Constant (.int 5) k2 p8)) (some (.Constant (.int 11) k3 p9)) none pa) pb, [], 0⟩] csc pd] [] pe) (envOf qual sc L a cd)) Q E s := by
  refine wpAny_methCall rfl rfl hline (Constant_str (fun pl => GM.join ?_))
  refine callWith_builtin rfl (evalArgs_plain (spliced_cons ?_))
  obtain ⟨ckind, cnames, cg, cc, cm⟩ := csc
  obtain ⟨rfl, rfl⟩ := hcs
  have hc1 : ∀ y ∈ ([((".0" : PySem.Str), NameKind.local), (("number" : PySem.Str), .local), (("_law_signs" : PySem.Str), .globalImplicit)] : List (PySem.Str × NameKind)), y.2 ≠ .cell := by decide
  have hc2 : ∀ y ∈ ([((".0" : PySem.Str), NameKind.local), (("number" : PySem.Str), .local), (("_law_signs" : PySem.Str), .globalImplicit)] : List (PySem.Str × NameKind)), y.2 = .local → List.lookup y.1 [((".0" : PySem.Str), NameKind.local), (("number" : PySem.Str), .local), (("_law_signs" : PySem.Str), .globalImplicit)] = some .local := by decide
  refine ListComp_DC (K := ItemKind.int) (cl := []) (d := fun i => PyData.str (strOf [signOf i])) (pz := fun _ => true) (h₀ := B) (L := L) (m := m) (news := news) hA rfl hc1 rfl hc2 rfl ?_ (fun x => rfl)
  refine Subscript_ (ld F hm (wpAny_Slice (wpAny_Constant_int (k := k2) (pos := p8) (wpAny_Constant_int (k := k3) (pos := p9) (wpAny_pure ?_)))) hk hx)
  refine slice_list (s := { s with heap := s.heap, toks := _ }) F N (F.lst hl) (.int 5 _) (.int 11 _) (fun h1 F1 N1 => ?_) (by with_unfolding_all rfl) (by intro _; rfl) (by rw [List.size_toArray, hi.length, sizeLine_eq]; lia)
  have hi1 := slice_ints_plain hi 5 11
  generalize hns1 : (ns.drop (clipAt ns.length 5)).take (clipAt ns.length 11 - clipAt ns.length 5) = ns1 at hi1
  have hlen : ns1.length ≤ 6 := by
    rw [← hns1, List.length_take]
    have c1 := clipAt_min (n := ns.length) (y := 5) (by decide)
    have c2 := clipAt_min (n := ns.length) (y := 11) (by decide)
    split at c1 <;> split at c2 <;> lia
  refine ⟨_, (slicePick vs.toArray (some 5) (some 11) none).toList, ns1, rfl, ⟨_, (N1 _ (.head _)).1, rfl, 0, by simp⟩, hi1.areOf, by rw [sizeLine_eq]; lia, F1, fun p hp => N1 p (.tail _ hp), ?_, ?_, ?_⟩
  · intro C i v s₂ m₂ E' _ _ _ _ _
    exact wpAny_pure ⟨rfl, s₂.heap, s₂.toks, rfl, fun _ _ e => e⟩
  · intro C i v s₂ m₂ E' _ hv _ hn2 hm2 hk2
    obtain ⟨tv, rfl⟩ := hv
    have ng2 : s₂.heap.Ns mainGlobals mg := (ng.keeps F1.keep).keeps hk2
    refine Subscript_ (Name_function_global rfl rfl (loadGlobal_global (mg := mg) ng2 hg ?_) (by decide))
    refine wpAny_BinOp (wpAny_Name (wpAny_loadName_local rfl rfl hn2 hm2 ?_) (by decide))
    refine wpAny_Constant_int (k := k1) (pos := p3) ?_
    refine mod_int (by decide) ?_
    have hb := fmod_bd i (n := 39) (by decide)
    obtain ⟨ops, hops⟩ := sub_ops (.BinOp (.Name "number" p2) .Mod (.Constant (.int 39) k1 p3) p4) (.str (strOf tSigns) st) (.int (i.fmod 39) (s₂.toks + 1))
    refine tail_any (typeIs_str _ _ _) slot_str_getitem.lookup (getItem_str (c := signOf i) ?_ ?_ ?_) hops
    · rw [decide_eq_false (by lia), decide_eq_false (by lia)]; rfl
    · unfold seqIndex?
      have h1 : ¬ i.fmod 39 < 0 := by lia
      have hl2 : PySem.Str.length (strOf tSigns) = 39 := rfl
      rw [hl2, if_neg h1, if_pos (by simp only [Bool.and_eq_true, decide_eq_true_eq]; lia), Option.bind_some]
      show (tSigns.toArray)[_]? = _
      rw [arr_get]; exact sign_get i
    · exact ⟨.str _ _, s₂.heap, _, rfl, fun _ _ e => e⟩
  · intro D ys h' tk F' N' hD hL hcar
    rw [List.filter_eq_self.mpr (fun _ _ => rfl)] at hcar
    have hst := carried_strs hcar
    refine spliced_nil (join_list (s := { s with heap := h', toks := tk }) hL hst ?_ fun t' k' => ?_)
    · have e : ((ns1.map signOf).map fun k => (⟨#[k]⟩ : PySem.Str)).map (·.length) = (ns1.map signOf).map fun _ => 1 := by
        rw [List.map_map]; rfl
      rw [e]
      have h0 : (strOf []).length = 0 := rfl
      rw [h0, List.map_const', List.sum_replicate_nat, List.length_map]
      lia
    · rw [join_signs]
      exact k (ns1.map signOf) h' k' t' (by rw [List.length_map]; exact hlen) (fun x hx => by
        obtain ⟨j, -, rfl⟩ := List.mem_map.mp hx
        exact sign_mem j) F' N'
end
end
end Mine
end
section
open PySem PySem.W PySem.Calls PyProof.Rows
namespace Mine
noncomputable section
noncomputable def lawBody : List Stmt := bodyS (fnAt top 17)
noncomputable def lawSt (i : Nat) : Stmt := lawBody.getD i (.Pass ⟨0, 0, 0, 0⟩)
theorem law_list : lawBody = [lawSt 0, lawSt 1, lawSt 2, lawSt 3, lawSt 4, lawSt 5, lawSt 6, lawSt 7, lawSt 8, lawSt 9] := rfl
noncomputable def digs : Nat → Nat → List Nat → List Nat
  | 0, _, l => l
  | f + 1, n, l => bif Nat.ble n 1 then l else digs f (n / 10) (n % 10 :: l)
noncomputable def lO (i n : Nat) : Nat × Pos := orc (digs 12 n []) (.inr (lawBody.drop i))
noncomputable def lP (i n : Nat) : Pos := (lO i n).2
noncomputable def lK (i n : Nat) : Nat := (lO i n).1
noncomputable def cscL : Scope := match lawSt 1 with
  | .Assign _ (.Call _ [.ListComp _ _ sc _] _ _) _ => sc
  | _ => ⟨.module, [], false, false, []⟩
noncomputable def lawFor : List Stmt := match lawSt 8 with
  | .For _ _ b _ _ => b
  | _ => []
theorem sh0 : lawSt 0 = .Assign [(.Name "numbers" (lP 0 11))] (.Subscript (.BinOp (.Name "script" (lP 0 1200)) .Add (.List [(.Constant (.int 0) (lK 0 12010) (lP 0 12010)), (.Constant (.int 0) (lK 0 12011) (lP 0 12011)), (.Constant (.int 0) (lK 0 12012) (lP 0 12012)), (.Constant (.int 0) (lK 0 12013) (lP 0 12013)), (.Constant (.int 0) (lK 0 12014) (lP 0 12014))] (lP 0 1201)) (lP 0 120)) (.Slice none (some (.Constant (.int 5) (lK 0 1210) (lP 0 1210))) none (lP 0 121)) (lP 0 12)) (lP 0 1) := by kernel_rfl
theorem sh1 : lawSt 1 = .Assign [(.Name "front" (lP 1 11))] (.Call (.Attribute (.Constant (.str (strOf [])) (lK 1 1200) (lP 1 1200)) "join" (lP 1 120)) [(.ListComp (.Subscript (.Name "_law_signs" (lP 1 12100)) (.BinOp (.Name "number" (lP 1 121010)) .Mod (.Constant (.int 39) (lK 1 121011) (lP 1 121011)) (lP 1 12101)) (lP 1 1210)) [⟨.Name "number" (lP 1 1211), .Subscript (.Name "script" (lP 1 12120)) (.Slice (some (.Constant (.int 5) (lK 1 121210) (lP 1 121210))) (some (.Constant (.int 11) (lK 1 121211) (lP 1 121211))) none (lP 1 12121)) (lP 1 1212), [], 0⟩] cscL (lP 1 121))] [] (lP 1 12)) (lP 1 1) := by kernel_rfl
theorem sh2 : lawSt 2 = .If (.Compare (.Call (.Name "len" (lP 2 1100)) [(.Name "front" (lP 2 1101))] [] (lP 2 110)) [.Lt] [(.Constant (.int 2) (lK 2 111) (lP 2 111))] (lP 2 11)) [.Assign [(.Name "front" (lP 2 121))] (.BinOp (.Constant (.str (strOf [114, 101])) (lK 2 1220) (lP 2 1220)) .Add (.Name "front" (lP 2 1221)) (lP 2 122)) (lP 2 12)] [] (lP 2 1) := by kernel_rfl
theorem sh3 : lawSt 3 = .Assign [(.Name "vowel" (lP 3 11))] (.Subscript (.Call (.Name "_law_vowels" (lP 3 1200)) [] [] (lP 3 120)) (.BinOp (.Subscript (.Name "numbers" (lP 3 12100)) (.Constant (.int 1) (lK 3 12101) (lP 3 12101)) (lP 3 1210)) .Mod (.Constant (.int 6) (lK 3 1211) (lP 3 1211)) (lP 3 121)) (lP 3 12)) (lP 3 1) := by kernel_rfl
theorem sh4 : lawSt 4 = .Assign [(.Name "close" (lP 4 11))] (.Subscript (.Call (.Name "_law_closes" (lP 4 1200)) [] [] (lP 4 120)) (.BinOp (.Subscript (.Name "numbers" (lP 4 12100)) (.Constant (.int 2) (lK 4 12101) (lP 4 12101)) (lP 4 1210)) .Mod (.Constant (.int 45) (lK 4 1211) (lP 4 1211)) (lP 4 121)) (lP 4 12)) (lP 4 1) := by kernel_rfl
theorem sh5 : lawSt 5 = .Assign [(.Name "root" (lP 5 11))] (.BinOp (.BinOp (.Name "front" (lP 5 1200)) .Add (.Name "vowel" (lP 5 1201)) (lP 5 120)) .Add (.Name "close" (lP 5 121)) (lP 5 12)) (lP 5 1) := by kernel_rfl
theorem sh6 : lawSt 6 = .Assign [(.Name "stem" (lP 6 11))] (.BinOp (.BinOp (.Name "front" (lP 6 1200)) .Add (.IfExp (.Compare (.Name "vowel" (lP 6 120100)) [.In] [(.List [(.Constant (.str (strOf [233])) (lK 6 1201010) (lP 6 1201010)), (.Constant (.str (strOf [232])) (lK 6 1201011) (lP 6 1201011))] (lP 6 120101))] (lP 6 12010)) (.Constant (.str (strOf [101])) (lK 6 12011) (lP 6 12011)) (.Name "vowel" (lP 6 12012)) (lP 6 1201)) (lP 6 120)) .Add (.Name "close" (lP 6 121)) (lP 6 12)) (lP 6 1) := by kernel_rfl
theorem sh7 : lawSt 7 = .Assign [(.Name "stemmer" (lP 7 11))] (.Call (.Name "FrenchStemmer" (lP 7 120)) [] [] (lP 7 12)) (lP 7 1) := by kernel_rfl
theorem sh8 : lawSt 8 = .For (.Name "number" (lP 8 11)) (.Subscript (.Name "numbers" (lP 8 120)) (.Slice (some (.Constant (.int 3) (lK 8 1210) (lP 8 1210))) (some (.Constant (.int 5) (lK 8 1211) (lP 8 1211))) none (lP 8 121)) (lP 8 12)) lawFor [] (lP 8 1) := by kernel_rfl
theorem sh9 : lawSt 9 = .Return (some (.Constant (.bool true) (lK 9 11) (lP 9 11))) (lP 9 1) := by kernel_rfl
theorem sh8b : lawFor = [.If (.Compare (.Call (.Attribute (.Name "stemmer" (lP 8 131000)) "stemWord" (lP 8 13100)) [(.BinOp (.BinOp (.Subscript (.Call (.Name "_law_heads" (lP 8 131010000)) [] [] (lP 8 13101000)) (.BinOp (.Subscript (.Name "numbers" (lP 8 1310100100)) (.Constant (.int 0) (lK 8 1310100101) (lP 8 1310100101)) (lP 8 131010010)) .Mod (.Constant (.int 10) (lK 8 131010011) (lP 8 131010011)) (lP 8 13101001)) (lP 8 1310100)) .Add (.Name "root" (lP 8 1310101)) (lP 8 131010)) .Add (.Subscript (.Call (.Name "_law_ends" (lP 8 13101100)) [] [] (lP 8 1310110)) (.BinOp (.Name "number" (lP 8 13101110)) .Mod (.Constant (.int 101) (lK 8 13101111) (lP 8 13101111)) (lP 8 1310111)) (lP 8 131011)) (lP 8 13101))] [] (lP 8 1310)) [.NotEq] [(.Name "stem" (lP 8 1311))] (lP 8 131)) [.Return (some (.Constant (.bool false) (lK 8 1321) (lP 8 1321))) (lP 8 132)] [] (lP 8 13)] := by kernel_rfl
theorem sh1c : CompSc cscL := ⟨rfl, rfl⟩
theorem sh1l : ((lP 1 120).endLine == (lP 1 12).line) = true := by kernel_rfl
theorem sh8l : ((lP 8 13100).endLine == (lP 8 1310).line) = true := by kernel_rfl
end
end Mine
end
section
open PySem PySem.W PySem.Calls PyProof.Rows
namespace Mine
noncomputable section
structure LawSc (sc : Scope) : Prop where
  kind : sc.kind = .function
  script : sc.names.lookup ("script" : PySem.Str) = some .local
  numbers : sc.names.lookup ("numbers" : PySem.Str) = some .local
  number : sc.names.lookup ("number" : PySem.Str) = some .local
  front : sc.names.lookup ("front" : PySem.Str) = some .local
  vowel : sc.names.lookup ("vowel" : PySem.Str) = some .local
  close : sc.names.lookup ("close" : PySem.Str) = some .local
  root : sc.names.lookup ("root" : PySem.Str) = some .local
  stem : sc.names.lookup ("stem" : PySem.Str) = some .local
  stemmer : sc.names.lookup ("stemmer" : PySem.Str) = some .local
  len : sc.names.lookup ("len" : PySem.Str) = some .globalImplicit
  vowels : sc.names.lookup ("_law_vowels" : PySem.Str) = some .globalImplicit
  closes : sc.names.lookup ("_law_closes" : PySem.Str) = some .globalImplicit
  cls : sc.names.lookup ("FrenchStemmer" : PySem.Str) = some .globalImplicit
  heads : sc.names.lookup ("_law_heads" : PySem.Str) = some .globalImplicit
  ends : sc.names.lookup ("_law_ends" : PySem.Str) = some .globalImplicit
theorem strOf_app (x y : List Nat) : strOf x ++ strOf y = strOf (x ++ y) := str_app x y
theorem strOf_len (x : List Nat) : (strOf x).length = x.length := str_len x
structure Base (w : World) (B : Heap) (mg mb : PySem.Str → Option Value) : Prop where
  X : (KF w.params).In B
  old : ∀ b o, (HB1 w.params).get? b = some o → B.get? b = some o
  ng : B.Ns mainGlobals mg
  nb : B.Ns builtinsNs mb
  lim : B.NoLimit
structure Loc4 (m : PySem.Str → Option Value) (D : Addr) (fr : List Nat) (v : Nat) (c : List Nat) : Prop where
  numbers : m "numbers" = some (.ref D)
  front : ∃ t, m "front" = some (.str (strOf fr) t)
  vowel : ∃ t, m "vowel" = some (.str (strOf [v]) t)
  close : ∃ t, m "close" = some (.str (strOf c) t)
section
variable {w : World} {A : Around} {E : Value → Shared → Prop} {s : Shared} {B : Heap} {L a : Addr} {m mg mb : PySem.Str → Option Value} {news : List (Addr × Obj)} {qual : PySem.Str} {sc : Scope} {cd : Value}
theorem add_strs {x y : List Nat} {t u : Tok} {Q : Value → Shared → Prop} (h : x.length + y.length ≤ 1000) (k : ∀ t' tk, Q (.str (strOf (x ++ y)) t') { s with toks := tk }) : wpAny (model prw w) A (binaryOp .Add (.str (strOf x) t) (.str (strOf y) u)) Q E s := by
  refine add_str (fun t' tk => ?_) (by rw [strOf_len, strOf_len, sizeLine_eq]; lia)
  rw [strOf_app]; exact k t' tk
theorem pick_mod (ns : List Int) {ys : List (List Nat)} {i : Int} {n : Int} (hn : 0 < n) (hl : ys.length = n.toNat) : ∃ y, ys[(i.fmod n).toNat]? = some y ∧ y ∈ ys := by
  have h := fmod_bd i hn
  have hlt : (i.fmod n).toNat < ys.length := by rw [hl]; exact (Int.toNat_lt_toNat hn).mpr h.2
  exact ⟨ys[(i.fmod n).toNat], List.getElem?_eq_getElem hlt, List.getElem_mem hlt⟩
theorem law_set {x : PySem.Str} {e : PySem.Expr} {p pos : Pos} {rest : List Stmt} {Q : Flow → Shared → Prop} (hk : sc.kind = .function) (hx : sc.names.lookup x = some .local) (hs : swapsWith e (some (.Name x p)) pos.line (envOf qual sc L a cd) = pure false)
    (R : Value → List (Addr × Obj) → Prop)
    (he : ∀ Q' : Value → Shared → Prop, (∀ v h' t news', Fr B L h' m → News B L h' news' → R v news' → Q' v { s with heap := h', toks := t }) → wpAny (model prw w) A (eval e (envOf qual sc L a cd)) Q' E s)
    (k : ∀ v news' h' m' t, R v news' → Fr B L h' m' → News B L h' news' → m' x = some v → (∀ y, y ≠ x → m' y = m y) → wpAny (model prw w) A (execs rest (envOf qual sc L a cd)) Q E { s with heap := h', toks := t }) :
    wpAny (model prw w) A (execs (.Assign [.Name x p] e pos :: rest) (envOf qual sc L a cd)) Q E s :=
  wpAny_execs_cons (wpAny_Assign_Name (he _ fun v h' t news' F N hR => law_store F N hk hx fun h'' m' t' F' N' e1 e2 => k v news' h'' m' t' hR F' N' e1 e2) hs)
theorem walk_a {sp : Addr} {vs : List Value} {ns : List Int} {Q : Flow → Shared → Prop} (LS : LawSc sc) (Z : Base w B mg mb) (hAh : A.handled = none) (hAd : A.depth ≤ 400) (F : Fr B L s.heap m) (N : News B L s.heap []) (hm : m "script" = some (.ref sp)) (hl : B.IsList sp vs.toArray) (hi : IntsAre vs ns) (hn : ns.length ≤ 63)
    {rest : List Stmt} (k : ∀ h' m' t D ws ns5 fr v c, Fr B L h' m' → News B L h' [(D, listOf ws.toArray 0)] → IntsAre ws ns5 → ns5.length = 5 → 2 ≤ fr.length → fr.length ≤ 6 → (∀ x ∈ fr, x ∈ tSigns) → v ∈ tVows → c ∈ tCloses → Loc4 m' D fr v c →
      wpAny (model prw w) A (execs rest (envOf qual sc L a cd)) Q E { s with heap := h', toks := t }) :
    wpAny (model prw w) A (execs (lawSt 0 :: lawSt 1 :: lawSt 2 :: lawSt 3 :: lawSt 4 :: rest) (envOf qual sc L a cd)) Q E s := by
  have gl := fun {n : PySem.Str} {v : Value} (e : nsIn (KF w.params) mainGlobals n = some (some v)) => mg_of Z.X Z.ng e
  rw [sh0]
  refine law_set LS.kind LS.numbers rfl (fun v news' => ∃ D ws, v = .ref D ∧ news' = [(D, listOf ws.toArray 0)] ∧ IntsAre ws ((ns ++ [0, 0, 0, 0, 0]).take 5))
    (fun Q' hQ => ev_numbers LS.kind LS.script F N hl hi hn hm fun D ws h' t F' N' hw => hQ _ h' t _ F' N' ⟨D, ws, rfl, rfl, hw⟩) ?_
  rintro v news' h1 m1 t1 ⟨D, ws, rfl, rfl, hw⟩ F1 N1 e1 e2
  have l5 : ((ns ++ [0, 0, 0, 0, 0]).take 5).length = 5 := by rw [List.length_take, List.length_append]; show min 5 (ns.length + 5) = 5; lia
  generalize (ns ++ [0, 0, 0, 0, 0]).take 5 = ns5 at hw l5
  have hm1 : m1 "script" = some (.ref sp) := (e2 _ (by decide +kernel)).trans hm
  rw [sh1]
  refine law_set (s := { s with heap := h1, toks := t1 }) LS.kind LS.front rfl (fun v news' => ∃ l u, v = .str (strOf l) u ∧ news' = [(D, listOf ws.toArray 0)] ∧ l.length ≤ 6 ∧ (∀ x ∈ l, x ∈ tSigns))
    (fun Q' hQ => ev_front (s := { s with heap := h1, toks := t1 }) sh1c hAh LS.kind LS.script sh1l F1 N1 Z.ng (gl (g_signs _)) hl hi hn hm1 fun l h' t u q1 q2 F' N' => hQ _ h' t _ F' N' ⟨l, u, rfl, rfl, q1, q2⟩) ?_
  rintro v news' h2 m2 t2 ⟨l, u, rfl, rfl, ll, ls⟩ F2 N2 e3 e4
  have n2 : m2 "numbers" = some (.ref D) := (e4 _ (by decide +kernel)).trans e1
  suffices hh : ∀ h3 m3 t3 fr, Fr B L h3 m3 → News B L h3 [(D, listOf ws.toArray 0)] → 2 ≤ fr.length → fr.length ≤ 6 → (∀ x ∈ fr, x ∈ tSigns) → m3 "numbers" = some (.ref D) → (∃ t, m3 "front" = some (.str (strOf fr) t)) →
      wpAny (model prw w) A (execs (lawSt 3 :: lawSt 4 :: rest) (envOf qual sc L a cd)) Q E { s with heap := h3, toks := t3 } by
    rw [sh2]
    refine wpAny_execs_cons (wpAny_If (wpAny_isTrue_Compare1 (wpAny_Call_Name_kw (ld_builtin_at (v := .builtin "len") F2 Z.ng (mg_none_of Z.X Z.ng (f_noblt _ "len" (.head _))) Z.nb (ns_of Z.X Z.nb (f_blt _ "len" (.head _))) ?_ LS.kind LS.len)) rfl))
    refine callWith_builtin rfl (evalArgs_plain (spliced_cons (ld F2 e3 (spliced_nil ?_) LS.kind LS.front)))
    refine len_str (by rw [strOf_len]; lia) ?_
    rw [strOf_len]
    refine wpAny_Constant_int ?_
    refine PySem.P.lt_int (wpAny_truthy_bool ?_)
    by_cases hs : l.length < 2
    · rw [decide_eq_true (by lia)]
      refine law_set (s := { s with heap := h2, toks := _ }) LS.kind LS.front rfl (fun v news' => ∃ u, v = .str (strOf ([114, 101] ++ l)) u ∧ news' = [(D, listOf ws.toArray 0)])
        (fun Q' hQ => wpAny_BinOp (Constant_str (ld F2 e3 (add_strs (by show 2 + l.length ≤ 1000; lia) fun t' tk => hQ _ h2 tk _ F2 N2 ⟨_, rfl, rfl⟩) LS.kind LS.front))) ?_
      rintro v news' h3 m3 t3 ⟨u3, rfl, rfl⟩ F3 N3 e5 e6
      refine wpAny_execs_nil (hh h3 m3 t3 _ F3 N3 (by rw [List.length_append]; show 2 ≤ 2 + l.length; lia) (by rw [List.length_append]; show 2 + l.length ≤ 6; lia) ?_ ((e6 _ (by decide +kernel)).trans n2) ⟨_, e5⟩)
      intro x hx
      rcases List.mem_append.mp hx with hx | hx
      · have hd : ∀ x ∈ ([114, 101] : List Nat), x ∈ tSigns := by decide
        exact hd x hx
      · exact ls x hx
    · rw [decide_eq_false (by lia)]
      exact wpAny_execs_nil (hh h2 m2 _ l F2 N2 (by lia) ll ls n2 ⟨_, e3⟩)
  intro h3 m3 t3 fr F3 N3 f1 f2 f3 n3 ⟨uf, hf⟩
  have h3D : h3.IsList D ws.toArray := ⟨_, (N3 _ (.head _)).1, rfl, 0, rfl⟩
  rw [sh3]
  obtain ⟨i1, hi1⟩ : ∃ i, ns5[1]? = some i := ⟨ns5[1]'(by lia), List.getElem?_eq_getElem (by lia)⟩
  obtain ⟨i2, hi2⟩ : ∃ i, ns5[2]? = some i := ⟨ns5[2]'(by lia), List.getElem?_eq_getElem (by lia)⟩
  obtain ⟨yv, hyv, hyv2⟩ := pick_mod ns5 (ys := tVows.map fun v => [v]) (i := i1) (n := 6) (by decide) rfl
  obtain ⟨v, hv, rfl⟩ := List.mem_map.mp hyv2
  obtain ⟨c, hc, hc2⟩ := pick_mod ns5 (ys := tCloses) (i := i2) (n := 45) (by decide) rfl
  refine law_set (s := { s with heap := h3, toks := t3 }) LS.kind LS.vowel rfl (fun x news' => ∃ u, x = .str (strOf [v]) u ∧ news' = [(D, listOf ws.toArray 0)])
    (fun Q' hQ => pick (s := { s with heap := h3, toks := t3 }) (ld_vowels _) Z.X Z.lim Z.ng (gl (g_vowels _)) (keep_vowels _) (by lia) LS.kind LS.vowels (by decide +kernel) F3 N3
      (fun s₁ news' sub F' N' _ _ Q'' hQ'' => num_mod LS.kind LS.numbers F' ⟨_, (N' _ (sub _ (.head _))).1, rfl, 0, rfl⟩ hw n3 (by decide) (by decide) (by decide) hi1 hQ'')
      (fmod_bd i1 (by decide)).1 hyv fun h' u t F' N' => hQ _ h' t _ F' N' ⟨u, rfl, rfl⟩) ?_
  rintro x news' h4 m4 t4 ⟨uv, rfl, rfl⟩ F4 N4 e5 e6
  rw [sh4]
  have n4 : m4 "numbers" = some (.ref D) := (e6 _ (by decide +kernel)).trans n3
  have f4 : m4 "front" = some (.str (strOf fr) uf) := (e6 _ (by decide +kernel)).trans hf
  refine law_set (s := { s with heap := h4, toks := t4 }) LS.kind LS.close rfl (fun x news' => ∃ u, x = .str (strOf c) u ∧ news' = [(D, listOf ws.toArray 0)])
    (fun Q' hQ => pick (s := { s with heap := h4, toks := t4 }) (ld_closes _) Z.X Z.lim Z.ng (gl (g_closes _)) (keep_closes _) (by lia) LS.kind LS.closes (by decide +kernel) F4 N4
      (fun s₁ news' sub F' N' _ _ Q'' hQ'' => num_mod LS.kind LS.numbers F' ⟨_, (N' _ (sub _ (.head _))).1, rfl, 0, rfl⟩ hw n4 (by decide) (by decide) (by decide) hi2 hQ'')
      (fmod_bd i2 (by decide)).1 hc fun h' u t F' N' => hQ _ h' t _ F' N' ⟨u, rfl, rfl⟩) ?_
  rintro x news' h5 m5 t5 ⟨uc, rfl, rfl⟩ F5 N5 e7 e8
  exact k h5 m5 t5 D ws ns5 fr v c F5 N5 hw l5 f1 f2 f3 hv hc2 ⟨(e8 _ (by decide +kernel)).trans n4, ⟨_, (e8 _ (by decide +kernel)).trans f4⟩, ⟨_, (e8 _ (by decide +kernel)).trans e5⟩, ⟨_, e7⟩⟩
end
end
end Mine
end
section
open PySem PySem.W PySem.Calls PyProof.Rows
namespace Mine
noncomputable section
theorem any_acc (v : Nat) : ([strOf [233], strOf [232]].any (· == strOf [v])) = decide (v = 233 ∨ v = 232) := by
  have e : ∀ x y : Nat, (strOf [x] == strOf [y]) = decide (y = x) := fun x y => by
    rw [show (strOf [x] == strOf [y]) = ([x] == [y]) from str_eq [x] [y]]
    by_cases h : y = x
    · subst h; simp
    · have : ¬ x = y := fun q => h q.symm
      simp [h, this]
  simp only [List.any_cons, List.any_nil, Bool.or_false, e]
  by_cases h1 : v = 233 <;> by_cases h2 : v = 232 <;> simp [h1, h2]
structure Loc5 (m : PySem.Str → Option Value) (D S : Addr) (root stem : List Nat) : Prop where
  numbers : m "numbers" = some (.ref D)
  root : ∃ t, m "root" = some (.str (strOf root) t)
  stem : ∃ t, m "stem" = some (.str (strOf stem) t)
  stemmer : m "stemmer" = some (.ref S)
section
variable {w : World} {A : Around} {E : Value → Shared → Prop} {s : Shared} {B : Heap} {L a : Addr} {m mg mb : PySem.Str → Option Value} {news : List (Addr × Obj)} {qual : PySem.Str} {sc : Scope} {cd : Value}
theorem walk_b {D : Addr} {ws : List Value} {fr c : List Nat} {v : Nat} {Q : Flow → Shared → Prop} (LS : LawSc sc) (Z : Base w B mg mb) (hAd : A.depth ≤ 400) (F : Fr B L s.heap m) (N : News B L s.heap [(D, listOf ws.toArray 0)]) (M : Loc4 m D fr v c) (hf : fr.length ≤ 6) (hc : c.length ≤ 2)
    {rest : List Stmt} (k : ∀ h' m' t S d es n, Fr B L h' m' → News B L h' [(S, instObj 808 d), (d, dictOf es n), (D, listOf ws.toArray 0)] → S ≠ d → B.objs.size ≤ S → B.objs.size ≤ d → FieldsAre prw w (KF w.params) 220 S f00 es → Loc5 m' D S (fr ++ v :: c) (fr ++ vp v :: c) →
      wpAny (model prw w) A (execs rest (envOf qual sc L a cd)) Q E { s with heap := h', toks := t }) :
    wpAny (model prw w) A (execs (lawSt 5 :: lawSt 6 :: lawSt 7 :: rest) (envOf qual sc L a cd)) Q E s := by
  obtain ⟨tf, mf⟩ := M.front
  obtain ⟨tv, mv⟩ := M.vowel
  obtain ⟨tc, mc⟩ := M.close
  rw [sh5]
  refine law_set (B := B) (m := m) LS.kind LS.root rfl (fun x news' => ∃ u, x = .str (strOf (fr ++ v :: c)) u ∧ news' = [(D, listOf ws.toArray 0)]) (fun Q' hQ => ?_) ?_
  · refine wpAny_BinOp (wpAny_BinOp (ld F mf (ld F mv (add_strs (by show fr.length + 1 ≤ 1000; lia) fun t' tk => ?_) LS.kind LS.vowel) LS.kind LS.front))
    refine ld F mc (add_strs (by rw [List.length_append]; show fr.length + 1 + c.length ≤ 1000; lia) fun t2 tk2 => ?_) LS.kind LS.close
    rw [List.append_assoc]
    exact hQ _ _ _ _ F N ⟨_, rfl, rfl⟩
  rintro x news' h1 m1 t1 ⟨u1, rfl, rfl⟩ F1 N1 e1 e2
  rw [sh6]
  have mf1 := (e2 _ (by decide +kernel)).trans mf
  have mv1 := (e2 _ (by decide +kernel)).trans mv
  have mc1 := (e2 _ (by decide +kernel)).trans mc
  have mn1 := (e2 _ (by decide +kernel)).trans M.numbers
  refine law_set (B := B) (m := m1) (s := { s with heap := h1, toks := t1 }) LS.kind LS.stem rfl (fun x news' => ∃ u, x = .str (strOf (fr ++ vp v :: c)) u ∧ ∃ o, news' = [o, (D, listOf ws.toArray 0)]) (fun Q' hQ => ?_) ?_
  · refine wpAny_BinOp (wpAny_BinOp (ld F1 mf1 (wpAny_IfExp (wpAny_isTrue_Compare1 (ld F1 mv1 (List_ (splice_strs _ [[233], [232]] rfl _ _ fun zs t0 hz => ?_)) LS.kind LS.vowel) rfl)) LS.kind LS.front))
    refine newList_K F1 N1 (fun l1 h2 F2 N2 _ => ?_) (by rw [strsAre_len hz, sizeLine_eq]; decide)
    refine in_list_strs (s := { s with heap := h2, toks := _ }) ⟨_, (N2 _ (.head _)).1, rfl, 0, rfl⟩ hz (wpAny_truthy_bool ?_)
    have fin : ∀ (y : Nat) (tk t' : Nat), y = vp v → wpAny (model prw w) A (binaryOp .Add (.str (strOf fr) tf) (.str (strOf [y]) t')) (fun x s₁ => wpAny (model prw w) A (eval (.Name "close" (lP 6 121)) (envOf qual sc L a cd)) (fun b s₂ => wpAny (model prw w) A (binaryOp .Add x b) Q' E s₂) E s₁) E { s with heap := h2, toks := tk } := fun y tk t' hy => by
      subst hy
      refine add_strs (by show fr.length + 1 ≤ 1000; lia) fun t2 tk2 => ?_
      refine ld F2 mc1 (add_strs (by rw [List.length_append]; show fr.length + 1 + c.length ≤ 1000; lia) fun t3 tk3 => ?_) LS.kind LS.close
      rw [List.append_assoc]
      exact hQ _ _ _ _ F2 N2 ⟨_, rfl, _, rfl⟩
    show (if ([strOf [233], strOf [232]].any (· == strOf [v])) = true then _ else _)
    rw [any_acc]
    by_cases hv : v = 233 ∨ v = 232
    · rw [decide_eq_true hv, if_pos rfl]
      exact Constant_str (fin 101 _ _ (by unfold vp; rw [if_pos hv]))
    · rw [decide_eq_false hv, if_neg (by decide)]
      exact ld F2 mv1 (fin v _ _ (by unfold vp; rw [if_neg hv])) LS.kind LS.vowel
  rintro x news' h2 m2 t2 ⟨u2, rfl, o, rfl⟩ F2 N2 e3 e4
  have N2' : News B L h2 [(D, listOf ws.toArray 0)] := fun p hp => N2 p (.tail _ hp)
  rw [sh7]
  have X2 := Z.X.keeps F2.keep
  refine law_set (B := B) (m := m2) (s := { s with heap := h2, toks := t2 }) LS.kind LS.stemmer rfl (fun x news' => ∃ S d es n, x = .ref S ∧ news' = [(S, instObj 808 d), (d, dictOf es n), (D, listOf ws.toArray 0)] ∧ S ≠ d ∧ B.objs.size ≤ S ∧ B.objs.size ≤ d ∧ FieldsAre prw w (KF w.params) 220 S f00 es) (fun Q' hQ => ?_) ?_
  · refine wpAny_Call_Name_kw (ld_global_at F2 Z.ng (mg_of Z.X Z.ng (f_cls w.params)) ?_ LS.kind LS.cls)
    refine callWith_K0 X2 (f_cls2 _) ?_
    refine make_stemmer (s := { s with heap := h2, toks := t2 }) X2 (Z.ng.keeps F2.keep) (Z.nb.keeps F2.keep) (Z.lim.keeps F2.keep) (by lia) fun h' t es n e5 e6 e7 e8 => ?_
    have hLs : L < h2.objs.size := F2.ns.lt
    have hB : B.objs.size ≤ h2.objs.size := Nat.le_trans F2.above (Nat.le_of_lt hLs)
    refine hQ _ h' t _ (F2.keeps e5) (fun p hp => ?_) ⟨_, _, es, n, rfl, rfl, Nat.succ_ne_self _, Nat.le_succ_of_le hB, hB, e8⟩
    rcases List.mem_cons.mp hp with rfl | hp
    · exact ⟨e6, Nat.ne_of_gt (Nat.lt_succ_of_lt hLs), Heap.get?_none_of_le (Nat.le_succ_of_le hB)⟩
    · rcases List.mem_cons.mp hp with rfl | hp
      · exact ⟨e7, Nat.ne_of_gt hLs, Heap.get?_none_of_le hB⟩
      · exact (N2'.grown e5) p hp
  rintro x news' h3 m3 t3 ⟨S, d, es, n, rfl, rfl, hSd, hS1, hS2, hFA⟩ F3 N3 e5 e6
  exact k h3 m3 t3 S d es n F3 N3 hSd hS1 hS2 hFA ⟨(e6 _ (by decide +kernel)).trans ((e4 _ (by decide +kernel)).trans mn1), ⟨_, (e6 _ (by decide +kernel)).trans ((e4 _ (by decide +kernel)).trans e1)⟩, ⟨_, (e6 _ (by decide +kernel)).trans e3⟩, e5⟩
end
end
end Mine
end
section
open PySem PySem.W PySem.Calls PyProof.Rows
namespace Mine
noncomputable section
theorem ne_obj {h : Heap} {a b : Addr} {o o' : Obj} (h1 : h.get? a = some o) (h2 : h.get? b = some o') (hc : o.cls ≠ o'.cls) : a ≠ b := by
  rintro rfl
  rw [h1] at h2
  cases h2
  exact hc rfl
noncomputable abbrev led (S d D : Addr) (es : List DictEntry) (n : Nat) (ws : List Value) (extra : List (Addr × Obj)) : List (Addr × Obj) := (S, instObj 808 d) :: (d, dictOf es n) :: (D, listOf ws.toArray 0) :: extra
theorem f_stemWord (P : Params) : findIn (KF P) (.ref 808) Mth.stemWord.name = some (some (.ref 189)) ∧ isFn (KF P) (.ref 189) = true ∧ keepIn (KF P) (.ref 189) = true := f_mth P .stemWord
section
variable {w : World} {A : Around} {E : Value → Shared → Prop} {s : Shared} {B : Heap} {L a : Addr} {m mg mb : PySem.Str → Option Value} {qual : PySem.Str} {sc : Scope} {cd : Value}
theorem stem_call {S d D : Addr} {es : List DictEntry} {n : Nat} {ws : List Value} {extra : List (Addr × Obj)} {f f' : F} {word stem : List Nat} {t : Tok} {Q : Value → Shared → Prop} (LS : LawSc sc) (Z : Base w B mg mb) (hAh : A.handled = none) (hAf : A.frames = some [envOf qual sc L a cd]) (hAd : A.depth ≤ 400) (hAu : A.units ≤ 1000)
    (F : Fr B L s.heap m) (N : News B L s.heap (led S d D es n ws extra)) (hSd : S ≠ d) (hS1 : B.objs.size ≤ S) (hS2 : B.objs.size ≤ d) (hex : ∀ p ∈ extra, p.1 ≠ S ∧ p.1 ≠ d) (hFA : FieldsAre prw w (KF w.params) 220 S f es)
    (hμ : runM 101 kap 8 .stemWord [.str word] f = some (.str stem, f')) (hw : word.length ≤ 1000)
    (k : ∀ s' es' n' t', s'.gens = s.gens → s'.os = s.os → Fr B L s'.heap m → News B L s'.heap (led S d D es' n' ws extra) → FieldsAre prw w (KF w.params) 220 S f' es' → Q (.str (strOf stem) t') s') :
    wpAny (model prw w) A (call (.ref 189) [.ref S, .str (strOf word) t]) Q E s := by
  have iS := (N _ (.head _)).1
  have id := (N _ (.tail _ (.head _))).1
  have iD := (N _ (.tail _ (.tail _ (.head _)))).1
  have hDS : D ≠ S := ne_obj iD iS (by intro e; cases e)
  have hDd : D ≠ d := ne_obj iD id (by show Value.type "list" ≠ Value.type "dict"; intro e; injection e with e; exact absurd e (by decide))
  have hLS := (N _ (.head _)).2.1
  have hLd := (N _ (.tail _ (.head _))).2.1
  have hBS := (N _ (.head _)).2.2
  have hBd := (N _ (.tail _ (.head _))).2.2
  obtain ⟨oL, esL, epL, hL, hLd2, hLk, hLf⟩ := F.ns
  refine top_call (b := bOf w B mg mb S d) (N := 101) (k := 7) (L0 := L) (env0 := envOf qual sc L a cd) (n := .stemWord) (args := [.str word]) (vals := [.str (strOf word) t]) (f := f) (f' := f') (v := .str stem) (gr_of Z.old Z.ng Z.nb Z.lim) (methAt_of rfl rfl) rfl LS.kind hAh hAf (by lia) (by lia) F.above hS1 hS2 hSd (Ne.symm hLS) (Ne.symm hLd)
    F.keep iS ⟨es, n, id, hFA⟩ ⟨oL, _, _, hL, hLd2⟩ (by rw [mu_is]; exact hμ) (.cons ⟨rfl, hw⟩ .nil) fun val s' hv j1 j2 j3 g1 g2 => ?_
  obtain ⟨es', n', id', hFA'⟩ := j2
  obtain ⟨tk, rfl, -⟩ := str_val hv
  have kp : ∀ b o, b ≠ S → b ≠ d → b ≠ L → s.heap.get? b = some o → s'.heap.get? b = some o := fun b o h1 h2 h3 e => by
    obtain ⟨sl, e', q⟩ := j3 b o h1 h2 e
    rw [q fun hm => h3 (List.mem_singleton.mp hm)] at e'; exact e'
  have F' : Fr B L s'.heap m := by
    obtain ⟨sl, e', -⟩ := j3 L oL (Ne.symm hLS) (Ne.symm hLd) hL
    refine ⟨⟨_, esL, epL, e', hLd2, hLk, hLf⟩, fun b o e => ?_, F.above⟩
    have hb := Heap.lt_size e
    exact kp b o (fun q => by rw [q, hBS] at e; cases e) (fun q => by rw [q, hBd] at e; cases e) (Nat.ne_of_lt (Nat.lt_of_lt_of_le hb F.above)) (F.keep b o e)
  refine k s' es' n' tk g1 g2 F' (fun p hp => ?_) hFA'
  rcases List.mem_cons.mp hp with rfl | hp
  · exact ⟨j1, hLS, hBS⟩
  · rcases List.mem_cons.mp hp with rfl | hp
    · exact ⟨id', hLd, hBd⟩
    · have hp' := N p (.tail _ (.tail _ hp))
      refine ⟨kp p.1 p.2 ?_ ?_ hp'.2.1 hp'.1, hp'.2⟩
      · rcases List.mem_cons.mp hp with rfl | hp
        · exact hDS
        · exact (hex p hp).1
      · rcases List.mem_cons.mp hp with rfl | hp
        · exact hDd
        · exact (hex p hp).2
end
end
end Mine
end
section
open PySem PySem.W PySem.Calls PyProof.Rows
namespace Mine
noncomputable section
section
variable {w : World} {A : Around} {E : Value → Shared → Prop} {s : Shared} {B : Heap} {L a : Addr} {m mg mb : PySem.Str → Option Value} {qual : PySem.Str} {sc : Scope} {cd : Value}
theorem law_turn {S d D : Addr} {es : List DictEntry} {n : Nat} {ws : List Value} {ns5 : List Int} {extra : List (Addr × Obj)} {f : F} {fr c : List Nat} {v : Nat} {i : Int} {u0 : Tok} {Q : Flow → Shared → Prop} (LS : LawSc sc) (Z : Base w B mg mb) (hAh : A.handled = none) (hAf : A.frames = some [envOf qual sc L a cd]) (hAd : A.depth ≤ 400) (hAu : A.units ≤ 1000)
    (F : Fr B L s.heap m) (N : News B L s.heap (led S d D es n ws extra)) (hSd : S ≠ d) (hS1 : B.objs.size ≤ S) (hS2 : B.objs.size ≤ d) (hex : ∀ p ∈ extra, p.1 ≠ S ∧ p.1 ≠ d) (hFA : FieldsAre prw w (KF w.params) 220 S f es)
    (M : Loc5 m D S (fr ++ v :: c) (fr ++ vp v :: c)) (hi : IntsAre ws ns5) (h5 : ns5.length = 5) (hnum : m "number" = some (.int i u0)) (f1 : 2 ≤ fr.length) (f2 : fr.length ≤ 6) (f3 : ∀ x ∈ fr, x ∈ tSigns) (hv : v ∈ tVows) (hc : c ∈ tCloses)
    (k : ∀ s' es' n' f', s'.gens = s.gens → s'.os = s.os → Fr B L s'.heap m → News B L s'.heap (led S d D es' n' ws extra) → FieldsAre prw w (KF w.params) 220 S f' es' → Q .next s') :
    wpAny (model prw w) A (execs lawFor (envOf qual sc L a cd)) Q E s := by
  have gl := fun {n : PySem.Str} {v : Value} (e : nsIn (KF w.params) mainGlobals n = some (some v)) => mg_of Z.X Z.ng e
  obtain ⟨tr, mr⟩ := M.root
  obtain ⟨ts, ms⟩ := M.stem
  obtain ⟨i0, hi0⟩ : ∃ i, ns5[0]? = some i := ⟨ns5[0]'(by lia), List.getElem?_eq_getElem (by lia)⟩
  obtain ⟨h, hh, hh2⟩ := pick_mod ns5 (ys := tHeads) (i := i0) (n := 10) (by decide) rfl
  obtain ⟨e, he, he2⟩ := pick_mod ns5 (ys := tEnds) (i := i) (n := 101) (by decide) rfl
  obtain ⟨f', hμ⟩ := plain_law hh2 f3 f1 f2 hv hc he2 f
  have hl1 : h.length ≤ 3 := by
    have q := List.all_eq_true.mp (show (tHeads.all fun x => decide (x.length ≤ 3)) = true by decide) h hh2
    exact of_decide_eq_true q
  have hl2 : e.length ≤ 9 := by
    have q := List.all_eq_true.mp ends_len e he2
    simp only [Bool.and_eq_true, decide_eq_true_eq] at q
    exact q.1.1
  have hl3 : c.length ≤ 2 := by
    have q := List.all_eq_true.mp closes_ok c hc
    simp only [Bool.and_eq_true, decide_eq_true_eq] at q
    exact q.1.1.2.2
  rw [sh8b]
  have hI : InstAt s.heap S (instObj 808 d) 808 (some (dictOf es n)) := ⟨(N _ (.head _)).1, rfl, rfl, (N _ (.tail _ (.head _))).1⟩
  obtain ⟨g1, g2, g3⟩ := f_stemWord w.params
  refine wpAny_execs_cons (wpAny_If (wpAny_isTrue_Compare1 (wpAny_methCall rfl rfl sh8l (ld F M.stemmer (fun pl => ?_) LS.kind LS.stemmer)) rfl))
  refine method_inst F Z.X hI (f_plain _) g1 g2 (hFA.2.1 .stemWord) ?_
  refine callWith_K Z.X g3 ?_ rfl rfl
  refine spliced_cons (wpAny_BinOp (wpAny_BinOp ?_))
  have wl : (h ++ (fr ++ v :: c)).length ≤ 20 := by simp only [List.length_append, List.length_cons]; lia
  have wl2 : ((h ++ (fr ++ v :: c)) ++ e).length ≤ 40 := by rw [List.length_append]; lia
  have we : (h ++ (fr ++ v :: c)) ++ e = h ++ (fr ++ (v :: (c ++ e))) := by simp
  refine pick (ld_heads _) Z.X Z.lim Z.ng (gl (g_heads _)) (keep_heads _) (by lia) LS.kind LS.heads (by decide +kernel) F N
    (fun s₁ news' sub F' N' _ _ Q'' hQ'' => num_mod LS.kind LS.numbers F' ⟨_, (N' _ (sub _ (.tail _ (.tail _ (.head _))))).1, rfl, 0, rfl⟩ hi M.numbers (by decide) (by decide) (by decide) hi0 hQ'')
    (fmod_bd i0 (by decide)).1 hh fun h1 u1 t1 F1 N1 => ?_
  refine ld F1 mr (add_strs (by rw [List.length_append] at wl; lia) fun t2 tk2 => ?_) LS.kind LS.root
  refine pick (s := { s with heap := h1, toks := tk2 }) (ld_ends _) Z.X Z.lim Z.ng (gl (g_ends _)) (keep_ends _) (by lia) LS.kind LS.ends (by decide +kernel) F1 N1
    (fun s₁ news' sub F' N' _ _ Q'' hQ'' => name_mod LS.kind LS.number (by decide +kernel) F' hnum (by decide) hQ'')
    (fmod_bd i (by decide)).1 he fun h2 u2 t3 F2 N2 => ?_
  refine add_strs (by rw [List.length_append] at wl2; lia) fun t4 tk4 => spliced_nil ⟨Z.X.keeps F2.keep, ?_⟩
  rw [we]
  refine stem_call (s := { s with heap := h2, toks := tk4 }) LS Z hAh hAf hAd hAu F2 N2 hSd hS1 hS2 hex hFA hμ (by rw [← we]; lia) fun s3 es3 n3 t5 g4 g5 F3 N3 hFA3 => ?_
  refine ld F3 ms (ne_str (wpAny_truthy_bool ?_)) LS.kind LS.stem
  rw [bne, beq_self_eq_true]
  exact wpAny_execs_nil (wpAny_execs_nil (k s3 es3 n3 f' g4 g5 F3 N3 hFA3))
end
end
end Mine
end
section
open PySem PySem.W PySem.Calls PyProof.Rows
namespace Mine
noncomputable section
section
variable {w : World} {A : Around} {E : Value → Shared → Prop} {s : Shared} {B : Heap} {L a : Addr} {m mg mb : PySem.Str → Option Value} {qual : PySem.Str} {sc : Scope} {cd : Value}
structure Turn (w : World) (B : Heap) (L S d D sl I : Addr) (so : Obj) (ws : List Value) (root stem : List Nat) (s s' : Shared) (i : Nat) : Prop where
  st : ∃ m' es n f io, Fr B L s'.heap m' ∧ News B L s'.heap (led S d D es n ws [(I, io), (sl, so)]) ∧ io.cls = .type "list_iterator" ∧ io.data = .fields #[.ref sl, .int i 0] ∧ FieldsAre prw w (KF w.params) 220 S f es ∧ Loc5 m' D S root stem
  gens : s'.gens = s.gens
  os : s'.os = s.os
theorem law_loop {S d D : Addr} {es : List DictEntry} {n : Nat} {ws : List Value} {ns5 : List Int} {f : F} {fr c : List Nat} {v : Nat} {Q : Flow → Shared → Prop} (LS : LawSc sc) (Z : Base w B mg mb) (hAh : A.handled = none) (hAf : A.frames = some [envOf qual sc L a cd]) (hAd : A.depth ≤ 400) (hAu : A.units ≤ 1000)
    (F : Fr B L s.heap m) (N : News B L s.heap (led S d D es n ws [])) (hSd : S ≠ d) (hS1 : B.objs.size ≤ S) (hS2 : B.objs.size ≤ d) (hFA : FieldsAre prw w (KF w.params) 220 S f es)
    (M : Loc5 m D S (fr ++ v :: c) (fr ++ vp v :: c)) (hi : IntsAre ws ns5) (h5 : ns5.length = 5) (f1 : 2 ≤ fr.length) (f2 : fr.length ≤ 6) (f3 : ∀ x ∈ fr, x ∈ tSigns) (hv : v ∈ tVows) (hc : c ∈ tCloses)
    (k : ∀ s', (∀ b o, B.get? b = some o → s'.heap.get? b = some o) → s'.gens = s.gens → s'.os = s.os → Q (.ret (.bool true)) s') :
    wpAny (model prw w) A (execs [lawSt 8, lawSt 9] (envOf qual sc L a cd)) Q E s := by
  rw [sh8, sh9]
  have hLD : s.heap.IsList D ws.toArray := ⟨_, (N _ (.tail _ (.tail _ (.head _)))).1, rfl, 0, rfl⟩
  have hwl : ws.length = 5 := by rw [hi.length]; exact h5
  refine wpAny_execs_cons (wpAny_For (Subscript_ (ld F M.numbers (wpAny_Slice (wpAny_Constant_int (k := lK 8 1210) (pos := lP 8 1210) (wpAny_Constant_int (k := lK 8 1211) (pos := lP 8 1211) (wpAny_pure ?_)))) LS.kind LS.numbers)))
  refine slice_list (s := { s with heap := s.heap, toks := _ }) F N hLD (.int 3 _) (.int 5 _) (fun h1 F1 N1 => ?_) (by with_unfolding_all rfl) (by intro _; rfl) (by rw [List.size_toArray, hwl, sizeLine_eq]; decide)
  have hi2 := slice_ints hi (x := 3) (y := 5) (by decide) (by decide) (by rw [h5]; decide)
  generalize hso : ({ cls := .type "list", data := .seq (slicePick ws.toArray (some 3) (some 5) none) } : Obj) = so at N1
  generalize hsl : s.heap.objs.size + 1 = sl at N1 ⊢
  generalize hit2 : slicePick ws.toArray (some 3) (some 5) none = items at hso hi2
  have l2 : ((ns5.drop (3 : Int).toNat).take ((5 : Int) - 3).toNat).length = 2 := by
    rw [List.length_take, List.length_drop, h5]; rfl
  generalize (ns5.drop (3 : Int).toNat).take ((5 : Int) - 3).toNat = ns2 at hi2 l2
  have hLsl : h1.IsList sl items := ⟨_, (N1 _ (.head _)).1, by rw [← hso], 0, by rw [← hso]⟩
  refine wpAny_pyIter_list (s := { s with heap := h1, toks := _ }) hLsl ?_
  have F2 := F1.push { cls := .type "list_iterator", data := .fields #[.ref sl, .int 0 0] }
  have N2 := N1.push F1 { cls := .type "list_iterator", data := .fields #[.ref sl, .int 0 0] }
  have isz : items.size = 2 := by
    have := hi2.length
    rw [l2] at this
    simpa using this
  refine codeAny_forLoop (fun kk s' => ∃ i, i ≤ 2 ∧ kk = 2 - i ∧ Turn w B L S d D sl h1.objs.size so ws (fr ++ v :: c) (fr ++ vp v :: c) s s' i) ?_ 2 ⟨0, by decide, rfl, ⟨m, es, n, f, { cls := .type "list_iterator", data := .fields #[.ref sl, .int 0 0] }, F2, ?_, rfl, rfl, hFA, M⟩, rfl, rfl⟩
  · rintro kk s' ⟨i, hi3, rfl, ⟨m', es', n', f', io, F', N', c1, c2, hFA', M'⟩, g1, g2⟩
    have iI := N' (h1.objs.size, io) (.tail _ (.tail _ (.tail _ (.head _))))
    have isl := N' (sl, so) (.tail _ (.tail _ (.tail _ (.tail _ (.head _)))))
    have iS := N' _ (.head _)
    have idd := N' _ (.tail _ (.head _))
    have iD := N' _ (.tail _ (.tail _ (.head _)))
    have hit : s'.heap.IsListIter h1.objs.size sl i := ⟨io, iI.1, c1, c2⟩
    have hL2 : s'.heap.IsList sl items := ⟨so, isl.1, by rw [← hso], 0, by rw [← hso]⟩
    have nS : S ≠ h1.objs.size := ne_obj iS.1 iI.1 (by rw [c1]; intro e; cases e)
    have nd : d ≠ h1.objs.size := ne_obj idd.1 iI.1 (by rw [c1]; show Value.type "dict" ≠ Value.type "list_iterator"; intro e; injection e with e; exact absurd e (by decide))
    have nD : D ≠ h1.objs.size := ne_obj iD.1 iI.1 (by rw [c1]; show Value.type "list" ≠ Value.type "list_iterator"; intro e; injection e with e; exact absurd e (by decide))
    have nsl : sl ≠ h1.objs.size := ne_obj isl.1 iI.1 (by rw [c1, ← hso]; show Value.type "list" ≠ Value.type "list_iterator"; intro e; injection e with e; exact absurd e (by decide))
    have sS : sl ≠ S := ne_obj isl.1 iS.1 (by rw [← hso]; intro e; cases e)
    have sd : sl ≠ d := ne_obj isl.1 idd.1 (by rw [← hso]; show Value.type "list" ≠ Value.type "dict"; intro e; injection e with e; exact absurd e (by decide))
    by_cases hlt : i < 2
    · obtain ⟨x, hx⟩ : ∃ x, ns2[i]? = some x := ⟨ns2[i]'(by lia), List.getElem?_eq_getElem (by lia)⟩
      obtain ⟨tx, htx⟩ := ints_get hi2 hx
      refine wpAny_pyNext_list_item hit hL2 (x := .int x tx) (by simpa using htx) fun h3 hit3 hs3 => ?_
      obtain ⟨io', io1, io2, io3⟩ := hit3
      have F3 : Fr B L h3 m' := F'.change hs3 iI.2.1 iI.2.2
      have N3 : News B L h3 (led S d D es' n' ws [(h1.objs.size, io'), (sl, so)]) := fun p hp => by
        rcases List.mem_cons.mp hp with rfl | hp
        · exact ⟨(hs3.2 _ nS).trans iS.1, iS.2⟩
        · rcases List.mem_cons.mp hp with rfl | hp
          · exact ⟨(hs3.2 _ nd).trans idd.1, idd.2⟩
          · rcases List.mem_cons.mp hp with rfl | hp
            · exact ⟨(hs3.2 _ nD).trans iD.1, iD.2⟩
            · rcases List.mem_cons.mp hp with rfl | hp
              · exact ⟨io1, iI.2⟩
              · rcases List.mem_cons.mp hp with rfl | hp
                · exact ⟨(hs3.2 _ nsl).trans isl.1, isl.2⟩
                · first | exact no_none hp | exact no_false hp | cases hp
      refine wpAny_assign_Name (law_store (s := { s' with heap := h3 }) F3 N3 LS.kind LS.number fun h4 m4 t4 F4 N4 e1 e2 => ?_)
      have M4 : Loc5 m4 D S (fr ++ v :: c) (fr ++ vp v :: c) := by
        obtain ⟨tr, mr⟩ := M'.root
        obtain ⟨ts, ms⟩ := M'.stem
        exact ⟨(e2 _ (by decide +kernel)).trans M'.numbers, ⟨_, (e2 _ (by decide +kernel)).trans mr⟩, ⟨_, (e2 _ (by decide +kernel)).trans ms⟩, (e2 _ (by decide +kernel)).trans M'.stemmer⟩
      refine law_turn (s := { s' with heap := h4, toks := t4 }) LS Z hAh hAf hAd hAu F4 N4 hSd hS1 hS2 (fun p hp => ?_) hFA' M4 hi h5 e1 f1 f2 f3 hv hc fun s5 es5 n5 f5 g5 g6 F5 N5 hFA5 => ?_
      · rcases List.mem_cons.mp hp with rfl | hp
        · exact ⟨Ne.symm nS, Ne.symm nd⟩
        · rcases List.mem_cons.mp hp with rfl | hp
          · exact ⟨sS, sd⟩
          · first | exact no_none hp | exact no_false hp | cases hp
      · exact ⟨2 - (i + 1), by lia, i + 1, by lia, rfl, ⟨m4, es5, n5, f5, io', F5, N5, io2, io3, hFA5, M4⟩, g5.trans g1, g6.trans g2⟩
    · have hi4 : i = 2 := by lia
      refine wpAny_pyNext_list_end hAh hit hL2 (by rw [Array.getElem?_eq_none]; lia) fun h3 he3 => wpAny_execs_nil ?_
      refine wpAny_execs_cons (wpAny_Return_some ?_)
      show wpAny _ _ (constValue _ _) _ _ _
      refine wpAny_pure (k _ (fun b o e => he3 b o (fun q => ?_) (F'.keep b o e)) g1 g2)
      rw [q, iI.2.2] at e; cases e
  · intro p hp
    rcases List.mem_cons.mp hp with rfl | hp
    · exact N2 _ (.tail _ (.tail _ (.head _)))
    · rcases List.mem_cons.mp hp with rfl | hp
      · exact N2 _ (.tail _ (.tail _ (.tail _ (.head _))))
      · rcases List.mem_cons.mp hp with rfl | hp
        · exact N2 _ (.tail _ (.tail _ (.tail _ (.tail _ (.head _)))))
        · rcases List.mem_cons.mp hp with rfl | hp
          · exact N2 _ (.head _)
          · rcases List.mem_cons.mp hp with rfl | hp
            · exact N2 _ (.tail _ (.head _))
            · first | exact no_none hp | exact no_false hp | cases hp
end
end
end Mine
end
section
open PySem PySem.W PySem.Calls PyProof.Rows
namespace Mine
noncomputable section
theorem law_walk {w : World} {A : Around} {E : Value → Shared → Prop} {s : Shared} {B : Heap} {L a sp : Addr} {m mg mb : PySem.Str → Option Value} {qual : PySem.Str} {sc : Scope} {cd : Value} {vs : List Value} {ns : List Int} {Q : Flow → Shared → Prop}
    (LS : LawSc sc) (Z : Base w B mg mb) (hAh : A.handled = none) (hAf : A.frames = some [envOf qual sc L a cd]) (hAd : A.depth ≤ 400) (hAu : A.units ≤ 1000) (F : Fr B L s.heap m) (N : News B L s.heap []) (hm : m "script" = some (.ref sp)) (hl : B.IsList sp vs.toArray) (hi : IntsAre vs ns) (hn : ns.length ≤ 63)
    (k : ∀ s', (∀ b o, B.get? b = some o → s'.heap.get? b = some o) → s'.gens = s.gens → s'.os = s.os → Q (.ret (.bool true)) s') :
    wpAny (model prw w) A (execs lawBody (envOf qual sc L a cd)) Q E s := by
  rw [law_list]
  refine walk_a LS Z hAh hAd F N hm hl hi hn fun h1 m1 t1 D ws ns5 fr v c F1 N1 hw l5 f1 f2 f3 hv hc M1 => ?_
  have hl3 : c.length ≤ 2 := by
    have q := List.all_eq_true.mp closes_ok c hc
    simp only [Bool.and_eq_true, decide_eq_true_eq] at q
    exact q.1.1.2.2
  refine walk_b (s := { s with heap := h1, toks := t1 }) LS Z hAd F1 N1 M1 f2 hl3 fun h2 m2 t2 S d es n F2 N2 hSd hS1 hS2 hFA M2 => ?_
  exact law_loop (s := { s with heap := h2, toks := t2 }) LS Z hAh hAf hAd hAu F2 N2 hSd hS1 hS2 hFA M2 hw l5 f1 f2 f3 hv hc k
end
end Mine
end
section
open PySem PySem.W PySem.Calls PyProof.Rows
namespace Mine
noncomputable section
noncomputable def scopeS (f : Option Stmt) : Scope := match f with
  | some (.FunctionDef _ _ _ _ _ _ sc ..) => sc
  | _ => ⟨.module, [], false, false, []⟩
noncomputable def lawScope : Scope := scopeS (fnAt top 17)
theorem law_sc : LawSc lawScope := by
  constructor <;> kernel_rfl
noncomputable abbrev rowL : OpenRow := PySem.Challenge.rw_is0021_02.row
noncomputable def YPF (w : World) (h : Heap) : Prop := (KF w.params).In h ∧ ∀ b o, (HB1 w.params).get? b = some o → h.get? b = some o
theorem yp_of (w : World) (s : Shared) (h : Yf s = Ya w) : YPF w s.heap := by
  have e : s.heap = HB1 w.params := h
  rw [e]; exact ⟨KF_in _, fun _ _ q => q⟩
theorem yp_keeps (w : World) (h h' : Heap) (y : YPF w h) (k : ∀ b o, h.get? b = some o → h'.get? b = some o) : YPF w h' := ⟨fun a o e => k a o (y.1 a o e), fun a o e => k a o (y.2 a o e)⟩
noncomputable abbrev rwP : Program := PySem.Challenge.rw_is0021_02.row.prog
theorem said1 : sreFenced rwP.main = true := by kernel_rfl
theorem said2 : ((moduleNames rwP.main.body).isEmpty || lookedIntoSs (moduleNames rwP.main.body) rwP.main.body) = true := by kernel_rfl
theorem said3 : namesResolve rwP = true := by kernel_rfl
theorem said4 : rwP.boundNames.all (fun n => !worldNames.contains n) = true := by kernel_rfl
theorem said5a : readsOut rwP rwP.main.body "vars" = false := by kernel_rfl
theorem said5b : readsOut rwP rwP.main.body "dir" = false := by kernel_rfl
theorem said5c : readsOut rwP rwP.main.body "locals" = false := by kernel_rfl
theorem said5d : (["vars", "dir", "locals"] : List Str).filter (readsOut rwP rwP.main.body) = [] := by
  rw [List.filter_cons, said5a, List.filter_cons, said5b, List.filter_cons, said5c]; rfl
theorem said5e : noRoadLSs { strict := !(importedModules rwP.main.body).all cThrough.contains, foot := none, bare := [] } rwP.main.body = true := by kernel_rfl
theorem said6 : namesMeet rwP rwP.main.body (fun _ n => attrL n) = true := by kernel_rfl
theorem said7 : looksOpen rwP = true := by
  unfold looksOpen
  rw [said1, said2, said3, said4, said5d, said5e, said6]; rfl
theorem law_said : PySem.Challenge.rw_is0021_02.wellSaid = true := by
  unfold OpenLaw.wellSaid OpenRow.wellSaid OpenRow.partSaid
  rw [show looksOpen PySem.Challenge.rw_is0021_02.row.prog = true from said7]
  kernel_rfl
theorem ok_chains : chainsOk qv = true := by kernel_rfl
theorem ok_opens : opensWell rwP = true := by kernel_rfl
theorem law_ok : (chainsOk qv && opensWell rowL.prog && (frees rowL.toRowW && rowL.within.isEmpty)) = true := by
  rw [ok_chains, show opensWell rowL.prog = true from ok_opens]
  kernel_rfl
theorem law_bare : rowL.prog.bare := ⟨rfl, rfl, rfl, rfl, rfl, by kernel_rfl⟩
theorem law_prom : rowL.promised := ⟨[.list []], by decide +kernel, by decide +kernel⟩
end
end Mine
set_option maxHeartbeats 4000000 in
theorem Mine.row_go (said : Mine.rowL.wellSaid = true) : PySem.Challenge.rw_is0021_02.row.Holds := by
  refine holds_open (q := Mine.qv) (loose := Mine.loose) (Xt := Mine.XtF) (XP := XL Mine.qv []) (Yf := Mine.Yf) (Ya := Mine.Ya) (YP := Mine.YPF) (N := 100000) Mine.left Mine.yp_of Mine.yp_keeps (fun s e => xl_of s (Bool.and_eq_true_iff.mp e).1) XL.keeps (by rfl) (by rfl) (by rfl) (fun s e => recFacts_of (Bool.and_eq_true_iff.mp e).2) (by rfl) said Mine.law_ok Mine.law_bare Mine.law_prom ?_
  intro w s₀ s₁ mg mb G Y fa o pm cd doc dV kV ho hd hcd hD hmg hg args vals as hpre hlay hrd hwl hlo
  have KX := Y.1
  have X := (Ground.X G).1
  have V := (Ground.X G).2
  refine Ground.open G ?_
  intro T B D TE TW
  try (refine guard_noD D (by decide +kernel) ?_; clear D)
  obtain ⟨_, _, M⟩ := bmod_of_top T
  have TA := at_of_top T
  try (obtain ⟨_, _, he, B0⟩ := based_of_top T rfl hmg ho hd; have he' : cd = _ := he; subst he'; clear he)
  clear hmg
  wrow_args hpre hlay hrd hwl hlo
  first | refine callC_kw (enter_call ?_) | refine enter_call ?_ | refine callC_kw (enter_callW ?_) | refine enter_callW ?_ | w_how
  w_top on
  try refine codeAny_mono ?_ (fun _ _ g => GoodW.toG g)
  have K0 := below_caller (Top.heap T)
  w_call any ho hd hcd hD T F
  clear hd TA
  k_drop
  have TT : Top _ _ _ mg mb s₁.heap := ‹_›
  have Z : Mine.Base w s₁.heap mg mb := ⟨KX, Y.2, TT.g, TT.b, TT.nolimit⟩
  have hns : (‹List Int› : List Int).length ≤ 63 := by lia
  refine Mine.law_walk (sc := Mine.lawScope) Mine.law_sc Z rfl rfl (by show 1 + claimMargin + 1 ≤ 400; decide) (Nat.le_of_ble_eq_true rfl) ‹Fr _ _ _ _› ‹News _ _ _ []› rfl ‹Heap.IsList _ _ _› ‹IntsAre _ _› hns ?_
  intro s' hk hg' ho'
  exact ⟨.inl ⟨.bool true, .bool true, [], rfl, fun _ => rfl, .bool true, (by wrow_post), fun _ => ⟨List.nodup_nil, fun a ha => (by cases ha)⟩⟩, hk, ho', hg'.trans hg⟩
set_option maxRecDepth 100000 in
set_option maxHeartbeats 8000000 in
theorem PySem.Challenge.cw_is0021_02_holds : PySem.Challenge.rw_is0021_02.Holds := by
  exact holds_law Mine.law_said fun said => Mine.row_go said
end
