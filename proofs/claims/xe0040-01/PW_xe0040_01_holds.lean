import PyProof.Rows.All
import Wide.All
import OpenK.AllK
import Wide.FinOn
import PySem.Challenge.RW_xe0040_01
set_option Elab.async false
open PySem PySem.W PySem.Calls PyProof.Rows
local macro_rules | `(tactic| walk_at $s:str) => `(tactic| k_extra $s)
section
open PySem PySem.W PyProof.Rows
set_option maxRecDepth 100000
set_option maxHeartbeats 8000000
namespace Mine
open_top hd for PySem.Challenge.rw_xe0040_01
end Mine
end
section
open PySem PySem.W PyProof.Rows
set_option maxRecDepth 100000
namespace Mine
abbrev Gives (prog : Program) (w : World) (f : Addr) (dD dU : Nat) (vs : List Value) (R : Value → Prop) : Prop :=
  ∀ (mean : ExcName → Option Value) (mg mb : Str → Option Value) (dp un : Nat) (gd : Option (List Code)) (cn : Str) (cs : Scope) (a : Addr) (ccd : Value) (cl : List (Str × Addr)) (outer : List Env) (A₀ : Around) (base h₀ : Heap) (L : Addr) (m : Str → Option Value) (news : List (Addr × Obj)) (s : Shared) (Q E : Value → Shared → Prop),
    Below A₀ base outer h₀ → Fr h₀ L s.heap m → (hd.heap_39 w.params).In h₀ → News h₀ L s.heap news → Top hd.view_39 (looseW hd.view_39 [Str.ofString "IPV4_RE"]) mean mg mb h₀ → cs.kind = .function →
    dp + dD < recursionLimit → un + dU < cLine →
    (∀ (v : Value) (h' : Heap) (tk' : Nat), R v → Fr h₀ L h' m → News h₀ L h' news → Q v { s with heap := h', toks := tk' }) →
      wpAny (model prog w) (ktrTop dp un gd cn cs L a ccd cl outer) (call (.ref f) vs) Q E s
end Mine
end
section
open PySem PySem.W PySem.Calls PyProof.Rows
set_option maxRecDepth 100000
namespace Mine
theorem plain_pat : PlainAttrs "re.Pattern" :=
  ⟨⟨"object.__getattribute__", by rw [typeLookup_type, builtinLookup_eq_fast]; kernel_rfl, by decide +kernel⟩, by rw [typeLookup_type, builtinLookup_eq_fast]; kernel_rfl⟩
theorem slot_search : Slot "re.Pattern" "search" "re.Pattern.search" :=
  .of (owner := "re.Pattern") (n := "search") (by rw [typeLookup_type, builtinLookup_eq_fast]; kernel_rfl) (by decide +kernel) (by decide +kernel) (by decide +kernel)
    (by first | exact .inl (by decide +kernel) | exact .inr (by decide +kernel)) (by rw [isSubtype_type]; kernel_rfl)
theorem type_search : typeOf (.builtin "re.Pattern.search") = pure (.type "method_descriptor") := by show builtinType _ = _; rw [builtinType_eq_fast]; kernel_rfl
theorem entry_search : entryFor table "re.Pattern.search" = some Builtin.«re.Pattern.search» := entryFor_of_tree (by kernel_rfl)
theorem args_search (a b : Value) : argsOk "re.Pattern.search" ⟨[a, b], []⟩ := by
  unfold argsOk; kernel_rfl
theorem match_bool : typeLookup (.type "re.Match") "__bool__" = pure none := by rw [typeLookup_type, builtinLookup_eq_fast]; kernel_rfl
theorem match_len : typeLookup (.type "re.Match") "__len__" = pure none := by rw [typeLookup_type, builtinLookup_eq_fast]; kernel_rfl

def drive : Nat → Sre.M → Option Sre.M
  | 0, _ => none
  | k + 1, m => if (m.runFor 4).outcome.isSome then some (m.runFor 4) else drive k (m.runFor 4)
theorem reDrive_of {M : Model} {A : Around} {E : Value → Shared → Prop} {s : Shared} {Q : Sre.M → Shared → Prop} {m' : Sre.M} :
    ∀ (k n : Nat) (m : Sre.M), k ≤ n → drive k m = some m' → Q m' s → wpAny M A (Builtin.Re.reDrive n m) Q E s
  | 0, _, _, _, e, _ => by cases e
  | k + 1, 0, _, h, _, _ => by omega
  | k + 1, n + 1, m, h, e, q => by
    unfold drive at e
    unfold Builtin.Re.reDrive
    show wpAny M A (if (m.runFor 4).outcome.isSome then pure (m.runFor 4) else do rule "sre.turn"; Builtin.Re.reDrive n (m.runFor 4)) Q E s
    split at e
    · rename_i c
      cases e
      rw [if_pos c]
      exact wpAny_pure q
    · rename_i c
      rw [if_neg c]
      exact wpAny_bind (wpAny_rule (reDrive_of k n _ (by omega) e q))
def ipCode : Array Nat := #[14, 8, 1, 2, 4294967295, 1, 1, 46, 0, 16, 46, 24, 9, 1, 4294967295, 13, 4, 8, 0, 0, 1, 6, 5, 1]
def reEnd (x : Str) : Option Sre.M := drive 200 (Sre.forSearch ipCode x.cps 0 0 x.cps.size false)
def reHit (x : Str) : Option Bool := match reEnd x with
  | some m => (match m.outcome with
    | some .matched => some true
    | some .failed => some false
    | _ => none)
  | none => none
theorem seen_rules {M : Model} {A : Around} {E : Value → Shared → Prop} {s : Shared} (m : Sre.M) {Q : PUnit → Shared → Prop} (h : Q PUnit.unit s) :
    ∀ l : List Nat, wpAny M A (forIn (m := Sem) l PUnit.unit fun i __s => if m.seen.has i = true then (do rule (Sre.names.getD i ""); pure (ForInStep.yield PUnit.unit)) else pure (ForInStep.yield PUnit.unit)) Q E s
  | [] => by
    rw [List.forIn_nil]
    exact wpAny_pure h
  | i :: l => by
    rw [List.forIn_cons]
    have ih := seen_rules (M := M) (A := A) (E := E) m h l
    refine wpAny_bind ?_
    by_cases c : m.seen.has i = true
    · rw [if_pos c]
      exact wpAny_bind (wpAny_rule (wpAny_pure ih))
    · rw [if_neg c]
      exact wpAny_pure ih
theorem runToEnd_of {M : Model} {A : Around} {E : Value → Shared → Prop} {s : Shared} {Q : Option Sre.M → Shared → Prop} {x : Str} {b : Bool} (hb : reHit x = some b)
    (h : ∀ m, (b = true → Q (some m) s) ∧ (b = false → Q none s)) : wpAny M A (Builtin.Re.reRunToEnd (Sre.forSearch ipCode x.cps 0 0 x.cps.size false)) Q E s := by
  unfold Builtin.Re.reRunToEnd
  unfold reHit at hb
  split at hb
  · rename_i m he
    refine wpAny_bind (reDrive_of 200 (2 ^ 64) _ (by decide) he ?_)
    refine wpAny_bind (seen_rules m ?_ _)
    split at hb
    · rename_i ho
      cases hb
      rw [ho]
      exact wpAny_pure ((h m).1 rfl)
    · rename_i ho
      cases hb
      rw [ho]
      exact wpAny_pure ((h m).2 rfl)
    · cases hb
  · cases hb
theorem named_search (x : Str) (t : Tok) : Builtin.Re.reNamed "re.Pattern.search" "search" ["string", "pos", "endpos"] 1 [.str x t] [] = pure [some (.str x t), none, none] := by
  kernel_rfl
abbrev matchObj (fs : Array Value) : Obj := { cls := .type "re.Match", data := .fields fs }
theorem call_search {prog : Program} {w : World} {A : Around} {E : Value → Shared → Prop} {s : Shared} {h₀ : Heap} {L P T : Addr} {m : Str → Option Value} {news : List (Addr × Obj)} {x : Str} {t : Tok} {b : Bool} {fs ws : Array Value} {n : Nat} {Q : Value → Shared → Prop}
    (F : Fr h₀ L s.heap m) (N : News h₀ L s.heap news) (hP : h₀.get? P = some { cls := .type "re.Pattern", data := .fields fs }) (hT : h₀.get? T = some { cls := .type "tuple", data := .seq ws n })
    (hf : fs.getD 5 .none = .ref T) (hg : Builtin.Re.reRawNat (fs.getD 2 .none) = 0) (hk : Builtin.Re.reRawNat (fs.getD 6 .none) = 0) (hw : (ws.map Builtin.Re.reRawOf).map (·.toNat) = ipCode)
    (hb : reHit x = some b) (hx : x.length ≤ 1000)
    (h0 : b = false → Q .none s)
    (h1 : b = true → ∀ r fs h' tk, Fr h₀ L h' m → News h₀ L h' ((r, matchObj fs) :: news) → Q (.ref r) { s with heap := h', toks := tk }) :
    wpAny (model prog w) A (call (.builtin "re.Pattern.search") [.ref P, .str x t]) Q E s := by
  have hP' := F.keep _ _ hP
  have hT' := F.keep _ _ hT
  refine wpAny_call (codeAny_call_builtin slot_search.plain entry_search (slot_search.check _ _ _ _ _ _ _ _ ⟨_, hP', rfl⟩ (args_search _ _) ?_))
  unfold Builtin.«re.Pattern.search» Builtin.Re.reTarget
  refine wpAny_bind ?_
  dsimp only
  refine wpAny_bind (wpAny_of_eq (named_search x t) ?_)
  dsimp only
  refine wpAny_bind (wpAny_pure ?_)
  refine wpAny_bind (wpAny_pure ?_)
  refine wpAny_bind (m := fieldsOf (.ref P)) ?_
  unfold fieldsOf
  refine wpAny_bind (wpAny_load hP' (wpAny_pure ?_))
  refine wpAny_bind (m := Builtin.Re.reTextOf (.str x t)) ?_
  unfold Builtin.Re.reTextOf asStr?
  refine wpAny_bind (wpAny_pure (wpAny_pure ?_))
  dsimp only
  rw [hk]
  show wpAny (model prog w) A.in1 (do Builtin.Re.reNoCollectionInside (.str x t) 0; _) _ _ s
  refine wpAny_bind ?_
  refine wpAny_pure ?_
  refine wpAny_bind (m := Builtin.Re.reRawItems (fs.getD 5 .none)) ?_
  unfold Builtin.Re.reRawItems seqItems?
  rw [hf]
  refine wpAny_bind (wpAny_bind (wpAny_load hT' (wpAny_pure (wpAny_pure (wpAny_pure ?_)))))
  dsimp only [Option.getD]
  rw [hw, hg]
  have hlim : min (2 ^ 63 - 1 : Int).toNat x.cps.size = x.cps.size := Nat.min_eq_right (by
    have : x.cps.size = x.length := rfl
    rw [this]
    exact Nat.le_trans hx (by decide))
  have hpos : min (Int.toNat 0) x.cps.size = 0 := by simp
  rw [hlim, hpos]
  unfold Builtin.Re.reAnswer
  refine wpAny_bind (runToEnd_of hb fun m' => ⟨fun e => ?_, fun e => ?_⟩)
  · refine wpAny_bind ?_
    show wpAny (model prog w) A.in1 (newTuple [rawInt m'.start, rawInt m'.handed] >>= fun tp => newFields "re.Match" [.str x t, .ref P, rawInt 0, rawInt x.cps.size, rawInt m'.lastindex, tp]) _ _ s
    refine wpAny_bind (newTuple_N F N fun h1' F1 N1 => ?_)
    refine wpAny_newObj_type ?_ (by show (6 : Nat) ≤ sizeLine + 2; decide)
    exact wpAny_pure (h1 e _ _ _ _ (F1.push _) (fun p hp => (N1.push F1 _) p (by
      rcases List.mem_cons.mp hp with rfl | hp
      · exact .head _
      · exact .tail _ (.tail _ hp))))
  · exact wpAny_pure (h0 e)
theorem match_true {prog : Program} {w : World} {A : Around} {E : Value → Shared → Prop} {s : Shared} {h₀ : Heap} {L r : Addr} {news : List (Addr × Obj)} {fs : Array Value} {Q : Bool → Shared → Prop}
    (N : News h₀ L s.heap news) (hm : (r, matchObj fs) ∈ news) (h : Q true s) : wpAny (model prog w) A (truthy (.ref r)) Q E s := by
  have hT : s.TypeIs (.ref r) "re.Match" := ⟨_, (N _ hm).1, rfl⟩
  unfold truthy
  refine wpAny_bind (m := callSpecial? (.ref r) "__bool__") ?_
  unfold callSpecial?
  refine wpAny_bind (wpAny_specialOf hT match_bool ?_)
  refine wpAny_pure ?_
  refine wpAny_bind (wpAny_specialOf hT match_len ?_)
  exact wpAny_pure h
theorem pat_at {P : Params} {h : Heap} (X : (hd.heap_39 P).In h) : ∃ (fs ws : Array Value) (T : Addr) (n : Nat), h.get? 36 = some { cls := .type "re.Pattern", data := .fields fs } ∧ h.get? T = some { cls := .type "tuple", data := .seq ws n } ∧
    fs.getD 5 .none = .ref T ∧ Builtin.Re.reRawNat (fs.getD 2 .none) = 0 ∧ Builtin.Re.reRawNat (fs.getD 6 .none) = 0 ∧ (ws.map Builtin.Re.reRawOf).map (·.toNat) = ipCode := by
  refine ⟨_, _, _, _, X _ _ rfl, X _ _ rfl, rfl, rfl, rfl, ?_⟩
  decide +kernel
theorem pat_method {M : Model} {P : Params} {A : Around} {E : Value → Shared → Prop} {s : Shared} {h₀ : Heap} {L : Addr} {m : Str → Option Value} {pl : Sem Bool} {Q : Value × List Value → Shared → Prop}
    (F : Fr h₀ L s.heap m) (X : (hd.heap_39 P).In h₀) (h : Q (.builtin "re.Pattern.search", [.ref 36]) s) : wpAny M A (getMethod (.ref 36) "search" pl) Q E s := by
  obtain ⟨fs, ws, T, n, h1, _⟩ := pat_at X
  exact getMethod_builtin ⟨_, F.keep _ _ h1, rfl⟩ plain_pat slot_search type_search (fun a e => by cases e; exact ⟨_, F.keep _ _ h1, rfl⟩) h
theorem pat_search {prog : Program} {w : World} {A : Around} {E : Value → Shared → Prop} {s : Shared} {h₀ : Heap} {L : Addr} {m : Str → Option Value} {news : List (Addr × Obj)} {x : Str} {t : Tok} {b : Bool} {Q : Value → Shared → Prop}
    (F : Fr h₀ L s.heap m) (X : (hd.heap_39 w.params).In h₀) (N : News h₀ L s.heap news) (hb : reHit x = some b) (hx : x.length ≤ 1000)
    (h0 : b = false → Q .none s)
    (h1 : b = true → ∀ r fs h' tk, Fr h₀ L h' m → News h₀ L h' ((r, matchObj fs) :: news) → Q (.ref r) { s with heap := h', toks := tk }) :
    wpAny (model prog w) A (call (.builtin "re.Pattern.search") [.ref 36, .str x t]) Q E s := by
  obtain ⟨fs, ws, T, n, a1, a2, a3, a4, a5, a6⟩ := pat_at X
  exact call_search F N a1 a2 a3 a4 a5 a6 hb hx h0 h1
end Mine
end
section
open PySem PySem.W PyProof.Rows
set_option maxRecDepth 100000
set_option maxHeartbeats 8000000
namespace Mine
def hdn (x : Str) : Bool := !(reHit x == some true) && !(x == Str.ofString "") && !(Txt.item x 0 == Str.ofString ".") && !(Txt.item x (-1) == Str.ofString ".")
theorem isHDN_gives (prog : Program) (w : World) (x : Str) (tx : Tok) (hx : x.length ≤ 1000) (hb0 : (reHit x).isSome = true) : Gives prog w 43 2 8 [.str x tx] (fun v => v = .bool (hdn x)) := by
  k_with_none
  k_with "getMethod ref" => (k_here; (with_reducible show wpAny _ _ (getMethod (Value.ref 36) _ _) _ _ _); k_dflt (refine' pat_method ?k1 ?k2 ?_; (case k1 => k_asm); (case k2 => k_asm)))
  k_with "call builtin:re.Pattern.search" => (k_here; k_dflt (refine' pat_search ?k1 ?k2 ?k3 ?k4 ?k5 ?_ ?_; (case k1 => k_asm); (case k2 => k_asm); (case k3 => k_asm); (case k4 => assumption); (case k5 => assumption)); (intro hbFq; first | exact absurd hbFq (by decide) | skip); (try intro r'q fs'q h'q tk'q F'q N'q))
  k_with "truthy ref" => (k_here; k_dflt (refine' match_true ?k1 ?k2 ?_; (case k1 => k_asm); (case k2 => k_mem)))
  w_top off
  have hfill : PySem.Challenge.rw_xe0040_01 = PySem.Challenge.rw_xe0040_01 ∧ Mine.hd.heap_39 = Mine.hd.heap_39 := by (k_fill; exact ⟨rfl, rfl⟩)
  clear hfill
  unfold Gives
  intro mean mg mb dp un gd cn cs a ccd cl outer A₀ base h₀ L m news s Q E B F X N T hck hd hu hret
  obtain ⟨b, hb⟩ := Option.isSome_iff_exists.mp hb0
  clear hb0
  refine wpAny_call ?_
  k_dflt cell_enter
  k_steps
  all_goals (refine hret _ _ _ ?e1 ?e2 ?e3; (case e2 => k_asm); (case e3 => first | k_asm | (refine' cb_drop ?cbN ?cbS; (case cbN => assumption); (case cbS => intro p hp; first | exact .tail _ hp | exact hp))); (case e1 => simp_all [hdn]))
end Mine
end
section
open PySem PySem.W PyProof.Rows
set_option maxRecDepth 100000
set_option maxHeartbeats 8000000
namespace Mine
def dmatch (x y : Str) : Bool :=
  if Txt.lower x == Txt.lower y then true else if hdn (Txt.lower x) = false then false else if Txt.rfind (Txt.lower x) (Txt.lower y) = -1 then false else if Txt.rfind (Txt.lower x) (Txt.lower y) = 0 then false else
    if Txt.startswith (Txt.lower y) (Str.ofString ".") = false then false else hdn (Txt.slice (Txt.lower y) (some 1) none)
theorem dmatch_gives (prog : Program) (w : World) (x y : Str) (tx ty : Tok) (hx : x.length ≤ 100) (hy : y.length ≤ 100) (hb0 : (reHit (Txt.lower x)).isSome = true) (hb1 : (reHit (Txt.slice (Txt.lower y) (some 1) none)).isSome = true) : Gives prog w 50 8 40 [.str x tx, .str y ty] (fun v => v = .bool (dmatch x y)) := by
  k_with_none
  k_with "call ref" => (k_here; (with_reducible show wpAny _ _ (call (Value.ref 43) _ _) _ _ _); k_dflt (refine' isHDN_gives _ _ _ _ ?hx ?hb _ _ _ _ _ _ _ _ _ _ _ _ _ _ _ _ _ _ _ _ _ ?k1 ?k2 ?k3 ?k4 ?k5 ?k6 ?k7 ?k8 ?_; (case hx => omega); (case hb => with_reducible assumption); (case k1 => k_asm); (case k2 => k_asm); (case k3 => k_asm); (case k4 => k_asm); (case k5 => k_asm); (case k6 => exact rfl); (case k7 => ktr_room); (case k8 => ktr_units)); intro v9q h9q tk9q e9q F9q N9q; subst e9q; (try dsimp only); (try k_fold))
  w_top off
  have hfill : PySem.Challenge.rw_xe0040_01 = PySem.Challenge.rw_xe0040_01 ∧ Mine.hd.heap_39 = Mine.hd.heap_39 := by (k_fill; exact ⟨rfl, rfl⟩)
  clear hfill
  unfold Gives
  intro mean mg mb dp un gd cn cs a ccd cl outer A₀ base h₀ L m news s Q E B F X N T hck hd hu hret
  refine wpAny_call ?_
  k_dflt cell_enter
  k_steps
  all_goals (refine hret _ _ _ ?e1 ?e2 ?e3; (case e2 => k_asm); (case e3 => k_asm); (case e1 => simp [dmatch, *]))
def reachT (x : Str) : Str :=
  if 0 ≤ Txt.find x (Str.ofString ".") then
    (if hdn x = true ∧ (0 ≤ Txt.find (Txt.slice x (some (Txt.find x (Str.ofString ".") + 1)) none) (Str.ofString ".") ∨ (Txt.slice x (some (Txt.find x (Str.ofString ".") + 1)) none == Str.ofString "local") = true) then
      Str.ofString "." ++ Txt.slice x (some (Txt.find x (Str.ofString ".") + 1)) none else x)
  else x
theorem reach_gives (prog : Program) (w : World) (x : Str) (tx : Tok) (hx : x.length ≤ 100)  (hb0 : (reHit x).isSome = true) : Gives prog w 57 8 40 [.str x tx] (fun v => ∃ t, v = .str (reachT x) t) := by
  k_with_none
  k_with "call ref" => (k_here; (with_reducible show wpAny _ _ (call (Value.ref 43) _ _) _ _ _); k_dflt (refine' isHDN_gives _ _ _ _ ?hx ?hb _ _ _ _ _ _ _ _ _ _ _ _ _ _ _ _ _ _ _ _ _ ?k1 ?k2 ?k3 ?k4 ?k5 ?k6 ?k7 ?k8 ?_; (case hx => omega); (case hb => with_reducible assumption); (case k1 => k_asm); (case k2 => k_asm); (case k3 => k_asm); (case k4 => k_asm); (case k5 => k_asm); (case k6 => exact rfl); (case k7 => ktr_room); (case k8 => ktr_units)); intro v9q h9q tk9q e9q F9q N9q; subst e9q; (try dsimp only); (try k_fold))
  w_top off
  have hfill : PySem.Challenge.rw_xe0040_01 = PySem.Challenge.rw_xe0040_01 ∧ Mine.hd.heap_39 = Mine.hd.heap_39 := by (k_fill; exact ⟨rfl, rfl⟩)
  clear hfill
  unfold Gives
  intro mean mg mb dp un gd cn cs a ccd cl outer A₀ base h₀ L m news s Q E B F X N T hck hd hu hret
  refine wpAny_call ?_
  k_dflt cell_enter
  k_steps
  all_goals (refine hret _ _ _ ⟨_, congrArg (fun z => Value.str z _) ?e1⟩ ?e2 ?e3; (case e2 => k_asm); (case e3 => k_asm); (case e1 => simp [reachT, *]))
end Mine
end
section
open PySem PySem.W PyProof.Rows
set_option maxRecDepth 100000
set_option maxHeartbeats 8000000
namespace Mine
def subC (a b : Str) : Int := if a = b then 0 else if Txt.lower a = Txt.lower b then 1 else 2
theorem sub_cost (prog : Program) (w : World) (x y : Str) (tx ty : Tok) (hx : x.length ≤ 1048576) (hy : y.length ≤ 1048576) : Gives prog w 78 2 8 [.str x tx, .str y ty] (fun v => ∃ t, v = .int (subC x y) t) := by
  k_with_none
  w_top off
  have hfill : PySem.Challenge.rw_xe0040_01 = PySem.Challenge.rw_xe0040_01 ∧ Mine.hd.heap_39 = Mine.hd.heap_39 := by (k_fill; exact ⟨rfl, rfl⟩)
  clear hfill
  unfold Gives
  intro mean mg mb dp un gd cn cs a ccd cl outer A₀ base h₀ L m news s Q E B F X N T hck hd hu hret
  refine wpAny_call ?_
  k_dflt cell_enter
  k_steps
  all_goals
    refine hret _ _ _ ⟨_, congrArg (fun z => Value.int z _) ?e1⟩ ?e2 ?e3
    case e2 => k_asm
    case e3 => k_asm
    case e1 =>
      first
      | (rename (x == y) = true => e; rw [subC, if_pos (eq_of_beq e)])
      | (rename (x == y) = false => e; rename (Txt.lower x == Txt.lower y) = true => e'; rw [subC, if_neg (ne_of_beq_false e), if_pos (eq_of_beq e')])
      | (rename (x == y) = false => e; rename (Txt.lower x == Txt.lower y) = false => e'; rw [subC, if_neg (ne_of_beq_false e), if_neg (ne_of_beq_false e')])
end Mine
end
section
open PySem PySem.W PySem.Calls PyProof.Rows
set_option maxRecDepth 100000
namespace Mine
abbrev GivesP (prog : Program) (w : World) (f : Addr) (dD dU : Nat) (pre : List (Addr × Obj)) (vs : List Value) (R : Value → Prop) : Prop :=
  ∀ (mean : ExcName → Option Value) (mg mb : Str → Option Value) (dp un : Nat) (gd : Option (List Code)) (cn : Str) (cs : Scope) (a : Addr) (ccd : Value) (cl : List (Str × Addr)) (outer : List Env) (A₀ : Around) (base h₀ : Heap) (L : Addr) (m : Str → Option Value) (news : List (Addr × Obj)) (s : Shared) (Q E : Value → Shared → Prop),
    Below A₀ base outer h₀ → Fr h₀ L s.heap m → (hd.heap_39 w.params).In h₀ → News h₀ L s.heap (pre ++ news) → Top hd.view_39 (looseW hd.view_39 [Str.ofString "IPV4_RE"]) mean mg mb h₀ → cs.kind = .function →
    dp + dD < recursionLimit → un + dU < cLine →
    (∀ (v : Value) (h' : Heap) (tk' : Nat), R v → Fr h₀ L h' m → News h₀ L h' (pre ++ news) → Q v { s with heap := h', toks := tk' }) →
      wpAny (model prog w) (ktrTop dp un gd cn cs L a ccd cl outer) (call (.ref f) vs) Q E s
abbrev GivesNewP (prog : Program) (w : World) (f : Addr) (dD dU : Nat) (pre : List (Addr × Obj)) (vs : List Value) (R : Obj → Prop) : Prop :=
  ∀ (mean : ExcName → Option Value) (mg mb : Str → Option Value) (dp un : Nat) (gd : Option (List Code)) (cn : Str) (cs : Scope) (a : Addr) (ccd : Value) (cl : List (Str × Addr)) (outer : List Env) (A₀ : Around) (base h₀ : Heap) (L : Addr) (m : Str → Option Value) (news : List (Addr × Obj)) (s : Shared) (Q E : Value → Shared → Prop),
    Below A₀ base outer h₀ → Fr h₀ L s.heap m → (hd.heap_39 w.params).In h₀ → News h₀ L s.heap (pre ++ news) → Top hd.view_39 (looseW hd.view_39 [Str.ofString "IPV4_RE"]) mean mg mb h₀ → cs.kind = .function →
    dp + dD < recursionLimit → un + dU < cLine →
    (∀ (D : Addr) (o : Obj) (h' : Heap) (tk' : Nat), R o → Fr h₀ L h' m → News h₀ L h' ((D, o) :: (pre ++ news)) → (∀ p ∈ pre ++ news, p.1 ≠ D) → Q (.ref D) { s with heap := h', toks := tk' }) →
      wpAny (model prog w) (ktrTop dp un gd cn cs L a ccd cl outer) (call (.ref f) vs) Q E s
abbrev GivesNew (prog : Program) (w : World) (f : Addr) (dD dU : Nat) (vs : List Value) (R : Obj → Prop) : Prop :=
  ∀ (mean : ExcName → Option Value) (mg mb : Str → Option Value) (dp un : Nat) (gd : Option (List Code)) (cn : Str) (cs : Scope) (a : Addr) (ccd : Value) (cl : List (Str × Addr)) (outer : List Env) (A₀ : Around) (base h₀ : Heap) (L : Addr) (m : Str → Option Value) (news : List (Addr × Obj)) (s : Shared) (Q E : Value → Shared → Prop),
    Below A₀ base outer h₀ → Fr h₀ L s.heap m → (hd.heap_39 w.params).In h₀ → News h₀ L s.heap news → Top hd.view_39 (looseW hd.view_39 [Str.ofString "IPV4_RE"]) mean mg mb h₀ → cs.kind = .function →
    dp + dD < recursionLimit → un + dU < cLine →
    (∀ (D : Addr) (o : Obj) (h' : Heap) (tk' : Nat), R o → Fr h₀ L h' m → News h₀ L h' ((D, o) :: news) → (∀ p ∈ news, p.1 < D) → Q (.ref D) { s with heap := h', toks := tk' }) →
      wpAny (model prog w) (ktrTop dp un gd cn cs L a ccd cl outer) (call (.ref f) vs) Q E s
structure Stop (P : Prop) : Prop where
  out : P
theorem fr_as {h₀ h : Heap} {L : Addr} {m : Str → Option Value} (m' : Str → Option Value) (F : Fr h₀ L h m) (e : m = m') : Fr h₀ L h m' := e ▸ F
theorem Stop.of {P : Prop} (h : Stop P) : P := h.out
theorem Stop.go {P : Prop} (h : P) : Stop P := ⟨h⟩
structure J1 (V : Value → Prop) (x : Str) (h₀ : Heap) (L : Addr) (m : Str → Option Value) (news : List (Addr × Obj)) (s : Shared) (f : Flow) (s' : Shared) : Prop where
  ex : f = .next ∧ ∃ h' tk m' v, s' = { s with heap := h', toks := tk } ∧ Fr h₀ L h' m' ∧ News h₀ L h' news ∧ m' x = some v ∧ V v ∧ ∀ z, z ≠ x → m' z = m z
structure J2 (V W : Value → Prop) (x y : Str) (h₀ : Heap) (L : Addr) (m : Str → Option Value) (news : List (Addr × Obj)) (s : Shared) (f : Flow) (s' : Shared) : Prop where
  ex : f = .next ∧ ∃ h' tk m' v w, s' = { s with heap := h', toks := tk } ∧ Fr h₀ L h' m' ∧ News h₀ L h' news ∧ m' x = some v ∧ V v ∧ m' y = some w ∧ W w ∧ ∀ z, z ≠ x → z ≠ y → m' z = m z
section
variable {V W : Value → Prop} {x y : Str} {h₀ h' : Heap} {L : Addr} {m m' : Str → Option Value} {news : List (Addr × Obj)} {s : Shared} {tk : Nat} {v w : Value}
theorem J1.of (F : Fr h₀ L h' m') (N : News h₀ L h' news) (hx : m' x = some v) (hv : V v) (hz : ∀ z, z ≠ x → m' z = m z) : J1 V x h₀ L m news s .next { s with heap := h', toks := tk } :=
  ⟨rfl, h', tk, m', v, rfl, F, N, hx, hv, hz⟩
theorem J2.of (F : Fr h₀ L h' m') (N : News h₀ L h' news) (hx : m' x = some v) (hv : V v) (hy : m' y = some w) (hw : W w) (hz : ∀ z, z ≠ x → z ≠ y → m' z = m z) : J2 V W x y h₀ L m news s .next { s with heap := h', toks := tk } :=
  ⟨rfl, h', tk, m', v, w, rfl, F, N, hx, hv, hy, hw, hz⟩
variable {M : Model} {A : Around} {E : Value → Shared → Prop} {st : Stmt} {rest : List Stmt} {env : Env} {Q : Flow → Shared → Prop}
theorem join1 (V : Value → Prop) (x : Str) (_F : Fr h₀ L s.heap m) (_N : News h₀ L s.heap news) (h1 : wpAny M A (exec st env) (fun f s' => J1 V x h₀ L m news s f s') E s)
    (h2 : ∀ v h' tk, V v → Fr h₀ L h' (fun z => if z = x then some v else m z) → News h₀ L h' news → wpAny M A (execs rest env) Q E { s with heap := h', toks := tk }) :
    wpAny M A (execs (st :: rest) env) Q E s := by
  refine wpAny_execs_cons (wpAny_mono h1 (fun f s' j => ?_) fun _ _ x => x)
  obtain ⟨rfl, h', tk, m', v, rfl, F', N', hx, hv, hz⟩ := j.ex
  have e : m' = fun z => if z = x then some v else m z := by
    funext z
    by_cases c : z = x
    · subst c; rw [if_pos rfl]; exact hx
    · rw [if_neg c]; exact hz z c
  rw [e] at F'
  exact h2 v h' tk hv F' N'
theorem join2 (V W : Value → Prop) (x y : Str) (_F : Fr h₀ L s.heap m) (_N : News h₀ L s.heap news) (h1 : wpAny M A (exec st env) (fun f s' => J2 V W x y h₀ L m news s f s') E s)
    (h2 : ∀ v w h' tk, V v → W w → Fr h₀ L h' (fun z => if z = x then some v else if z = y then some w else m z) → News h₀ L h' news → wpAny M A (execs rest env) Q E { s with heap := h', toks := tk }) :
    wpAny M A (execs (st :: rest) env) Q E s := by
  refine wpAny_execs_cons (wpAny_mono h1 (fun f s' j => ?_) fun _ _ x => x)
  obtain ⟨rfl, h', tk, m', v, w, rfl, F', N', hx, hv, hy, hw, hz⟩ := j.ex
  have e : m' = fun z => if z = x then some v else if z = y then some w else m z := by
    funext z
    by_cases c : z = x
    · subst c; rw [if_pos rfl]; exact hx
    · rw [if_neg c]
      by_cases d : z = y
      · subst d; rw [if_pos rfl]; exact hy
      · rw [if_neg d]; exact hz z c d
  rw [e] at F'
  exact h2 v w h' tk hv hw F' N'
end
end Mine
end
section
open PySem PySem.W PySem.Calls PyProof.Rows
set_option maxRecDepth 100000
namespace Mine
theorem slice_neg (x : Str) (p : Int) : p < 0 → -(x.length : Int) ≤ p → ((Txt.slice x none (some p)).length : Int) = x.length + p := by
  intro h1 h2
  have e : Txt.slice x none (some p) = Txt.slice x none (some (x.length + p)) := by
    unfold Txt.slice
    have q : Builtin.Str.strSliceIndices none (some p) 1 x.length = Builtin.Str.strSliceIndices none (some (x.length + p)) 1 x.length := by
      unfold Builtin.Str.strSliceIndices
      simp only [show (1 : Int) > 0 by decide, if_true]
      rw [if_pos h1, if_neg (by omega), Int.add_comm p]
    rw [q]
  rw [e]
  have := (fact_slice_ns x (x.length + p)).1 (by omega) (by omega)
  omega
theorem slice_nn (x : Str) : (Txt.slice x none none).length = x.length := by
  unfold Txt.slice
  have q : (Builtin.Str.strSliceIndices none none 1 x.length).length = x.length := by
    unfold Builtin.Str.strSliceIndices sliceRange
    simp only [show (1 : Int) > 0 by decide, if_true, List.length_map, List.length_range]
    split <;> omega
  rw [q]
  simp
def sliceO (x : Str) (p : Int) : Str := if p = 0 then Txt.slice x none none else Txt.slice x none (some p)
theorem sliceO_le (x : Str) (p : Int) : (sliceO x p).length ≤ x.length := by
  unfold sliceO
  split
  · exact Txt.slice_le _ _ _
  · exact Txt.slice_le _ _ _
theorem item_len (x : Str) (i : Int) : (Txt.item x i).length = 1 := rfl

abbrev preCond (a b : Str) (i : Int) : Prop := ((Txt.slice a (some i) none).length : Int) ≠ 0 ∧ ((Txt.slice b (some i) none).length : Int) ≠ 0 ∧ (Txt.item a i == Txt.item b i) = true
def preGo (a b : Str) : Nat → Int → Int
  | 0, i => i
  | n + 1, i => if preCond a b i then preGo a b n (i + 1) else i
def preEnd (a b : Str) : Int := preGo a b a.length 0
theorem preGo_stop {a b : Str} {i : Int} (h : ¬ preCond a b i) (n : Nat) : preGo a b n i = i := by
  cases n with
  | zero => rfl
  | succ n => unfold preGo; rw [if_neg h]
theorem pre_step {a b : Str} {i e : Int} (h0 : 0 ≤ i) (h1 : i ≤ a.length) (h : preGo a b (a.length - i.toNat) i = e)
    (f : (0 ≤ i → i ≤ a.length → ((Txt.slice a (some i) none).length : Int) = a.length - i) ∧ ((a.length : Int) ≤ i → ((Txt.slice a (some i) none).length : Int) = 0))
    (ha : ((Txt.slice a (some i) none).length : Int) ≠ 0) (hb : ((Txt.slice b (some i) none).length : Int) ≠ 0) (hq : (Txt.item a i == Txt.item b i) = true) :
    0 ≤ i + 1 ∧ i + 1 ≤ a.length ∧ preGo a b (a.length - (i + 1).toNat) (i + 1) = e := by
  have hl : i < a.length := by omega
  refine ⟨by omega, by omega, ?_⟩
  have e1 : a.length - i.toNat = (a.length - (i + 1).toNat) + 1 := by omega
  rw [e1] at h
  unfold preGo at h
  rw [if_pos ⟨ha, hb, hq⟩] at h
  exact h
theorem pre_exit1 {a b : Str} {i e : Int} {n : Nat} (h : preGo a b n i = e) (hc : ((Txt.slice a (some i) none).length : Int) = 0) : i = e := by
  rw [preGo_stop (fun q => q.1 hc)] at h
  exact h
theorem pre_exit2 {a b : Str} {i e : Int} {n : Nat} (h : preGo a b n i = e) (hc : ((Txt.slice b (some i) none).length : Int) = 0) : i = e := by
  rw [preGo_stop (fun q => q.2.1 hc)] at h
  exact h
theorem pre_exit3 {a b : Str} {i e : Int} {n : Nat} (h : preGo a b n i = e) (hc : (Txt.item a i == Txt.item b i) = false) : i = e := by
  rw [preGo_stop (fun q => by have q3 := q.2.2; rw [hc] at q3; cases q3)] at h
  exact h

abbrev postCond (a b : Str) (i : Int) : Prop := ((sliceO a i).length : Int) ≠ 0 ∧ ((sliceO b i).length : Int) ≠ 0 ∧ (Txt.item a (i - 1) == Txt.item b (i - 1)) = true
def postGo (a b : Str) : Nat → Int → Int
  | 0, i => i
  | n + 1, i => if postCond a b i then postGo a b n (i - 1) else i
def postEnd (a b : Str) : Int := postGo a b a.length 0
theorem postGo_stop {a b : Str} {i : Int} (h : ¬ postCond a b i) (n : Nat) : postGo a b n i = i := by
  cases n with
  | zero => rfl
  | succ n => unfold postGo; rw [if_neg h]
theorem sliceO_len (x : Str) (p : Int) (h : p ≤ 0) (h2 : -(x.length : Int) ≤ p) : ((sliceO x p).length : Int) = x.length + p := by
  unfold sliceO
  split
  · rename_i e; subst e; rw [slice_nn]; omega
  · exact slice_neg x p (by omega) h2
def postInv (a b : Str) (i : Int) : Prop := i ≤ 0 ∧ -(a.length : Int) ≤ i ∧ -(b.length : Int) ≤ i ∧ postGo a b (a.length - (-i).toNat) i = postEnd a b
theorem post_step {a b : Str} {i e : Int} (h0 : i ≤ 0) (h1 : -(a.length : Int) ≤ i) (h2 : -(b.length : Int) ≤ i) (h : postGo a b (a.length - (-i).toNat) i = e)
    (ha : ((sliceO a i).length : Int) ≠ 0) (hb : ((sliceO b i).length : Int) ≠ 0) (hq : (Txt.item a (i - 1) == Txt.item b (i - 1)) = true) :
    i - 1 ≤ 0 ∧ -(a.length : Int) ≤ i - 1 ∧ -(b.length : Int) ≤ i - 1 ∧ postGo a b (a.length - (-(i - 1)).toNat) (i - 1) = e := by
  have la := sliceO_len a i h0 h1
  have lb := sliceO_len b i h0 h2
  refine ⟨by omega, by omega, by omega, ?_⟩
  have e1 : a.length - (-i).toNat = (a.length - (-(i - 1)).toNat) + 1 := by omega
  rw [e1] at h
  unfold postGo at h
  rw [if_pos ⟨ha, hb, hq⟩] at h
  exact h
theorem post_exit1 {a b : Str} {i e : Int} {n : Nat} (h : postGo a b n i = e) (hc : ((sliceO a i).length : Int) = 0) : i = e := by
  rw [postGo_stop (fun q => q.1 hc)] at h
  exact h
theorem post_exit2 {a b : Str} {i e : Int} {n : Nat} (h : postGo a b n i = e) (hc : ((sliceO b i).length : Int) = 0) : i = e := by
  rw [postGo_stop (fun q => q.2.1 hc)] at h
  exact h
theorem post_exit3 {a b : Str} {i e : Int} {n : Nat} (h : postGo a b n i = e) (hc : (Txt.item a (i - 1) == Txt.item b (i - 1)) = false) : i = e := by
  rw [postGo_stop (fun q => by have q3 := q.2.2; rw [hc] at q3; cases q3)] at h
  exact h

section
variable {prog : Program} {w : World} {A : Around} {E : Value → Shared → Prop} {s : Shared} {h₀ : Heap} {L a : Addr} {m : Str → Option Value} {news : List (Addr × Obj)} {cn nm np : Str} {cs : Scope} {cd : Value} {x : Str} {k : Int} {t u : Tok} {Q : Value → Shared → Prop} {p1 p2 p3 p4 p5 p6 : Pos} {kc : Nat}
theorem slice_or (F : Fr h₀ L s.heap m) (N : News h₀ L s.heap news) (h1 : m nm = some (.str x t)) (h2 : m np = some (.int k u)) (hx : x.length ≤ 1000)
    (h : ∀ h' t' tk, Fr h₀ L h' m → News h₀ L h' news → (sliceO x k).length ≤ x.length → Q (.str (sliceO x k) t') { s with heap := h', toks := tk })
    (hk : cs.kind = .function) (l1 : (envOf cn cs L a cd).kindOf nm = some .local) (l2 : (envOf cn cs L a cd).kindOf np = some .local) (d1 : (nm == ("__debug__" : Str)) = false) (d2 : (np == ("__debug__" : Str)) = false) :
    wpAny (model prog w) A (eval (.Subscript (.Name nm p1) (.Slice none (some (.BoolOp .Or [.Name np p2, .Constant .none kc p3] p4)) none p5) p6) (envOf cn cs L a cd)) Q E s := by
  have hz : x.length ≤ sizeLine := Nat.le_trans hx (by decide)
  refine Subscript_ (ld F h1 ?_ hk l1 d1)
  refine wpAny_Slice (evalPart_none_step (evalPart_some_step (BoolOp_or (ld F h2 (truthy_int ?_) hk l2 d2))))
  by_cases c : k = 0
  · subst c
    refine BoolOp_one ?_
    show wpAny (model prog w) A (pure Value.none) _ E s
    refine wpAny_pure (evalPart_none_step (slice_strN_nn F N (fun h' t' tk F' N' => ?_) (by rfl) (by intro r; rfl) hz))
    have e : sliceO x 0 = Txt.slice x none none := by unfold sliceO; rw [if_pos rfl]
    have := h h' t' tk F' N' (sliceO_le _ _)
    rw [e] at this
    exact this
  · have e1 : (k != 0) = true := by simp [c]
    rw [e1]
    show wpAny (model prog w) A (evalPart none _) _ E s
    refine evalPart_none_step (slice_strN_ns F N (fun h' t' tk F' N' => ?_) (by rfl) (by intro r; rfl) hz)
    have e : sliceO x k = Txt.slice x none (some k) := by unfold sliceO; rw [if_neg c]
    have := h h' t' tk F' N' (sliceO_le _ _)
    rw [e] at this
    exact this
end

def rowOf (n : Nat) : List Int := (List.range n).map fun (i : Nat) => 2 + (i : Int) * 2
theorem rowOf_length (n : Nat) : (rowOf n).length = n := by simp [rowOf]
theorem ints_of_get : ∀ (vs : List Value) (ns : List Int), vs.length = ns.length → (∀ (j : Nat) (v : Value) (i : Int), vs[j]? = some v → ns[j]? = some i → ∃ t, v = .int i t) → IntsAre vs ns
  | [], [], _, _ => IntsAre.nil
  | [], _ :: _, e, _ => by cases e
  | _ :: _, [], e, _ => by cases e
  | v :: vs, i :: ns, e, h => by
    obtain ⟨t, rfl⟩ := h 0 v i rfl rfl
    exact IntsAre.cons _ _ (ints_of_get vs ns (by simpa using e) fun j w k a b => h (j + 1) w k a b)
section
variable {prog : Program} {w : World} {A : Around} {E : Value → Shared → Prop} {s : Shared} {h₀ : Heap} {L r : Addr} {m : Str → Option Value} {news : List (Addr × Obj)} {b : Int} {t₀ u₀ v₀ : Tok} {n : Nat} {Q : Value → Shared → Prop}
theorem row_size (h : b = 2 * ((n : Int) + 1)) : Builtin.Range.rangeSize 2 b 2 = (n : Int) := by
  subst h
  unfold Builtin.Range.rangeSize
  rw [if_pos (by decide)]
  split <;> omega
theorem row_list (hh : A.handled = none) (F : Fr h₀ L s.heap m) (N : News h₀ L s.heap news) (hr : IsRange s.heap r 2 b 2 t₀ u₀ v₀) (hb : b = 2 * ((n : Int) + 1)) (hz : n ≤ 1000)
    (h : ∀ D us c h' tk, Fr h₀ L h' m → News h₀ L h' ((D, listOf (List.toArray us) c) :: news) → (∀ p ∈ news, p.1 < D) → IntsAre us (rowOf n) → Q (.ref D) { s with heap := h', toks := tk }) :
    wpAny (model prog w) A (call (.type "list") [.ref r]) Q E s := by
  have hsmall : Builtin.Range.small 2 b 2 = true := by
    have e := row_size hb
    unfold Builtin.Range.small
    simp only [Builtin.Range.rangeFitsLong, e]
    simp
    omega
  refine call_list_range hh hr hsmall (row_size hb) (Nat.le_trans hz (by decide)) fun h' tk acc c hk hD hI => ?_
  have hD' : h'.get? s.heap.objs.size = some (listOf (List.toArray acc.toList) c) := by
    rw [Array.toArray_toList]
    exact hD
  refine h _ acc.toList c h' tk (F.keeps hk) (news_pushed F N hk hD' rfl) (fun p hp => Heap.lt_size (N p hp).1) (ints_of_get _ _ ?_ fun j v i hv hi => ?_)
  · rw [Array.length_toList, rowOf_length]; exact hI.1
  · obtain ⟨t, ht⟩ := hI.2 j v (by rw [← hv, Array.getElem?_toList])
    refine ⟨t, ?_⟩
    rw [ht]
    have hj : j < n := by
      have := (List.getElem?_eq_some_iff.mp hi).1
      rw [rowOf_length] at this
      exact this
    have : i = 2 + (j : Int) * 2 := by
      unfold rowOf at hi
      rw [List.getElem?_map, List.getElem?_range hj] at hi
      exact (Option.some.inj hi).symm
    rw [this]
end
end Mine
end
section
open PySem PySem.W PySem.Calls PyProof.Rows
set_option maxRecDepth 100000
namespace Mine
def chainOf : List (Str × Value) → (Str → Option Value) → Str → Option Value
  | [], g, z => g z
  | (k, v) :: l, g, z => if z = k then some v else chainOf l g z
theorem lk_cons (k z : Str) (v : Value) (l : List (Str × Value)) : List.lookup z ((k, v) :: l) = if z = k then some v else List.lookup z l := by
  rw [List.lookup_cons]
  by_cases c : z = k
  · rw [if_pos c, beq_iff_eq.mpr c]
  · rw [if_neg c, beq_eq_false_iff_ne.mpr c]
theorem chainOf_eq (u l : List (Str × Value)) : chainOf u (fun z => List.lookup z l) = fun z => List.lookup z (u ++ l) := by
  funext z
  induction u with
  | nil => rfl
  | cons p u ih =>
    obtain ⟨k, v⟩ := p
    show (if z = k then some v else chainOf u _ z) = List.lookup z ((k, v) :: (u ++ l))
    rw [ih, lk_cons]
def tidy (l : List (Str × Value)) : List (Str × Value) := l.foldr (fun p r => p :: r.filter (fun q => !(q.1 == p.1))) []
theorem lookup_filter (k z : Str) (l : List (Str × Value)) (h : z ≠ k) : List.lookup z (l.filter (fun q => !(q.1 == k))) = List.lookup z l := by
  induction l with
  | nil => rfl
  | cons p l ih =>
    obtain ⟨a, v⟩ := p
    by_cases c : a = k
    · subst c
      rw [List.filter_cons_of_neg (by simp), ih, lk_cons, if_neg h]
    · rw [List.filter_cons_of_pos (by simp [c]), lk_cons, lk_cons, ih]
theorem tidy_eq (l : List (Str × Value)) : (fun z => List.lookup z l) = fun z => List.lookup z (tidy l) := by
  funext z
  induction l with
  | nil => rfl
  | cons p l ih =>
    obtain ⟨k, v⟩ := p
    show List.lookup z ((k, v) :: l) = List.lookup z ((k, v) :: (tidy l).filter _)
    rw [lk_cons, lk_cons]
    by_cases c : z = k
    · rw [if_pos c, if_pos c]
    · rw [if_neg c, if_neg c, lookup_filter k z _ c, ih]
theorem fr_t1 {h₀ h : Heap} {L : Addr} {k1 : Str} {v1 : Value} {l : List (Str × Value)} (w : List (Str × Value)) (F : Fr h₀ L h (fun z => if z = k1 then some v1 else List.lookup z l)) (e : tidy ((k1, v1) :: l) = w) : Fr h₀ L h (fun z => List.lookup z w) := by
  have q := (chainOf_eq [(k1, v1)] l).trans ((tidy_eq _).trans (by rw [← e]; rfl : _ = fun z => List.lookup z w))
  exact q ▸ F
theorem fr_t2 {h₀ h : Heap} {L : Addr} {k1 k2 : Str} {v1 v2 : Value} {l : List (Str × Value)} (w : List (Str × Value)) (F : Fr h₀ L h (fun z => if z = k1 then some v1 else if z = k2 then some v2 else List.lookup z l)) (e : tidy ((k1, v1) :: (k2, v2) :: l) = w) : Fr h₀ L h (fun z => List.lookup z w) := by
  have q := (chainOf_eq [(k1, v1), (k2, v2)] l).trans ((tidy_eq _).trans (by rw [← e]; rfl : _ = fun z => List.lookup z w))
  exact q ▸ F
theorem fr_t3 {h₀ h : Heap} {L : Addr} {k1 k2 k3 : Str} {v1 v2 v3 : Value} {l : List (Str × Value)} (w : List (Str × Value)) (F : Fr h₀ L h (fun z => if z = k1 then some v1 else if z = k2 then some v2 else if z = k3 then some v3 else List.lookup z l)) (e : tidy ((k1, v1) :: (k2, v2) :: (k3, v3) :: l) = w) : Fr h₀ L h (fun z => List.lookup z w) := by
  have q := (chainOf_eq [(k1, v1), (k2, v2), (k3, v3)] l).trans ((tidy_eq _).trans (by rw [← e]; rfl : _ = fun z => List.lookup z w))
  exact q ▸ F
end Mine
end
section
open PySem PySem.W PySem.Calls PyProof.Rows
set_option maxRecDepth 100000
set_option maxHeartbeats 2000000
namespace Mine

def levA (a b : Str) : Str := if b.length < a.length then b else a
def levB (a b : Str) : Str := if b.length < a.length then a else b
def stepR (a bc : Str) (d r : Int) (row : List Int) (k : Int) : Int :=
  if d + subC bc (Txt.item a k) < (if row.getD k.toNat 0 < r then row.getD k.toNat 0 else r) + 2 then d + subC bc (Txt.item a k) else (if row.getD k.toNat 0 < r then row.getD k.toNat 0 else r) + 2
def stepI (a bc : Str) (st : Int × Int × Int × List Int) (i : Nat) : Int × Int × Int × List Int :=
  (st.2.2.2.getD i 0, stepR a bc st.1 st.2.1 st.2.2.2 i, if stepR a bc st.1 st.2.1 st.2.2.2 i < st.2.2.1 then stepR a bc st.1 st.2.1 st.2.2.2 i else st.2.2.1, st.2.2.2.set i (stepR a bc st.1 st.2.1 st.2.2.2 i))
def innerN (a bc : Str) : Nat → Int × Int × Int × List Int → Int × Int × Int × List Int
  | 0, st => st
  | k + 1, st => stepI a bc (innerN a bc k st) k
def outN (a b : Str) (mc : Int) : Nat → Option (List Int × Int)
  | 0 => some (rowOf a.length, 0)
  | j + 1 => match outN a b mc j with
    | none => none
    | some (row, _) => let st := innerN a (Txt.item b j) a.length ((j : Int) * 2, (j : Int) * 2, 9223372036854775807, row)
      if st.2.2.1 > mc then none else some (st.2.2.2, st.2.1)
structure OutP (a b : Str) (mc : Int) (pre : List Int) (result : Int) (row : List Int) : Prop where
  eq : outN a b mc pre.length = some (row, result)
structure InP (a bc : Str) (bi : Int) (row0 pre : List Int) (d r mn : Int) (row : List Int) : Prop where
  eq : innerN a bc pre.length (bi * 2, bi * 2, 9223372036854775807, row0) = (d, r, mn, row)
theorem outP_start (a b : Str) (mc : Int) : OutP a b mc [] 0 (rowOf a.length) ∧ (rowOf a.length).length = a.length := ⟨⟨rfl⟩, rowOf_length _⟩
theorem inP_step {a bc : Str} {bi : Int} {row0 pre : List Int} {d r mn : Int} {row : List Int} {k : Int} (h : InP a bc bi row0 pre d r mn row) (hk : k = (pre.length : Int)) :
    InP a bc bi row0 (pre ++ [k]) (row.getD k.toNat 0) (stepR a bc d r row k) (if stepR a bc d r row k < mn then stepR a bc d r row k else mn) (row.set k.toNat (stepR a bc d r row k)) := by
  subst hk
  refine ⟨?_⟩
  rw [List.length_append, List.length_singleton]
  show stepI a bc (innerN a bc pre.length _) pre.length = _
  rw [h.eq]
  simp only [stepI, Int.toNat_natCast]
theorem inP_step1 {a bc : Str} {bi : Int} {row0 pre : List Int} {d r mn : Int} {row : List Int} {k : Int} {n : Nat} (h : InP a bc bi row0 pre d r mn row) (hk : k = (pre.length : Int)) (hl : row.length = n) (c : stepR a bc d r row k < mn) :
    InP a bc bi row0 (pre ++ [k]) (row.getD k.toNat 0) (stepR a bc d r row k) (stepR a bc d r row k) (row.set k.toNat (stepR a bc d r row k)) ∧ (row.set k.toNat (stepR a bc d r row k)).length = n := by
  have := inP_step h hk
  rw [if_pos c] at this
  exact ⟨this, by rw [List.length_set]; exact hl⟩
theorem inP_step2 {a bc : Str} {bi : Int} {row0 pre : List Int} {d r mn : Int} {row : List Int} {k : Int} {n : Nat} (h : InP a bc bi row0 pre d r mn row) (hk : k = (pre.length : Int)) (hl : row.length = n) (c : ¬ stepR a bc d r row k < mn) :
    InP a bc bi row0 (pre ++ [k]) (row.getD k.toNat 0) (stepR a bc d r row k) mn (row.set k.toNat (stepR a bc d r row k)) ∧ (row.set k.toNat (stepR a bc d r row k)).length = n := by
  have := inP_step h hk
  rw [if_neg c] at this
  exact ⟨this, by rw [List.length_set]; exact hl⟩
theorem inP_start {a bc : Str} {bi : Int} {row : List Int} (h : row.length = a.length) : InP a bc bi row [] (bi * 2) (bi * 2) 9223372036854775807 row ∧ row.length = a.length := ⟨⟨rfl⟩, h⟩
theorem out_none {a b : Str} {mc : Int} {j k : Nat} (h : outN a b mc j = none) (hk : j ≤ k) : outN a b mc k = none := by
  induction k with
  | zero =>
    have : j = 0 := by omega
    subst this
    exact h
  | succ k ih =>
    by_cases e : j = k + 1
    · subst e; exact h
    · have := ih (by omega)
      unfold outN
      rw [this]
def levTail (a b : Str) (mc : Int) : Int := match outN a b mc b.length with
  | none => mc + 1
  | some (_, r) => r
theorem out_next {a b : Str} {mc : Int} {pre : List Int} {k r0 d r mn : Int} {row0 row : List Int} {n : Nat} (hP : OutP a b mc pre r0 row0) (hk : k = (pre.length : Int)) (hI : InP a (Txt.item b k) k row0 (rangeKs 0 n) d r mn row) (hn : n = a.length) :
    outN a b mc (pre.length + 1) = if mn > mc then none else some (row, r) := by
  subst hk
  have e := hI.eq
  rw [rangeKs_length, hn] at e
  unfold outN
  rw [hP.eq]
  show (if (innerN a (Txt.item b pre.length) a.length ((pre.length : Int) * 2, (pre.length : Int) * 2, 9223372036854775807, row0)).2.2.1 > mc then none else some ((innerN a (Txt.item b pre.length) a.length ((pre.length : Int) * 2, (pre.length : Int) * 2, 9223372036854775807, row0)).2.2.2, (innerN a (Txt.item b pre.length) a.length ((pre.length : Int) * 2, (pre.length : Int) * 2, 9223372036854775807, row0)).2.1)) = _
  rw [e]
theorem out_stop {a b : Str} {mc : Int} {pre : List Int} {k r0 d r mn : Int} {row0 row : List Int} {n : Nat} (hP : OutP a b mc pre r0 row0) (hk : k = (pre.length : Int)) (hI : InP a (Txt.item b k) k row0 (rangeKs 0 n) d r mn row) (hn : n = a.length)
    (hlt : pre.length < b.length) (hc : mc < mn) : mc + 1 = levTail a b mc := by
  have e := out_next hP hk hI hn
  rw [if_pos hc] at e
  unfold levTail
  rw [out_none e (by omega)]
theorem out_go {a b : Str} {mc : Int} {pre : List Int} {k r0 d r mn : Int} {row0 row : List Int} {n l : Nat} (hP : OutP a b mc pre r0 row0) (hk : k = (pre.length : Int)) (hI : InP a (Txt.item b k) k row0 (rangeKs 0 n) d r mn row) (hn : n = a.length)
    (hl : row.length = l) (hc : ¬ mc < mn) : OutP a b mc (pre ++ [k]) r row ∧ row.length = l := by
  have e := out_next hP hk hI hn
  rw [if_neg hc] at e
  exact ⟨⟨by rw [List.length_append, List.length_singleton]; exact e⟩, hl⟩
theorem out_end {a b : Str} {mc r : Int} {row : List Int} {n : Nat} (hP : OutP a b mc (rangeKs 0 n) r row) (hn : n = b.length) : r = levTail a b mc := by
  have e := hP.eq
  rw [rangeKs_length, hn] at e
  unfold levTail
  rw [e]
def lev (x y : Str) (mc : Int) : Int :=
  if (x == y) = true then 0 else
  if ((sliceO (Txt.slice x (some (preEnd x y)) none) (postEnd (Txt.slice x (some (preEnd x y)) none) (Txt.slice y (some (preEnd x y)) none))).length : Int) = 0 ∨
     ((sliceO (Txt.slice y (some (preEnd x y)) none) (postEnd (Txt.slice x (some (preEnd x y)) none) (Txt.slice y (some (preEnd x y)) none))).length : Int) = 0 then
    2 * (((sliceO (Txt.slice x (some (preEnd x y)) none) (postEnd (Txt.slice x (some (preEnd x y)) none) (Txt.slice y (some (preEnd x y)) none))).length : Int) +
      ((sliceO (Txt.slice y (some (preEnd x y)) none) (postEnd (Txt.slice x (some (preEnd x y)) none) (Txt.slice y (some (preEnd x y)) none))).length : Int)) else
  if mc < (((levB (sliceO (Txt.slice x (some (preEnd x y)) none) (postEnd (Txt.slice x (some (preEnd x y)) none) (Txt.slice y (some (preEnd x y)) none))) (sliceO (Txt.slice y (some (preEnd x y)) none) (postEnd (Txt.slice x (some (preEnd x y)) none) (Txt.slice y (some (preEnd x y)) none)))).length : Int) -
      ((levA (sliceO (Txt.slice x (some (preEnd x y)) none) (postEnd (Txt.slice x (some (preEnd x y)) none) (Txt.slice y (some (preEnd x y)) none))) (sliceO (Txt.slice y (some (preEnd x y)) none) (postEnd (Txt.slice x (some (preEnd x y)) none) (Txt.slice y (some (preEnd x y)) none)))).length : Int)) * 2 then mc + 1 else
  levTail (levA (sliceO (Txt.slice x (some (preEnd x y)) none) (postEnd (Txt.slice x (some (preEnd x y)) none) (Txt.slice y (some (preEnd x y)) none))) (sliceO (Txt.slice y (some (preEnd x y)) none) (postEnd (Txt.slice x (some (preEnd x y)) none) (Txt.slice y (some (preEnd x y)) none))))
    (levB (sliceO (Txt.slice x (some (preEnd x y)) none) (postEnd (Txt.slice x (some (preEnd x y)) none) (Txt.slice y (some (preEnd x y)) none))) (sliceO (Txt.slice y (some (preEnd x y)) none) (postEnd (Txt.slice x (some (preEnd x y)) none) (Txt.slice y (some (preEnd x y)) none)))) mc
theorem lev_eq0 {x y : Str} {mc : Int} (h : (x == y) = true) : 0 = lev x y mc := by unfold lev; rw [if_pos h]
theorem lev_eq1 {x y A1 B1 A2 B2 : Str} {mc p1 p2 : Int} (h : (x == y) = false) (hp1 : preEnd x y = p1) (hA1 : Txt.slice x (some p1) none = A1) (hB1 : Txt.slice y (some p1) none = B1) (hp2 : postEnd A1 B1 = p2) (hA2 : sliceO A1 p2 = A2) (hB2 : sliceO B1 p2 = B2) (h1 : (A2.length : Int) = 0) : 2 * ((A2.length : Int) + (B2.length : Int)) = lev x y mc := by
  subst hp1 hA1 hB1 hp2 hA2 hB2
  unfold lev; rw [if_neg (by rw [h]; decide), if_pos (Or.inl h1)]
theorem lev_eq2 {x y A1 B1 A2 B2 : Str} {mc p1 p2 : Int} (h : (x == y) = false) (hp1 : preEnd x y = p1) (hA1 : Txt.slice x (some p1) none = A1) (hB1 : Txt.slice y (some p1) none = B1) (hp2 : postEnd A1 B1 = p2) (hA2 : sliceO A1 p2 = A2) (hB2 : sliceO B1 p2 = B2) (h1 : (B2.length : Int) = 0) : 2 * ((A2.length : Int) + (B2.length : Int)) = lev x y mc := by
  subst hp1 hA1 hB1 hp2 hA2 hB2
  unfold lev; rw [if_neg (by rw [h]; decide), if_pos (Or.inr h1)]
theorem lev_eq3 {x y A1 B1 A2 B2 : Str} {mc p1 p2 : Int} (h : (x == y) = false) (hp1 : preEnd x y = p1) (hA1 : Txt.slice x (some p1) none = A1) (hB1 : Txt.slice y (some p1) none = B1) (hp2 : postEnd A1 B1 = p2) (hA2 : sliceO A1 p2 = A2) (hB2 : sliceO B1 p2 = B2) {a3 b3 : Str} (h1 : (A2.length : Int) ≠ 0) (h2 : (B2.length : Int) ≠ 0) (hA : levA A2 B2 = a3) (hB : levB A2 B2 = b3) (hc : mc < ((b3.length : Int) - (a3.length : Int)) * 2) : mc + 1 = lev x y mc := by
  subst hp1 hA1 hB1 hp2 hA2 hB2
  subst hA hB
  unfold lev; rw [if_neg (by rw [h]; decide), if_neg (by rintro (q | q); exact h1 q; exact h2 q), if_pos hc]
theorem lev_eq4 {x y A1 B1 A2 B2 : Str} {mc p1 p2 : Int} (h : (x == y) = false) (hp1 : preEnd x y = p1) (hA1 : Txt.slice x (some p1) none = A1) (hB1 : Txt.slice y (some p1) none = B1) (hp2 : postEnd A1 B1 = p2) (hA2 : sliceO A1 p2 = A2) (hB2 : sliceO B1 p2 = B2) {a3 b3 : Str} (h1 : (A2.length : Int) ≠ 0) (h2 : (B2.length : Int) ≠ 0) (hA : levA A2 B2 = a3) (hB : levB A2 B2 = b3) (hc : ¬ mc < ((b3.length : Int) - (a3.length : Int)) * 2) : levTail a3 b3 mc = lev x y mc := by
  subst hp1 hA1 hB1 hp2 hA2 hB2
  subst hA hB
  unfold lev; rw [if_neg (by rw [h]; decide), if_neg (by rintro (q | q); exact h1 q; exact h2 q), if_neg hc]
theorem levA_le {a b : Str} {n : Nat} (ha : a.length ≤ n) (hb : b.length ≤ n) : (levA a b).length ≤ n := by
  unfold levA; split
  · exact hb
  · exact ha
theorem levB_le {a b : Str} {n : Nat} (ha : a.length ≤ n) (hb : b.length ≤ n) : (levB a b).length ≤ n := by
  unfold levB; split
  · exact ha
  · exact hb
theorem levAB_le (a b : Str) : (levA a b).length ≤ (levB a b).length := by
  unfold levA levB; split
  · omega
  · omega
theorem lev_gives (prog : Program) (w : World) (x y : Str) (mc : Int) (tx ty tm : Tok) (hx : x.length ≤ 40) (hy : y.length ≤ 40) (hm : 0 ≤ mc ∧ mc ≤ 1000) : Gives prog w 85 8 40 [.str x tx, .str y ty, .int mc tm] (fun v => ∃ t, v = .int (lev x y mc) t) := by
  k_with_none
  k_with "exec Assign" => k_fold
  k_with "exec AugAssign" => k_fold
  k_with "exec If" => k_fold
  k_with "exec While" => k_fold
  k_with "exec For" => k_fold
  k_with "exec Return" => k_fold
  k_with "exec Expr" => k_fold
  k_with "call ref" => (k_here; (with_reducible show wpAny _ _ (call (Value.ref 78) _ _) _ _ _); k_dflt (refine' sub_cost _ _ _ _ _ _ ?hx ?hy _ _ _ _ _ _ _ _ _ _ _ _ _ _ _ _ _ _ _ _ _ ?k1 ?k2 ?k3 ?k4 ?k5 ?k6 ?k7 ?k8 ?_; (case hx => simp only [item_len]; omega); (case hy => simp only [item_len]; omega); (case k1 => k_asm); (case k2 => k_asm); (case k3 => k_asm); (case k4 => k_asm); (case k5 => k_asm); (case k6 => exact rfl); (case k7 => ktr_room); (case k8 => ktr_units)); intro v9q h9q tk9q e9q F9q N9q; obtain ⟨t9q, e9q⟩ := e9q; subst e9q; (try dsimp only); (try k_fold))
  k_with "execs cons" => (k_here; first | ((with_reducible show wpAny _ _ (execs (Stmt.While (Expr.BoolOp _ (Expr.Subscript _ (Expr.Slice (some _) none none _) _ :: _) _) _ _ _ :: _) _) _ _ _); k_dflt (k_extra "join pre")) | ((with_reducible show wpAny _ _ (execs (Stmt.While (Expr.BoolOp _ (Expr.Subscript _ (Expr.Slice none (some _) none _) _ :: _) _) _ _ _ :: _) _) _ _ _); k_dflt (k_extra "join post")) | ((with_reducible show wpAny _ _ (execs (Stmt.If (Expr.Compare (Expr.Call _ _ _ _) [CmpOp.Lt] _ _) _ _ _ :: _) _) _ _ _); k_dflt (k_extra "join swap")) | ((with_reducible show wpAny _ _ (execs (Stmt.If (Expr.BoolOp _ (Expr.UnaryOp _ _ _ :: _) _) _ _ _ :: _) _) _ _ _); k_dflt (k_extra "cut")))
  k_with "KswEnd" => k_dflt (k_extra "ksw end")
  k_with "eval Subscript" => (k_here; (with_reducible show wpAny _ _ (eval (Expr.Subscript (Expr.Name _ _) (Expr.Slice none (some (Expr.BoolOp _ _ _)) none _) _) _) _ _ _); k_dflt (refine' slice_or ?F ?N ?h1 ?h2 ?hx ?_ ?hk ?l1 ?l2 ?d1 ?d2; (case F => k_asm); (case N => k_asm); (case h1 => rfl); (case h2 => rfl); (case hx => omega); (case hk => rfl); (case l1 => rfl); (case l2 => rfl); (case d1 => decide); (case d2 => decide)); intro h'q t'q tk'q F'q N'q l1q)
  k_with "pyIter ref" => (k_here; k_dflt (k_extra "my for"))
  k_with "InvEndN" => k_dflt (k_extra "inv end")
  k_with "setItem ref int" => k_dflt (k_extra "set row")
  k_with "J1" => k_dflt (k_extra "close J1")
  k_with "J2" => k_dflt (k_extra "close J2")
  k_with "call type:list" => k_dflt (k_extra "row list")
  w_top off
  have hfill : PySem.Challenge.rw_xe0040_01 = PySem.Challenge.rw_xe0040_01 ∧ Mine.hd.heap_39 = Mine.hd.heap_39 := by (k_fill; exact ⟨rfl, rfl⟩)
  clear hfill
  unfold Gives
  intro mean mg mb dp un gd cn cs a ccd cl outer A₀ base h₀ L m news s Q E B F X N T hck hd hu hret
  refine wpAny_call ?_
  k_dflt cell_enter
  (with_reducible rename Fr _ _ _ _ => Fn0)
  (with_reducible rename Addr => L7)
  have Fn := fr_as (fun z => List.lookup z [(Str.ofString "max_cost", Value.int mc tm), (Str.ofString "b", Value.str y ty), (Str.ofString "a", Value.str x tx)]) Fn0 (by with_unfolding_all rfl)
  clear Fn0
  k_with "join pre" => ((with_reducible rename Fr _ _ _ _ => jF); (with_reducible rename News _ _ _ _ => jN); (refine join1 (fun v => ∃ t, v = .int (preEnd x y) t) (Str.ofString "pre") jF jN ?_ ?_); rotate_left; (intro v8 h8 tk8 e8 F8 N8; obtain ⟨t8, e8⟩ := e8; subst e8; clear jF jN; generalize hp1 : preEnd x y = p1 at F8; have F8' := fr_t2 [(Str.ofString "pre", _), (Str.ofString "max_cost", _), (Str.ofString "b", _), (Str.ofString "a", _)] F8 (by with_unfolding_all rfl); clear F8; rename Fr _ _ _ _ => F8; (try dsimp only at F8)); rotate_right 1; focus (k_while (fun (_ : List Int) (pre : Int) => 0 ≤ pre ∧ pre ≤ x.length ∧ preGo x y (x.length - pre.toNat) pre = preEnd x y) (fun (_ : List Int) (pre : Int) => x.length - pre.toNat) "pre"))
  k_with "state" => first | exact outP_start _ _ _ | exact inP_start (by with_reducible assumption) | exact post_step (by with_reducible assumption) (by with_reducible assumption) (by with_reducible assumption) (by with_reducible assumption) (by with_reducible assumption) (by with_reducible assumption) (by with_reducible assumption) | exact pre_step (by with_reducible assumption) (by with_reducible assumption) (by with_reducible assumption) (by with_reducible assumption) (by with_reducible assumption) (by with_reducible assumption) (by with_reducible assumption)
  k_with "close J1" => (refine J1.of (by k_asm) (by k_asm) (by with_unfolding_all rfl) ⟨_, congrArg (fun z => Value.int z _) ?hv⟩ ?hz; (case hz => intro z hz; simp [kstB, hz]); (case hv => first | exact post_exit1 (by with_reducible assumption) (by with_reducible assumption) | exact post_exit2 (by with_reducible assumption) (by with_reducible assumption) | exact post_exit3 (by with_reducible assumption) (by with_reducible assumption) | exact pre_exit1 (by with_reducible assumption) (by with_reducible assumption) | exact pre_exit2 (by with_reducible assumption) (by with_reducible assumption) | exact pre_exit3 (by with_reducible assumption) (by with_reducible assumption)))
  k_with "join post" => ((with_reducible rename Fr _ _ _ _ => jF); (with_reducible rename News _ _ _ _ => jN); (have jF' := fr_t3 [(Str.ofString "post", _), (Str.ofString "b", _), (Str.ofString "a", _), (Str.ofString "pre", _), (Str.ofString "max_cost", _)] jF (by with_unfolding_all rfl); clear jF; rename Fr _ _ _ _ => jF; (try dsimp only at jF)); (generalize hA1 : Txt.slice x (some p1) none = A1 at *); (generalize hB1 : Txt.slice y (some p1) none = B1 at *); (refine join1 (fun v => ∃ t, v = .int (postEnd A1 B1) t) (Str.ofString "post") jF jN ?_ ?_); rotate_left; (intro v8 h8 tk8 e8 F8 N8; obtain ⟨t8, e8⟩ := e8; subst e8; clear jF jN; generalize hp2 : postEnd A1 B1 = p2 at F8; have F8' := fr_t1 [(Str.ofString "post", _), (Str.ofString "b", _), (Str.ofString "a", _), (Str.ofString "pre", _), (Str.ofString "max_cost", _)] F8 (by with_unfolding_all rfl); clear F8; rename Fr _ _ _ _ => F8; (try dsimp only at F8)); rotate_right 1; focus (k_while (fun (_ : List Int) (post : Int) => post ≤ 0 ∧ -(A1.length : Int) ≤ post ∧ -(B1.length : Int) ≤ post ∧ postGo A1 B1 (A1.length - (-post).toNat) post = postEnd A1 B1) (fun (_ : List Int) (post : Int) => A1.length - (-post).toNat) "post"); (rename Int => kP); have hnA := sliceO_len A1 kP; have hnB := sliceO_len B1 kP)
  k_with "cut" => ((fail_if_success (have := hA2)); refine Stop.of ?_)
  k_with "join swap" => ((with_reducible rename Fr _ _ _ _ => jF); (with_reducible rename News _ _ _ _ => jN); (refine join2 (fun v => ∃ t, v = .str (levA A2 B2) t) (fun v => ∃ t, v = .str (levB A2 B2) t) (Str.ofString "a") (Str.ofString "b") jF jN ?_ ?_); rotate_left; (intro v8 v9 h8 tk8 e8 e9 F8 N8; obtain ⟨t8, e8⟩ := e8; obtain ⟨t9, e9⟩ := e9; subst e8; subst e9; clear jF jN); (have hLA : (levA A2 B2).length ≤ 40 := levA_le hA40 hB40); (have hLB : (levB A2 B2).length ≤ 40 := levB_le hA40 hB40); (have hLL := levAB_le A2 B2); (generalize hA3 : levA A2 B2 = a3 at F8 hLA hLL); (generalize hB3 : levB A2 B2 = b3 at F8 hLB hLL); (have F8' := fr_t2 [(Str.ofString "a", _), (Str.ofString "b", _), (Str.ofString "post", _), (Str.ofString "pre", _), (Str.ofString "max_cost", _)] F8 (by with_unfolding_all rfl); clear F8; rename Fr _ _ _ _ => F8; (try dsimp only at F8)); rotate_right 1)
  k_with "close J2" => (first | (refine J2.of (by k_asm) (by first | with_reducible assumption | exact cb_drop (by with_reducible assumption) (fun p hp => List.Mem.tail _ hp)) (by with_unfolding_all rfl) ⟨_, congrArg (fun z => Value.str z _) ?hv⟩ (by with_unfolding_all rfl) ⟨_, congrArg (fun z => Value.str z _) ?hw⟩ ?hz; (case hz => intro z hz hz2; simp [hz, hz2]); (case hv => simp only [levA]; first | rw [if_pos (by omega)] | rw [if_neg (by omega)]); (case hw => simp only [levB]; first | rw [if_pos (by omega)] | rw [if_neg (by omega)])))
  k_with "set row" => ((rename Fr _ _ _ _ => jF); (rename News _ _ _ _ => jN); refine ksa_set jF jN (Upd.head hoA) hf5 (by omega) (by omega) (by omega) ?_; intro h6 F6 N6 I6 lz6 sz6; clear jF jN sz6)
  k_with "row list" => ((rename IsRange _ _ _ _ _ _ _ _ => rgX); (refine' row_list rfl ?k1 ?k2 rgX ?k3 ?k4 ?_; (case k1 => k_asm); (case k2 => k_asm); (case k3 => rfl); (case k4 => omega)); intro D7 us7 c7 h7 tk7 F7 N7 l7 I7; clear rgX)
  k_with "my for" => refine Stop.of ?_
  k_with "inv end" => refine Stop.of ?_
  k_steps
  all_goals first | (refine Stop.go ?_) | (refine hret _ _ _ ⟨_, congrArg (fun z => Value.int z _) ?f1⟩ ?f2 ?f3; (case f2 => k_asm); (case f3 => first | with_reducible assumption | exact cb_drop (by with_reducible assumption) (fun p hp => List.Mem.tail _ hp)); (case f1 => exact lev_eq0 (by with_reducible assumption)))
  (rename Fr _ _ _ _ => jF); (have jF' := fr_t2 [(Str.ofString "b", _), (Str.ofString "a", _), (Str.ofString "post", _), (Str.ofString "pre", _), (Str.ofString "max_cost", _)] jF (by with_unfolding_all rfl); clear jF; rename Fr _ _ _ _ => jF; (try dsimp only at jF))
  (generalize hA2 : sliceO A1 p2 = A2 at *); (generalize hB2 : sliceO B1 p2 = B2 at *)
  (generalize Value.int p2 _ = vp2 at jF); (generalize Value.int p1 _ = vp1 at jF)
  have hA40 : A2.length ≤ 40 := by omega
  have hB40 : B2.length ≤ 40 := by omega
  k_steps
  all_goals first | (refine Stop.go ?_) | (refine hret _ _ _ ⟨_, congrArg (fun z => Value.int z _) ?f1⟩ ?f2 ?f3; (case f2 => k_asm); (case f3 => first | with_reducible assumption | exact cb_drop (by with_reducible assumption) (fun p hp => List.Mem.tail _ hp)); (case f1 => first | exact lev_eq1 (by with_reducible assumption) hp1 hA1 hB1 hp2 hA2 hB2 (by with_reducible assumption) | exact lev_eq2 (by with_reducible assumption) hp1 hA1 hB1 hp2 hA2 hB2 (by with_reducible assumption) | exact lev_eq3 (by with_reducible assumption) hp1 hA1 hB1 hp2 hA2 hB2 (by with_reducible assumption) (by with_reducible assumption) hA3 hB3 (by with_reducible assumption)))
  have hlev := lev_eq4 (mc := mc) (by with_reducible assumption) hp1 hA1 hB1 hp2 hA2 hB2 (by with_reducible assumption) (by with_reducible assumption) hA3 hB3 (by with_reducible assumption)
  clear hA3 hB3 hp1 hA1 hB1 hp2 hA2 hB2
  (rename Fr _ _ _ _ => lF'); (rename News _ _ _ _ => lN'); (rename IsRange _ _ _ _ _ _ _ _ => rgX)
  have lF'' := fr_t2 [(Str.ofString "result", _), (Str.ofString "row", _), (Str.ofString "a", _), (Str.ofString "b", _), (Str.ofString "post", _), (Str.ofString "pre", _), (Str.ofString "max_cost", _)] lF' (by with_unfolding_all rfl); clear lF'; rename Fr _ _ _ _ => lF'; dsimp only at lF'
  refine' kst_range (σ := List Value × List Int × Nat × Int × Nat) (fun c => (D7, listOf (List.toArray c.1) c.2.2.1) :: news) (fun c => [(Str.ofString "result", Value.int c.2.2.2.1 c.2.2.2.2)]) (fun c => IntsAre c.1 c.2.1) [Str.ofString "bchar", Str.ofString "distance", Str.ofString "minimum", Str.ofString "index", Str.ofString "substitute", Str.ofString "insert_delete"] (fun pre c => OutP a3 b3 mc pre c.2.2.2.1 c.2.1 ∧ c.2.1.length = a3.length) (us7, rowOf a3.length, c7, 0, _) (by rfl) rgX (small_one (by omega) (by omega) (by omega) (by omega)) (rangeSize_nat _ _) lF' ?kn ?kf ?kk ?kp ?_ ?_
  (case kn => exact lN')
  (case kf => exact I7)
  (case kk => intro p hp; rcases List.mem_singleton.mp hp with rfl; rfl)
  (case kp => exact outP_start _ _ _)
  · intro c9 pre9 k9 t9 u9 h9 tk9 own9 hk9 hlt9 hoff9 hf9 hp9 F9 N9
    obtain ⟨vs9, ns9, cc9, r9, tr9⟩ := c9
    obtain ⟨hP9, hlen9⟩ := hp9
    dsimp only at hf9 hP9 hlen9 F9 N9
    simp only [List.cons_append] at N9
    (have F9' : Fr _ L7 h9 _ := F9); clear F9; (have N9' : News _ L7 h9 _ := N9); clear N9
    have hk0 : k9 = (pre9.length : Int) := by omega
    clear hk9 lF' lN' rgX I7
    dsimp only
    (try k_fold)
    k_steps
    refine Stop.go ?_
    (rename Fr _ _ _ _ => lF'); (rename News _ _ _ _ => lN'); (rename IsRange _ _ _ _ _ _ _ _ => rgX)
    dsimp only at lF'
    refine' kst_range (σ := List Value × List Int × Nat × Int × Nat × Int × Nat × Int × Nat) (fun c => (D7, listOf (List.toArray c.1) c.2.2.1) :: (news ++ own9)) (fun c => [(Str.ofString "distance", Value.int c.2.2.2.1 c.2.2.2.2.1), (Str.ofString "result", Value.int c.2.2.2.2.2.1 c.2.2.2.2.2.2.1), (Str.ofString "minimum", Value.int c.2.2.2.2.2.2.2.1 c.2.2.2.2.2.2.2.2)]) (fun c => IntsAre c.1 c.2.1) [Str.ofString "substitute", Str.ofString "insert_delete"] (fun pre c => InP a3 (Txt.item b3 k9) k9 ns9 pre c.2.2.2.1 c.2.2.2.2.2.1 c.2.2.2.2.2.2.2.1 c.2.1 ∧ c.2.1.length = a3.length) (vs9, ns9, cc9, k9 * 2, _, k9 * 2, _, 9223372036854775807, _) (by rfl) rgX (small_one (by omega) (by omega) (by omega) (by omega)) (rangeSize_nat _ _) lF' ?kn ?kf ?kk ?kp ?_ ?_
    (case kn => exact lN')
    (case kf => exact hf9)
    (case kk => intro p hp; simp only [List.mem_cons, List.not_mem_nil, or_false] at hp; rcases hp with rfl | rfl | rfl <;> rfl)
    (case kp => exact inP_start hlen9)
    · intro c5 pre5 k5 t5 u5 h5 tk5 own5 hk5 hlt5 hoff5 hf5 hp5 F5 N5
      obtain ⟨vs5, ns5, cc5, d5, td5, r5, tr5, mn5, tmn5⟩ := c5
      obtain ⟨hP5, hlen5⟩ := hp5
      dsimp only at hf5 hP5 hlen5 F5 N5
      simp only [List.cons_append] at N5
      (have F5' : Fr _ L7 h5 _ := F5); clear F5; (have N5' : News _ L7 h5 _ := N5); clear N5
      have hk50 : k5 = (pre5.length : Int) := by omega
      clear hk5 lF' lN' rgX
      have hoA : ∀ p ∈ (news ++ own9 ++ own5), p.1 ≠ D7 := by
        intro p hp
        rcases List.mem_append.mp hp with hp | hp
        · rcases List.mem_append.mp hp with hp | hp
          · exact Nat.ne_of_lt (l7 p hp)
          · exact hoff9.ne (List.mem_cons_self ..) p hp
        · exact hoff5.ne (List.mem_cons_self ..) p hp
      dsimp only
      (try k_fold)
      k_steps
      all_goals (refine Stop.go ?_; (rename Fr _ _ _ _ => eF); (rename News _ _ _ _ => eN); refine kst_end (_, _, _, _, _, _, _, _, _) eF eN (List.forall_mem_cons.mpr ⟨List.Mem.head _, fun p hp => List.Mem.tail _ (List.mem_append_left _ hp)⟩) (fun p hp => List.Mem.tail _ (List.mem_append_right _ hp)) rfl I6 (List.forall_mem_cons.mpr ⟨rfl, List.forall_mem_cons.mpr ⟨rfl, List.forall_mem_cons.mpr ⟨rfl, List.forall_mem_nil _⟩⟩⟩) ?e6 ?e7; (case e6 => intro z h2 h3 h4; have z1 := h3 _ (List.Mem.head _); have z2 := h3 _ (List.Mem.tail _ (List.Mem.head _)); have z3 := h3 _ (List.Mem.tail _ (List.Mem.tail _ (List.Mem.head _))); simp only [List.contains_cons, List.contains_nil, Bool.or_false, Bool.or_eq_false_iff, beq_eq_false_iff_ne, ne_eq] at h4; obtain ⟨z4, z5⟩ := h4; simp [kstB, h2, z1, z2, z3, z4, z5]); (case e7 => first | exact inP_step1 hP5 hk50 hlen5 (by unfold stepR; with_reducible assumption) | exact inP_step2 hP5 hk50 hlen5 (by unfold stepR; with_reducible assumption)))
    · intro c5 u5 h5 tk5 hf5 hp5 F5 N5
      obtain ⟨vs5, ns5, cc5, d5, td5, r5, tr5, mn5, tmn5⟩ := c5
      obtain ⟨hP5, hlen5⟩ := hp5
      dsimp only at hf5 hP5 hlen5 F5 N5
      clear lF' lN' rgX
      dsimp only
      (try k_fold)
      k_steps
      all_goals first
        | (refine hret _ _ _ ⟨_, congrArg (fun z => Value.int z _) ?f1⟩ ?f2 ?f3; (case f2 => k_asm); (case f3 => first | with_reducible assumption | exact cb_drop (by with_reducible assumption) (fun p hp => List.Mem.tail _ (List.mem_append_left _ hp))); (case f1 => exact (out_stop hP9 hk0 hP5 (by omega) (by omega) (by with_reducible assumption)).trans hlev))
        | (refine Stop.go ?_; (rename Fr _ _ _ _ => eF); (rename News _ _ _ _ => eN); refine kst_end (_, _, _, _, _) eF eN (List.forall_mem_cons.mpr ⟨List.Mem.head _, fun p hp => List.Mem.tail _ (List.mem_append_left _ hp)⟩) (fun p hp => List.Mem.tail _ (List.mem_append_right _ hp)) rfl hf5 (List.forall_mem_cons.mpr ⟨rfl, List.forall_mem_nil _⟩) ?e6 (out_go hP9 hk0 hP5 (by omega) hlen5 (by with_reducible assumption)); (case e6 => intro z h2 h3 h4; have z1 := h3 _ (List.Mem.head _); simp only [List.contains_cons, List.contains_nil, Bool.or_false, Bool.or_eq_false_iff, beq_eq_false_iff_ne, ne_eq] at h4; obtain ⟨z4, z5, z6, z7, z8, z9⟩ := h4; simp [kstB, h2, z1, z4, z5, z6, z7, z8, z9]))
  · intro c9 u9 h9 tk9 hf9 hp9 F9 N9
    obtain ⟨vs9, ns9, cc9, r9, tr9⟩ := c9
    obtain ⟨hP9, hlen9⟩ := hp9
    dsimp only at hf9 hP9 hlen9 F9 N9
    clear lF' lN' rgX I7
    dsimp only
    (try k_fold)
    k_steps
    all_goals (refine hret _ _ _ ⟨_, congrArg (fun z => Value.int z _) ?f1⟩ ?f2 ?f3; (case f2 => k_asm); (case f3 => first | with_reducible assumption | exact cb_drop (by with_reducible assumption) (fun p hp => List.Mem.tail _ hp)); (case f1 => exact (out_end hP9 (by omega)).trans hlev))
end Mine
end
section
open PySem PySem.W PySem.Calls PyProof.Rows
set_option maxRecDepth 100000
namespace Mine
section
variable {prog : Program} {w : World} {A : Around} {E : Value → Shared → Prop} {s : Shared} {h₀ : Heap} {L : Addr} {m : Str → Option Value} {news : List (Addr × Obj)} {a b c : Value} {bt : Nat → Nat → Bool} {Q : Value → Shared → Prop}
theorem best_three {α : Type} (a b c : α) (bt : Nat → Nat → Bool) : #[a, b, c][argBest bt 2]? = some (if bt 1 0 then (if bt 2 1 then c else b) else (if bt 2 0 then c else a)) := by
  cases h1 : bt 1 0 <;> cases h2 : bt 2 1 <;> cases h3 : bt 2 0 <;> simp [argBest, h1, h2, h3]
theorem max_three_by (hh : A.handled = none) (hc : CmpOf prog w A.in1 .Gt (fun i v => #[a, b, c][i]? = some v) bt)
    (h : ∀ h' tk, (∀ d o, s.heap.get? d = some o → h'.get? d = some o) → Q (if bt 1 0 then (if bt 2 1 then c else b) else (if bt 2 0 then c else a)) { s with heap := h', toks := tk }) :
    wpAny (model prog w) A (call (.builtin "max") [a, b, c]) Q E s := by
  have hsz : (s.heap.push { cls := .type "tuple", data := .seq #[a, b, c] }).objs.size = s.heap.objs.size + 1 := Heap.size_push ..
  have hT : (s.heap.push { cls := .type "tuple", data := .seq #[a, b, c] }).IsTuple s.heap.objs.size #[a, b, c] := ⟨_, Heap.get?_push_size _ rfl, rfl, 0, rfl⟩
  refine call_max_three (wpAny_pyIter_tuple hT ⟨_, [_, s.heap.objs.size], [_], _, _, _, bt, rfl,
    Walks.tuple (A := A.in1) hh _ s.heap.objs.size (by rw [hsz]; exact Nat.ne_of_lt (Nat.lt_succ_self _)) #[a, b, c], ⟨⟨_, Heap.get?_push_size _ rfl, rfl, rfl⟩, hT.push _⟩, fun d hd => ?_, Nat.succ_pos _, hc, fun v h' tk hP hk => ?_⟩)
  · show d < ((s.heap.push _).push _).objs.size
    rw [Heap.size_push, hsz]
    simp only [List.mem_cons, List.not_mem_nil, or_false] at hd
    rcases hd with rfl | rfl
    · rw [hsz]; exact Nat.lt_succ_self _
    · exact Nat.lt_succ_of_lt (Nat.lt_succ_self _)
  · have e : #[a, b, c][argBest bt 2]? = some v := hP
    rw [best_three] at e
    cases e
    refine h h' tk fun d o q => hk d o (fun hm => ?_) (Heap.get?_push_of_some _ (Heap.get?_push_of_some _ q))
    have q1 := Heap.lt_size q
    have q2 := List.mem_singleton.mp hm
    rw [q2, hsz] at q1
    exact Nat.lt_irrefl _ (Nat.lt_of_succ_lt q1)
theorem min_three_by (hh : A.handled = none) (hc : CmpOf prog w A.in1 .Lt (fun i v => #[a, b, c][i]? = some v) bt)
    (h : ∀ h' tk, (∀ d o, s.heap.get? d = some o → h'.get? d = some o) → Q (if bt 1 0 then (if bt 2 1 then c else b) else (if bt 2 0 then c else a)) { s with heap := h', toks := tk }) :
    wpAny (model prog w) A (call (.builtin "min") [a, b, c]) Q E s := by
  have hsz : (s.heap.push { cls := .type "tuple", data := .seq #[a, b, c] }).objs.size = s.heap.objs.size + 1 := Heap.size_push ..
  have hT : (s.heap.push { cls := .type "tuple", data := .seq #[a, b, c] }).IsTuple s.heap.objs.size #[a, b, c] := ⟨_, Heap.get?_push_size _ rfl, rfl, 0, rfl⟩
  refine call_min_three (wpAny_pyIter_tuple hT ⟨_, [_, s.heap.objs.size], [_], _, _, _, bt, rfl,
    Walks.tuple (A := A.in1) hh _ s.heap.objs.size (by rw [hsz]; exact Nat.ne_of_lt (Nat.lt_succ_self _)) #[a, b, c], ⟨⟨_, Heap.get?_push_size _ rfl, rfl, rfl⟩, hT.push _⟩, fun d hd => ?_, Nat.succ_pos _, hc, fun v h' tk hP hk => ?_⟩)
  · show d < ((s.heap.push _).push _).objs.size
    rw [Heap.size_push, hsz]
    simp only [List.mem_cons, List.not_mem_nil, or_false] at hd
    rcases hd with rfl | rfl
    · rw [hsz]; exact Nat.lt_succ_self _
    · exact Nat.lt_succ_of_lt (Nat.lt_succ_self _)
  · have e : #[a, b, c][argBest bt 2]? = some v := hP
    rw [best_three] at e
    cases e
    refine h h' tk fun d o q => hk d o (fun hm => ?_) (Heap.get?_push_of_some _ (Heap.get?_push_of_some _ q))
    have q1 := Heap.lt_size q
    have q2 := List.mem_singleton.mp hm
    rw [q2, hsz] at q1
    exact Nat.lt_irrefl _ (Nat.lt_of_succ_lt q1)
def fgt (a b : UInt64) : Bool := Float64.cmp a b == some Ordering.gt
def flt (a b : UInt64) : Bool := Float64.cmp a b == some Ordering.lt
def pick3 (r : UInt64 → UInt64 → Bool) (a b c : UInt64) : UInt64 := if r b a then (if r c b then c else b) else (if r c a then c else a)
def at3 (a b c : UInt64) : Nat → UInt64
  | 0 => a
  | 1 => b
  | _ => c
theorem at3_of {a b c : UInt64} {t u x : Tok} {i : Nat} {v : Value} (h : #[Value.float a t, Value.float b u, Value.float c x][i]? = some v) : ∃ k, v = .float (at3 a b c i) k := by
  match i with
  | 0 => cases h; exact ⟨_, rfl⟩
  | 1 => cases h; exact ⟨_, rfl⟩
  | 2 => cases h; exact ⟨_, rfl⟩
  | i + 3 => simp at h
theorem fmax_three {a b c : UInt64} {t u x : Tok} (hh : A.handled = none) (F : Fr h₀ L s.heap m) (N : News h₀ L s.heap news)
    (h : ∀ h' tk k, Fr h₀ L h' m → News h₀ L h' news → Q (.float (pick3 fgt a b c) k) { s with heap := h', toks := tk }) :
    wpAny (model prog w) A (call (.builtin "max") [.float a t, .float b u, .float c x]) Q E s := by
  refine max_three_by (bt := fun i j => fgt (at3 a b c i) (at3 a b c j)) hh (fun i j vi vj s Q E hi hj hQ => ?_) fun h' tk hk => ?_
  · obtain ⟨k, rfl⟩ := at3_of hi
    obtain ⟨l, rfl⟩ := at3_of hj
    exact PySem.AutoFloatOps.gt_0 hQ
  · have F' := F.grownK hk
    have N' := N.grown hk
    show Q (if fgt b a then (if fgt c b then .float c x else .float b u) else (if fgt c a then .float c x else .float a t)) _
    unfold pick3 at h
    cases h1 : fgt b a <;> cases h2 : fgt c b <;> cases h3 : fgt c a <;> simp [h1, h2, h3] at h ⊢ <;> exact h _ _ _ F' N'
theorem fmin_three {a b c : UInt64} {t u x : Tok} (hh : A.handled = none) (F : Fr h₀ L s.heap m) (N : News h₀ L s.heap news)
    (h : ∀ h' tk k, Fr h₀ L h' m → News h₀ L h' news → Q (.float (pick3 flt a b c) k) { s with heap := h', toks := tk }) :
    wpAny (model prog w) A (call (.builtin "min") [.float a t, .float b u, .float c x]) Q E s := by
  refine min_three_by (bt := fun i j => flt (at3 a b c i) (at3 a b c j)) hh (fun i j vi vj s Q E hi hj hQ => ?_) fun h' tk hk => ?_
  · obtain ⟨k, rfl⟩ := at3_of hi
    obtain ⟨l, rfl⟩ := at3_of hj
    exact PySem.AutoFloatOps.lt_0 hQ
  · have F' := F.grownK hk
    have N' := N.grown hk
    show Q (if flt b a then (if flt c b then .float c x else .float b u) else (if flt c a then .float c x else .float a t)) _
    unfold pick3 at h
    cases h1 : flt b a <;> cases h2 : flt c b <;> cases h3 : flt c a <;> simp [h1, h2, h3] at h ⊢ <;> exact h _ _ _ F' N'
end
abbrev tupF3 (r : UInt64 × UInt64 × UInt64) (t u x : Tok) : Obj := { cls := .type "tuple", data := .seq #[.float r.1 t, .float r.2.1 u, .float r.2.2 x] }
def six (x : UInt64) : UInt64 := Float64.mul x 4618441417868443648
def hsvI (x : UInt64) : Int := Flt.toInt Float64.truncOf (Float64.mul x 4618441417868443648)
def hsvF (x : UInt64) : UInt64 := Float64.sub (Float64.mul x 4618441417868443648) (Float64.ofInt (Flt.toInt Float64.truncOf (Float64.mul x 4618441417868443648)))
def hsvP (y c : UInt64) : UInt64 := Float64.mul c (Float64.sub 4607182418800017408 y)
def hsvQ (x y c : UInt64) : UInt64 := Float64.mul c (Float64.sub 4607182418800017408 (Float64.mul y (hsvF x)))
def hsvT (x y c : UInt64) : UInt64 := Float64.mul c (Float64.sub 4607182418800017408 (Float64.mul y (Float64.sub 4607182418800017408 (hsvF x))))
def hsvR (x y c : UInt64) : UInt64 × UInt64 × UInt64 :=
  if (hsvI x).fmod 6 = 0 then (c, hsvT x y c, hsvP y c) else
  if (hsvI x).fmod 6 = 1 then (hsvQ x y c, c, hsvP y c) else
  if (hsvI x).fmod 6 = 2 then (hsvP y c, c, hsvT x y c) else
  if (hsvI x).fmod 6 = 3 then (hsvP y c, hsvQ x y c, c) else
  if (hsvI x).fmod 6 = 4 then (hsvT x y c, hsvP y c, c) else (c, hsvP y c, hsvQ x y c)
theorem hsv_0 {x y c : UInt64} (h : (hsvI x).fmod 6 = 0) : (c, hsvT x y c, hsvP y c) = hsvR x y c := by unfold hsvR; rw [if_pos h]
theorem hsv_1 {x y c : UInt64} (h : (hsvI x).fmod 6 = 1) : (hsvQ x y c, c, hsvP y c) = hsvR x y c := by unfold hsvR; rw [h]; rfl
theorem hsv_2 {x y c : UInt64} (h : (hsvI x).fmod 6 = 2) : (hsvP y c, c, hsvT x y c) = hsvR x y c := by unfold hsvR; rw [h]; rfl
theorem hsv_3 {x y c : UInt64} (h : (hsvI x).fmod 6 = 3) : (hsvP y c, hsvQ x y c, c) = hsvR x y c := by unfold hsvR; rw [h]; rfl
theorem hsv_4 {x y c : UInt64} (h : (hsvI x).fmod 6 = 4) : (hsvT x y c, hsvP y c, c) = hsvR x y c := by unfold hsvR; rw [h]; rfl
theorem hsv_5 {x y c : UInt64} (h : (hsvI x).fmod 6 = 5) : (c, hsvP y c, hsvQ x y c) = hsvR x y c := by unfold hsvR; rw [h]; rfl
theorem fmod_six {i : Int} (h0 : i.fmod 6 ≠ 0) (h1 : i.fmod 6 ≠ 1) (h2 : i.fmod 6 ≠ 2) (h3 : i.fmod 6 ≠ 3) (h4 : i.fmod 6 ≠ 4) (h5 : i.fmod 6 ≠ 5) : False := by
  have a := Int.fmod_nonneg_of_pos i (b := 6) (by decide)
  have b := Int.fmod_lt_of_pos i (b := 6) (by decide)
  omega
def hlsX (x y c : UInt64) : UInt64 := pick3 fgt x y c
def hlsN (x y c : UInt64) : UInt64 := pick3 flt x y c
def hlsL (x y c : UInt64) : UInt64 := Float64.div (Float64.add (pick3 fgt x y c) (pick3 flt x y c)) 4611686018427387904
def hlsC (x y c u : UInt64) : UInt64 := Float64.div (Float64.sub (pick3 fgt x y c) u) (Float64.sub (pick3 fgt x y c) (pick3 flt x y c))
def hlsM (u : UInt64) : UInt64 := (Float64.divmod (Float64.div u 4618441417868443648) 4607182418800017408).2
def hlsH (x y c : UInt64) : UInt64 :=
  if (Float64.cmp x (pick3 fgt x y c) == some Ordering.eq) = true then hlsM (Float64.sub (hlsC x y c c) (hlsC x y c y)) else
  if (Float64.cmp y (pick3 fgt x y c) == some Ordering.eq) = true then hlsM (Float64.sub (Float64.add 4611686018427387904 (hlsC x y c x)) (hlsC x y c c)) else
  hlsM (Float64.sub (Float64.add 4616189618054758400 (hlsC x y c y)) (hlsC x y c x))
theorem hls_0 {x y c : UInt64} (h : (Float64.cmp x (pick3 fgt x y c) == some Ordering.eq) = true) : hlsM (Float64.sub (hlsC x y c c) (hlsC x y c y)) = hlsH x y c := by unfold hlsH; rw [if_pos h]
theorem hls_1 {x y c : UInt64} (h : (Float64.cmp x (pick3 fgt x y c) == some Ordering.eq) = false) (h1 : (Float64.cmp y (pick3 fgt x y c) == some Ordering.eq) = true) :
    hlsM (Float64.sub (Float64.add 4611686018427387904 (hlsC x y c x)) (hlsC x y c c)) = hlsH x y c := by unfold hlsH; rw [if_neg (by rw [h]; decide), if_pos h1]
theorem hls_2 {x y c : UInt64} (h : (Float64.cmp x (pick3 fgt x y c) == some Ordering.eq) = false) (h1 : (Float64.cmp y (pick3 fgt x y c) == some Ordering.eq) = false) :
    hlsM (Float64.sub (Float64.add 4616189618054758400 (hlsC x y c y)) (hlsC x y c x)) = hlsH x y c := by unfold hlsH; rw [if_neg (by rw [h]; decide), if_neg (by rw [h1]; decide)]
def IsHls (x y c : UInt64) (o : Obj) : Prop := ∃ sat t u v, o = tupF3 (hlsH x y c, hlsL x y c, sat) t u v
theorem isHls_of {x y c hh : UInt64} (e : hh = hlsH x y c) {ll sat : UInt64} (el : ll = hlsL x y c) {t u v : Tok} : IsHls x y c (tupF3 (hh, ll, sat) t u v) := ⟨sat, t, u, v, by rw [e, el]⟩
def IsHsv (x y c : UInt64) (o : Obj) : Prop := ∃ t u v, o = tupF3 (hsvR x y c) t u v
theorem isHsv_of {x y c : UInt64} {r : UInt64 × UInt64 × UInt64} (e : r = hsvR x y c) {t u v : Tok} : IsHsv x y c (tupF3 r t u v) := ⟨t, u, v, by rw [e]⟩
end Mine
end
section
open PySem PySem.W PySem.Calls PyProof.Rows
set_option maxRecDepth 100000
set_option maxHeartbeats 8000000
namespace Mine
theorem hls_gives (prog : Program) (w : World) (x y c : UInt64) (tx ty tz : Tok) (c1 : (Float64.cmp (pick3 flt x y c) (pick3 fgt x y c) == some Ordering.eq) = false) (c2 : Float64.isZero (Float64.add (pick3 fgt x y c) (pick3 flt x y c)) = false)
    (c3 : Float64.isZero (Float64.sub (pick3 fgt x y c) (pick3 flt x y c)) = false) (c4 : Float64.isZero (Float64.sub (Float64.sub 4611686018427387904 (pick3 fgt x y c)) (pick3 flt x y c)) = false) :
    GivesNew prog w 64 8 40 [.float x tx, .float y ty, .float c tz] (IsHls x y c) := by
  k_with_none
  k_with "exec Assign" => k_fold
  k_with "exec AugAssign" => k_fold
  k_with "exec If" => k_fold
  k_with "exec While" => k_fold
  k_with "exec For" => k_fold
  k_with "exec Return" => k_fold
  k_with "exec Expr" => k_fold
  k_with "call builtin:max" => (k_here; (with_reducible show wpAny _ _ (call (Value.builtin "max") [Value.float _ _, Value.float _ _, Value.float _ _]) _ _ _); k_dflt (refine' fmax_three rfl ?k1 ?k2 ?_; (case k1 => k_asm); (case k2 => k_asm)); intro h'q tk'q k'q F'q N'q)
  k_with "call builtin:min" => (k_here; (with_reducible show wpAny _ _ (call (Value.builtin "min") [Value.float _ _, Value.float _ _, Value.float _ _]) _ _ _); k_dflt (refine' fmin_three rfl ?k1 ?k2 ?_; (case k1 => k_asm); (case k2 => k_asm)); intro h'q tk'q k'q F'q N'q)
  w_top off
  have hfill : PySem.Challenge.rw_xe0040_01 = PySem.Challenge.rw_xe0040_01 ∧ Mine.hd.heap_39 = Mine.hd.heap_39 := by (k_fill; exact ⟨rfl, rfl⟩)
  clear hfill
  unfold GivesNew
  intro mean mg mb dp un gd cn cs a ccd cl outer A₀ base h₀ L m news s Q E B F X N T hck hd hu hret
  refine wpAny_call ?_
  k_dflt cell_enter
  (with_reducible rename Fr _ _ _ _ => Fn0)
  have Fn := fr_as (fun z => List.lookup z [(Str.ofString "b", Value.float c tz), (Str.ofString "g", Value.float y ty), (Str.ofString "r", Value.float x tx)]) Fn0 (by with_unfolding_all rfl)
  clear Fn0
  k_steps
  all_goals first
    | (exact absurd (c1.symm.trans (by with_reducible assumption)) (by decide))
    | (exact absurd (c2.symm.trans (by with_reducible assumption)) (by decide))
    | (exact absurd (c3.symm.trans (by with_reducible assumption)) (by decide))
    | (exact absurd (c4.symm.trans (by with_reducible assumption)) (by decide))
    | ((rename News _ _ _ _ => kN9); refine hret _ _ _ _ ?f0 ?f1 kN9 ?f3; (case f1 => k_asm); (case f3 => with_reducible assumption); (case f0 => first | exact isHls_of (hls_0 (by with_reducible assumption)) rfl | exact isHls_of (hls_1 (by with_reducible assumption) (by with_reducible assumption)) rfl | exact isHls_of (hls_2 (by with_reducible assumption) (by with_reducible assumption)) rfl))
end Mine
end
section
open PySem PySem.W PySem.Calls PyProof.Rows
set_option maxRecDepth 100000
set_option maxHeartbeats 8000000
namespace Mine
theorem hsv_gives (prog : Program) (w : World) (x y c : UInt64) (tx ty tz : Tok) (c1 : (Float64.cmp y 0 == some Ordering.eq) = false) (c2 : Float64.isNaN (Float64.mul x 4618441417868443648) = false)
    (c3 : Float64.isInf (Float64.mul x 4618441417868443648) = false) (c4 : (Flt.toInt Float64.truncOf (Float64.mul x 4618441417868443648)).natAbs < 2 ^ 1024 - 2 ^ 970) :
    GivesNew prog w 71 8 40 [.float x tx, .float y ty, .float c tz] (IsHsv x y c) := by
  k_with_none
  w_top off
  have hfill : PySem.Challenge.rw_xe0040_01 = PySem.Challenge.rw_xe0040_01 ∧ Mine.hd.heap_39 = Mine.hd.heap_39 := by (k_fill; exact ⟨rfl, rfl⟩)
  clear hfill
  unfold GivesNew
  intro mean mg mb dp un gd cn cs a ccd cl outer A₀ base h₀ L m news s Q E B F X N T hck hd hu hret
  refine wpAny_call ?_
  k_dflt cell_enter
  (with_reducible rename Fr _ _ _ _ => Fn0)
  have Fn := fr_as (fun z => List.lookup z [(Str.ofString "v", Value.float c tz), (Str.ofString "s", Value.float y ty), (Str.ofString "h", Value.float x tx)]) Fn0 (by with_unfolding_all rfl)
  clear Fn0
  k_steps
  all_goals first
    | (exact absurd (c1.symm.trans (by with_reducible assumption)) (by decide))
    | (exact absurd (c2.symm.trans (by with_reducible assumption)) (by decide))
    | (exact absurd (c3.symm.trans (by with_reducible assumption)) (by decide))
    | (exact absurd c4 (Nat.not_lt.mpr (by with_reducible assumption)))
    | (exact (fmod_six (by with_reducible assumption) (by with_reducible assumption) (by with_reducible assumption) (by with_reducible assumption) (by with_reducible assumption) (by with_reducible assumption)).elim)
    | ((rename News _ _ _ _ => kN9); refine hret _ _ _ _ ?f0 ?f1 kN9 ?f3; (case f1 => k_asm); (case f3 => with_reducible assumption); (case f0 => first | exact isHsv_of (hsv_0 (by unfold hsvI; with_reducible assumption)) | exact isHsv_of (hsv_1 (by unfold hsvI; with_reducible assumption)) | exact isHsv_of (hsv_2 (by unfold hsvI; with_reducible assumption)) | exact isHsv_of (hsv_3 (by unfold hsvI; with_reducible assumption)) | exact isHsv_of (hsv_4 (by unfold hsvI; with_reducible assumption)) | exact isHsv_of (hsv_5 (by unfold hsvI; with_reducible assumption))))
end Mine
end
section
open PySem PySem.W PySem.Calls PyProof.Rows
set_option maxRecDepth 100000
namespace Mine
section
variable {prog : Program} {w : World} {A A₀ : Around} {s : Shared} {K : Frag} {L : Addr} {h₀ base : Heap} {m mg mb : Str → Option Value} {pre tail : List (Addr × Obj)} {p : Program} {loose : List Str} {mean : ExcName → Option Value}
variable {env : Env} {outer : List Env} {R : Result → Shared → Prop} {name qual : Str} {params : Arguments} {body : List Stmt} {scope : Scope} {dV kV doc pm cdv ct oc : Value} {an od : Option Addr} {osl : Array (Option Value)} {f : Addr} {args : Args} {binds : List (Str × Value)}
def Kept (pre tail : List (Addr × Obj)) (h : Heap) : Prop := ∀ p ∈ tail, p.1 ∉ pre.map (·.1) → h.get? p.1 = some p.2
theorem regain {h h' : Heap} {res : List (Addr × Obj)} (N : News h₀ L h (pre ++ tail)) (N' : News h₀ L h' (res ++ pre)) (k : Kept pre tail h') : News h₀ L h' (res ++ (pre ++ tail)) := by
  intro q hq
  rcases List.mem_append.mp hq with c | c
  · exact N' q (List.mem_append_left _ c)
  rcases List.mem_append.mp c with c | c
  · exact N' q (List.mem_append_right _ c)
  have z := N q (List.mem_append_right _ c)
  refine ⟨?_, z.2⟩
  by_cases d : q.1 ∈ pre.map (·.1)
  · obtain ⟨r, hr, e⟩ := List.mem_map.mp d
    have y := (N r (List.mem_append_left _ hr)).1
    rw [e, z.1] at y
    have x := (N' r (List.mem_append_right _ hr)).1
    rw [e] at x
    exact x.trans y.symm
  · exact k q c d
theorem enter_tail (B : Below A₀ base outer h₀) (F : Fr h₀ L s.heap m) (X₀ : K.In h₀) (N : News h₀ L s.heap (pre ++ tail)) (T : Top p loose mean mg mb h₀) (hA : A.frames = some (env :: outer)) (hf : env.frame = some L) (hke : env.scope.kind = .function)
    (ho : K.lookup f = some ⟨oc, od, .func (fnOf name qual params body scope dV kV doc pm an cdv ct), osl⟩) (hcd : codeIn K cdv qual = true) (hroom : A.depth < recursionLimit)
    (hbind : BindsTo s (fnOf name qual params body scope dV kV doc pm an cdv ct) args binds) (hloc : ∀ y ∈ binds, scope.names.lookup y.1 = some .local)
    (h : ∀ g L' h₁, Stop (Kept pre tail g) → Fr h₀ L g m → Fr g L' h₁ (fun y => binds.reverse.lookup y) → News g L' h₁ pre → Below A base (env :: outer) g → K.In g → Top p loose mean mg mb g →
      wpAny (model prog w) (A.deeper (envOf qual scope L' f cdv)) (execs body (envOf qual scope L' f cdv))
        (fun fl s' => LeaveK h₀ L m g (fun r s'' => Kept pre tail s''.heap → R r s'') (match fl with | .ret v => v | _ => .none) s')
        (fun e s' => wpAny (model prog w) (A.deeper (envOf qual scope L' f cdv)) (leaving (envOf qual scope L' f cdv) e) (fun _ s'' => R (.error e) s'') (fun e' s'' => R (.error e') s'') s')
        { s with heap := h₁, toks := s.toks + binds.length })
    (hco : scope.isCoroutine = false) (hgen : scope.isGenerator = false) (hk : scope.kind = .function)
    (hcell : ∀ x ∈ scope.names, x.2 ≠ .cell) : codeAny (model prog w) A (.call (.ref f) args) R s := by
  have Np : News h₀ L s.heap pre := fun q hq => N q (List.mem_append_left _ hq)
  have kp : Kept pre tail (hideAll s.heap (pre.map (·.1))) := fun q hq nq => hideAll_get _ (N q (List.mem_append_right _ hq)).1 nq
  obtain ⟨FG, BG, st, lv⟩ := groundX (R := fun r s'' => Kept pre tail s''.heap → R r s'') B F Np hA hf hke
  have X := X₀.keeps F.keep
  refine codeAny_call_def (fd := fnOf name qual params body scope dV kV doc pm an cdv ct) (body := body) (binds := binds) hroom (X _ _ ho) rfl (T.nolimit.keeps F.keep) (codeRec_of X hcd) rfl hbind hcell hloc (fun h₁ hns hk₁ => ?_) hco hgen hk
  refine wpAny_mono (h _ s.heap.objs.size h₁ ⟨kp⟩ FG ⟨hns, fun b o e => hk₁ b o (of_hideAll _ e), Nat.le_of_eq (hideAll_size _ _)⟩
    (fun q hq => ⟨hk₁ _ _ (Np q hq).1, Nat.ne_of_lt (Heap.lt_size (Np q hq).1), hideAll_none _ (List.mem_map_of_mem hq)⟩) BG (X₀.keeps st) (T.keeps st)) (fun fl s' hl => ?_) fun _ _ y => y
  have hl' := hl
  obtain ⟨L', m', news', F', N', k⟩ := hl'
  exact lv _ _ hl fun q hq nq => F'.keep _ _ (kp q hq nq)
theorem enter_tailC (B : Below A₀ base outer h₀) (F : Fr h₀ L s.heap m) (X₀ : K.In h₀) (N : News h₀ L s.heap (pre ++ tail)) (T : Top p loose mean mg mb h₀) (hA : A.frames = some (env :: outer)) (hf : env.frame = some L) (hke : env.scope.kind = .function)
    (ho : K.lookup f = some ⟨oc, od, .func (fnOf name qual params body scope dV kV doc pm an cdv ct), osl⟩) (hcd : codeIn K cdv qual = true) (hroom : A.depth < recursionLimit)
    (hbind : BindsTo s (fnOf name qual params body scope dV kV doc pm an cdv ct) args binds) (hkind : (binds.all fun y => scope.names.lookup y.1 == some .local || scope.names.lookup y.1 == some .cell) = true)
    (hnd : ((cellsFrom 0 scope.names []).map (·.1)).Nodup)
    (h : ∀ g L' h₁ tk cells, Stop (Kept pre tail g) → Fr h₀ L g m → Fr g L' h₁ (bindL (envOfC qual scope L' f cdv).kindOf binds fun _ => none) → News g L' h₁ (cells ++ pre) →
      CellsAre (bindC (envOfC qual scope L' f cdv).kindOf binds fun _ => none) (cellsFrom (L' + 1) scope.names []) cells → Below A base (env :: outer) g → K.In g → Top p loose mean mg mb g → (∀ p ∈ pre, p.1 < L') →
      wpAny (model prog w) (A.deeper (envOfC qual scope L' f cdv)) (execs body (envOfC qual scope L' f cdv))
        (fun fl s' => LeaveK h₀ L m g (fun r s'' => Kept pre tail s''.heap → R r s'') (match fl with | .ret v => v | _ => .none) s')
        (fun e s' => wpAny (model prog w) (A.deeper (envOfC qual scope L' f cdv)) (leaving (envOfC qual scope L' f cdv) e) (fun _ s'' => R (.error e) s'') (fun e' s'' => R (.error e') s'') s')
        { s with heap := h₁, toks := tk })
    (hco : scope.isCoroutine = false) (hgen : scope.isGenerator = false) (hk : scope.kind = .function) : codeAny (model prog w) A (.call (.ref f) args) R s := by
  have Np : News h₀ L s.heap pre := fun q hq => N q (List.mem_append_left _ hq)
  have kp : Kept pre tail (hideAll s.heap (pre.map (·.1))) := fun q hq nq => hideAll_get _ (N q (List.mem_append_right _ hq)).1 nq
  obtain ⟨FG, BG, st, lv⟩ := groundX (R := fun r s'' => Kept pre tail s''.heap → R r s'') B F Np hA hf hke
  have X := X₀.keeps F.keep
  refine codeAny_call_function hroom (X _ _ ho) rfl hco hgen rfl (codeRec_of X hcd) (hbind _ _ _ _ ?_)
  refine wpAny_newFunctionEnv_cells hk (kindsX hkind _) fun env' he s' x => ?_
  subst he
  refine ⟨(T.nolimit.keeps F.keep).keeps x.toInCall.keep, codeAny_func ?_⟩
  obtain ⟨h₁, tk, rfl, _⟩ := x.done
  have hk₁ := x.toInCall.keep
  obtain ⟨cells, NC, Y⟩ := Cl.news (h₀ := s.heap) (Nat.le_refl _) fun n c hm => ⟨x.cell n c (lookup_of_mem_nodup (cellsFrom_names scope.names 0 (s.heap.objs.size + 1) [] [] rfl ▸ hnd) hm), x.above n c hm⟩
  refine wpAny_mono (h _ s.heap.objs.size h₁ tk cells ⟨kp⟩ FG ⟨x.toInCall.ns, fun b o e => hk₁ b o (of_hideAll _ e), Nat.le_of_eq (hideAll_size _ _)⟩ (fun q hq => ?_) Y BG (X₀.keeps st) (T.keeps st) (fun q hq => Heap.lt_size (Np q hq).1)) (fun fl s' hl => ?_) fun _ _ y => y
  · rcases List.mem_append.mp hq with hq | hq
    · refine ⟨(NC q hq).1, (NC q hq).2.1, ?_⟩
      cases z : (hideAll s.heap (pre.map (·.1))).get? q.1 with
      | none => rfl
      | some o => have := of_hideAll _ z; rw [(NC q hq).2.2] at this; cases this
    · exact ⟨hk₁ _ _ (Np q hq).1, Nat.ne_of_lt (Heap.lt_size (Np q hq).1), hideAll_none _ (List.mem_map_of_mem hq)⟩
  · have hl' := hl
    obtain ⟨L', m', news', F', N', k⟩ := hl'
    exact lv _ _ hl fun q hq nq => F'.keep _ _ (kp q hq nq)
theorem apart {g h' : Heap} {L' D : Addr} {o : Obj} {res : List (Addr × Obj)} (kp : Kept pre tail g) (N : News g L' h' res) (hm : (D, o) ∈ res) (hp : ∀ p ∈ pre, p.1 ≠ D) : ∀ p ∈ pre ++ tail, p.1 ≠ D := by
  intro q hq e
  rcases List.mem_append.mp hq with c | c
  · exact hp q c e
  have d : q.1 ∉ pre.map (·.1) := fun z => by
    obtain ⟨r, hr, e'⟩ := List.mem_map.mp z
    exact hp r hr (e'.trans e)
  have y := kp q c d
  rw [e, (N _ hm).2.2] at y
  cases y
end
end Mine
end
section
open PySem PySem.W PySem.Calls PyProof.Rows PySem.Spec
set_option maxRecDepth 100000
set_option maxHeartbeats 2000000
namespace Mine
open LCg
def SrcTup (prog : Program) (w : World) (A : Around) (h₀ : Heap) (L : Addr) (m : Str → Option Value) (env : Env) (ct elt : Expr) (x : Str) (scope : Scope) (cl : List (Str × Addr)) (Fin : Shared → List Value → List (Addr × Obj) → Prop) (xv : Value) (s₁ : Shared) : Prop :=
  ∃ ax its news, xv = .ref ax ∧ A.handled = none ∧ Fr h₀ L s₁.heap m ∧ News h₀ L s₁.heap news ∧ h₀.IsTuple ax its ∧ its.size ≤ sizeLine ∧
    ∀ s₂ : Shared, (∃ h, s₂ = { s₁ with heap := h }) → LCt.CompRestT prog w A h₀ L m env ct elt x scope cl s₂ (fun _ => True) (fun i v => its[i]? = some v) (Fin s₂) its.size 0 [] news
section
variable {prog : Program} {w : World} {A : Around} {E : Value → Shared → Prop} {s : Shared} {h₀ : Heap} {L : Addr} {m : Str → Option Value} {env : Env}
theorem SrcTup.intro {ct elt : Expr} {x : Str} {scope : Scope} {cl : List (Str × Addr)} {Fin : Shared → List Value → List (Addr × Obj) → Prop} {ax : Addr} {its : Array Value} {news : List (Addr × Obj)} {s₁ : Shared}
    (hh : A.handled = none) (F : Fr h₀ L s₁.heap m) (N : News h₀ L s₁.heap news) (hl : h₀.IsTuple ax its) (hsz : its.size ≤ sizeLine)
    (h : ∀ g, LCt.CompRestT prog w A h₀ L m env ct elt x scope cl { s₁ with heap := g } (fun _ => True) (fun i v => its[i]? = some v) (Fin { s₁ with heap := g }) its.size 0 [] news) :
    SrcTup prog w A h₀ L m env ct elt x scope cl Fin (.ref ax) s₁ := ⟨ax, its, news, rfl, hh, F, N, hl, hsz, fun _ ⟨g, e⟩ => e ▸ h g⟩
theorem ListComp_Tup {ct elt iter : Expr} {x : Str} {px : Pos} {scope : Scope} {cl : List (Str × Addr)} {pos : Pos} {Q : Value → Shared → Prop} (F₀ : Fr h₀ L s.heap m)
    (hclos : closureFor scope env = pure cl) (hcell : ∀ y ∈ scope.names, y.2 ≠ .cell) (hkind : scope.kind = .function)
    (hnames : ∀ y ∈ scope.names, y.2 = .local → scope.names.lookup y.1 = some .local) (hx : scope.names.lookup x = some .local)
    (h : wpAny (model prog w) A (eval iter env) (SrcTup prog w A h₀ L m env ct elt x scope cl (fun s₂ => FinE h₀ L m s₂ Q)) E s)
    (hs : ∀ x, foldedSetIterable iter env x = pure x := by intro _; rfl) :
    wpAny (model prog w) A (eval (.ListComp elt [⟨.Name x px, iter, [ct], 0⟩] scope pos) env) Q E s := by
  rw [eval_ListComp]
  refine wpAny_comprehension_free (use := none) rfl hs hclos hkind hnames (wpAny_mono h (fun xv s₁ h₁ => ?_) fun _ _ e => e)
  obtain ⟨ax, its, news, rfl, hh, F, N, S, hsz, R⟩ := h₁
  have hl : s₁.heap.IsTuple ax its := S.at fun o e => F.keep _ _ e
  have hlt : ax < s₁.heap.objs.size := by obtain ⟨_, e, _⟩ := hl; exact Heap.lt_size e
  refine wpAny_pyIter_tuple hl ?_
  have up : ∀ b o, s₁.heap.get? b = some o → (s₁.heap.push { cls := .type "tuple_iterator", data := .fields #[.ref ax, .int 0 0] }).get? b = some o := fun b o e => Heap.get?_push_of_some _ e
  refine LCt.block_T (Walks.tuple hh s₁.heap.objs.size ax (Nat.ne_of_lt hlt) its) hsz (fun i h st => by obtain ⟨o, e, _⟩ := st.1; exact ⟨o, e⟩)
    (fun i h h' o nw st e e' k _ _ => ⟨by obtain ⟨o', q, r⟩ := st.1; rw [e] at q; cases q; exact ⟨o, e', r⟩, S.at fun o e => k _ _ e⟩) hcell hkind hx ⟨⟨_, Heap.get?_push_size _ rfl, rfl, rfl⟩, hl.at fun o e => up _ _ e⟩ (fun b hb => ?_)
    (F.keeps up) (N.grown up) (Nat.ne_of_lt F.ns.lt) (next_is_new F) (fun p hp => Nat.ne_of_lt (Heap.lt_size (N p hp).1)) trivial (R _ ⟨_, rfl⟩) ?_
  · show b < (s₁.heap.push _).objs.size
    rw [Heap.size_push]
    rcases List.mem_cons.mp hb with rfl | hb
    · exact Nat.lt_succ_self _
    · rw [List.mem_singleton.mp hb]; exact Nat.lt_succ_of_lt hlt
  · intro D C h tk m' ys news' F' N' o1 hn hC₀ hD₀ hCL hDL hCD offC fin
    refine ⟨m', hn, fun h'' hs'' => fin D h'' tk (F'.change hs'' hCL hC₀) (fun p hp => ?_) o1⟩
    refine ⟨hs''.extBut _ _ ?_ (N' p hp).1, (N' p hp).2⟩
    rcases List.mem_cons.mp hp with rfl | hp
    · exact Ne.symm hCD
    · exact offC p hp
end
end Mine
end
section
open PySem PySem.W PySem.Calls PyProof.Rows
set_option maxRecDepth 100000
set_option maxHeartbeats 8000000
namespace Mine
def IsZ (o : Obj) : Prop := (∃ z t1 t2, (z = 2 ∨ z = 4 ∨ z = 8) ∧ o = { cls := .type "tuple", data := .seq #[.int 1 t1, .int z t2] }) ∨ (∃ y z t1 t2 t3, ((y = 2 ∧ z = 4) ∨ (y = 2 ∧ z = 8) ∨ (y = 4 ∧ z = 8)) ∧ o = { cls := .type "tuple", data := .seq #[.int 1 t1, .int y t2, .int z t3] })
theorem sizes_gives (prog : Program) (w : World) (k : Int) (tk : Tok) : GivesNewP prog w 92 8 40 [] [.int k tk] IsZ := by
  k_with_none
  k_with "subscriptTail" => (k_here; (with_reducible rename (Int.fmod _ 6 = _) => hk9q); rw [hk9q]; walk_at "subscriptTail")
  w_top off
  have hfill : PySem.Challenge.rw_xe0040_01 = PySem.Challenge.rw_xe0040_01 ∧ Mine.hd.heap_39 = Mine.hd.heap_39 := by (k_fill; exact ⟨rfl, rfl⟩)
  clear hfill
  unfold GivesNewP
  intro mean mg mb dp un gd cn cs a ccd cl outer A₀ base h₀ L m news s Q E B F X N T hck hd hu hret
  have N00 : Stop (News h₀ L s.heap ([] ++ news)) := ⟨N⟩
  have hk : k.fmod 6 = 0 ∨ k.fmod 6 = 1 ∨ k.fmod 6 = 2 ∨ k.fmod 6 = 3 ∨ k.fmod 6 = 4 ∨ k.fmod 6 = 5 := by rw [Int.fmod_eq_emod_of_nonneg k (by decide)]; omega
  refine wpAny_call ?_
  k_dflt (refine' enter_tail (pre := []) ?k1 ?k2 ?k3 ?k4 ?k5 ?kA ?kF ?kK ?k6 ?k7 ?k8 ?k9 ?kB ?_ ?c2 ?c3 ?c4 ?c5; (case kA => exact rfl); (case kF => exact rfl); (case kK => assumption); (case k1 => k_asm); (case k2 => k_asm); (case k3 => k_asm); (case k4 => exact N); (case k5 => k_asm); (case k6 => k_is); (case k7 => k_is); (case k8 => ktr_room); (case k9 => exact BindsTo.of_eq rfl); (case c5 => decide); (case kB => exact locs rfl); (case c2 => exact rfl); (case c3 => exact rfl); (case c4 => exact rfl); k_whole; intro g' L' h' K00 FG' F' N' B' X' T'; (try dsimp only); (try k_lift B'); (try k_fold))
  (with_reducible rename Fr _ _ _ _ => Fn0)
  have Fn := fr_as (fun z => List.lookup z [(Str.ofString "total", Value.int k tk)]) Fn0 (by with_unfolding_all rfl)
  clear Fn0
  rcases hk with hk | hk | hk | hk | hk | hk <;> k_steps
  all_goals
    (with_reducible rename Kept _ _ _ => hk9)
    (rename News g' _ _ _ => Ng9)
    (rename News h₀ _ _ _ => N9)
    (with_reducible rename Fr _ _ _ _ => F9)
    refine' hret _ _ _ _ ?hr F9 ?hN ?hA
    case hA => exact apart K00.out Ng9 (by k_mem) (fun q hq => nomatch hq)
    case hN =>
      refine' regain (res := [(_, _)]) (pre := []) N00.out ?z hk9
      case z =>
        intro q hq
        refine N9 q ?_
        rw [List.mem_singleton.mp hq]; k_mem
    case hr => first | exact .inl ⟨_, _, _, by decide, rfl⟩ | exact .inr ⟨_, _, _, _, _, by decide, rfl⟩
end Mine
end
section
open PySem PySem.W PySem.Calls PyProof.Rows
set_option maxRecDepth 100000
set_option maxHeartbeats 8000000
namespace Mine
def hostL : List Int → Int → Int → List Str
  | [], _, _ => []
  | z :: zs, first, p => Txt.item (Str.ofString "bdefghijkmnpqrstuvwxyz0123456789") (first + p.fdiv z) :: hostL zs (first + Int.fdiv 16 z) p
def hostT (zs : List Int) (p : Int) : Str := Txt.join (Str.ofString ".") (hostL zs 0 p) ++ Str.ofString ".local"
theorem host2_gives (prog : Program) (w : World) (p z : Int) (tp t1 t2 : Tok) (Dz : Addr) (hp : 0 ≤ p ∧ p < 16) (hz : 1 ≤ z ∧ z ≤ 8) (hb : 0 ≤ p.fdiv z ∧ p.fdiv z < 16) :
    GivesP prog w 99 8 40 [(Dz, { cls := .type "tuple", data := .seq #[.int 1 t1, .int z t2] })] [.int p tp, .ref Dz] (fun v => ∃ t, v = .str (hostT [1, z] p) t) := by
  k_with_none
  w_top off
  have hfill : PySem.Challenge.rw_xe0040_01 = PySem.Challenge.rw_xe0040_01 ∧ Mine.hd.heap_39 = Mine.hd.heap_39 := by (k_fill; exact ⟨rfl, rfl⟩)
  clear hfill
  unfold GivesP
  intro mean mg mb dp un gd cn cs a ccd cl outer A₀ base h₀ L m news s Q E B F X N T hck hd hu hret
  have N00 : Stop (News h₀ L s.heap (_ ++ news)) := ⟨N⟩
  have hs00 : Stop (∀ p ∈ news, p.1 < s.heap.objs.size) := ⟨fun p hp => Heap.lt_size (N p (List.mem_append_right _ hp)).1⟩
  refine wpAny_call ?_
  k_dflt (refine' enter_tail ?k1 ?k2 ?k3 ?k4 ?k5 ?kA ?kF ?kK ?k6 ?k7 ?k8 ?k9 ?kB ?_ ?c2 ?c3 ?c4 ?c5; (case kA => exact rfl); (case kF => exact rfl); (case kK => assumption); (case k1 => k_asm); (case k2 => k_asm); (case k3 => k_asm); (case k4 => k_asm); (case k5 => k_asm); (case k6 => k_is); (case k7 => k_is); (case k8 => ktr_room); (case k9 => exact BindsTo.of_eq rfl); (case c5 => decide); (case kB => exact locs rfl); (case c2 => exact rfl); (case c3 => exact rfl); (case c4 => exact rfl); k_whole; intro g' L' h' FG' F' N' B' X' T'; (try dsimp only); (try k_lift B'); (try k_fold))
  (with_reducible rename Fr _ _ _ _ => Fn0)
  have Fn := fr_as (fun z => List.lookup z [(Str.ofString "sizes", Value.ref Dz), (Str.ofString "place", Value.int p tp)]) Fn0 (by with_unfolding_all rfl)
  clear Fn0
  k_steps
  all_goals
    (with_reducible rename Kept _ _ _ => hk9)
    (with_reducible rename News _ _ _ _ => N9)
    (with_reducible rename Fr _ _ _ _ => F9)
    refine hret _ _ _ ?hr ?hF ?hN
    case hr => exact ⟨_, rfl⟩
    case hF => exact F9
    case hN => exact regain (res := []) N00.out (fun q hq => N9 q (by obtain rfl := List.mem_singleton.mp hq; k_mem)) hk9
theorem host3_gives (prog : Program) (w : World) (p y z : Int) (tp t1 t2 t3 : Tok) (Dz : Addr) (hp : 0 ≤ p ∧ p < 16) (hz : 1 ≤ y ∧ y ≤ 8 ∧ 1 ≤ z ∧ z ≤ 8) (hb : 0 ≤ p.fdiv y ∧ p.fdiv y < 16 ∧ 0 ≤ p.fdiv z ∧ p.fdiv z < 16 ∧ 0 ≤ (16:Int).fdiv y ∧ 16 + (16:Int).fdiv y + p.fdiv z < 32 ∧ 16 + p.fdiv y < 32) :
    GivesP prog w 99 8 40 [(Dz, { cls := .type "tuple", data := .seq #[.int 1 t1, .int y t2, .int z t3] })] [.int p tp, .ref Dz] (fun v => ∃ t, v = .str (hostT [1, y, z] p) t) := by
  k_with_none
  w_top off
  have hfill : PySem.Challenge.rw_xe0040_01 = PySem.Challenge.rw_xe0040_01 ∧ Mine.hd.heap_39 = Mine.hd.heap_39 := by (k_fill; exact ⟨rfl, rfl⟩)
  clear hfill
  unfold GivesP
  intro mean mg mb dp un gd cn cs a ccd cl outer A₀ base h₀ L m news s Q E B F X N T hck hd hu hret
  have N00 : Stop (News h₀ L s.heap (_ ++ news)) := ⟨N⟩
  have hs00 : Stop (∀ p ∈ news, p.1 < s.heap.objs.size) := ⟨fun p hp => Heap.lt_size (N p (List.mem_append_right _ hp)).1⟩
  refine wpAny_call ?_
  k_dflt (refine' enter_tail ?k1 ?k2 ?k3 ?k4 ?k5 ?kA ?kF ?kK ?k6 ?k7 ?k8 ?k9 ?kB ?_ ?c2 ?c3 ?c4 ?c5; (case kA => exact rfl); (case kF => exact rfl); (case kK => assumption); (case k1 => k_asm); (case k2 => k_asm); (case k3 => k_asm); (case k4 => k_asm); (case k5 => k_asm); (case k6 => k_is); (case k7 => k_is); (case k8 => ktr_room); (case k9 => exact BindsTo.of_eq rfl); (case c5 => decide); (case kB => exact locs rfl); (case c2 => exact rfl); (case c3 => exact rfl); (case c4 => exact rfl); k_whole; intro g' L' h' FG' F' N' B' X' T'; (try dsimp only); (try k_lift B'); (try k_fold))
  (with_reducible rename Fr _ _ _ _ => Fn0)
  have Fn := fr_as (fun z => List.lookup z [(Str.ofString "sizes", Value.ref Dz), (Str.ofString "place", Value.int p tp)]) Fn0 (by with_unfolding_all rfl)
  clear Fn0
  k_steps
  all_goals
    (with_reducible rename Kept _ _ _ => hk9)
    (with_reducible rename News _ _ _ _ => N9)
    (with_reducible rename Fr _ _ _ _ => F9)
    refine hret _ _ _ ?hr ?hF ?hN
    case hr => exact ⟨_, rfl⟩
    case hF => exact F9
    case hN => exact regain (res := []) N00.out (fun q hq => N9 q (by obtain rfl := List.mem_singleton.mp hq; k_mem)) hk9
end Mine
end
section
open PySem PySem.W PySem.Calls PyProof.Rows
set_option maxRecDepth 100000
set_option maxHeartbeats 8000000
namespace Mine
def parted (zs : List Int) (p q : Int) : Nat := (zs.filter fun z => p.fdiv z != q.fdiv z).length
theorem parted_nil (p q : Int) : ((parted [] p q : Nat) : Int) = 0 := rfl
theorem parted_cons (z : Int) (zs : List Int) (p q : Int) : ((parted (z :: zs) p q : Nat) : Int) = (if p.fdiv z = q.fdiv z then 0 else 1) + (parted zs p q : Nat) := by
  unfold parted
  by_cases h : p.fdiv z = q.fdiv z
  · simp [List.filter_cons, h]
  · simp [List.filter_cons, h]; omega
theorem parted_ne {z : Int} {zs : List Int} {p q : Int} (h : p.fdiv z ≠ q.fdiv z) : ((parted (z :: zs) p q : Nat) : Int) = 1 + (parted zs p q : Nat) := by rw [parted_cons, if_neg h]
theorem parted_eq {z : Int} {zs : List Int} {p q : Int} (h : p.fdiv z = q.fdiv z) : ((parted (z :: zs) p q : Nat) : Int) = 0 + (parted zs p q : Nat) := by rw [parted_cons, if_pos h]
theorem floors2_gives (prog : Program) (w : World) (p q z : Int) (tp tq t1 t2 : Tok) (Dz : Addr) (hp : 0 ≤ p ∧ p < 16) (hq : 0 ≤ q ∧ q < 16) (hz : 1 ≤ z ∧ z ≤ 8) :
    GivesP prog w 111 20 80 [(Dz, { cls := .type "tuple", data := .seq #[.int 1 t1, .int z t2] })] [.int p tp, .int q tq, .ref Dz] (fun v => ∃ t, v = .int (parted [1, z] p q) t) := by
  k_with_none
  k_with "eval ListComp" => (k_here; k_dflt (refine ListComp_Tup (F₀ := by k_asm) (by with_unfolding_all rfl) (by decide) (by rfl) (by decide) (by rfl) ?_); walk1; k_dflt (refine SrcTup.intro (by rfl) (by k_asm) (by k_asm) (by with_reducible assumption) (by first | size_fits | exact Nat.le_of_ble_eq_true rfl) ?_); intro g9q; lct_lit)
  w_top off
  have hfill : PySem.Challenge.rw_xe0040_01 = PySem.Challenge.rw_xe0040_01 ∧ Mine.hd.heap_39 = Mine.hd.heap_39 := by (k_fill; exact ⟨rfl, rfl⟩)
  clear hfill
  unfold GivesP
  intro mean mg mb dp un gd cn cs a ccd cl outer A₀ base h₀ L m news s Q E B F X N T hck hd hu hret
  have N00 : Stop (News h₀ L s.heap ([] ++ (_ :: news))) := ⟨N⟩
  refine wpAny_call ?_
  k_dflt (refine' enter_tailC (pre := []) ?k1 ?k2 ?k3 ?k4 ?k5 ?kA ?kF ?kK ?k6 ?k7 ?k8 ?k9 ?kB ?kD ?_ ?c2 ?c3 ?c4; (case kA => exact rfl); (case kF => exact rfl); (case kK => assumption); (case k1 => k_asm); (case k2 => k_asm); (case k3 => k_asm); (case k4 => exact N); (case k5 => k_asm); (case k6 => k_is); (case k7 => k_is); (case k8 => ktr_room); (case k9 => exact BindsTo.of_eq rfl); (case kB => exact rfl); (case kD => decide +kernel); (case c2 => exact rfl); (case c3 => exact rfl); (case c4 => exact rfl); k_whole; intro g' L' h' tk' cells' K00 FG' F' N' Y' B' X' T' l1; (try k_lt l1); k_cells Y'; (try simp only [List.cons_append, List.nil_append] at N'); (try dsimp only); (try k_lift B'); (try k_fold))
  have hT : g'.IsTuple Dz _ := ⟨_, K00.out _ (List.mem_cons_self) (by simp), rfl, _, rfl⟩
  k_steps
  all_goals
    (with_reducible rename Kept _ _ _ => hk9)
    (rename News h₀ _ _ _ => N9)
    (with_reducible rename Fr _ _ _ _ => F9)
    refine hret _ _ _ ?hr F9 (regain (res := []) (pre := []) N00.out (fun q hq => nomatch hq) hk9)
    case hr =>
      refine ⟨_, congrArg (fun n => Value.int n _) ?_⟩
      (first | rw [parted_ne (z := 1) (by with_reducible assumption)] | rw [parted_eq (z := 1) (by with_reducible assumption)])
      (first | rw [parted_ne (z := z) (by with_reducible assumption)] | rw [parted_eq (z := z) (by with_reducible assumption)])
      rw [parted_nil]; rfl
theorem floors3_gives (prog : Program) (w : World) (p q y z : Int) (tp tq t1 t2 t3 : Tok) (Dz : Addr) (hp : 0 ≤ p ∧ p < 16) (hq : 0 ≤ q ∧ q < 16) (hz : 1 ≤ y ∧ y ≤ 8 ∧ 1 ≤ z ∧ z ≤ 8) :
    GivesP prog w 111 20 80 [(Dz, { cls := .type "tuple", data := .seq #[.int 1 t1, .int y t2, .int z t3] })] [.int p tp, .int q tq, .ref Dz] (fun v => ∃ t, v = .int (parted [1, y, z] p q) t) := by
  k_with_none
  k_with "eval ListComp" => (k_here; k_dflt (refine ListComp_Tup (F₀ := by k_asm) (by with_unfolding_all rfl) (by decide) (by rfl) (by decide) (by rfl) ?_); walk1; k_dflt (refine SrcTup.intro (by rfl) (by k_asm) (by k_asm) (by with_reducible assumption) (by first | size_fits | exact Nat.le_of_ble_eq_true rfl) ?_); intro g9q; lct_lit)
  w_top off
  have hfill : PySem.Challenge.rw_xe0040_01 = PySem.Challenge.rw_xe0040_01 ∧ Mine.hd.heap_39 = Mine.hd.heap_39 := by (k_fill; exact ⟨rfl, rfl⟩)
  clear hfill
  unfold GivesP
  intro mean mg mb dp un gd cn cs a ccd cl outer A₀ base h₀ L m news s Q E B F X N T hck hd hu hret
  have N00 : Stop (News h₀ L s.heap ([] ++ (_ :: news))) := ⟨N⟩
  refine wpAny_call ?_
  k_dflt (refine' enter_tailC (pre := []) ?k1 ?k2 ?k3 ?k4 ?k5 ?kA ?kF ?kK ?k6 ?k7 ?k8 ?k9 ?kB ?kD ?_ ?c2 ?c3 ?c4; (case kA => exact rfl); (case kF => exact rfl); (case kK => assumption); (case k1 => k_asm); (case k2 => k_asm); (case k3 => k_asm); (case k4 => exact N); (case k5 => k_asm); (case k6 => k_is); (case k7 => k_is); (case k8 => ktr_room); (case k9 => exact BindsTo.of_eq rfl); (case kB => exact rfl); (case kD => decide +kernel); (case c2 => exact rfl); (case c3 => exact rfl); (case c4 => exact rfl); k_whole; intro g' L' h' tk' cells' K00 FG' F' N' Y' B' X' T' l1; (try k_lt l1); k_cells Y'; (try simp only [List.cons_append, List.nil_append] at N'); (try dsimp only); (try k_lift B'); (try k_fold))
  have hT : g'.IsTuple Dz _ := ⟨_, K00.out _ (List.mem_cons_self) (by simp), rfl, _, rfl⟩
  k_steps
  all_goals
    (with_reducible rename Kept _ _ _ => hk9)
    (rename News h₀ _ _ _ => N9)
    (with_reducible rename Fr _ _ _ _ => F9)
    refine hret _ _ _ ?hr F9 (regain (res := []) (pre := []) N00.out (fun q hq => nomatch hq) hk9)
    case hr =>
      refine ⟨_, congrArg (fun n => Value.int n _) ?_⟩
      (first | rw [parted_ne (z := 1) (by with_reducible assumption)] | rw [parted_eq (z := 1) (by with_reducible assumption)])
      (first | rw [parted_ne (z := y) (by with_reducible assumption)] | rw [parted_eq (z := y) (by with_reducible assumption)])
      (first | rw [parted_ne (z := z) (by with_reducible assumption)] | rw [parted_eq (z := z) (by with_reducible assumption)])
      rw [parted_nil]; rfl
end Mine
end
section
open PySem PySem.W PySem.Calls PyProof.Rows
set_option maxRecDepth 100000
set_option maxHeartbeats 8000000
namespace Mine
def Climbs (x : Str) : Prop := x.length ≤ 40 ∧ (Txt.lstripChars x (Str.ofString ".")).length ≤ 100 ∧ (reHit (Txt.lstripChars x (Str.ofString "."))).isSome
theorem ladder2_gives (prog : Program) (w : World) (x : Str) (z : Int) (tx t1 t2 : Tok) (Dz : Addr) (c0 : Climbs x) (c1 : Climbs (reachT (Txt.lstripChars x (Str.ofString ".")))) :
    GivesNewP prog w 106 20 80 [(Dz, { cls := .type "tuple", data := .seq #[.int 1 t1, .int z t2] })] [.str x tx, .ref Dz] (fun o => ∃ r0 r1 k, o = W.listOf #[.str x tx, .str (reachT (Txt.lstripChars x (Str.ofString "."))) r0, .str (reachT (Txt.lstripChars (reachT (Txt.lstripChars x (Str.ofString "."))) (Str.ofString "."))) r1] k) := by
  obtain ⟨a0, c0, d0⟩ := c0
  obtain ⟨a1, c1, d1⟩ := c1
  k_with_none
  k_with "exec Assign" => k_fold
  k_with "exec AugAssign" => k_fold
  k_with "exec If" => k_fold
  k_with "exec While" => k_fold
  k_with "exec For" => k_fold
  k_with "exec Return" => k_fold
  k_with "exec Expr" => k_fold
  k_with "call ref" => (k_here; (with_reducible show wpAny _ _ (call (Value.ref 57) _ _) _ _ _); k_dflt (refine' reach_gives _ _ _ _ ?hx ?hb _ _ _ _ _ _ _ _ _ _ _ _ _ _ _ _ _ _ _ _ _ ?k1 ?k2 ?k3 ?k4 ?k5 ?k6 ?k7 ?k8 ?_; (case hx => with_reducible assumption); (case hb => with_reducible assumption); (case k1 => k_asm); (case k2 => k_asm); (case k3 => k_asm); (case k4 => k_asm); (case k5 => k_asm); (case k6 => exact rfl); (case k7 => ktr_room); (case k8 => ktr_units)); intro v9q h9q tk9q e9q F9q N9q; obtain ⟨t9q, e9q⟩ := e9q; subst e9q; (try dsimp only); (try k_fold))
  w_top off
  have hfill : PySem.Challenge.rw_xe0040_01 = PySem.Challenge.rw_xe0040_01 ∧ Mine.hd.heap_39 = Mine.hd.heap_39 := by (k_fill; exact ⟨rfl, rfl⟩)
  clear hfill
  unfold GivesNewP
  intro mean mg mb dp un gd cn cs a ccd cl outer A₀ base h₀ L m news s Q E B F X N T hck hd hu hret
  have N00 : Stop (News h₀ L s.heap (_ ++ news)) := ⟨N⟩
  have hs00 : Stop (∀ p ∈ news, p.1 < s.heap.objs.size) := ⟨fun p hp => Heap.lt_size (N p (List.mem_append_right _ hp)).1⟩
  refine wpAny_call ?_
  k_dflt (refine' enter_tail ?k1 ?k2 ?k3 ?k4 ?k5 ?kA ?kF ?kK ?k6 ?k7 ?k8 ?k9 ?kB ?_ ?c2 ?c3 ?c4 ?c5; (case kA => exact rfl); (case kF => exact rfl); (case kK => assumption); (case k1 => k_asm); (case k2 => k_asm); (case k3 => k_asm); (case k4 => k_asm); (case k5 => k_asm); (case k6 => k_is); (case k7 => k_is); (case k8 => ktr_room); (case k9 => exact BindsTo.of_eq rfl); (case c5 => decide); (case kB => exact locs rfl); (case c2 => exact rfl); (case c3 => exact rfl); (case c4 => exact rfl); k_whole; intro g' L' h' K00 FG' F' N' B' X' T'; (try dsimp only); (try k_lift B'); (try k_fold))
  (with_reducible rename Fr _ _ _ _ => Fn0)
  have Fn := fr_as (fun z => List.lookup z [(Str.ofString "sizes", Value.ref Dz), (Str.ofString "host", Value.str x tx)]) Fn0 (by with_unfolding_all rfl)
  clear Fn0
  k_steps
  all_goals
    (with_reducible rename Kept _ _ _ => hk9)
    (rename News g' _ _ _ => Ng9)
    (rename News h₀ _ _ _ => N9)
    (with_reducible rename Fr _ _ _ _ => F9)
    refine' hret _ _ _ _ ?hr F9 ?hN ?hA
    case hA => exact apart K00.out Ng9 (by k_mem) (fun q hq => by obtain rfl := List.mem_singleton.mp hq; (try dsimp only); k_ne)
    case hN =>
      refine' regain (res := [(_, _)]) N00.out ?z hk9
      case z =>
        intro q hq
        refine N9 q ?_
        rcases List.mem_cons.mp hq with hq | hq
        · rw [hq]; k_mem
        · rw [List.mem_singleton.mp hq]; k_mem
    case hr => exact ⟨_, _, 2, rfl⟩
theorem ladder3_gives (prog : Program) (w : World) (x : Str) (y z : Int) (tx t1 t2 t3 : Tok) (Dz : Addr) (c0 : Climbs x) (c1 : Climbs (reachT (Txt.lstripChars x (Str.ofString ".")))) (c2 : Climbs (reachT (Txt.lstripChars (reachT (Txt.lstripChars x (Str.ofString "."))) (Str.ofString ".")))) :
    GivesNewP prog w 106 20 80 [(Dz, { cls := .type "tuple", data := .seq #[.int 1 t1, .int y t2, .int z t3] })] [.str x tx, .ref Dz] (fun o => ∃ r0 r1 r2 k, o = W.listOf #[.str x tx, .str (reachT (Txt.lstripChars x (Str.ofString "."))) r0, .str (reachT (Txt.lstripChars (reachT (Txt.lstripChars x (Str.ofString "."))) (Str.ofString "."))) r1, .str (reachT (Txt.lstripChars (reachT (Txt.lstripChars (reachT (Txt.lstripChars x (Str.ofString "."))) (Str.ofString "."))) (Str.ofString "."))) r2] k) := by
  obtain ⟨a0, c0, d0⟩ := c0
  obtain ⟨a1, c1, d1⟩ := c1
  obtain ⟨a2, c2, d2⟩ := c2
  k_with_none
  k_with "exec Assign" => k_fold
  k_with "exec AugAssign" => k_fold
  k_with "exec If" => k_fold
  k_with "exec While" => k_fold
  k_with "exec For" => k_fold
  k_with "exec Return" => k_fold
  k_with "exec Expr" => k_fold
  k_with "call ref" => (k_here; (with_reducible show wpAny _ _ (call (Value.ref 57) _ _) _ _ _); k_dflt (refine' reach_gives _ _ _ _ ?hx ?hb _ _ _ _ _ _ _ _ _ _ _ _ _ _ _ _ _ _ _ _ _ ?k1 ?k2 ?k3 ?k4 ?k5 ?k6 ?k7 ?k8 ?_; (case hx => with_reducible assumption); (case hb => with_reducible assumption); (case k1 => k_asm); (case k2 => k_asm); (case k3 => k_asm); (case k4 => k_asm); (case k5 => k_asm); (case k6 => exact rfl); (case k7 => ktr_room); (case k8 => ktr_units)); intro v9q h9q tk9q e9q F9q N9q; obtain ⟨t9q, e9q⟩ := e9q; subst e9q; (try dsimp only); (try k_fold))
  w_top off
  have hfill : PySem.Challenge.rw_xe0040_01 = PySem.Challenge.rw_xe0040_01 ∧ Mine.hd.heap_39 = Mine.hd.heap_39 := by (k_fill; exact ⟨rfl, rfl⟩)
  clear hfill
  unfold GivesNewP
  intro mean mg mb dp un gd cn cs a ccd cl outer A₀ base h₀ L m news s Q E B F X N T hck hd hu hret
  have N00 : Stop (News h₀ L s.heap (_ ++ news)) := ⟨N⟩
  have hs00 : Stop (∀ p ∈ news, p.1 < s.heap.objs.size) := ⟨fun p hp => Heap.lt_size (N p (List.mem_append_right _ hp)).1⟩
  refine wpAny_call ?_
  k_dflt (refine' enter_tail ?k1 ?k2 ?k3 ?k4 ?k5 ?kA ?kF ?kK ?k6 ?k7 ?k8 ?k9 ?kB ?_ ?c2 ?c3 ?c4 ?c5; (case kA => exact rfl); (case kF => exact rfl); (case kK => assumption); (case k1 => k_asm); (case k2 => k_asm); (case k3 => k_asm); (case k4 => k_asm); (case k5 => k_asm); (case k6 => k_is); (case k7 => k_is); (case k8 => ktr_room); (case k9 => exact BindsTo.of_eq rfl); (case c5 => decide); (case kB => exact locs rfl); (case c2 => exact rfl); (case c3 => exact rfl); (case c4 => exact rfl); k_whole; intro g' L' h' K00 FG' F' N' B' X' T'; (try dsimp only); (try k_lift B'); (try k_fold))
  (with_reducible rename Fr _ _ _ _ => Fn0)
  have Fn := fr_as (fun z => List.lookup z [(Str.ofString "sizes", Value.ref Dz), (Str.ofString "host", Value.str x tx)]) Fn0 (by with_unfolding_all rfl)
  clear Fn0
  k_steps
  all_goals
    (with_reducible rename Kept _ _ _ => hk9)
    (rename News g' _ _ _ => Ng9)
    (rename News h₀ _ _ _ => N9)
    (with_reducible rename Fr _ _ _ _ => F9)
    refine' hret _ _ _ _ ?hr F9 ?hN ?hA
    case hA => exact apart K00.out Ng9 (by k_mem) (fun q hq => by obtain rfl := List.mem_singleton.mp hq; (try dsimp only); k_ne)
    case hN =>
      refine' regain (res := [(_, _)]) N00.out ?z hk9
      case z =>
        intro q hq
        refine N9 q ?_
        rcases List.mem_cons.mp hq with hq | hq
        · rw [hq]; k_mem
        · rw [List.mem_singleton.mp hq]; k_mem
    case hr => exact ⟨_, _, _, 3, rfl⟩
end Mine
end
section
open PySem PySem.W PySem.Calls PyProof.Rows PyProof
set_option maxRecDepth 100000
namespace Mine
def hue16 (p : Nat) : UInt64 := Float64.div (Float64.ofInt p) (Float64.ofInt 16)
def hueKey (f : UInt64) : Option Nat := (List.range 16).find? fun p => hue16 p == f
theorem hue_lt : (List.range 16).all (fun a => (List.range 16).all fun b => (Float64.cmp (hue16 a) (hue16 b) == some Ordering.lt) == decide (a < b)) = true := by decide +kernel
theorem hue_key : (List.range 16).all (fun a => hueKey (hue16 a) == some a) = true := by decide +kernel
theorem hueKey_of {f : UInt64} {a : Nat} (h : hueKey f = some a) : f = hue16 a ∧ a < 16 := by
  unfold hueKey at h
  have h1 := List.find?_some h
  have h2 := List.mem_of_find?_eq_some h
  exact ⟨(eq_of_beq h1).symm, List.mem_range.mp h2⟩
theorem hueKey_hue {a : Nat} (h : a < 16) : hueKey (hue16 a) = some a := eq_of_beq (List.all_eq_true.mp hue_key a (List.mem_range.mpr h))
theorem hue_lt' {a b : Nat} (ha : a < 16) (hb : b < 16) : (Float64.cmp (hue16 a) (hue16 b) == some Ordering.lt) = decide (a < b) :=
  eq_of_beq (List.all_eq_true.mp (List.all_eq_true.mp hue_lt a (List.mem_range.mpr ha)) b (List.mem_range.mpr hb))
@[reducible] def hueKind : KeyKind where
  α := Nat
  blt a b := decide (a < b)
  irrefl a := by simp
  trans a b c h1 h2 := by simp only [decide_eq_true_eq] at *; omega
  negTrans a b c h := by simp only [decide_eq_true_eq] at *; omega
  total a b h1 h2 := by simp only [decide_eq_false_iff_not] at *; omega
  keyOf v := match v with | .float f _ => hueKey f | _ => none
  dflt := 0
section
variable {prog : Program} {w : World} {A : Around} {E : Value → Shared → Prop} {s : Shared}
theorem oneLt_float {a b : UInt64} {t u : Tok} {Q : Bool → Shared → Prop} (h : Q (Float64.cmp a b == some Ordering.lt) s) : wpAny (model prog w) A (oneLt' true (.float a t) (.float b u)) Q E s := by
  rw [oneLt'_eq]
  simp only [if_true]
  refine wpAny_bind (wpAny_cRoomFor_byValue rfl ?_)
  refine wpAny_bind (wpAny_callSpecialIfBound?_slot (AutoFloatOps.typeIs_float s a t) F.slot_float_lt (call_gives F.slot_float_lt (AutoFloatOps.typeIs_float s a t) F.entry_float_lt (F.args_float_lt_2 _ _) (AutoFloatG5.float___lt___float_float_0 a t b u) ?_))
  exact wpAny_truthy_bool h
end
theorem hueKind_oneLt : hueKind.OneLt := by
  intro prog w A E s x y a b Q ha hb h
  cases x <;> simp only [hueKind, reduceCtorEq] at ha
  cases y <;> simp only [hueKind, reduceCtorEq] at hb
  obtain ⟨rfl, a1⟩ := hueKey_of ha
  obtain ⟨rfl, b1⟩ := hueKey_of hb
  refine oneLt_float ?_
  rw [hue_lt' a1 b1]
  exact h
inductive HuesAre : List Value → List Nat → Prop
  | nil : HuesAre [] []
  | cons {vs ps} (p : Nat) (t : Tok) (h : p < 16) (r : HuesAre vs ps) : HuesAre (.float (hue16 p) t :: vs) (p :: ps)
theorem HuesAre.all : ∀ {vs : List Value} {ps : List Nat}, HuesAre vs ps → ∀ v, v ∈ vs → ∃ p t, p < 16 ∧ v = .float (hue16 p) t
  | _, _, .nil, v, hv => by simp at hv
  | _, _, .cons p t h r, v, hv => by
    rcases List.mem_cons.mp hv with rfl | hv
    · exact ⟨p, t, h, rfl⟩
    · exact r.all v hv
theorem mapM_first_hues : ∀ {vs : List Value} {ps : List Nat}, HuesAre vs ps → vs.mapM firstOfTuple' = pure (vs.map fun _ => none)
  | _, _, .nil => by simp
  | _, _, .cons p t h r => by rw [List.mapM_cons, show firstOfTuple' (.float (hue16 p) t) = pure none from rfl, mapM_first_hues r]; simp
theorem mapM_typeOf_hues : ∀ {vs : List Value} {ps : List Nat}, HuesAre vs ps → vs.mapM typeOf = pure (vs.map fun _ => Value.type "float")
  | _, _, .nil => by simp
  | _, _, .cons p t h r => by
    rw [List.mapM_cons, mapM_typeOf_hues r]
    show (pure (Value.type "float") >>= fun b => pure _ >>= fun bs => pure (b :: bs)) = _
    simp
theorem keyKind_hues {v₁ v₂ : Value} {vs : List Value} {ps : List Nat} (hS : HuesAre (v₁ :: v₂ :: vs) ps) : keyKind' (v₁ :: v₂ :: vs).toArray = pure oneType' := by
  rw [keyKind'_eq, List.mapM_toArray, mapM_first_hues hS]
  simp only [map_pure, pure_bind]
  rw [if_neg (by simp), if_neg (by simp)]
  rw [oneTypeOnly'_eq, List.mapM_toArray, mapM_typeOf_hues hS]
  simp only [map_pure, pure_bind]
  have hall : ((List.map (fun _ => Value.type "float") (v₁ :: v₂ :: vs)).toArray.all fun x => x == Value.type "float") = true := by
    simp only [List.all_toArray, List.all_map, List.all_eq_true]
    intro _ _
    rfl
  have h0 : (List.map (fun _ => Value.type "float") (v₁ :: v₂ :: vs)).toArray[0]? = some (Value.type "float") := by simp
  rw [h0]
  simp only [hall, if_true, pure_bind, Option.isSome_some]
theorem HuesAre.keysOf {vs : List Value} {ps : List Nat} (hS : HuesAre vs ps) : KeysOf hueKind (pairsOf vs) := by
  intro p hp
  rw [pairsOf_toList] at hp
  obtain ⟨x, t, hx, e⟩ := hS.all _ (mem_zip_self hp).2
  exact ⟨x, by rw [e]; exact hueKey_hue hx⟩
theorem KK_hue {xs : Array Keyed} {i : Nat} (hi : i < xs.size) {p : Nat} {t : Tok} {q : Value} (h : p < 16) (hx : xs[i] = (.float (hue16 p) t, q)) : KK hueKind xs i = p := by
  unfold KK; rw [getElem?_pos xs i hi, hx]
  show (hueKey (hue16 p)).getD 0 = p
  rw [hueKey_hue h]; rfl
theorem sorted_out_hues {vs : List Value} {ps : List Nat} (hS : HuesAre vs ps) (h4 : vs.length = 4) {xs : Array Keyed} (hp : xs.Perm (pairsOf vs)) (hs : SortedToK hueKind xs (pairsOf vs).size) :
    ∃ a b c d ta tb tc td, a ≤ b ∧ b ≤ c ∧ c ≤ d ∧ d < 16 ∧ xs.map (·.2) = #[.float (hue16 a) ta, .float (hue16 b) tb, .float (hue16 c) tc, .float (hue16 d) td] := by
  have hl : xs.toList.Perm (vs.zip vs) := by rw [← pairsOf_toList]; exact Array.perm_iff_toList_perm.mp hp
  have hmem : ∀ p, p ∈ xs.toList → p.1 = p.2 ∧ p.1 ∈ vs := fun p hp' => mem_zip_self (hl.mem_iff.mp hp')
  have z : xs.size = 4 := by rw [hp.size_eq, pairsOf_size, h4]
  have one : ∀ i (hi : i < xs.size), ∃ p t, p < 16 ∧ xs[i] = (.float (hue16 p) t, .float (hue16 p) t) := fun i hi => by
    obtain ⟨e, m⟩ := hmem xs[i] (by simp)
    obtain ⟨p, t, h, e'⟩ := hS.all _ m
    exact ⟨p, t, h, Prod.ext e' (e.symm.trans e')⟩
  obtain ⟨a, ta, ha, ea⟩ := one 0 (by omega)
  obtain ⟨b, tb, hb, eb⟩ := one 1 (by omega)
  obtain ⟨c, tc, hc, ec⟩ := one 2 (by omega)
  obtain ⟨d, td, hd, ed⟩ := one 3 (by omega)
  have ka := KK_hue (by omega) ha ea
  have kb := KK_hue (by omega) hb eb
  have kc := KK_hue (by omega) hc ec
  have kd := KK_hue (by omega) hd ed
  have le : ∀ i j, i ≤ j → j < 4 → ¬ (KK hueKind xs j < KK hueKind xs i) := fun i j hij hj => by
    have q := hs i j hij (by rw [pairsOf_size, h4]; exact hj)
    change decide (KK hueKind xs j < KK hueKind xs i) = false at q
    simpa using q
  have l1 := le 0 1 (by omega) (by omega)
  have l2 := le 1 2 (by omega) (by omega)
  have l3 := le 2 3 (by omega) (by omega)
  rw [ka, kb] at l1
  rw [kb, kc] at l2
  rw [kc, kd] at l3
  refine ⟨a, b, c, d, ta, tb, tc, td, Nat.not_lt.mp l1, Nat.not_lt.mp l2, Nat.not_lt.mp l3, hd, ?_⟩
  refine Array.ext (by simp [z]) fun i h1 h2 => ?_
  have hi : i < 4 := by simpa using h2
  match i, hi with
  | 0, _ => simp [ea]
  | 1, _ => simp [eb]
  | 2, _ => simp [ec]
  | 3, _ => simp [ed]
section
variable {prog : Program} {w : World} {A : Around} {E : Value → Shared → Prop} {s : Shared}
theorem sorted_hues {h₀ : Heap} {L : Addr} {m : Str → Option Value} {news : List (Addr × Obj)} {l : Addr} {a b c d : Nat} {ta tb tc td : Tok} {k : Nat} {Q : Value → Shared → Prop}
    (F : Fr h₀ L s.heap m) (N : News h₀ L s.heap news) (hm : (l, ({ cls := .type "list", data := .seq #[.float (hue16 a) ta, .float (hue16 b) tb, .float (hue16 c) tc, .float (hue16 d) td] k } : Obj)) ∈ news) (ha : a < 16) (hb : b < 16) (hc : c < 16) (hd : d < 16)
    (h : ∀ (D : Addr) (h' : Heap) (a b c d : Nat) (ta tb tc td : Tok) (e : Nat), a ≤ b → b ≤ c → c ≤ d → d < 16 → Fr h₀ L h' m →
      News h₀ L h' ((D, W.listOf #[.float (hue16 a) ta, .float (hue16 b) tb, .float (hue16 c) tc, .float (hue16 d) td] e) :: news) → (∀ p ∈ news, p.1 < D) → Q (.ref D) { s with heap := h' }) :
    wpAny (model prog w) A (call (.builtin "sorted") [.ref l]) Q E s := by
  have hl : s.heap.IsList l [Value.float (hue16 a) ta, .float (hue16 b) tb, .float (hue16 c) tc, .float (hue16 d) td].toArray := News.isList N hm
  have hS : HuesAre [Value.float (hue16 a) ta, .float (hue16 b) tb, .float (hue16 c) tc, .float (hue16 d) td] [a, b, c, d] := .cons _ _ ha (.cons _ _ hb (.cons _ _ hc (.cons _ _ hd .nil)))
  refine sortedK hueKind_oneLt hl hS.keysOf (fun v₁ v₂ rest e => keyKind_hues (by rw [← e]; exact hS)) (by simp) fun st' hp hs => ?_
  obtain ⟨a', b', c', d', ua, ub, uc, ud, l1, l2, l3, l4, e⟩ := sorted_out_hues hS rfl hp hs
  rw [e]
  obtain ⟨k', he⟩ := sortedAll_at s.heap [Value.float (hue16 a) ta, .float (hue16 b) tb, .float (hue16 c) tc, .float (hue16 d) td] #[Value.float (hue16 a') ua, .float (hue16 b') ub, .float (hue16 c') uc, .float (hue16 d') ud]
  exact h _ _ a' b' c' d' ua ub uc ud k' l1 l2 l3 l4 (F.kept fun _ _ => sortedAll_old) (N.kept_cons F (fun _ _ => sortedAll_old) (Nat.le_succ _) he) (fun p hp => Nat.lt_succ_of_lt (Heap.lt_size (N p hp).1))
end
end Mine
end
section
open PyProof PySem PySem.W PySem.Calls PyProof.Rows
set_option maxRecDepth 100000
set_option maxHeartbeats 8000000
namespace Mine
def qtr (n : Nat) : UInt64 := Float64.div (Float64.ofInt n) (Float64.ofInt 4)
def okC (p d b : Nat) : Bool :=
  let x := hue16 p
  let y := qtr d
  let c := qtr b
  let r := hsvR x y c
  let hi := pick3 fgt r.1 r.2.1 r.2.2
  let lo := pick3 flt r.1 r.2.1 r.2.2
  (Float64.cmp y 0 == some Ordering.eq) == false && Float64.isNaN (Float64.mul x 4618441417868443648) == false && Float64.isInf (Float64.mul x 4618441417868443648) == false &&
  decide ((Flt.toInt Float64.truncOf (Float64.mul x 4618441417868443648)).natAbs < 10) &&
  ((Float64.cmp lo hi == some Ordering.eq) == false) && (Float64.isZero (Float64.add hi lo) == false)
  && (Float64.isZero (Float64.sub hi lo) == false) && (Float64.isZero (Float64.sub (Float64.sub 4611686018427387904 hi) lo) == false)
  && hlsH r.1 r.2.1 r.2.2 == x && (Float64.cmpInt (Float64.mul (hlsL r.1 r.2.1 r.2.2) (Float64.ofInt 32)) ((b : Int) * (8 - (d : Int))) == some Ordering.eq)
def okP (p : Nat) : Bool := (List.range 4).all fun d => (List.range 4).all fun b => okC p (d + 1) (b + 1)
theorem hue_row0 : okP 0 = true := by decide +kernel
theorem hue_row1 : okP 1 = true := by decide +kernel
theorem hue_row2 : okP 2 = true := by decide +kernel
theorem hue_row3 : okP 3 = true := by decide +kernel
theorem hue_row4 : okP 4 = true := by decide +kernel
theorem hue_row5 : okP 5 = true := by decide +kernel
theorem hue_row6 : okP 6 = true := by decide +kernel
theorem hue_row7 : okP 7 = true := by decide +kernel
theorem hue_row8 : okP 8 = true := by decide +kernel
theorem hue_row9 : okP 9 = true := by decide +kernel
theorem hue_row10 : okP 10 = true := by decide +kernel
theorem hue_row11 : okP 11 = true := by decide +kernel
theorem hue_row12 : okP 12 = true := by decide +kernel
theorem hue_row13 : okP 13 = true := by decide +kernel
theorem hue_row14 : okP 14 = true := by decide +kernel
theorem hue_row15 : okP 15 = true := by decide +kernel
theorem hue_rows : ∀ p, p < 16 → okP p = true := fun p h => match p, h with
  | 0, _ => hue_row0
  | 1, _ => hue_row1
  | 2, _ => hue_row2
  | 3, _ => hue_row3
  | 4, _ => hue_row4
  | 5, _ => hue_row5
  | 6, _ => hue_row6
  | 7, _ => hue_row7
  | 8, _ => hue_row8
  | 9, _ => hue_row9
  | 10, _ => hue_row10
  | 11, _ => hue_row11
  | 12, _ => hue_row12
  | 13, _ => hue_row13
  | 14, _ => hue_row14
  | 15, _ => hue_row15
  | _ + 16, h => absurd h (by omega)
theorem hue_table {p d b : Nat} (hp : p < 16) (hd : 1 ≤ d ∧ d ≤ 4) (hb : 1 ≤ b ∧ b ≤ 4) : okC p d b = true := by
  have h := List.all_eq_true.mp (List.all_eq_true.mp (hue_rows p hp) (d - 1) (List.mem_range.mpr (by omega))) (b - 1) (List.mem_range.mpr (by omega))
  rwa [show d - 1 + 1 = d by omega, show b - 1 + 1 = b by omega] at h
structure Hue (x y c : UInt64) (n : Int) : Prop where
  a1 : (Float64.cmp y 0 == some Ordering.eq) = false
  a2 : Float64.isNaN (Float64.mul x 4618441417868443648) = false
  a3 : Float64.isInf (Float64.mul x 4618441417868443648) = false
  a4 : (Flt.toInt Float64.truncOf (Float64.mul x 4618441417868443648)).natAbs < 2 ^ 1024 - 2 ^ 970
  b1 : (Float64.cmp (pick3 flt (hsvR x y c).1 (hsvR x y c).2.1 (hsvR x y c).2.2) (pick3 fgt (hsvR x y c).1 (hsvR x y c).2.1 (hsvR x y c).2.2) == some Ordering.eq) = false
  b2 : Float64.isZero (Float64.add (pick3 fgt (hsvR x y c).1 (hsvR x y c).2.1 (hsvR x y c).2.2) (pick3 flt (hsvR x y c).1 (hsvR x y c).2.1 (hsvR x y c).2.2)) = false
  b3 : Float64.isZero (Float64.sub (pick3 fgt (hsvR x y c).1 (hsvR x y c).2.1 (hsvR x y c).2.2) (pick3 flt (hsvR x y c).1 (hsvR x y c).2.1 (hsvR x y c).2.2)) = false
  b4 : Float64.isZero (Float64.sub (Float64.sub 4611686018427387904 (pick3 fgt (hsvR x y c).1 (hsvR x y c).2.1 (hsvR x y c).2.2)) (pick3 flt (hsvR x y c).1 (hsvR x y c).2.1 (hsvR x y c).2.2)) = false
  h : hlsH (hsvR x y c).1 (hsvR x y c).2.1 (hsvR x y c).2.2 = x
  l : (Float64.cmpInt (Float64.mul (hlsL (hsvR x y c).1 (hsvR x y c).2.1 (hsvR x y c).2.2) (Float64.ofInt 32)) n == some Ordering.eq) = true
theorem big_ten {n : Nat} (h : n < 10) : n < 2 ^ 1024 - 2 ^ 970 := Nat.lt_trans h (by decide +kernel)
theorem hue_of {p d b : Nat} (hp : p < 16) (hd : 1 ≤ d ∧ d ≤ 4) (hb : 1 ≤ b ∧ b ≤ 4) : Hue (hue16 p) (qtr d) (qtr b) ((b : Int) * (8 - (d : Int))) := by
  have z := hue_table hp hd hb
  unfold okC at z
  simp only [Bool.and_eq_true, beq_iff_eq, decide_eq_true_eq] at z
  obtain ⟨⟨⟨⟨⟨⟨⟨⟨⟨a1, a2⟩, a3⟩, a4⟩, b1⟩, b2⟩, b3⟩, b4⟩, h⟩, l⟩ := z
  exact ⟨a1, a2, a3, big_ten a4, b1, b2, b3, b4, h, by rw [l]; rfl⟩
theorem frac16 : (List.range 16).all (fun n => (Float64.ofFrac (decide ((n : Int) < 0) != decide ((16 : Int) < 0)) (n : Int).natAbs (16 : Int).natAbs == hue16 n) && (Float64.isInf (hue16 n) == false)) = true := by decide +kernel
theorem frac4 : (List.range 5).all (fun n => (Float64.ofFrac (decide ((n : Int) < 0) != decide ((4 : Int) < 0)) (n : Int).natAbs (4 : Int).natAbs == qtr n) && (Float64.isInf (qtr n) == false)) = true := by decide +kernel
theorem sixteen : (List.range 16).all (fun n => (Float64.cmpInt (Float64.mul (hue16 n) (Float64.ofInt 16)) (n : Int) == some Ordering.eq) && (Float64.isNaN (Float64.mul (hue16 n) (Float64.ofInt 16)) == false) && (Float64.isInf (Float64.mul (hue16 n) (Float64.ofInt 16)) == false) && (Flt.toInt Float64.truncOf (Float64.mul (hue16 n) (Float64.ofInt 16)) == (n : Int))) = true := by decide +kernel
section
variable {prog : Program} {w : World} {A : Around} {E : Value → Shared → Prop} {s : Shared} {Q : Value → Shared → Prop} {t u : Tok}
theorem div16 {n : Int} (h0 : 0 ≤ n) (h1 : n < 16) (h : Q (.float (hue16 n.toNat) s.toks) { s with toks := s.toks + 1 }) : wpAny (model prog w) A (binaryOp .Div (.int n t) (.int 16 u)) Q E s := by
  obtain ⟨k, rfl⟩ := Int.eq_ofNat_of_zero_le h0
  have z := List.all_eq_true.mp frac16 k (List.mem_range.mpr (by omega))
  simp only [Bool.and_eq_true, beq_iff_eq] at z
  refine AutoIntOps.truediv_2 (by decide) (by rw [z.1, z.2]; decide) ?_
  rw [z.1]
  exact h
theorem div4 {n : Int} (h0 : 0 ≤ n) (h1 : n < 5) (h : Q (.float (qtr n.toNat) s.toks) { s with toks := s.toks + 1 }) : wpAny (model prog w) A (binaryOp .Div (.int n t) (.int 4 u)) Q E s := by
  obtain ⟨k, rfl⟩ := Int.eq_ofNat_of_zero_le h0
  have z := List.all_eq_true.mp frac4 k (List.mem_range.mpr (by omega))
  simp only [Bool.and_eq_true, beq_iff_eq] at z
  refine AutoIntOps.truediv_2 (by decide) (by rw [z.1, z.2]; decide) ?_
  rw [z.1]
  exact h
end
end Mine
end
section
open PySem PySem.W PySem.Calls PyProof.Rows
set_option maxRecDepth 100000
set_option maxHeartbeats 8000000
namespace Mine
noncomputable def lawF (p : Params) : Option FuncData := match (hd.heap_39 p).lookup 116 with
  | some ⟨_, _, .func fd, _⟩ => some fd
  | _ => none
noncomputable def lawStmts (p : Params) : List Stmt := match lawF p with
  | some fd => (match fd.body with | .stmts b => b | _ => [])
  | none => []
noncomputable def lawScope (p : Params) : Scope := match lawF p with
  | some fd => fd.scope
  | none => default
theorem lawF_some (p : Params) : (lawF p).isSome = true := by with_unfolding_all rfl
theorem lawStmts_len (p : Params) : (lawStmts p).length = 13 := by with_unfolding_all rfl
noncomputable abbrev lawEnv (fa9 : Addr) (cd9 : Value) (p : Params) (L : Addr) : Env := envOfC (Str.ofString "law") (lawScope p) L fa9 cd9
end Mine
end
section
open PySem PySem.W PySem.Calls PyProof.Rows
set_option maxRecDepth 100000
set_option maxHeartbeats 8000000
namespace Mine
section
variable {prog : Program} {w : World} {A : Around} {E : Value → Shared → Prop} {s : Shared} {env : Env} {h₀ : Heap} {x : Str} {body : List Stmt} {Q : Flow → Shared → Prop}
theorem off_cls {h₀ h : Heap} {L I : Addr} {it : Obj} {n : String} {all need : List (Addr × Obj)} (N : News h₀ L h all) (hI : (I, it) ∈ all) (hit : it.cls = .type n) (sub : ∀ p ∈ need, p ∈ all) (off : ∀ p ∈ need, p.2.cls ≠ .type n) : ∀ p ∈ need, p.1 ≠ I := by
  intro p hp e
  have h1 := (N p (sub p hp)).1
  have h2 := (N _ hI).1
  rw [e] at h1
  have h3 : p.2 = it := Option.some.inj (h1.symm.trans h2)
  exact off p hp (by rw [h3]; exact hit)
theorem UnrEnd.cls {L I : Addr} {it : Obj} {n : String} {rest : (Str → Option Value) → List (Addr × Obj) → Prop} {s₁ : Shared} {h' : Heap} {tk : Nat} {m' : Str → Option Value} {all : List (Addr × Obj)} (F : Fr h₀ L h' m') (N : News h₀ L h' all) (need : List (Addr × Obj))
    (hI : (I, it) ∈ all) (hit : it.cls = .type n) (sub : ∀ p ∈ need, p ∈ all) (off : ∀ p ∈ need, p.2.cls ≠ .type n) (r : rest m' need) : UnrEnd h₀ L s₁ I it rest { s₁ with heap := h', toks := tk } :=
  UnrEnd.intro F N need (fun p hp => by
    rcases List.mem_cons.mp hp with rfl | hp
    · exact hI
    · exact sub p hp) (off_cls N hI hit sub off) r
theorem ListRest.ofJ {I : Addr} {lp : Addr × Obj} {vs : List Value} (J : Nat → (Str → Option Value) → List (Addr × Obj) → Prop)
    (turn : ∀ i v, vs[i]? = some v → ∀ m news it h tk, it.cls = .type "list_iterator" → lp ∈ news → J i m news → Fr h₀ env.locals h (fun y => if y = x then some v else m y) → News h₀ env.locals h ((I, it) :: news) →
      wpAny (model prog w) A (execs body env) (UnrPost h₀ env.locals { s with heap := h, toks := tk } I it (fun m' n' => lp ∈ n' ∧ J (i + 1) m' n') Q) E { s with heap := h, toks := tk })
    (done : ∀ m news h tk, J vs.length m news → Fr h₀ env.locals h m → News h₀ env.locals h news → Q .next { s with heap := h, toks := tk }) :
    ∀ (k i : Nat) m news, i + k = vs.length → lp ∈ news → J i m news → ListRest prog w A E h₀ env x body Q s I lp (vs.drop i) m news
  | 0, i, m, news, e, _, hJ => by
    have e : i = vs.length := by omega
    subst e
    rw [List.drop_length]
    exact ListRest.zero fun h tk F N => done m news h tk hJ F N
  | k + 1, i, m, news, e, hm, hJ => by
    have hlt : i < vs.length := by omega
    rw [List.drop_eq_getElem_cons hlt]
    refine ListRest.succ fun it h tk hit F N => ?_
    refine wpAny_mono (turn i vs[i] (List.getElem?_eq_getElem hlt) m news it h tk hit hm hJ F N) (fun f s₂ p => ?_) fun _ _ e => e
    have up : UnrEnd h₀ env.locals { s with heap := h, toks := tk } I it (fun m' n' => lp ∈ n' ∧ J (i + 1) m' n') s₂ → UnrEnd h₀ env.locals { s with heap := h, toks := tk } I it (fun m' n' => lp ∈ n' ∧ ListRest prog w A E h₀ env x body Q s I lp (vs.drop (i + 1)) m' n') s₂ := by
      rintro ⟨h', tk', m', news', e', F', N', off, hm', hJ'⟩
      exact ⟨h', tk', m', news', e', F', N', off, hm', ListRest.ofJ J turn done k (i + 1) m' news' (by omega) hm' hJ'⟩
    cases f with
    | ret v => exact p
    | brk => exact p
    | next => exact up p
    | cont => exact up p
theorem RangeRest.ofJ {I : Addr} {a : Int} {n : Nat} (J : Nat → (Str → Option Value) → List (Addr × Obj) → Prop)
    (turn : ∀ i, i < n → ∀ m news t h tk, J i m news → Fr h₀ env.locals h (fun y => if y = x then some (.int (a + (i : Int)) t) else m y) → News h₀ env.locals h ((I, itR (a + ((i + 1 : Nat) : Int)) ((n : Int) - ((i + 1 : Nat) : Int))) :: news) →
      wpAny (model prog w) A (execs body env) (UnrPost h₀ env.locals { s with heap := h, toks := tk } I (itR (a + ((i + 1 : Nat) : Int)) ((n : Int) - ((i + 1 : Nat) : Int))) (J (i + 1)) Q) E { s with heap := h, toks := tk })
    (done : ∀ m news h tk, J n m news → Fr h₀ env.locals h m → News h₀ env.locals h news → Q .next { s with heap := h, toks := tk }) :
    ∀ (k i : Nat) m news, i + k = n → J i m news → RangeRest prog w A E h₀ env x body Q s I a n k i m news
  | 0, i, m, news, e, hJ => by
    have e : i = n := by omega
    subst e
    exact RangeRest.zero fun h tk F N => done m news h tk hJ F N
  | k + 1, i, m, news, e, hJ => by
    refine RangeRest.succ fun t h tk F N => ?_
    refine wpAny_mono (turn i (by omega) m news t h tk hJ F N) (fun f s₂ p => ?_) fun _ _ e => e
    have up : ∀ it, UnrEnd h₀ env.locals { s with heap := h, toks := tk } I it (J (i + 1)) s₂ → UnrEnd h₀ env.locals { s with heap := h, toks := tk } I it (RangeRest prog w A E h₀ env x body Q s I a n k (i + 1)) s₂ := by
      rintro it ⟨h', tk', m', news', e', F', N', off, hJ'⟩
      exact ⟨h', tk', m', news', e', F', N', off, RangeRest.ofJ J turn done k (i + 1) m' news' (by omega) hJ'⟩
    cases f with
    | ret v => exact p
    | brk => exact p
    | next => exact up _ p
    | cont => exact up _ p
end
open LCg in
theorem CompRest.ofJ {prog : Program} {w : World} {A : Around} {h₀ : Heap} {L : Addr} {m : Str → Option Value} {env : Env} {elt : Expr} {x : Str} {scope : Scope} {cl : List (Str × Addr)} {s : Shared} {S : List (Addr × Obj) → Prop} {P : Nat → Value → Prop} {Fin : List Value → List (Addr × Obj) → Prop} {n : Nat}
    (J : Nat → List Value → List (Addr × Obj) → Prop)
    (turn : ∀ i, i < n → ∀ ys news v I oI C oC D m₂ h tk (E' : Value → Shared → Prop), J i ys news → P i v → NsObj oC m₂ → m₂ x = some v → Fr h₀ L h m → News h₀ L h ((I, oI) :: (C, oC) :: (D, lst ys) :: news) → Off3 I C D news → ((@Ne Nat I C) ∧ (@Ne Nat I D) ∧ (@Ne Nat C D)) →
      wpAny (model prog w) A (eval elt (compEnvC scope cl C env)) (CompEnd h₀ L m { s with heap := h, toks := tk } I oI C oC D (lst ys) S (fun y news' => J (i + 1) (ys ++ [y]) news')) E' { s with heap := h, toks := tk })
    (done : ∀ ys news, J n ys news → Fin ys news) :
    ∀ (k i : Nat) ys news, i + k = n → J i ys news → CompRest prog w A h₀ L m env elt x scope cl s S P Fin k i ys news
  | 0, i, ys, news, e, hJ => by
    have e : i = n := by omega
    subst e
    exact CompRest.zero (done ys news hJ)
  | k + 1, i, ys, news, e, hJ => by
    refine CompRest.succ fun v I oI C oC D m₂ h tk E' hP hC hx F N off ne => ?_
    refine wpAny_mono (turn i (by omega) ys news v I oI C oC D m₂ h tk E' hJ hP hC hx F N off ne) (fun y s₂ p => ?_) fun _ _ e => e
    obtain ⟨h', tk', news', e', F', N', off', hS', hJ'⟩ := p
    exact ⟨h', tk', news', e', F', N', off', hS', CompRest.ofJ J turn done k (i + 1) (ys ++ [y]) news' (by omega) hJ'⟩
theorem News.dup {h₀ h : Heap} {L : Addr} {q : Addr × Obj} {news : List (Addr × Obj)} (hm : q ∈ news) (N : News h₀ L h news) : News h₀ L h ([q] ++ news) := fun p hp => by
  rcases List.mem_append.mp hp with c | c
  · rw [List.mem_singleton.mp c]; exact N q hm
  · exact N p c
theorem News.undup {h₀ h : Heap} {L : Addr} {q : Addr × Obj} {news : List (Addr × Obj)} (N : News h₀ L h ([q] ++ news)) : News h₀ L h news := fun p hp => N p (List.mem_append_right _ hp)
theorem News.less {h₀ h : Heap} {L : Addr} {all need : List (Addr × Obj)} (N : News h₀ L h all) (sub : SubL need all) : News h₀ L h need := fun p hp => N p (sub.mem p hp)
inductive Are {α : Type} (f : α → Tok → Value) : List Value → List α → Prop
  | nil : Are f [] []
  | cons (x : α) (t : Tok) {vs : List Value} {xs : List α} (r : Are f vs xs) : Are f (f x t :: vs) (x :: xs)
section
variable {α : Type} {f : α → Tok → Value}
theorem Are.snoc : ∀ {vs : List Value} {xs : List α} (x : α) (t : Tok), Are f vs xs → Are f (vs ++ [f x t]) (xs ++ [x])
  | _, _, x, t, .nil => .cons x t .nil
  | _, _, x, t, .cons y u r => .cons y u (r.snoc x t)
theorem Are.len : ∀ {vs : List Value} {xs : List α}, Are f vs xs → vs.length = xs.length
  | _, _, .nil => rfl
  | _, _, .cons _ _ r => congrArg Nat.succ r.len
theorem Are.get : ∀ {vs : List Value} {xs : List α}, Are f vs xs → ∀ (i : Nat) (x : α), xs[i]? = some x → ∃ t, vs[i]? = some (f x t)
  | _, _, .nil, _, _, h => by simp at h
  | _, _, .cons y u r, 0, x, h => by
    have e : y = x := by simpa using h
    exact ⟨u, by simp [e]⟩
  | _, _, .cons y u r, i + 1, x, h => by
    obtain ⟨t, e⟩ := r.get i x (by simpa using h)
    exact ⟨t, by simpa using e⟩
theorem Are.back : ∀ {vs : List Value} {xs : List α}, Are f vs xs → ∀ (i : Nat) (v : Value), vs[i]? = some v → ∃ x t, xs[i]? = some x ∧ v = f x t
  | _, _, .nil, _, _, h => by simp at h
  | _, _, .cons y u r, 0, v, h => ⟨y, u, by simp, by
    have e : f y u = v := by simpa using h
    exact e.symm⟩
  | _, _, .cons y u r, i + 1, v, h => by
    obtain ⟨x, t, e, e'⟩ := r.back i v (by simpa using h)
    exact ⟨x, t, by simpa using e, e'⟩
theorem Are.four {vs : List Value} {a b c d : α} (h : Are f vs [a, b, c, d]) : ∃ ta tb tc td, vs = [f a ta, f b tb, f c tc, f d td] := by
  cases h with | cons _ ta h => cases h with | cons _ tb h => cases h with | cons _ tc h => cases h with | cons _ td h => cases h; exact ⟨ta, tb, tc, td, rfl⟩
end
inductive Two {α β : Type} (R : α → β → Prop) : List α → List β → Prop
  | nil : Two R [] []
  | cons {a : α} {b : β} {as : List α} {bs : List β} (h : R a b) (r : Two R as bs) : Two R (a :: as) (b :: bs)
section
variable {α β : Type} {R : α → β → Prop}
theorem Two.snoc : ∀ {as : List α} {bs : List β} {a : α} {b : β}, Two R as bs → R a b → Two R (as ++ [a]) (bs ++ [b])
  | _, _, _, _, .nil, h => .cons h .nil
  | _, _, _, _, .cons g r, h => .cons g (r.snoc h)
theorem Two.len : ∀ {as : List α} {bs : List β}, Two R as bs → bs.length = as.length
  | _, _, .nil => rfl
  | _, _, .cons _ r => congrArg Nat.succ r.len
theorem Two.get : ∀ {as : List α} {bs : List β}, Two R as bs → ∀ (i : Nat) (a : α), as[i]? = some a → ∃ b, bs[i]? = some b ∧ R a b
  | _, _, .nil, _, _, h => by simp at h
  | _, _, .cons (a := a') (b := b') g r, 0, a, h => by
    have e : a' = a := by simpa using h
    subst e
    exact ⟨b', by simp, g⟩
  | _, _, .cons g r, i + 1, a, h => by
    obtain ⟨b, e, e'⟩ := r.get i a (by simpa using h)
    exact ⟨b, by simpa using e, e'⟩
theorem Two.back : ∀ {as : List α} {bs : List β}, Two R as bs → ∀ (i : Nat) (b : β), bs[i]? = some b → ∃ a, as[i]? = some a ∧ R a b
  | _, _, .nil, _, _, h => by simp at h
  | _, _, .cons (a := a') (b := b') g r, 0, b, h => by
    have e : b' = b := by simpa using h
    subst e
    exact ⟨a', by simp, g⟩
  | _, _, .cons g r, i + 1, b, h => by
    obtain ⟨a, e, e'⟩ := r.back i b (by simpa using h)
    exact ⟨a, by simpa using e, e'⟩
end
theorem take_snoc {α : Type} {xs : List α} {i : Nat} {x : α} (h : xs[i]? = some x) : xs.take (i + 1) = xs.take i ++ [x] := by
  rw [List.take_add_one, h]; rfl
abbrev natV (n : Nat) (t : Tok) : Value := .int n t
theorem pin1 {a : Str} {v : Value} {m : Str → Option Value} (ha : m a = some v) : m = fun y => if y = a then some v else m y := by
  funext y
  by_cases h1 : y = a
  · rw [if_pos h1, h1]; exact ha
  · rw [if_neg h1]
theorem pin2 {a b : Str} {v w : Value} {m : Str → Option Value} (ha : m a = some v) (hb : m b = some w) : m = fun y => if y = a then some v else if y = b then some w else m y := by
  funext y
  by_cases h1 : y = a
  · rw [if_pos h1, h1]; exact ha
  · rw [if_neg h1]
    by_cases h2 : y = b
    · rw [if_pos h2, h2]; exact hb
    · rw [if_neg h2]
theorem pin3 {a b c : Str} {v w z : Value} {m : Str → Option Value} (ha : m a = some v) (hb : m b = some w) (hc : m c = some z) : m = fun y => if y = a then some v else if y = b then some w else if y = c then some z else m y := by
  conv => lhs; rw [pin1 ha, pin2 hb hc]
def AllNe (d : Addr) : List (Addr × Obj) → Prop
  | [] => True
  | p :: r => @Ne Nat p.1 d ∧ AllNe d r
theorem allNe_of {d : Addr} : ∀ {l : List (Addr × Obj)}, (∀ p ∈ l, p.1 ≠ d) → AllNe d l
  | [], _ => trivial
  | p :: _, h => ⟨h p (.head _), allNe_of fun q hq => h q (.tail _ hq)⟩
noncomputable def lawSt (p : Params) (k : Nat) : Stmt := match (lawStmts p)[k]? with
  | some st => st
  | none => .Pass default
theorem lawStmts_eq (p : Params) : lawStmts p = [lawSt p 0, lawSt p 1, lawSt p 2, lawSt p 3, lawSt p 4, lawSt p 5, lawSt p 6, lawSt p 7, lawSt p 8, lawSt p 9, lawSt p 10, lawSt p 11, lawSt p 12] := by
  have h := lawStmts_len p
  unfold lawSt
  match lawStmts p, h with
  | [_, _, _, _, _, _, _, _, _, _, _, _, _], _ => rfl
end Mine
end
section
open PySem PySem.W PySem.Calls PyProof.Rows
set_option maxRecDepth 100000
set_option maxHeartbeats 1000000
namespace Mine
def chain : List (Str × Value) → (Str → Option Value) → Str → Option Value
  | [], m => m
  | (a, v) :: r, m => fun y => if y = a then some v else chain r m y
def Pins (m : Str → Option Value) : List (Str × Value) → Prop
  | [] => True
  | (a, v) :: r => m a = some v ∧ Pins m r
theorem pinL {m : Str → Option Value} : ∀ {l : List (Str × Value)}, Pins m l → m = chain l m
  | [], _ => rfl
  | (a, v) :: r, h => by
    funext y
    show m y = if y = a then some v else chain r m y
    by_cases e : y = a
    · rw [if_pos e, e]; exact h.1
    · rw [if_neg e, ← pinL h.2]
theorem Pins.set {m : Str → Option Value} {a : Str} {v : Value} : ∀ {l : List (Str × Value)}, Pins m l → (l.all fun p => decide (p.1 ≠ a)) = true → Pins (fun y => if y = a then some v else m y) l
  | [], _, _ => trivial
  | (b, u) :: r, h, d => by
    simp only [List.all_cons, Bool.and_eq_true, decide_eq_true_eq] at d
    exact ⟨by show (if b = a then some v else m b) = some u; rw [if_neg d.1]; exact h.1, Pins.set h.2 d.2⟩
section
variable {prog : Program} {w : World} {A : Around} {E : Value → Shared → Prop} {s : Shared} {env : Env} {h₀ : Heap} {x : Str} {body : List Stmt} {Q : Flow → Shared → Prop}
theorem iter_rangeJ {r : Addr} {a₀ b₀ c : Int} {t₀ u₀ v₀ : Tok} {n : Nat} {m₀ : Str → Option Value} {news : List (Addr × Obj)} (J : Nat → (Str → Option Value) → List (Addr × Obj) → Prop)
    (hh : A.handled = none) (hr : IsRange s.heap r a₀ b₀ c t₀ u₀ v₀) (hsmall : Builtin.Range.small a₀ b₀ c = true) (hn : Builtin.Range.rangeSize a₀ b₀ c = (n : Int)) (F : Fr h₀ env.locals s.heap m₀) (N : News h₀ env.locals s.heap news) (h0 : J 0 m₀ news)
    (turn : ∀ i, i < n → ∀ m₁ news₁ t h tk I it, J i m₁ news₁ → (∀ p ∈ news₁, p.1 ≠ I) → (∀ p ∈ news, p.1 < I) → it.cls = .type "range_iterator" → Fr h₀ env.locals h (fun y => if y = x then some (.int (a₀ + (i : Int) * c) t) else m₁ y) → News h₀ env.locals h ((I, it) :: news₁) →
      wpAny (model prog w) A (execs body env) (UnrPost h₀ env.locals { s with heap := h, toks := tk } I it (J (i + 1)) Q) E { s with heap := h, toks := tk })
    (done : ∀ m₁ news₁ h tk, J n m₁ news₁ → Fr h₀ env.locals h m₁ → News h₀ env.locals h news₁ → Q .next { s with heap := h, toks := tk }) :
    wpAny (model prog w) A (pyIter (.ref r)) (fun it s₂ => LoopAtV prog w A h₀ env x body Q E it s₂) E s := by
  refine wpAny_pyIter_range hr hsmall ?_
  have below : ∀ p ∈ news, p.1 < s.heap.objs.size := fun p hp => Heap.lt_size (N p hp).1
  generalize hI : s.heap.objs.size = I
  have W : Walks prog w A I [I] [I] n (fun i v => i < n ∧ ∃ t, v = .int (a₀ + i * c) t) (fun i h => IsRangeIter h I (a₀ + (i : Nat) * c) ((n : Int) - (i : Nat)) c) := (Walks.range hh _ a₀ c n).bound
  have hnew : h₀.get? I = none := hI ▸ next_is_new F
  have hIL : env.locals ≠ I := fun e => absurd F.ns.lt (by rw [e, hI]; exact Nat.lt_irrefl _)
  refine ⟨I, [I], [I], n, _, _, m₀, news, J, rfl, W, by simpa using hIL, fun b hb => by rw [List.mem_singleton.mp hb]; exact hnew, fun p hp hm => ?_, ?_, F.push _, fun p hp => ⟨Heap.get?_push_of_some _ (N p hp).1, (N p hp).2⟩, h0, ?_, ?_⟩
  · have q := below p hp
    rw [List.mem_singleton.mp hm, hI] at q
    exact Nat.lt_irrefl _ q
  · show IsRangeIter _ _ _ _ _
    rw [hn]
    have z := Heap.get?_push_size s.heap (o := { cls := .type "range_iterator", data := .fields #[rawInt a₀, rawInt n, rawInt c] }) rfl
    rw [hI] at z
    simpa using z
  · rintro i v m₁ news₁ s₁ own ⟨h, tk, rfl⟩ hi ⟨_, t, rfl⟩ hJ hoff hown hget hall hst F₁ N₁
    have off : ∀ p ∈ news₁, p.1 ≠ I := fun p hp e => hoff p hp (by rw [e]; exact List.mem_singleton.mpr rfl)
    obtain ⟨it, hit, hcls⟩ : ∃ it, h.get? I = some it ∧ it.cls = .type "range_iterator" := ⟨_, hst, rfl⟩
    have hm : (I, it) ∈ own := hall I (List.mem_singleton.mpr rfl) hnew it hit
    have N₂ : News h₀ env.locals h ((I, it) :: news₁) := fun p hp => by
      rcases List.mem_cons.mp hp with rfl | hp
      · exact N₁ _ (List.mem_append_left _ hm)
      · exact N₁ _ (List.mem_append_right _ hp)
    refine wpAny_mono (turn i hi m₁ news₁ t h tk I it hJ off (fun p hp => hI ▸ below p hp) hcls F₁ N₂) (fun f s₂ p => ?_) fun _ _ e => e
    have fin : UnrEnd h₀ env.locals { s with heap := h, toks := tk } I it (J (i + 1)) s₂ → LoopStepU h₀ env.locals [I] own (J (i + 1)) { s with heap := h, toks := tk } .next s₂ := by
      rintro ⟨h', tk', m', news', e, F', N', off', hJ'⟩
      refine ⟨rfl, h', tk', m', news', e, F', fun p hp => ?_, fun p hp hq => off' p hp (List.mem_singleton.mp hq), hJ'⟩
      rcases List.mem_append.mp hp with hp | hp
      · have e1 : p.1 = I := List.mem_singleton.mp (hown p hp)
        have e2 : p = (I, it) := Prod.ext e1 (by have q := hget p hp; rw [e1, hit] at q; exact (Option.some.inj q).symm)
        rw [e2]; exact N' _ (List.mem_cons_self ..)
      · exact N' _ (List.mem_cons_of_mem _ hp)
    cases f with
    | ret v => exact .ret p
    | brk => exact .brk p
    | next => exact .next (fin p)
    | cont => exact .cont (fin p)
  · rintro h tk m' news' F' N' _ hJ
    exact done m' news' h tk hJ F' N'
theorem item_led {D : Addr} {vs : List Value} {k e : Nat} {u : Tok} {v : Value} {L : Addr} {news : List (Addr × Obj)} {value slice : PySem.Expr} {Q : Value → Shared → Prop} (N : News h₀ L s.heap news) (hx : vs[e]? = some v) (hm : (D, ({ cls := .type "list", data := .seq vs.toArray k } : Obj)) ∈ news) (he : e < 1000) (h : Q v s)
    (hs : subscripted slice false (.ref D) (.int (e : Int) u) = operate [.ref D, .int (e : Int) u] (getItem (.ref D) (.int (e : Int) u)) := by with_unfolding_all rfl) :
    wpAny (model prog w) A (subscriptTail value slice (.ref D) (.int (e : Int) u)) Q E s :=
  have hl : s.heap.IsList D vs.toArray := News.isList N hm
  tail_any hl.typeIs slot_list_getitem.lookup (wpAny_getItem_list hl (Int.natCast_nonneg e) (by omega) (by simpa using hx) h) hs
end
end Mine
end
section
open PySem PySem.W PySem.Calls PyProof.Rows
set_option maxRecDepth 100000
set_option maxHeartbeats 8000000
namespace Mine
def tupZ (zs : List Int) (ts : List Tok) : Obj := { cls := .type "tuple", data := .seq (List.zipWith Value.int zs ts).toArray }
def IsZs (zs : List Int) (o : Obj) : Prop := ∃ ts : List Tok, ts.length = zs.length ∧ o = tupZ zs ts
def Six (zs : List Int) : Prop := zs = [1, 2] ∨ zs = [1, 4] ∨ zs = [1, 8] ∨ zs = [1, 2, 4] ∨ zs = [1, 2, 8] ∨ zs = [1, 4, 8]
theorem IsZs.two {a b : Int} {o : Obj} (h : IsZs [a, b] o) : ∃ t u, o = { cls := .type "tuple", data := .seq #[.int a t, .int b u] } := by
  obtain ⟨ts, hl, rfl⟩ := h
  match ts, hl with
  | [t, u], _ => exact ⟨t, u, rfl⟩
theorem IsZs.three {a b c : Int} {o : Obj} (h : IsZs [a, b, c] o) : ∃ t u v, o = { cls := .type "tuple", data := .seq #[.int a t, .int b u, .int c v] } := by
  obtain ⟨ts, hl, rfl⟩ := h
  match ts, hl with
  | [t, u, v], _ => exact ⟨t, u, v, rfl⟩
theorem IsZ.six {o : Obj} (h : IsZ o) : ∃ zs, Six zs ∧ IsZs zs o := by
  rcases h with ⟨z, t1, t2, hz, rfl⟩ | ⟨y, z, t1, t2, t3, hz, rfl⟩
  · rcases hz with rfl | rfl | rfl
    · exact ⟨_, .inl rfl, [t1, t2], rfl, rfl⟩
    · exact ⟨_, .inr (.inl rfl), [t1, t2], rfl, rfl⟩
    · exact ⟨_, .inr (.inr (.inl rfl)), [t1, t2], rfl, rfl⟩
  · rcases hz with ⟨rfl, rfl⟩ | ⟨rfl, rfl⟩ | ⟨rfl, rfl⟩
    · exact ⟨_, .inr (.inr (.inr (.inl rfl))), [t1, t2, t3], rfl, rfl⟩
    · exact ⟨_, .inr (.inr (.inr (.inr (.inl rfl)))), [t1, t2, t3], rfl, rfl⟩
    · exact ⟨_, .inr (.inr (.inr (.inr (.inr rfl)))), [t1, t2, t3], rfl, rfl⟩
theorem fd (p k : Int) (hp : 0 ≤ p ∧ p < 16) (hk : k = 1 ∨ k = 2 ∨ k = 4 ∨ k = 8) : 0 ≤ p.fdiv k ∧ p.fdiv k < 16 ∧ p.fdiv k * k ≤ p := by
  rw [Int.fdiv_eq_ediv_of_nonneg p (by omega)]
  rcases hk with rfl | rfl | rfl | rfl <;> omega
theorem host_g (prog : Program) (w : World) (zs : List Int) (hs : Six zs) (o : Obj) (ho : IsZs zs o) (p : Int) (tp : Tok) (Dz : Addr) (hp : 0 ≤ p ∧ p < 16) :
    GivesP prog w 99 8 40 [(Dz, o)] [.int p tp, .ref Dz] (fun v => ∃ t, v = .str (hostT zs p) t) := by
  have q2 := fd p 2 hp (by decide)
  have q4 := fd p 4 hp (by decide)
  have q8 := fd p 8 hp (by decide)
  have e2 : Int.fdiv 16 2 = 8 := by decide
  have e4 : Int.fdiv 16 4 = 4 := by decide
  rcases hs with rfl | rfl | rfl | rfl | rfl | rfl
  · obtain ⟨t, u, rfl⟩ := ho.two
    exact host2_gives prog w p 2 tp t u Dz hp (by decide) ⟨by omega, by omega⟩
  · obtain ⟨t, u, rfl⟩ := ho.two
    exact host2_gives prog w p 4 tp t u Dz hp (by decide) ⟨by omega, by omega⟩
  · obtain ⟨t, u, rfl⟩ := ho.two
    exact host2_gives prog w p 8 tp t u Dz hp (by decide) ⟨by omega, by omega⟩
  · obtain ⟨t, u, v, rfl⟩ := ho.three
    exact host3_gives prog w p 2 4 tp t u v Dz hp (by decide) (by rw [e2]; omega)
  · obtain ⟨t, u, v, rfl⟩ := ho.three
    exact host3_gives prog w p 2 8 tp t u v Dz hp (by decide) (by rw [e2]; omega)
  · obtain ⟨t, u, v, rfl⟩ := ho.three
    exact host3_gives prog w p 4 8 tp t u v Dz hp (by decide) (by rw [e4]; omega)
theorem floors_g (prog : Program) (w : World) (zs : List Int) (hs : Six zs) (o : Obj) (ho : IsZs zs o) (p q : Int) (tp tq : Tok) (Dz : Addr) (hp : 0 ≤ p ∧ p < 16) (hq : 0 ≤ q ∧ q < 16) :
    GivesP prog w 111 20 80 [(Dz, o)] [.int p tp, .int q tq, .ref Dz] (fun v => ∃ t, v = .int (parted zs p q) t) := by
  rcases hs with rfl | rfl | rfl | rfl | rfl | rfl
  · obtain ⟨t, u, rfl⟩ := ho.two
    exact floors2_gives prog w p q 2 tp tq t u Dz hp hq (by decide)
  · obtain ⟨t, u, rfl⟩ := ho.two
    exact floors2_gives prog w p q 4 tp tq t u Dz hp hq (by decide)
  · obtain ⟨t, u, rfl⟩ := ho.two
    exact floors2_gives prog w p q 8 tp tq t u Dz hp hq (by decide)
  · obtain ⟨t, u, v, rfl⟩ := ho.three
    exact floors3_gives prog w p q 2 4 tp tq t u v Dz hp hq (by decide)
  · obtain ⟨t, u, v, rfl⟩ := ho.three
    exact floors3_gives prog w p q 2 8 tp tq t u v Dz hp hq (by decide)
  · obtain ⟨t, u, v, rfl⟩ := ho.three
    exact floors3_gives prog w p q 4 8 tp tq t u v Dz hp hq (by decide)
def up1 (x : Str) : Str := reachT (Txt.lstripChars x (Str.ofString "."))
def lad : Nat → Str → List Str
  | 0, x => [x]
  | n + 1, x => x :: lad n (up1 x)
def ClimbsN : Nat → Str → Prop
  | 0, _ => True
  | n + 1, x => Climbs x ∧ ClimbsN n (up1 x)
theorem are_strs : ∀ {xs : List Str} {rs : List Tok}, rs.length = xs.length → Are Value.str (List.zipWith Value.str xs rs) xs
  | [], _, _ => .nil
  | x :: xs, r :: rs, h => .cons x r (are_strs (by simpa using h))
def strsOf (xs : List Str) (rs : List Tok) : List Value := List.zipWith Value.str xs rs
theorem ladder_g (prog : Program) (w : World) (zs : List Int) (hs : Six zs) (o : Obj) (ho : IsZs zs o) (x : Str) (tx : Tok) (Dz : Addr) (hc : ClimbsN zs.length x) :
    GivesNewP prog w 106 20 80 [(Dz, o)] [.str x tx, .ref Dz] (fun o' => ∃ rs k, rs.length = (lad zs.length x).length ∧ o' = W.listOf (strsOf (lad zs.length x) rs).toArray k) := by
  have two : ∀ a b t u, zs = [a, b] → o = { cls := .type "tuple", data := .seq #[.int 1 t, .int b u] } → GivesNewP prog w 106 20 80 [(Dz, o)] [.str x tx, .ref Dz] (fun o' => ∃ rs k, rs.length = (lad zs.length x).length ∧ o' = W.listOf (strsOf (lad zs.length x) rs).toArray k) := by
    intro a b t u hz ho'
    subst hz ho'
    intro mean mg mb dp un gd cn cs a' ccd cl outer A₀ base h₀ L m news s Q E B F X N T hck hd hu hret
    refine ladder2_gives prog w x b tx t u Dz hc.1 hc.2.1 mean mg mb dp un gd cn cs a' ccd cl outer A₀ base h₀ L m news s Q E B F X N T hck hd hu fun D o' h' tk' hR => hret D o' h' tk' ?_
    obtain ⟨r0, r1, k, rfl⟩ := hR
    exact ⟨[tx, r0, r1], k, rfl, rfl⟩
  have three : ∀ a b c t u v, zs = [a, b, c] → o = { cls := .type "tuple", data := .seq #[.int 1 t, .int b u, .int c v] } → GivesNewP prog w 106 20 80 [(Dz, o)] [.str x tx, .ref Dz] (fun o' => ∃ rs k, rs.length = (lad zs.length x).length ∧ o' = W.listOf (strsOf (lad zs.length x) rs).toArray k) := by
    intro a b c t u v hz ho'
    subst hz ho'
    intro mean mg mb dp un gd cn cs a' ccd cl outer A₀ base h₀ L m news s Q E B F X N T hck hd hu hret
    refine ladder3_gives prog w x b c tx t u v Dz hc.1 hc.2.1 hc.2.2.1 mean mg mb dp un gd cn cs a' ccd cl outer A₀ base h₀ L m news s Q E B F X N T hck hd hu fun D o' h' tk' hR => hret D o' h' tk' ?_
    obtain ⟨r0, r1, r2, k, rfl⟩ := hR
    exact ⟨[tx, r0, r1, r2], k, rfl, rfl⟩
  rcases hs with rfl | rfl | rfl | rfl | rfl | rfl
  · obtain ⟨t, u, rfl⟩ := ho.two
    exact two _ _ t u rfl rfl
  · obtain ⟨t, u, rfl⟩ := ho.two
    exact two _ _ t u rfl rfl
  · obtain ⟨t, u, rfl⟩ := ho.two
    exact two _ _ t u rfl rfl
  · obtain ⟨t, u, v, rfl⟩ := ho.three
    exact three _ _ _ t u v rfl rfl
  · obtain ⟨t, u, v, rfl⟩ := ho.three
    exact three _ _ _ t u v rfl rfl
  · obtain ⟨t, u, v, rfl⟩ := ho.three
    exact three _ _ _ t u v rfl rfl
def Lads (n : Nat) : List Str → List (Addr × Obj) → Prop := Two fun x p => ∃ vs k, Are Value.str vs (lad n x) ∧ p.2 = W.listOf vs.toArray k
def refsOf (lds : List (Addr × Obj)) : List Value := lds.map fun p => .ref p.1
theorem sizes_g (prog : Program) (w : World) (k : Int) (tk : Tok) : GivesNewP prog w 92 8 40 [] [.int k tk] (fun o => ∃ zs, Six zs ∧ IsZs zs o) := by
  intro mean mg mb dp un gd cn cs a' ccd cl outer A₀ base h₀ L m news s Q E B F X N T hck hd hu hret
  exact sizes_gives prog w k tk mean mg mb dp un gd cn cs a' ccd cl outer A₀ base h₀ L m news s Q E B F X N T hck hd hu fun D o' h' tk' hR => hret D o' h' tk' hR.six
end Mine
end
section
open PySem PySem.W PySem.Calls PyProof.Rows
set_option maxRecDepth 100000
set_option maxHeartbeats 1000000
namespace Mine
variable {fa9 : Addr} {cd9 : Value}
theorem seg2 (w : World) (mean : ExcName → Option Value) (mg mb : Str → Option Value) (base h₀ : Heap) (L : Addr) (m : Str → Option Value) (s : Shared) (Q : Flow → Shared → Prop) (E : Value → Shared → Prop) (D : Addr) (o1 o2 : Obj) (x1 x2 x3 x4 : Int) (t1 t2 t3 t4 : Tok) (k : Nat)
    (B : Below callerA base [] h₀) (X : (hd.heap_39 w.params).In h₀) (T : Top hd.view_39 (looseW hd.view_39 [Str.ofString "IPV4_RE"]) mean mg mb h₀)
    (F : Fr h₀ L s.heap m) (mD : m (Str.ofString "drawn") = some (.ref D)) (d1 : o1.data = .cell none) (l1 : @LT.lt Nat _ (L + 1 + 1) D)
    (N : News h₀ L s.heap [(D, W.listOf #[.int x1 t1, .int x2 t2, .int x3 t3, .int x4 t4] k), (L + 1 + 1, o2), (L + 1, o1)])
    (hQ : ∀ m' h tk Dz o oc zs, Six zs → IsZs zs o → oc.data = .cell (some (.ref Dz)) → (@Ne Nat D Dz ∧ @Ne Nat (L + 1 + 1) Dz ∧ @Ne Nat (L + 1) Dz) → m' (Str.ofString "drawn") = some (.ref D) → Fr h₀ L h m' →
      News h₀ L h [(Dz, o), (D, W.listOf #[.int x1 t1, .int x2 t2, .int x3 t3, .int x4 t4] k), (L + 1 + 1, o2), (L + 1, oc)] → Q .next { s with heap := h, toks := tk }) :
    wpAny (model PySem.Challenge.rw_xe0040_01.row.prog w) (callerA.deeper (lawEnv fa9 cd9 w.params L)) (exec (lawSt w.params 2) (lawEnv fa9 cd9 w.params L)) Q E s := by
  k_with_none
  k_with "call ref" => (k_here; (with_reducible show wpAny _ _ (call (Value.ref 92) _ _) _ _ _); k_dflt (refine' sizes_g _ _ _ _ _ _ _ _ _ _ _ _ _ _ _ _ _ _ _ _ _ _ _ _ _ ?k1 ?k2 ?k3 ?k4 ?k5 ?k6 ?k7 ?k8 ?_; (case k1 => k_asm); (case k2 => k_asm); (case k3 => k_asm); (case k4 => (rename News _ _ _ _ => kN9q; exact kN9q)); (case k5 => k_asm); (case k6 => exact rfl); (case k7 => ktr_room); (case k8 => ktr_units)); intro D9q o9q h9q tk9q e9q F9q N9q l9q; (try simp only [List.nil_append, List.cons_append] at N9q l9q); k_dflt (replace l9q := allNe_of l9q); simp only [AllNe, and_true] at l9q; k_dflt (obtain ⟨zs9q, six9q, isz9q⟩ := e9q); (try dsimp only); (try k_fold))
  w_top off
  have hfill : PySem.Challenge.rw_xe0040_01 = PySem.Challenge.rw_xe0040_01 ∧ Mine.hd.heap_39 = Mine.hd.heap_39 := by (k_fill; exact ⟨rfl, rfl⟩)
  clear hfill
  generalize hS : lawSt w.params 2 = S
  generalize hC : lawScope w.params = C
  with_unfolding_all conv at hS => lhs; whnf
  with_unfolding_all conv at hC => lhs; whnf
  subst hS hC
  rw [pin1 mD] at F
  k_steps
  (with_reducible rename News _ _ _ _ => N9)
  (with_reducible rename Fr _ _ _ _ => F9)
  exact hQ _ _ _ _ _ _ _ (by with_reducible assumption) (by with_reducible assumption) (by with_reducible assumption) (by with_reducible assumption) (by with_unfolding_all rfl) F9 N9
theorem seg3 (w : World) (mean : ExcName → Option Value) (mg mb : Str → Option Value) (base h₀ : Heap) (L : Addr) (m : Str → Option Value) (s : Shared) (Q : Flow → Shared → Prop) (E : Value → Shared → Prop) (D Dz : Addr) (o oc o2 od : Obj)
    (B : Below callerA base [] h₀) (X : (hd.heap_39 w.params).In h₀) (T : Top hd.view_39 (looseW hd.view_39 [Str.ofString "IPV4_RE"]) mean mg mb h₀)
    (F : Fr h₀ L s.heap m) (mD : m (Str.ofString "drawn") = some (.ref D))
    (N : News h₀ L s.heap [(Dz, o), (D, od), (L + 1 + 1, o2), (L + 1, oc)])
    (hQ : ∀ m' h tk H k, (@LT.lt Nat _ Dz H ∧ @LT.lt Nat _ D H ∧ @LT.lt Nat _ (L + 1 + 1) H ∧ @LT.lt Nat _ (L + 1) H) → m' (Str.ofString "hues") = some (.ref H) → m' (Str.ofString "drawn") = some (.ref D) → Fr h₀ L h m' →
      News h₀ L h [(H, W.listOf #[] k), (Dz, o), (D, od), (L + 1 + 1, o2), (L + 1, oc)] → Q .next { s with heap := h, toks := tk }) :
    wpAny (model PySem.Challenge.rw_xe0040_01.row.prog w) (callerA.deeper (lawEnv fa9 cd9 w.params L)) (exec (lawSt w.params 3) (lawEnv fa9 cd9 w.params L)) Q E s := by
  k_with_none
  k_with "call ref" => (k_here; (with_reducible show wpAny _ _ (call (Value.ref 92) _ _) _ _ _); k_dflt (refine' sizes_g _ _ _ _ _ _ _ _ _ _ _ _ _ _ _ _ _ _ _ _ _ _ _ _ _ ?k1 ?k2 ?k3 ?k4 ?k5 ?k6 ?k7 ?k8 ?_; (case k1 => k_asm); (case k2 => k_asm); (case k3 => k_asm); (case k4 => (rename News _ _ _ _ => kN9q; exact kN9q)); (case k5 => k_asm); (case k6 => exact rfl); (case k7 => ktr_room); (case k8 => ktr_units)); intro D9q o9q h9q tk9q e9q F9q N9q l9q; (try simp only [List.nil_append, List.cons_append] at N9q l9q); k_dflt (replace l9q := allNe_of l9q); simp only [AllNe, and_true] at l9q; k_dflt (obtain ⟨zs9q, six9q, isz9q⟩ := e9q); (try dsimp only); (try k_fold))
  w_top off
  have hfill : PySem.Challenge.rw_xe0040_01 = PySem.Challenge.rw_xe0040_01 ∧ Mine.hd.heap_39 = Mine.hd.heap_39 := by (k_fill; exact ⟨rfl, rfl⟩)
  clear hfill
  generalize hS : lawSt w.params 3 = S
  generalize hC : lawScope w.params = C
  with_unfolding_all conv at hS => lhs; whnf
  with_unfolding_all conv at hC => lhs; whnf
  subst hS hC
  rw [pin1 mD] at F
  k_steps
  (with_reducible rename News _ _ _ _ => N9)
  (with_reducible rename Fr _ _ _ _ => F9)
  exact hQ _ _ _ _ _ (by with_reducible assumption) (by with_unfolding_all rfl) (by with_unfolding_all rfl) F9 N9
end Mine
end
section
open PySem PySem.W PySem.Calls PyProof.Rows
set_option maxRecDepth 100000
set_option maxHeartbeats 1000000
namespace Mine
variable {fa9 : Addr} {cd9 : Value}
theorem fm (x k : Int) (h : 0 < k) : 0 ≤ x.fmod k ∧ x.fmod k < k := ⟨Int.fmod_nonneg_of_pos x h, Int.fmod_lt_of_pos x h⟩
theorem fm5 (x : Int) : 0 ≤ x.fmod 4 + 1 ∧ x.fmod 4 + 1 < 5 := by have := fm x 4 (by decide); omega
theorem hue_at (x : Int) : Hue (hue16 (x.fmod 16).toNat) (qtr ((x.fdiv 16).fmod 4 + 1).toNat) (qtr ((x.fdiv 64).fmod 4 + 1).toNat) (((x.fdiv 64).fmod 4 + 1) * (8 - ((x.fdiv 16).fmod 4 + 1))) := by
  have a := fm x 16 (by decide)
  have b := fm (x.fdiv 16) 4 (by decide)
  have c := fm (x.fdiv 64) 4 (by decide)
  have z := hue_of (p := (x.fmod 16).toNat) (d := ((x.fdiv 16).fmod 4 + 1).toNat) (b := ((x.fdiv 64).fmod 4 + 1).toNat) (by omega) (by omega) (by omega)
  rwa [Int.toNat_of_nonneg (by omega), Int.toNat_of_nonneg (by omega)] at z
section
variable {prog : Program} {w : World} {A : Around} {E : Value → Shared → Prop} {s : Shared} {Q : Value → Shared → Prop} {t u : Tok}
theorem div16m {x : Int} (h : Q (.float (hue16 (x.fmod 16).toNat) s.toks) { s with toks := s.toks + 1 }) : wpAny (model prog w) A (binaryOp .Div (.int (x.fmod 16) t) (.int 16 u)) Q E s := div16 (fm x 16 (by decide)).1 (fm x 16 (by decide)).2 h
theorem div4m {x : Int} (h : Q (.float (qtr (x.fmod 4 + 1).toNat) s.toks) { s with toks := s.toks + 1 }) : wpAny (model prog w) A (binaryOp .Div (.int (x.fmod 4 + 1) t) (.int 4 u)) Q E s := div4 (fm5 x).1 (fm5 x).2 h
end
theorem six16 (n : Int) (h0 : 0 ≤ n) (h1 : n < 16) : (Float64.cmpInt (Float64.mul (hue16 n.toNat) (Float64.ofInt 16)) n == some Ordering.eq) = true := by
  obtain ⟨k, rfl⟩ := Int.eq_ofNat_of_zero_le h0
  have z := List.all_eq_true.mp sixteen k (List.mem_range.mpr (by omega))
  simp only [Bool.and_eq_true, beq_iff_eq] at z
  show (Float64.cmpInt (Float64.mul (hue16 k) (Float64.ofInt 16)) (k : Int) == some Ordering.eq) = true
  rw [z.1.1.1]; rfl
abbrev colR (x : Int) : UInt64 × UInt64 × UInt64 := hsvR (hue16 (x.fmod 16).toNat) (qtr ((x.fdiv 16).fmod 4 + 1).toNat) (qtr ((x.fdiv 64).fmod 4 + 1).toNat)
theorem no16 (x : Int) : (Float64.cmpInt (Float64.mul (hlsH (colR x).1 (colR x).2.1 (colR x).2.2) (Float64.ofInt 16)) (x.fmod 16) != some Ordering.eq) = false := by
  rw [(hue_at x).h, bne, six16 _ (fm x 16 (by decide)).1 (fm x 16 (by decide)).2]; rfl
theorem noL (x : Int) : (Float64.cmpInt (Float64.mul (hlsL (colR x).1 (colR x).2.1 (colR x).2.2) (Float64.ofInt 32)) (((x.fdiv 64).fmod 4 + 1) * (8 - ((x.fdiv 16).fmod 4 + 1))) != some Ordering.eq) = false := by
  rw [bne, (hue_at x).l]; rfl
theorem seg4_turn (w : World) (mean : ExcName → Option Value) (mg mb : Str → Option Value) (base h₀ : Heap) (L D H Dz I : Addr) (it o oc o2 od : Obj) (m : Str → Option Value) (s : Shared) (Q : Flow → Shared → Prop) (E : Value → Shared → Prop) (x : Int) (t : Tok) (hs : List Value) (kk : Nat) (rest : (Str → Option Value) → List (Addr × Obj) → Prop) (body : List Stmt)
    (hb : body = (match lawSt w.params 4 with | .For _ _ b _ _ => b | _ => []))
    (hz : hs.toArray.size ≤ sizeLine)
    (hne : @Ne Nat H Dz ∧ @Ne Nat H D ∧ @Ne Nat H (L + 1 + 1) ∧ @Ne Nat H (L + 1)) (hI : @LT.lt Nat _ H I ∧ @LT.lt Nat _ Dz I ∧ @LT.lt Nat _ D I ∧ @LT.lt Nat _ (L + 1 + 1) I ∧ @LT.lt Nat _ (L + 1) I)
    (B : Below callerA base [] h₀) (F : Fr h₀ L s.heap (fun y => if y = Str.ofString "x" then some (.int x t) else if y = Str.ofString "hues" then some (.ref H) else if y = Str.ofString "drawn" then some (.ref D) else m y)) (X : (hd.heap_39 w.params).In h₀)
    (N : News h₀ L s.heap [(I, it), (H, W.listOf hs.toArray kk), (Dz, o), (D, od), (L + 1 + 1, o2), (L + 1, oc)])
    (T : Top hd.view_39 (looseW hd.view_39 [Str.ofString "IPV4_RE"]) mean mg mb h₀)
    (hr : ∀ m' t' k', m' (Str.ofString "hues") = some (.ref H) → m' (Str.ofString "drawn") = some (.ref D) → rest m' [(H, W.listOf (hs ++ [Value.float (hue16 (x.fmod 16).toNat) t']).toArray k'), (Dz, o), (D, od), (L + 1 + 1, o2), (L + 1, oc)]) :
    wpAny (model PySem.Challenge.rw_xe0040_01.row.prog w) (callerA.deeper (lawEnv fa9 cd9 w.params L)) (execs body (lawEnv fa9 cd9 w.params L)) (UnrPost h₀ L s I it rest Q) E s := by
  k_with_none
  k_with "binaryOp Div int int" => (k_here; (first | with_reducible refine div16m ?_ | with_reducible refine div4m ?_))
  k_with "UnrEnd" => (k_here; refine Stop.out ?_)
  k_with "call builtin:list.append" => (k_here; (with_reducible show wpAny _ _ (call (Value.builtin _) [Value.ref _, _]) _ _ _); k_dflt (refine' append_K ?k1 ?k2 ?k3 ?_ ?z; (case k1 => k_asm); (case k2 => k_asm); (case k3 => k_upd); (case z => with_reducible assumption); k_whole); intro h'q F'q N'q; (try k_sweep))
  k_with "call ref" => (k_here; (with_reducible show wpAny _ _ (call (Value.ref 71) _ _) _ _ _); k_dflt (refine' hsv_gives _ _ _ _ _ _ _ _ (hue_at _).a1 (hue_at _).a2 (hue_at _).a3 (hue_at _).a4 _ _ _ _ _ _ _ _ _ _ _ _ _ _ _ _ _ _ _ _ _ ?k1 ?k2 ?k3 ?k4 ?k5 ?k6 ?k7 ?k8 ?_; (case k1 => k_asm); (case k2 => k_asm); (case k3 => k_asm); (case k4 => k_asm); (case k5 => k_asm); (case k6 => exact rfl); (case k7 => ktr_room); (case k8 => ktr_units)); intro D9q o9q h9q tk9q e9q F9q N9q l9q; (try k_lt l9q); k_dflt (obtain ⟨t19q, t29q, t39q, e9q⟩ := e9q); subst e9q; (try dsimp only); (try k_fold))
  k_with "call ref" => (k_here; (with_reducible show wpAny _ _ (call (Value.ref 64) _ _) _ _ _); k_dflt (refine' hls_gives _ _ _ _ _ _ _ _ (hue_at _).b1 (hue_at _).b2 (hue_at _).b3 (hue_at _).b4 _ _ _ _ _ _ _ _ _ _ _ _ _ _ _ _ _ _ _ _ _ ?k1 ?k2 ?k3 ?k4 ?k5 ?k6 ?k7 ?k8 ?_; (case k1 => k_asm); (case k2 => k_asm); (case k3 => k_asm); (case k4 => k_asm); (case k5 => k_asm); (case k6 => exact rfl); (case k7 => ktr_room); (case k8 => ktr_units)); intro D9q o9q h9q tk9q e9q F9q N9q l9q; (try k_lt l9q); k_dflt (obtain ⟨s9q, t19q, t29q, t39q, e9q⟩ := e9q); subst e9q; (try dsimp only); (try k_fold))
  w_top off
  have hfill : PySem.Challenge.rw_xe0040_01 = PySem.Challenge.rw_xe0040_01 ∧ Mine.hd.heap_39 = Mine.hd.heap_39 := by (k_fill; exact ⟨rfl, rfl⟩)
  clear hfill
  generalize hC : lawScope w.params = C
  with_unfolding_all conv at hb => rhs; whnf
  with_unfolding_all conv at hC => lhs; whnf
  subst hb hC
  k_steps
  all_goals first
    | (exact absurd ((no16 x).symm.trans (by with_reducible assumption)) (by decide))
    | (exact absurd ((noL x).symm.trans (by with_reducible assumption)) (by decide))
    | skip
  all_goals
    (refine Stop.go ?_)
    (with_reducible rename News _ _ _ _ => N9)
    (with_reducible rename Fr _ _ _ _ => F9)
    rw [(hue_at x).h, List.push_toArray] at N9
    refine UnrEnd.intro F9 N9 _ ?sub ?off (hr _ ?tt (kk + 1) ?m1 ?m2)
    case sub => exact SubL.mem (by k_subL)
    case m1 => with_unfolding_all rfl
    case m2 => with_unfolding_all rfl
    case off => k_all
theorem HuesAre.snoc : ∀ {vs : List Value} {ps : List Nat} {p : Nat} {t : Tok}, HuesAre vs ps → p < 16 → HuesAre (vs ++ [Value.float (hue16 p) t]) (ps ++ [p])
  | _, _, _, _, .nil, h => .cons _ _ h .nil
  | _, _, _, _, .cons q u g r, h => .cons q u g (r.snoc h)
theorem HuesAre.len : ∀ {vs : List Value} {ps : List Nat}, HuesAre vs ps → vs.length = ps.length
  | _, _, .nil => rfl
  | _, _, .cons _ _ _ r => congrArg Nat.succ r.len
theorem seg4 (w : World) (mean : ExcName → Option Value) (mg mb : Str → Option Value) (base h₀ : Heap) (L D H Dz : Addr) (o oc o2 : Obj) (m : Str → Option Value) (s : Shared) (Q : Flow → Shared → Prop) (E : Value → Shared → Prop) (x1 x2 x3 x4 : Int) (t1 t2 t3 t4 : Tok) (k k0 : Nat)
    (hE : PassesOwn (model PySem.Challenge.rw_xe0040_01.row.prog w) (callerA.deeper (lawEnv fa9 cd9 w.params L)) (lawEnv fa9 cd9 w.params L) E)
    (hne : @Ne Nat H Dz ∧ @Ne Nat H D ∧ @Ne Nat H (L + 1 + 1) ∧ @Ne Nat H (L + 1))
    (B : Below callerA base [] h₀) (F : Fr h₀ L s.heap m) (mH : m (Str.ofString "hues") = some (.ref H)) (mD : m (Str.ofString "drawn") = some (.ref D)) (X : (hd.heap_39 w.params).In h₀)
    (N : News h₀ L s.heap [(H, W.listOf #[] k0), (Dz, o), (D, W.listOf #[.int x1 t1, .int x2 t2, .int x3 t3, .int x4 t4] k), (L + 1 + 1, o2), (L + 1, oc)])
    (T : Top hd.view_39 (looseW hd.view_39 [Str.ofString "IPV4_RE"]) mean mg mb h₀)
    (hQ : ∀ m' h tk hs kk, HuesAre hs [(x1.fmod 16).toNat, (x2.fmod 16).toNat, (x3.fmod 16).toNat, (x4.fmod 16).toNat] → m' (Str.ofString "hues") = some (.ref H) → Fr h₀ L h m' → News h₀ L h [(H, W.listOf hs.toArray kk), (Dz, o), (L + 1 + 1, o2), (L + 1, oc)] → Q .next { s with heap := h, toks := tk }) :
    wpAny (model PySem.Challenge.rw_xe0040_01.row.prog w) (callerA.deeper (lawEnv fa9 cd9 w.params L)) (exec (lawSt w.params 4) (lawEnv fa9 cd9 w.params L)) Q E s := by
  k_with_none
  k_with "binaryOp Div int int" => (k_here; (first | with_reducible refine div16m ?_ | with_reducible refine div4m ?_))
  k_with "UnrEnd" => (k_here; refine Stop.out ?_)
  k_with "call builtin:list.append" => (k_here; (with_reducible show wpAny _ _ (call (Value.builtin _) [Value.ref _, _]) _ _ _); k_dflt (refine' append_K ?k1 ?k2 ?k3 ?_ ?z; (case k1 => k_asm); (case k2 => k_asm); (case k3 => k_upd); (case z => with_reducible assumption); k_whole); intro h'q F'q N'q; (try k_sweep))
  k_with "call ref" => (k_here; (with_reducible show wpAny _ _ (call (Value.ref 71) _ _) _ _ _); k_dflt (refine' hsv_gives _ _ _ _ _ _ _ _ (hue_at _).a1 (hue_at _).a2 (hue_at _).a3 (hue_at _).a4 _ _ _ _ _ _ _ _ _ _ _ _ _ _ _ _ _ _ _ _ _ ?k1 ?k2 ?k3 ?k4 ?k5 ?k6 ?k7 ?k8 ?_; (case k1 => k_asm); (case k2 => k_asm); (case k3 => k_asm); (case k4 => k_asm); (case k5 => k_asm); (case k6 => exact rfl); (case k7 => ktr_room); (case k8 => ktr_units)); intro D9q o9q h9q tk9q e9q F9q N9q l9q; (try k_lt l9q); k_dflt (obtain ⟨t19q, t29q, t39q, e9q⟩ := e9q); subst e9q; (try dsimp only); (try k_fold))
  k_with "call ref" => (k_here; (with_reducible show wpAny _ _ (call (Value.ref 64) _ _) _ _ _); k_dflt (refine' hls_gives _ _ _ _ _ _ _ _ (hue_at _).b1 (hue_at _).b2 (hue_at _).b3 (hue_at _).b4 _ _ _ _ _ _ _ _ _ _ _ _ _ _ _ _ _ _ _ _ _ ?k1 ?k2 ?k3 ?k4 ?k5 ?k6 ?k7 ?k8 ?_; (case k1 => k_asm); (case k2 => k_asm); (case k3 => k_asm); (case k4 => k_asm); (case k5 => k_asm); (case k6 => exact rfl); (case k7 => ktr_room); (case k8 => ktr_units)); intro D9q o9q h9q tk9q e9q F9q N9q l9q; (try k_lt l9q); k_dflt (obtain ⟨s9q, t19q, t29q, t39q, e9q⟩ := e9q); subst e9q; (try dsimp only); (try k_fold))
  w_top off
  have hfill : PySem.Challenge.rw_xe0040_01 = PySem.Challenge.rw_xe0040_01 ∧ Mine.hd.heap_39 = Mine.hd.heap_39 := by (k_fill; exact ⟨rfl, rfl⟩)
  clear hfill
  have turn := seg4_turn (fa9 := fa9) (cd9 := cd9) w mean mg mb base h₀ L D H Dz
  have hb : (match lawSt w.params 4 with | .For _ _ b _ _ => b | _ => []) = (match lawSt w.params 4 with | .For _ _ b _ _ => b | _ => []) := rfl
  generalize hS : lawSt w.params 4 = S
  rw [hS] at turn
  clear hb
  with_unfolding_all conv at hS => lhs; whnf
  subst hS
  rw [pin2 mH mD] at F
  refine For_invVF F rfl rfl ?_
  walk1
  refine iter_listUnr (lo := W.listOf #[.int x1 t1, .int x2 t2, .int x3 t3, .int x4 t4] k) (vs := [.int x1 t1, .int x2 t2, .int x3 t3, .int x4 t4]) rfl (by assumption) (by assumption) (by k_mem) rfl rfl ?_
  intro I hI
  k_lt hI
  refine ListRest.ofJ (vs := [.int x1 t1, .int x2 t2, .int x3 t3, .int x4 t4]) (fun i m' n' => m' (Str.ofString "hues") = some (.ref H) ∧ m' (Str.ofString "drawn") = some (.ref D) ∧ ∃ hs kk, HuesAre hs (([x1, x2, x3, x4].take i).map fun x => (x.fmod 16).toNat) ∧ n' = [(H, W.listOf hs.toArray kk), (Dz, o), (D, W.listOf #[.int x1 t1, .int x2 t2, .int x3 t3, .int x4 t4] k), (L + 1 + 1, o2), (L + 1, oc)]) ?turn ?done 4 0 _ _ rfl (by k_mem) ⟨by with_unfolding_all rfl, by with_unfolding_all rfl, [], k0, .nil, rfl⟩
  case done =>
    rintro m' n' h tk ⟨a, b, hs, kk, hh, rfl⟩ F' N'
    refine hQ m' h tk hs kk hh a F' (fun p hp => N' p ?_)
    simp only [List.mem_cons, List.not_mem_nil, or_false] at hp ⊢
    rcases hp with h | h | h | h <;> simp [h]
  case turn =>
    rintro i v hv m' n' it h tk hit hm ⟨a, b, hs, kk, hh, rfl⟩ F' N'
    have key : ∃ x t, v = Value.int x t ∧ ([x1, x2, x3, x4].take (i + 1)).map (fun x => (x.fmod 16).toNat) = ([x1, x2, x3, x4].take i).map (fun x => (x.fmod 16).toNat) ++ [(x.fmod 16).toNat] := by
      match i, hv with
      | 0, hv => exact ⟨x1, t1, (Option.some.inj hv).symm, rfl⟩
      | 1, hv => exact ⟨x2, t2, (Option.some.inj hv).symm, rfl⟩
      | 2, hv => exact ⟨x3, t3, (Option.some.inj hv).symm, rfl⟩
      | 3, hv => exact ⟨x4, t4, (Option.some.inj hv).symm, rfl⟩
    obtain ⟨x, t, rfl, e⟩ := key
    rw [pin2 a b] at F'
    have hz : hs.toArray.size ≤ sizeLine := by
      have := hh.len
      have h4 : ([x1, x2, x3, x4].take i).length ≤ 4 := List.length_take_le' ..
      simp only [List.length_map] at this
      simp only [List.size_toArray, this]
      exact Nat.le_trans h4 (by decide)
    exact turn I it o oc o2 _ m' _ Q E x t hs kk _ _ rfl hz hne ⟨hI.1, hI.2.1, hI.2.2.1, hI.2.2.2.1, hI.2.2.2.2⟩ B F' X N' T fun m'' t' k' c d => ⟨by k_mem, c, d, _, k', by rw [e]; exact hh.snoc (by have := fm x 16 (by decide); omega), rfl⟩
end Mine
end
section
open PySem PySem.W PySem.Calls PyProof.Rows
set_option maxRecDepth 100000
set_option maxHeartbeats 1000000
namespace Mine
variable {fa9 : Addr} {cd9 : Value}
theorem sixteen_at (n : Nat) (h : n < 16) : Float64.isNaN (Float64.mul (hue16 n) (Float64.ofInt 16)) = false ∧ Float64.isInf (Float64.mul (hue16 n) (Float64.ofInt 16)) = false ∧ Flt.toInt Float64.truncOf (Float64.mul (hue16 n) (Float64.ofInt 16)) = (n : Int) := by
  have z := List.all_eq_true.mp sixteen n (List.mem_range.mpr h)
  simp only [Bool.and_eq_true, beq_iff_eq] at z
  exact ⟨z.1.1.2, z.1.2, z.2⟩
theorem seg5 (w : World) (mean : ExcName → Option Value) (mg mb : Str → Option Value) (base h₀ : Heap) (L : Addr) (m : Str → Option Value) (s : Shared) (Q : Flow → Shared → Prop) (E : Value → Shared → Prop) (Dz H : Addr) (o oc o2 : Obj) (p1 p2 p3 p4 : Nat) (t1 t2 t3 t4 : Tok) (kk : Nat)
    (B : Below callerA base [] h₀) (X : (hd.heap_39 w.params).In h₀) (T : Top hd.view_39 (looseW hd.view_39 [Str.ofString "IPV4_RE"]) mean mg mb h₀)
    (hp1 : p1 < 16) (hp2 : p2 < 16) (hp3 : p3 < 16) (hp4 : p4 < 16) (F : Fr h₀ L s.heap m) (mH : m (Str.ofString "hues") = some (.ref H))
    (N : News h₀ L s.heap [(H, W.listOf #[.float (hue16 p1) t1, .float (hue16 p2) t2, .float (hue16 p3) t3, .float (hue16 p4) t4] kk), (Dz, o), (L + 1 + 1, o2), (L + 1, oc)])
    (hQ : ∀ m' h tk Pl (a b c d : Nat) ts, a ≤ b → b ≤ c → c ≤ d → d < 16 → Are natV ts [a, b, c, d] → m' (Str.ofString "places") = some (.ref Pl) → Fr h₀ L h m' →
      News h₀ L h [(Pl, LCg.lst ts), (Dz, o), (L + 1 + 1, o2), (L + 1, oc)] → @Ne Nat Dz Pl ∧ @Ne Nat (L + 1 + 1) Pl ∧ @Ne Nat (L + 1) Pl → Q .next { s with heap := h, toks := tk }) :
    wpAny (model PySem.Challenge.rw_xe0040_01.row.prog w) (callerA.deeper (lawEnv fa9 cd9 w.params L)) (exec (lawSt w.params 5) (lawEnv fa9 cd9 w.params L)) Q E s := by
  k_with_none
  k_with "call builtin:sorted" => (k_here; refine Stop.out ?_)
  k_with "CompSrc" => (k_here; refine Stop.out ?_)
  k_with "CompEnd" => (k_here; refine Stop.out ?_)
  w_top off
  have hfill : PySem.Challenge.rw_xe0040_01 = PySem.Challenge.rw_xe0040_01 ∧ Mine.hd.heap_39 = Mine.hd.heap_39 := by (k_fill; exact ⟨rfl, rfl⟩)
  clear hfill
  generalize hS : lawSt w.params 5 = S
  generalize hC : lawScope w.params = C
  with_unfolding_all conv at hS => lhs; whnf
  with_unfolding_all conv at hC => lhs; whnf
  subst hS hC
  rw [pin1 mH] at F
  refine LCg.Assign_ListComp_U (F₀ := F) rfl (by with_unfolding_all rfl) (by with_unfolding_all rfl) (by decide) (by rfl) (by decide) (by rfl) (by rfl) (by rfl) ?_
  k_steps
  refine Stop.go ?_
  refine sorted_hues (by assumption) (by assumption) (by k_mem) hp1 hp2 hp3 hp4 ?_
  intro D9 h9 a b c d ta tb tc td e9 la lb lc ld F9 N9 l9
  k_lt l9
  have N10 : News h₀ L h9 [(D9, W.listOf #[.float (hue16 a) ta, .float (hue16 b) tb, .float (hue16 c) tc, .float (hue16 d) td] e9), (Dz, o), (L + 1 + 1, o2), (L + 1, oc)] := News.less N9 (by k_subL)
  clear N9 N
  refine LCg.CompSrc.ledger (by rfl) F9 N10 (by k_mem) (by first | size_fits | exact Nat.le_of_ble_eq_true rfl) ?_
  clear N10 F9
  intro g'
  refine CompRest.ofJ (n := 4) (fun i ys n' => Are natV ys ([a, b, c, d].take i) ∧ n' = [(D9, W.listOf #[.float (hue16 a) ta, .float (hue16 b) tb, .float (hue16 c) tc, .float (hue16 d) td] e9), (Dz, o), (L + 1 + 1, o2), (L + 1, oc)]) ?turn ?done 4 0 [] _ rfl ⟨.nil, rfl⟩
  case done =>
    rintro ys news ⟨hl, rfl⟩
    intro D' h' tk' F' N' o1
    exact hQ _ h' tk' D' a b c d ys la lb lc ld hl (by with_unfolding_all rfl) F' (News.less N' (by k_subL)) ⟨o1.2.1, o1.2.2.1, o1.2.2.2.1⟩
  case turn =>
    rintro i hi ys news v I oI C oC D m₂ h tk E' ⟨hl, rfl⟩ hP hC hx F9 N9 off ne
    have key : ∃ n t, v = Value.float (hue16 n) t ∧ n < 16 ∧ [a, b, c, d].take (i + 1) = [a, b, c, d].take i ++ [n] := by
      match i, hP with
      | 0, hP => exact ⟨a, ta, (Option.some.inj hP).symm, by omega, rfl⟩
      | 1, hP => exact ⟨b, tb, (Option.some.inj hP).symm, by omega, rfl⟩
      | 2, hP => exact ⟨c, tc, (Option.some.inj hP).symm, by omega, rfl⟩
      | 3, hP => exact ⟨d, td, (Option.some.inj hP).symm, by omega, rfl⟩
    obtain ⟨n, t, rfl, hn, e⟩ := key
    obtain ⟨f1, f2, f3⟩ := sixteen_at n hn
    clear hP hQ F hp1 hp2 hp3 hp4
    simp only [LCg.Off3, and_true] at off
    k_steps
    rw [f3]
    refine Stop.go ?_
    exact LCg.CompEnd.intro F9 N9 _ (fun p hp => hp) (by simp only [LCg.Off3, and_true]; exact off) (Or.inr ⟨_, by k_mem, rfl, _, rfl⟩) ⟨by rw [e]; exact hl.snoc n _, rfl⟩
end Mine
end
section
open PySem PySem.W PySem.Calls PyProof.Rows
set_option maxRecDepth 100000
set_option maxHeartbeats 1000000
namespace Mine
variable {fa9 : Addr} {cd9 : Value}
theorem seg6 (w : World) (mean : ExcName → Option Value) (mg mb : Str → Option Value) (base h₀ : Heap) (L : Addr) (m : Str → Option Value) (s : Shared) (Q : Flow → Shared → Prop) (E : Value → Shared → Prop) (Dz Pl : Addr) (o oc o2 : Obj) (zs : List Int) (xs : List Nat) (ps : List Value)
    (B : Below callerA base [] h₀) (X : (hd.heap_39 w.params).In h₀) (T : Top hd.view_39 (looseW hd.view_39 [Str.ofString "IPV4_RE"]) mean mg mb h₀)
    (six : Six zs) (isz : IsZs zs o) (hoc : oc.data = .cell (some (.ref Dz))) (hxs : ∀ x ∈ xs, x < 16) (hl : xs.length ≤ 8) (hps : Are natV ps xs)
    (F : Fr h₀ L s.heap m) (mP : m (Str.ofString "places") = some (.ref Pl))
    (N : News h₀ L s.heap [(Pl, LCg.lst ps), (Dz, o), (L + 1 + 1, o2), (L + 1, oc)])
    (hQ : ∀ m' h tk Ho hs, Are Value.str hs (xs.map fun (x : Nat) => hostT zs x) → m' (Str.ofString "hosts") = some (.ref Ho) → m' (Str.ofString "places") = some (.ref Pl) → Fr h₀ L h m' →
      News h₀ L h [(Ho, LCg.lst hs), (Pl, LCg.lst ps), (Dz, o), (L + 1 + 1, o2), (L + 1, oc)] → @Ne Nat Pl Ho ∧ @Ne Nat Dz Ho ∧ @Ne Nat (L + 1 + 1) Ho ∧ @Ne Nat (L + 1) Ho → Q .next { s with heap := h, toks := tk }) :
    wpAny (model PySem.Challenge.rw_xe0040_01.row.prog w) (callerA.deeper (lawEnv fa9 cd9 w.params L)) (exec (lawSt w.params 6) (lawEnv fa9 cd9 w.params L)) Q E s := by
  k_with_none
  k_with "CompSrc" => (k_here; refine Stop.out ?_)
  k_with "CompEnd" => (k_here; refine Stop.out ?_)
  k_with "call ref" => (k_here; (with_reducible show wpAny _ _ (call (Value.ref 99) _ _) _ _ _); k_dflt (refine' host_g _ _ _ (by with_reducible assumption) _ (by with_reducible assumption) _ _ _ (by with_reducible assumption) _ _ _ _ _ _ _ _ _ _ _ _ _ _ _ _ _ _ _ _ _ ?k1 ?k2 ?k3 ?k4 ?k5 ?k6 ?k7 ?k8 ?_; (case k1 => k_asm); (case k2 => k_asm); (case k3 => k_asm); (case k4 => (rename News _ _ _ _ => kN9q; have kM9q := fun q hm => News.dup (q := q) hm kN9q; refine kM9q _ ?_; k_mem)); (case k5 => k_asm); (case k6 => exact rfl); (case k7 => ktr_room); (case k8 => ktr_units)); intro v9q h9q tk9q e9q F9q N9q; k_dflt (replace N9q := News.undup N9q); k_dflt (obtain ⟨t9q, e9q⟩ := e9q); subst e9q; (try dsimp only); (try k_fold))
  w_top off
  have hfill : PySem.Challenge.rw_xe0040_01 = PySem.Challenge.rw_xe0040_01 ∧ Mine.hd.heap_39 = Mine.hd.heap_39 := by (k_fill; exact ⟨rfl, rfl⟩)
  clear hfill
  generalize hS : lawSt w.params 6 = S
  generalize hC : lawScope w.params = C
  with_unfolding_all conv at hS => lhs; whnf
  with_unfolding_all conv at hC => lhs; whnf
  subst hS hC
  rw [pin1 mP] at F
  have hsz : ps.toArray.size ≤ sizeLine := by
    rw [List.size_toArray, hps.len]
    exact Nat.le_trans hl (by decide)
  refine LCg.Assign_ListComp_U (F₀ := F) rfl (by with_unfolding_all rfl) (by with_unfolding_all rfl) (by decide) (by rfl) (by decide) (by rfl) (by rfl) (by rfl) ?_
  k_steps
  refine Stop.go ?_
  refine LCg.CompSrc.ledger (by rfl) F N (by k_mem) hsz ?_
  clear N F
  intro g'
  refine CompRest.ofJ (n := ps.toArray.size) (fun i ys n' => Are Value.str ys ((xs.take i).map fun (x : Nat) => hostT zs x) ∧ n' = [(Pl, LCg.lst ps), (Dz, o), (L + 1 + 1, o2), (L + 1, oc)]) ?turn ?done ps.toArray.size 0 [] _ (Nat.zero_add _) ⟨.nil, rfl⟩
  case done =>
    rintro ys news ⟨hy, rfl⟩
    intro D' h' tk' F' N' o1
    rw [List.size_toArray, hps.len, List.take_length] at hy
    exact hQ _ h' tk' D' ys hy (by with_unfolding_all rfl) (by with_unfolding_all rfl) F' N' ⟨o1.1, o1.2.1, o1.2.2.1, o1.2.2.2.1⟩
  case turn =>
    rintro i hi ys news v I oI C oC D m₂ h tk E' ⟨hy, rfl⟩ hP hC hx F9 N9 off ne
    obtain ⟨x, t, ex, rfl⟩ := hps.back i v (by simpa using hP)
    have h16 : 0 ≤ (x : Int) ∧ (x : Int) < 16 := by
      have := hxs x (List.mem_of_getElem? ex)
      omega
    clear hP hQ
    simp only [LCg.Off3, and_true] at off
    k_steps
    (with_reducible rename News _ _ _ _ => N8)
    (with_reducible rename Fr _ _ _ _ => F8)
    refine Stop.go ?_
    exact LCg.CompEnd.intro F8 N8 _ (fun p hp => hp) (by simp only [LCg.Off3, and_true]; exact off) (Or.inr ⟨_, by k_mem, rfl, _, rfl⟩) ⟨by rw [take_snoc ex, List.map_append]; exact hy.snoc _ _, rfl⟩
end Mine
end
section
open PySem PySem.W PySem.Calls PyProof.Rows
set_option maxRecDepth 100000
set_option maxHeartbeats 1000000
namespace Mine
variable {fa9 : Addr} {cd9 : Value}
local macro_rules | `(tactic| k_all) => `(tactic| with_reducible assumption)
theorem seg7 (w : World) (mean : ExcName → Option Value) (mg mb : Str → Option Value) (base h₀ : Heap) (L : Addr) (m : Str → Option Value) (s : Shared) (Q : Flow → Shared → Prop) (E : Value → Shared → Prop) (Dz Pl Ho : Addr) (o oc o2 op : Obj) (zs : List Int) (xs : List Str) (hs : List Value)
    (B : Below callerA base [] h₀) (X : (hd.heap_39 w.params).In h₀) (T : Top hd.view_39 (looseW hd.view_39 [Str.ofString "IPV4_RE"]) mean mg mb h₀)
    (six : Six zs) (isz : IsZs zs o) (hoc : oc.data = .cell (some (.ref Dz))) (ho2 : o2.data = .cell none) (hxs : ∀ x ∈ xs, ClimbsN zs.length x) (hl : xs.length ≤ 8) (hhs : Are Value.str hs xs)
    (hne : @Ne Nat Ho (L + 1 + 1) ∧ @Ne Nat Pl (L + 1 + 1) ∧ @Ne Nat Dz (L + 1 + 1)) (F : Fr h₀ L s.heap m) (mP : m (Str.ofString "places") = some (.ref Pl)) (mH : m (Str.ofString "hosts") = some (.ref Ho))
    (N : News h₀ L s.heap [(Ho, LCg.lst hs), (Pl, op), (Dz, o), (L + 1 + 1, o2), (L + 1, oc)])
    (hQ : ∀ m' h tk La lds o2', Lads zs.length xs lds → o2'.data = .cell (some (.ref La)) → m' (Str.ofString "hosts") = some (.ref Ho) → m' (Str.ofString "places") = some (.ref Pl) → Fr h₀ L h m' →
      News h₀ L h ((La, LCg.lst (refsOf lds)) :: (Ho, LCg.lst hs) :: (Pl, op) :: (Dz, o) :: (L + 1 + 1, o2') :: (L + 1, oc) :: lds) → Q .next { s with heap := h, toks := tk }) :
    wpAny (model PySem.Challenge.rw_xe0040_01.row.prog w) (callerA.deeper (lawEnv fa9 cd9 w.params L)) (exec (lawSt w.params 7) (lawEnv fa9 cd9 w.params L)) Q E s := by
  k_with_none
  k_with "eval ListComp" => (k_here; refine Stop.out ?_)
  k_with "exec Assign cons ListComp" => (k_here; with_unfolding_all refine wpAny_Assign_Name ?_)
  k_with "CompSrc" => (k_here; refine Stop.out ?_)
  k_with "CompEnd" => (k_here; refine Stop.out ?_)
  k_with "FinE" => (k_here; refine Stop.out ?_)
  k_with "call ref" => (k_here; (with_reducible show wpAny _ _ (call (Value.ref 106) _ _) _ _ _); k_dflt (refine' ladder_g _ _ _ (by with_reducible assumption) _ (by with_reducible assumption) _ _ _ (by with_reducible assumption) _ _ _ _ _ _ _ _ _ _ _ _ _ _ _ _ _ _ _ _ _ ?k1 ?k2 ?k3 ?k4 ?k5 ?k6 ?k7 ?k8 ?_; (case k1 => k_asm); (case k2 => k_asm); (case k3 => k_asm); (case k4 => (rename News _ _ _ _ => kN9q; have kM9q := fun q hm => News.dup (q := q) hm kN9q; refine kM9q _ ?_; k_mem)); (case k5 => k_asm); (case k6 => exact rfl); (case k7 => ktr_room); (case k8 => ktr_units)); refine Stop.out ?_)
  w_top off
  have hfill : PySem.Challenge.rw_xe0040_01 = PySem.Challenge.rw_xe0040_01 ∧ Mine.hd.heap_39 = Mine.hd.heap_39 := by (k_fill; exact ⟨rfl, rfl⟩)
  clear hfill
  generalize hS : lawSt w.params 7 = S
  generalize hC : lawScope w.params = C
  with_unfolding_all conv at hS => lhs; whnf
  with_unfolding_all conv at hC => lhs; whnf
  subst hS hC
  rw [pin2 mP mH] at F
  have hsz : hs.toArray.size ≤ sizeLine := by
    rw [List.size_toArray, hhs.len]
    exact Nat.le_trans hl (by decide)
  k_steps
  refine Stop.go ?_
  refine LCg.ListComp_U (F₀ := F) (by with_unfolding_all rfl) (by decide) (by rfl) (by decide) (by rfl) ?_
  k_steps
  refine Stop.go ?_
  refine LCg.CompSrc.ledger (by rfl) F N (by k_mem) hsz ?_
  clear N F
  intro g'
  refine CompRest.ofJ (n := hs.toArray.size) (fun i ys n' => ∃ lds, Lads zs.length (xs.take i) lds ∧ (∀ p ∈ lds, p.1 ≠ L + 1 + 1) ∧ ys = refsOf lds ∧ n' = (Ho, LCg.lst hs) :: (Pl, op) :: (Dz, o) :: (L + 1 + 1, o2) :: (L + 1, oc) :: lds) ?turn ?done hs.toArray.size 0 [] _ (Nat.zero_add _) ⟨[], .nil, List.forall_mem_nil _, rfl, rfl⟩
  case done =>
    rintro ys news ⟨lds, hy, hL2, rfl, rfl⟩
    intro D' h' tk' F' N' o1
    rw [List.size_toArray, hhs.len, List.take_length] at hy
    simp only [LCg.Off1] at o1
    have o3 : @Ne Nat (L + 1 + 1) D' := o1.2.2.2.1
    clear o1
    k_steps
    (with_reducible rename News _ _ _ _ => N8)
    (with_reducible rename Fr _ _ _ _ => F8)
    exact hQ _ _ _ D' lds _ hy (by with_reducible assumption) (by with_unfolding_all rfl) (by with_unfolding_all rfl) F8 N8
  case turn =>
    rintro i hi ys news v I oI C oC D m₂ h tk E' ⟨lds, hy, hL2, rfl, rfl⟩ hP hC hx F9 N9 off ne
    obtain ⟨x, t, ex, rfl⟩ := hhs.back i v (by simpa using hP)
    have hcl : ClimbsN zs.length x := hxs x (List.mem_of_getElem? ex)
    clear hP hQ
    k_steps
    refine Stop.go ?_
    intro D9 o9 h8 tk8 e8 F8 N8 l8
    k_unfold
    obtain ⟨rs, k, hrs, rfl⟩ := e8
    simp only [List.mem_append, List.mem_cons, List.not_mem_nil, or_false] at l8
    refine LCg.CompEnd.intro F8 N8 ((Ho, LCg.lst hs) :: (Pl, op) :: (Dz, o) :: (L + 1 + 1, o2) :: (L + 1, oc) :: (lds ++ [(D9, W.listOf (strsOf (lad zs.length x) rs).toArray k)])) ?sub ?off (Or.inr ⟨_, by k_mem, rfl, _, rfl⟩) ⟨lds ++ [(D9, W.listOf (strsOf (lad zs.length x) rs).toArray k)], ?h1, ?h2, ?h3, rfl⟩
    case sub =>
      intro p hp
      simp only [List.mem_append, List.mem_cons, List.not_mem_nil, or_false] at hp ⊢
      grind
    case off =>
      refine LCg.Off3.of fun p hp => ?_
      simp only [List.mem_append, List.mem_cons, List.not_mem_nil, or_false] at hp
      have om := off.mem
      simp only [List.mem_cons] at om
      rcases hp with h | h | h | h | h | h | h
      · exact om p (.inl h)
      · exact om p (.inr (.inl h))
      · exact om p (.inr (.inr (.inl h)))
      · exact om p (.inr (.inr (.inr (.inl h))))
      · exact om p (.inr (.inr (.inr (.inr (.inl h)))))
      · exact om p (.inr (.inr (.inr (.inr (.inr h)))))
      · rw [h]
        exact ⟨(l8 (I, oI) (.inr (.inl rfl))).symm, (l8 (C, oC) (.inr (.inr (.inl rfl)))).symm, (l8 (D, _) (.inr (.inr (.inr (.inl rfl))))).symm⟩
    case h1 => rw [take_snoc ex]; exact hy.snoc ⟨_, k, are_strs hrs, rfl⟩
    case h2 =>
      intro p hp
      rcases List.mem_append.mp hp with h | h
      · exact hL2 p h
      · rw [List.mem_singleton.mp h]
        exact (l8 (L + 1 + 1, o2) (by simp)).symm
    case h3 => simp [refsOf]
end Mine
end
section
open PySem PySem.W PySem.Calls PyProof.Rows
set_option maxRecDepth 100000
set_option maxHeartbeats 1000000
namespace Mine
variable {fa9 : Addr} {cd9 : Value}
local macro_rules | `(tactic| k_mem) => `(tactic| with_reducible_and_instances assumption)
theorem seg8 (w : World) (mean : ExcName → Option Value) (mg mb : Str → Option Value) (base h₀ : Heap) (L : Addr) (m : Str → Option Value) (s : Shared) (Q : Flow → Shared → Prop) (E : Value → Shared → Prop) (Pl Ho : Addr) (all : List (Addr × Obj))
    (B : Below callerA base [] h₀) (X : (hd.heap_39 w.params).In h₀) (T : Top hd.view_39 (looseW hd.view_39 [Str.ofString "IPV4_RE"]) mean mg mb h₀)
    (F : Fr h₀ L s.heap m) (hp : Pins m [(Str.ofString "places", Value.ref Pl), (Str.ofString "hosts", Value.ref Ho)]) (N : News h₀ L s.heap all)
    (hQ : ∀ m' h tk S k, (∀ p ∈ all, p.1 < S) → Pins m' [(Str.ofString "places", Value.ref Pl), (Str.ofString "hosts", Value.ref Ho), (Str.ofString "steps", Value.ref S)] → Fr h₀ L h m' → News h₀ L h ((S, W.listOf #[] k) :: all) → Q .next { s with heap := h, toks := tk }) :
    wpAny (model PySem.Challenge.rw_xe0040_01.row.prog w) (callerA.deeper (lawEnv fa9 cd9 w.params L)) (exec (lawSt w.params 8) (lawEnv fa9 cd9 w.params L)) Q E s := by
  k_with_none
  w_top off
  have hfill : PySem.Challenge.rw_xe0040_01 = PySem.Challenge.rw_xe0040_01 ∧ Mine.hd.heap_39 = Mine.hd.heap_39 := by (k_fill; exact ⟨rfl, rfl⟩)
  clear hfill
  generalize hS : lawSt w.params 8 = S
  generalize hC : lawScope w.params = C
  with_unfolding_all conv at hS => lhs; whnf
  with_unfolding_all conv at hC => lhs; whnf
  subst hS hC
  rw [pinL hp] at F
  simp only [chain] at F
  k_steps
  (with_reducible rename News _ _ _ _ => N8)
  (with_reducible rename Fr _ _ _ _ => F8)
  refine hQ _ _ _ _ _ ?hlt ?hpins F8 N8
  case hlt => with_reducible assumption
  case hpins => (repeat' (first | exact trivial | refine And.intro (by with_unfolding_all rfl) ?_))
theorem seg12 (w : World) (mean : ExcName → Option Value) (mg mb : Str → Option Value) (base h₀ : Heap) (L : Addr) (m : Str → Option Value) (s : Shared) (Q : Flow → Shared → Prop) (E : Value → Shared → Prop) (S Pl Ho : Addr) (rest : List (Addr × Obj)) (f0 f1 f2 n : Int) (s0 s1 s2 t9 : Tok) (kk : Nat)
    (B : Below callerA base [] h₀) (X : (hd.heap_39 w.params).In h₀) (T : Top hd.view_39 (looseW hd.view_39 [Str.ofString "IPV4_RE"]) mean mg mb h₀)
    (h0 : 0 ≤ f0 ∧ f0 ≤ 6) (h1 : 0 ≤ f1 ∧ f1 ≤ 6) (h2 : 0 ≤ f2 ∧ f2 ≤ 6) (hn : f0 + f1 + f2 = 2 * n)
    (F : Fr h₀ L s.heap m) (hp : Pins m [(Str.ofString "places", Value.ref Pl), (Str.ofString "hosts", Value.ref Ho), (Str.ofString "steps", Value.ref S), (Str.ofString "ties", Value.int n t9)]) (N : News h₀ L s.heap ((S, W.listOf #[.int f0 s0, .int f1 s1, .int f2 s2] kk) :: rest))
    (hQ : ∀ m' h tk, Fr h₀ L h m' → Q (.ret (.bool true)) { s with heap := h, toks := tk }) :
    wpAny (model PySem.Challenge.rw_xe0040_01.row.prog w) (callerA.deeper (lawEnv fa9 cd9 w.params L)) (exec (lawSt w.params 12) (lawEnv fa9 cd9 w.params L)) Q E s := by
  k_with_none
  w_top off
  have hfill : PySem.Challenge.rw_xe0040_01 = PySem.Challenge.rw_xe0040_01 ∧ Mine.hd.heap_39 = Mine.hd.heap_39 := by (k_fill; exact ⟨rfl, rfl⟩)
  clear hfill
  generalize hS : lawSt w.params 12 = S
  generalize hC : lawScope w.params = C
  with_unfolding_all conv at hS => lhs; whnf
  with_unfolding_all conv at hC => lhs; whnf
  subst hS hC
  rw [pinL hp] at F
  simp only [chain] at F
  k_steps
  all_goals (with_reducible rename Fr _ _ _ _ => F8)
  all_goals first
    | exact hQ _ _ _ F8
    | (have e9 : (f0 + (f1 + (f2 + 0)) == 2 * n) = true := by rw [beq_iff_eq]; omega
       rw [e9]; exact hQ _ _ _ F8)
    | skip
end Mine
end
section
open PySem PySem.W PySem.Calls PyProof.Rows
set_option maxRecDepth 100000
set_option maxHeartbeats 1000000
namespace Mine
variable {fa9 : Addr} {cd9 : Value}
def bodyOf : Stmt → List Stmt
  | .For _ _ b _ _ => b
  | _ => []
noncomputable def lawB (p : Params) : List Stmt := match bodyOf (lawSt p 9) with
  | st :: _ => bodyOf st
  | _ => []
noncomputable def lawBk (p : Params) (k : Nat) : Stmt := match (lawB p)[k]? with
  | some st => st
  | none => .Pass default
theorem lawB_len (p : Params) : (lawB p).length = 4 := by with_unfolding_all rfl
theorem lawB_eq (p : Params) : lawB p = [lawBk p 0, lawBk p 1, lawBk p 2, lawBk p 3] := by
  have h := lawB_len p
  unfold lawBk
  match lawB p, h with
  | [_, _, _, _], _ => rfl
local macro_rules | `(tactic| k_mem) => `(tactic| with_reducible_and_instances assumption)
theorem six_len {zs : List Int} (h : Six zs) : 2 ≤ zs.length ∧ zs.length ≤ 3 := by
  rcases h with rfl | rfl | rfl | rfl | rfl | rfl <;> decide
theorem len_led {prog : Program} {w : World} {A : Around} {E : Value → Shared → Prop} {s : Shared} {h₀ : Heap} {L D : Addr} {o : Obj} {zs : List Int} {news : List (Addr × Obj)} {Q : Value → Shared → Prop} (N : News h₀ L s.heap news) (six : Six zs) (isz : IsZs zs o) (hm : (D, o) ∈ news)
    (h : Q (.int (zs.length : Nat) (s.toks + 1)) { s with toks := s.toks + 1 + 1 }) : wpAny (model prog w) A (call (.builtin "len") [.ref D]) Q E s := by
  obtain ⟨ts, hl, rfl⟩ := isz
  have e : (List.zipWith Value.int zs ts).toArray.size = zs.length := by simp [hl]
  have ht : s.heap.IsTuple D (List.zipWith Value.int zs ts).toArray := ⟨_, (N _ hm).1, rfl, _, rfl⟩
  have := six_len six
  refine len_tuple ht (by rw [e]; omega) ?_
  rw [e]
  exact h
theorem b0 (w : World) (mean : ExcName → Option Value) (mg mb : Str → Option Value) (base h₀ : Heap) (L : Addr) (m : Str → Option Value) (s : Shared) (Q : Flow → Shared → Prop) (E : Value → Shared → Prop) (S La Ho Pl Dz : Addr) (sto o o2 oc : Obj) (las hs ps : List Value) (tl : List (Addr × Obj)) (zs : List Int) (e l a b : Nat) (t1 t2 ta tb : Tok) (he : e < 1000) (hl : l < 1000) (ha : 0 ≤ (a : Int) ∧ (a : Int) < 16) (hb : 0 ≤ (b : Int) ∧ (b : Int) < 16) (hpe : ps[e]? = some (.int (a : Nat) ta)) (hpl : ps[l]? = some (.int (b : Nat) tb))
    (B : Below callerA base [] h₀) (X : (hd.heap_39 w.params).In h₀) (T : Top hd.view_39 (looseW hd.view_39 [Str.ofString "IPV4_RE"]) mean mg mb h₀)
    (six : Six zs) (isz : IsZs zs o) (hoc : oc.data = .cell (some (.ref Dz))) (ho2 : o2.data = .cell (some (.ref La)))
    (F : Fr h₀ L s.heap m) (hp : Pins m [(Str.ofString "places", Value.ref Pl), (Str.ofString "hosts", Value.ref Ho), (Str.ofString "steps", Value.ref S), (Str.ofString "late", Value.int (l : Nat) t1), (Str.ofString "early", Value.int (e : Nat) t2)])
    (N : News h₀ L s.heap ((S, sto) :: (La, LCg.lst las) :: (Ho, LCg.lst hs) :: (Pl, LCg.lst ps) :: (Dz, o) :: (L + 1 + 1, o2) :: (L + 1, oc) :: tl))
    (hQ : ∀ m' h tk t3, Pins m' [(Str.ofString "places", Value.ref Pl), (Str.ofString "hosts", Value.ref Ho), (Str.ofString "steps", Value.ref S), (Str.ofString "late", Value.int (l : Nat) t1), (Str.ofString "early", Value.int (e : Nat) t2), (Str.ofString "floors", Value.int (parted zs a b : Nat) t3)] → Fr h₀ L h m' → News h₀ L h ((S, sto) :: (La, LCg.lst las) :: (Ho, LCg.lst hs) :: (Pl, LCg.lst ps) :: (Dz, o) :: (L + 1 + 1, o2) :: (L + 1, oc) :: tl) → Q .next { s with heap := h, toks := tk }) :
    wpAny (model PySem.Challenge.rw_xe0040_01.row.prog w) (callerA.deeper (lawEnv fa9 cd9 w.params L)) (exec (lawBk w.params 0) (lawEnv fa9 cd9 w.params L)) Q E s := by
  k_with_none
  k_with "call builtin:len" => (k_here; (with_reducible show wpAny _ _ (call (Value.builtin "len") [Value.ref _]) _ _ _); k_dflt (refine len_led (by k_asm) (by with_reducible assumption) (by with_reducible assumption) (by k_mem) ?_))
  k_with "subscriptTail" => (k_here; (with_reducible show wpAny _ _ (subscriptTail _ _ (Value.ref _) (Value.int ((_ : Nat) : Int) _)) _ _ _); k_dflt (refine item_led (by k_asm) (by with_reducible assumption) (by k_mem) (by omega) ?_))
  k_with "call ref" => (k_here; (with_reducible show wpAny _ _ (call (Value.ref 111) _ _) _ _ _); k_dflt (refine' floors_g _ _ _ (by with_reducible assumption) _ (by with_reducible assumption) _ _ _ _ _ (by with_reducible assumption) (by with_reducible assumption) _ _ _ _ _ _ _ _ _ _ _ _ _ _ _ _ _ _ _ _ _ ?k1 ?k2 ?k3 ?k4 ?k5 ?k6 ?k7 ?k8 ?_; (case k1 => k_asm); (case k2 => k_asm); (case k3 => k_asm); (case k4 => (rename News _ _ _ _ => kN9q; have kM9q := fun q hm => News.dup (q := q) hm kN9q; refine kM9q _ ?_; k_mem)); (case k5 => k_asm); (case k6 => exact rfl); (case k7 => ktr_room); (case k8 => ktr_units)); intro v9q h9q tk9q e9q F9q N9q; k_dflt (replace N9q := News.undup N9q); k_dflt (obtain ⟨t9q, e9q⟩ := e9q); subst e9q; (try dsimp only); (try k_fold))
  w_top off
  have hfill : PySem.Challenge.rw_xe0040_01 = PySem.Challenge.rw_xe0040_01 ∧ Mine.hd.heap_39 = Mine.hd.heap_39 := by (k_fill; exact ⟨rfl, rfl⟩)
  clear hfill
  generalize hS : lawBk w.params 0 = S0
  generalize hC : lawScope w.params = C
  with_unfolding_all conv at hS => lhs; whnf
  with_unfolding_all conv at hC => lhs; whnf
  subst hS hC
  rw [pinL hp] at F
  simp only [chain] at F
  k_steps
  (with_reducible rename News _ _ _ _ => N8)
  (with_reducible rename Fr _ _ _ _ => F8)
  refine hQ _ _ _ ?tt ?hpins F8 N8
  case hpins => (repeat' (first | exact trivial | refine And.intro (by with_unfolding_all rfl) ?_))
theorem b1 (w : World) (mean : ExcName → Option Value) (mg mb : Str → Option Value) (base h₀ : Heap) (L : Addr) (m : Str → Option Value) (s : Shared) (Q : Flow → Shared → Prop) (E : Value → Shared → Prop) (S La Ho Pl Dz : Addr) (sto o o2 oc : Obj) (las hs ps : List Value) (tl : List (Addr × Obj)) (zs : List Int) (e l : Nat) (n : Int) (t1 t2 t3 tx ty : Tok) (x y : Str) (hz : 2 ≤ zs.length ∧ zs.length ≤ 3) (he : e < 1000) (hl : l < 1000) (hx : x.length ≤ 40) (hy : y.length ≤ 40) (hpe : hs[e]? = some (.str x tx)) (hpl : hs[l]? = some (.str y ty))
    (B : Below callerA base [] h₀) (X : (hd.heap_39 w.params).In h₀) (T : Top hd.view_39 (looseW hd.view_39 [Str.ofString "IPV4_RE"]) mean mg mb h₀)
    (six : Six zs) (isz : IsZs zs o) (hoc : oc.data = .cell (some (.ref Dz))) (ho2 : o2.data = .cell (some (.ref La)))
    (F : Fr h₀ L s.heap m) (hp : Pins m [(Str.ofString "places", Value.ref Pl), (Str.ofString "hosts", Value.ref Ho), (Str.ofString "steps", Value.ref S), (Str.ofString "late", Value.int (l : Nat) t1), (Str.ofString "early", Value.int (e : Nat) t2), (Str.ofString "floors", Value.int n t3)])
    (N : News h₀ L s.heap ((S, sto) :: (La, LCg.lst las) :: (Ho, LCg.lst hs) :: (Pl, LCg.lst ps) :: (Dz, o) :: (L + 1 + 1, o2) :: (L + 1, oc) :: tl))
    (hQ : ∀ m' h tk t4, Pins m' [(Str.ofString "places", Value.ref Pl), (Str.ofString "hosts", Value.ref Ho), (Str.ofString "steps", Value.ref S), (Str.ofString "late", Value.int (l : Nat) t1), (Str.ofString "early", Value.int (e : Nat) t2), (Str.ofString "floors", Value.int n t3), (Str.ofString "far", Value.int (lev x y (2 * (zs.length : Nat))) t4)] → Fr h₀ L h m' → News h₀ L h ((S, sto) :: (La, LCg.lst las) :: (Ho, LCg.lst hs) :: (Pl, LCg.lst ps) :: (Dz, o) :: (L + 1 + 1, o2) :: (L + 1, oc) :: tl) → Q .next { s with heap := h, toks := tk }) :
    wpAny (model PySem.Challenge.rw_xe0040_01.row.prog w) (callerA.deeper (lawEnv fa9 cd9 w.params L)) (exec (lawBk w.params 1) (lawEnv fa9 cd9 w.params L)) Q E s := by
  k_with_none
  k_with "call builtin:len" => (k_here; (with_reducible show wpAny _ _ (call (Value.builtin "len") [Value.ref _]) _ _ _); k_dflt (refine len_led (by k_asm) (by with_reducible assumption) (by with_reducible assumption) (by k_mem) ?_))
  k_with "subscriptTail" => (k_here; (with_reducible show wpAny _ _ (subscriptTail _ _ (Value.ref _) (Value.int ((_ : Nat) : Int) _)) _ _ _); k_dflt (refine item_led (by k_asm) (by with_reducible assumption) (by k_mem) (by omega) ?_))
  k_with "call ref" => (k_here; (with_reducible show wpAny _ _ (call (Value.ref 111) _ _) _ _ _); k_dflt (refine' floors_g _ _ _ (by with_reducible assumption) _ (by with_reducible assumption) _ _ _ _ _ (by with_reducible assumption) (by with_reducible assumption) _ _ _ _ _ _ _ _ _ _ _ _ _ _ _ _ _ _ _ _ _ ?k1 ?k2 ?k3 ?k4 ?k5 ?k6 ?k7 ?k8 ?_; (case k1 => k_asm); (case k2 => k_asm); (case k3 => k_asm); (case k4 => (rename News _ _ _ _ => kN9q; have kM9q := fun q hm => News.dup (q := q) hm kN9q; refine kM9q _ ?_; k_mem)); (case k5 => k_asm); (case k6 => exact rfl); (case k7 => ktr_room); (case k8 => ktr_units)); intro v9q h9q tk9q e9q F9q N9q; k_dflt (replace N9q := News.undup N9q); k_dflt (obtain ⟨t9q, e9q⟩ := e9q); subst e9q; (try dsimp only); (try k_fold))
  k_with "call ref" => (k_here; (with_reducible show wpAny _ _ (call (Value.ref 85) _ _) _ _ _); k_dflt (refine' lev_gives _ _ _ _ _ _ _ _ (by with_reducible assumption) (by with_reducible assumption) (by omega) _ _ _ _ _ _ _ _ _ _ _ _ _ _ _ _ _ _ _ _ _ ?k1 ?k2 ?k3 ?k4 ?k5 ?k6 ?k7 ?k8 ?_; (case k1 => k_asm); (case k2 => k_asm); (case k3 => k_asm); (case k4 => k_asm); (case k5 => k_asm); (case k6 => exact rfl); (case k7 => ktr_room); (case k8 => ktr_units)); intro v9q h9q tk9q e9q F9q N9q; k_dflt (obtain ⟨t9q, e9q⟩ := e9q); subst e9q; (try dsimp only); (try k_fold))
  w_top off
  have hfill : PySem.Challenge.rw_xe0040_01 = PySem.Challenge.rw_xe0040_01 ∧ Mine.hd.heap_39 = Mine.hd.heap_39 := by (k_fill; exact ⟨rfl, rfl⟩)
  clear hfill
  generalize hS : lawBk w.params 1 = S0
  generalize hC : lawScope w.params = C
  with_unfolding_all conv at hS => lhs; whnf
  with_unfolding_all conv at hC => lhs; whnf
  subst hS hC
  rw [pinL hp] at F
  simp only [chain] at F
  k_steps
  (with_reducible rename News _ _ _ _ => N8)
  (with_reducible rename Fr _ _ _ _ => F8)
  refine hQ _ _ _ ?tt ?hpins F8 N8
  case hpins => (repeat' (first | exact trivial | refine And.intro (by with_unfolding_all rfl) ?_))
end Mine
end
section
open PySem PySem.W PySem.Calls PyProof.Rows
set_option maxRecDepth 100000
set_option maxHeartbeats 1000000
namespace Mine
variable {fa9 : Addr} {cd9 : Value}
local macro_rules | `(tactic| k_mem) => `(tactic| with_reducible_and_instances assumption)
structure DM (x y : Str) (b : Bool) : Prop where
  lx : x.length ≤ 100
  ly : y.length ≤ 100
  hx : (reHit (Txt.lower x)).isSome = true
  hy : (reHit (Txt.slice (Txt.lower y) (some 1) none)).isSome = true
  eq : dmatch x y = b
theorem dm_gives (prog : Program) (w : World) (x y : Str) (b : Bool) (tx ty : Tok) (h : DM x y b) : Gives prog w 50 8 40 [.str x tx, .str y ty] (fun v => v = .bool b) := by
  have z := dmatch_gives prog w x y tx ty h.lx h.ly h.hx h.hy
  rw [h.eq] at z
  exact z
theorem b3_turn (w : World) (mean : ExcName → Option Value) (mg mb : Str → Option Value) (base h₀ : Heap) (L : Addr) (m : Str → Option Value) (s : Shared) (Q : Flow → Shared → Prop) (E : Value → Shared → Prop) (S La Ho Pl Dz : Addr) (sto o o2 oc : Obj) (las hs ps : List Value) (tl : List (Addr × Obj)) (zs : List Int) (I la : Addr) (it : Obj) (lvs : List Value) (kk : Nat) (e l j : Nat) (n : Int) (t1 t2 t3 t5 tx ty : Tok) (x y : Str) (rest : (Str → Option Value) → List (Addr × Obj) → Prop)
    (B : Below callerA base [] h₀) (X : (hd.heap_39 w.params).In h₀) (T : Top hd.view_39 (looseW hd.view_39 [Str.ofString "IPV4_RE"]) mean mg mb h₀)
    (six : Six zs) (isz : IsZs zs o) (hoc : oc.data = .cell (some (.ref Dz))) (ho2 : o2.data = .cell (some (.ref La)))
    (he : e < 1000) (hl : l < 1000) (hj : j < 1000) (hpl : hs[l]? = some (.str x tx)) (hpe : las[e]? = some (.ref la)) (hla : (la, W.listOf lvs.toArray kk) ∈ tl) (hpy : lvs[j]? = some (.str y ty)) (dm : DM x y (decide (n ≤ (j : Int))))
    (F : Fr h₀ L s.heap m) (hp : Pins m [(Str.ofString "floor", Value.int (j : Nat) t5), (Str.ofString "places", Value.ref Pl), (Str.ofString "hosts", Value.ref Ho), (Str.ofString "steps", Value.ref S), (Str.ofString "late", Value.int (l : Nat) t1), (Str.ofString "early", Value.int (e : Nat) t2), (Str.ofString "floors", Value.int n t3)])
    (N : News h₀ L s.heap ((I, it) :: ((S, sto) :: (La, LCg.lst las) :: (Ho, LCg.lst hs) :: (Pl, LCg.lst ps) :: (Dz, o) :: (L + 1 + 1, o2) :: (L + 1, oc) :: tl)))
    (hr : ∀ m' h tk, Pins m' [(Str.ofString "places", Value.ref Pl), (Str.ofString "hosts", Value.ref Ho), (Str.ofString "steps", Value.ref S), (Str.ofString "late", Value.int (l : Nat) t1), (Str.ofString "early", Value.int (e : Nat) t2), (Str.ofString "floors", Value.int n t3)] → Fr h₀ L h m' → News h₀ L h ((I, it) :: ((S, sto) :: (La, LCg.lst las) :: (Ho, LCg.lst hs) :: (Pl, LCg.lst ps) :: (Dz, o) :: (L + 1 + 1, o2) :: (L + 1, oc) :: tl)) → UnrEnd h₀ L s I it rest { s with heap := h, toks := tk }) :
    wpAny (model PySem.Challenge.rw_xe0040_01.row.prog w) (callerA.deeper (lawEnv fa9 cd9 w.params L)) (execs (bodyOf (lawBk w.params 3)) (lawEnv fa9 cd9 w.params L)) (UnrPost h₀ L s I it rest Q) E s := by
  k_with_none
  k_with "UnrEnd" => (k_here; refine Stop.out ?_)
  k_with "subscriptTail" => (k_here; (with_reducible show wpAny _ _ (subscriptTail _ _ (Value.ref _) (Value.int ((_ : Nat) : Int) _)) _ _ _); k_dflt (refine item_led (by k_asm) (by with_reducible assumption) (by k_mem) (by omega) ?_))
  k_with "call ref" => (k_here; (with_reducible show wpAny _ _ (call (Value.ref 50) _ _) _ _ _); k_dflt (refine' dm_gives _ _ _ _ _ _ _ (by with_reducible assumption) _ _ _ _ _ _ _ _ _ _ _ _ _ _ _ _ _ _ _ _ _ ?k1 ?k2 ?k3 ?k4 ?k5 ?k6 ?k7 ?k8 ?_; (case k1 => k_asm); (case k2 => k_asm); (case k3 => k_asm); (case k4 => k_asm); (case k5 => k_asm); (case k6 => exact rfl); (case k7 => ktr_room); (case k8 => ktr_units)); intro v9q h9q tk9q e9q F9q N9q; subst e9q; (try dsimp only); (try k_fold))
  w_top off
  have hfill : PySem.Challenge.rw_xe0040_01 = PySem.Challenge.rw_xe0040_01 ∧ Mine.hd.heap_39 = Mine.hd.heap_39 := by (k_fill; exact ⟨rfl, rfl⟩)
  clear hfill
  generalize hS : bodyOf (lawBk w.params 3) = S0
  generalize hC : lawScope w.params = C
  with_unfolding_all conv at hS => lhs; whnf
  with_unfolding_all conv at hC => lhs; whnf
  subst hS hC
  rw [pinL hp] at F
  simp only [chain] at F
  have hla' : (la, ({ cls := .type "list", data := .seq lvs.toArray kk } : Obj)) ∈ tl := hla
  k_steps
  all_goals first
    | (rename (_ != _) = true => hz; simp at hz; done)
    | skip
  (with_reducible rename News _ _ _ _ => N8)
  (with_reducible rename Fr _ _ _ _ => F8)
  refine Stop.go ?_
  refine hr _ _ _ ?hpins F8 N8
  case hpins => (repeat' (first | exact trivial | refine And.intro (by with_unfolding_all rfl) ?_))
theorem b3 (w : World) (mean : ExcName → Option Value) (mg mb : Str → Option Value) (base h₀ : Heap) (L : Addr) (m : Str → Option Value) (s : Shared) (Q : Flow → Shared → Prop) (E : Value → Shared → Prop) (S La Ho Pl Dz : Addr) (sto o o2 oc : Obj) (las hs ps : List Value) (tl : List (Addr × Obj)) (zs : List Int) (la : Addr) (lvs : List Value) (kk : Nat) (e l : Nat) (n : Int) (t1 t2 t3 tx : Tok) (x : Str)
    (B : Below callerA base [] h₀) (X : (hd.heap_39 w.params).In h₀) (T : Top hd.view_39 (looseW hd.view_39 [Str.ofString "IPV4_RE"]) mean mg mb h₀)
    (hE : PassesOwn (model PySem.Challenge.rw_xe0040_01.row.prog w) (callerA.deeper (lawEnv fa9 cd9 w.params L)) (lawEnv fa9 cd9 w.params L) E)
    (six : Six zs) (isz : IsZs zs o) (hoc : oc.data = .cell (some (.ref Dz))) (ho2 : o2.data = .cell (some (.ref La)))
    (hz : 2 ≤ zs.length ∧ zs.length ≤ 3) (he : e < 1000) (hl : l < 1000) (hpl : hs[l]? = some (.str x tx)) (hpe : las[e]? = some (.ref la)) (hla : (la, W.listOf lvs.toArray kk) ∈ tl) (hpy : ∀ j, j ≤ zs.length → ∃ y ty, lvs[j]? = some (.str y ty) ∧ DM x y (decide (n ≤ (j : Int))))
    (F : Fr h₀ L s.heap m) (hp : Pins m [(Str.ofString "places", Value.ref Pl), (Str.ofString "hosts", Value.ref Ho), (Str.ofString "steps", Value.ref S), (Str.ofString "late", Value.int (l : Nat) t1), (Str.ofString "early", Value.int (e : Nat) t2), (Str.ofString "floors", Value.int n t3)])
    (N : News h₀ L s.heap ((S, sto) :: (La, LCg.lst las) :: (Ho, LCg.lst hs) :: (Pl, LCg.lst ps) :: (Dz, o) :: (L + 1 + 1, o2) :: (L + 1, oc) :: tl))
    (hQ : ∀ m' h tk, Pins m' [(Str.ofString "places", Value.ref Pl), (Str.ofString "hosts", Value.ref Ho), (Str.ofString "steps", Value.ref S), (Str.ofString "late", Value.int (l : Nat) t1), (Str.ofString "early", Value.int (e : Nat) t2), (Str.ofString "floors", Value.int n t3)] → Fr h₀ L h m' → News h₀ L h ((S, sto) :: (La, LCg.lst las) :: (Ho, LCg.lst hs) :: (Pl, LCg.lst ps) :: (Dz, o) :: (L + 1 + 1, o2) :: (L + 1, oc) :: tl) → Q .next { s with heap := h, toks := tk }) :
    wpAny (model PySem.Challenge.rw_xe0040_01.row.prog w) (callerA.deeper (lawEnv fa9 cd9 w.params L)) (exec (lawBk w.params 3) (lawEnv fa9 cd9 w.params L)) Q E s := by
  k_with_none
  k_with "UnrEnd" => (k_here; refine Stop.out ?_)
  k_with "subscriptTail" => (k_here; (with_reducible show wpAny _ _ (subscriptTail _ _ (Value.ref _) (Value.int ((_ : Nat) : Int) _)) _ _ _); k_dflt (refine item_led (by k_asm) (by with_reducible assumption) (by k_mem) (by omega) ?_))
  k_with "call ref" => (k_here; (with_reducible show wpAny _ _ (call (Value.ref 50) _ _) _ _ _); k_dflt (refine' dm_gives _ _ _ _ _ _ _ (by with_reducible assumption) _ _ _ _ _ _ _ _ _ _ _ _ _ _ _ _ _ _ _ _ _ ?k1 ?k2 ?k3 ?k4 ?k5 ?k6 ?k7 ?k8 ?_; (case k1 => k_asm); (case k2 => k_asm); (case k3 => k_asm); (case k4 => k_asm); (case k5 => k_asm); (case k6 => exact rfl); (case k7 => ktr_room); (case k8 => ktr_units)); intro v9q h9q tk9q e9q F9q N9q; subst e9q; (try dsimp only); (try k_fold))
  k_with "call builtin:len" => (k_here; (with_reducible show wpAny _ _ (call (Value.builtin "len") [Value.ref _]) _ _ _); k_dflt (refine len_led (by k_asm) (by with_reducible assumption) (by with_reducible assumption) (by k_mem) ?_))
  k_with "call type:range" => (k_here; refine Stop.out ?_)
  k_with "pyIter ref" => (k_here; refine Stop.out ?_)
  w_top off
  have hfill : PySem.Challenge.rw_xe0040_01 = PySem.Challenge.rw_xe0040_01 ∧ Mine.hd.heap_39 = Mine.hd.heap_39 := by (k_fill; exact ⟨rfl, rfl⟩)
  clear hfill
  have turn := b3_turn (fa9 := fa9) (cd9 := cd9) w mean mg mb base h₀ L
  generalize hS : lawBk w.params 3 = S0
  rw [hS] at turn
  with_unfolding_all conv at hS => lhs; whnf
  subst hS
  rw [pinL hp] at F
  simp only [chain] at F
  refine For_invVF F rfl rfl ?_
  k_steps
  refine Stop.go ?_
  (with_reducible rename News _ _ _ _ => N8)
  (with_reducible rename Fr _ _ _ _ => F8)
  refine range1_rows F8 N8 ?_
  intro h9 tk9 u1 u2 u3 R9 F9 N9 keep9
  refine iter_rangeJ (n := zs.length + 1) (fun i m' n' => Pins m' [(Str.ofString "places", Value.ref Pl), (Str.ofString "hosts", Value.ref Ho), (Str.ofString "steps", Value.ref S), (Str.ofString "late", Value.int (l : Nat) t1), (Str.ofString "early", Value.int (e : Nat) t2), (Str.ofString "floors", Value.int n t3)] ∧ n' = ((S, sto) :: (La, LCg.lst las) :: (Ho, LCg.lst hs) :: (Pl, LCg.lst ps) :: (Dz, o) :: (L + 1 + 1, o2) :: (L + 1, oc) :: tl)) rfl R9 (small_one (by omega) (by omega) (by omega) (by omega)) (by rw [rangeSize_nat]; omega) F9 N9 ⟨?hpins, rfl⟩ ?turn ?done
  case hpins => (repeat' (first | exact trivial | refine And.intro (by with_unfolding_all rfl) ?_))
  case done =>
    rintro m' n' h tk ⟨hp', rfl⟩ F' N'
    exact hQ m' h tk hp' F' N'
  case turn =>
    rintro i hi m' n' t h tk I it ⟨hp', rfl⟩ off _ hit F' N'
    obtain ⟨y, ty, hy, dm⟩ := hpy i (by omega)
    rw [show (0 : Int) + (i : Int) * 1 = ((i : Nat) : Int) by omega] at F'
    refine turn _ _ Q E S La Ho Pl Dz sto o o2 oc las hs ps tl zs I la it lvs kk e l i n t1 t2 t3 t tx ty x y _ B X T six isz hoc ho2 he hl (by omega) hpl hpe hla hy dm F' ?hpins ?nn ?rr
    case nn => exact N'
    case hpins => exact ⟨if_pos rfl, hp'.set (by with_unfolding_all rfl)⟩
    case rr =>
      intro m'' h' tk' hp'' F'' N''
      exact UnrEnd.intro F'' N'' _ (fun p hp => hp) off ⟨hp'', rfl⟩
end Mine
end
section
open PySem PySem.W PySem.Calls PyProof.Rows
set_option maxRecDepth 100000
set_option maxHeartbeats 1000000
namespace Mine
variable {fa9 : Addr} {cd9 : Value}
local macro_rules | `(tactic| k_mem) => `(tactic| with_reducible_and_instances assumption)
local macro_rules | `(tactic| k_all) => `(tactic| with_reducible assumption)
theorem b2A (w : World) (mean : ExcName → Option Value) (mg mb : Str → Option Value) (base h₀ : Heap) (L : Addr) (m : Str → Option Value) (s : Shared) (Q : Flow → Shared → Prop) (E : Value → Shared → Prop) (S La Ho Pl Dz : Addr) (sto o o2 oc : Obj) (las hs ps : List Value) (tl : List (Addr × Obj)) (zs : List Int) (sv : List Value) (kk e l : Nat) (n f : Int) (t1 t2 t3 t4 : Tok)
    (B : Below callerA base [] h₀) (X : (hd.heap_39 w.params).In h₀) (T : Top hd.view_39 (looseW hd.view_39 [Str.ofString "IPV4_RE"]) mean mg mb h₀)
    (six : Six zs) (isz : IsZs zs o) (hoc : oc.data = .cell (some (.ref Dz))) (ho2 : o2.data = .cell (some (.ref La)))
    (hel : e + 1 = l) (hf : f = 2 * n) (hn : 0 ≤ n ∧ n ≤ 3) (hsv : sv.toArray.size ≤ sizeLine) (hneS : @Ne Nat La S ∧ @Ne Nat Ho S ∧ @Ne Nat Pl S ∧ @Ne Nat Dz S ∧ @Ne Nat (L + 1 + 1) S ∧ @Ne Nat (L + 1) S) (htS : ∀ p ∈ tl, p.1 ≠ S)
    (F : Fr h₀ L s.heap m) (hp : Pins m [(Str.ofString "places", Value.ref Pl), (Str.ofString "hosts", Value.ref Ho), (Str.ofString "steps", Value.ref S), (Str.ofString "late", Value.int (l : Nat) t1), (Str.ofString "early", Value.int (e : Nat) t2), (Str.ofString "floors", Value.int n t3), (Str.ofString "far", Value.int f t4)])
    (N : News h₀ L s.heap ((S, W.listOf sv.toArray kk) :: (La, LCg.lst las) :: (Ho, LCg.lst hs) :: (Pl, LCg.lst ps) :: (Dz, o) :: (L + 1 + 1, o2) :: (L + 1, oc) :: tl))
    (hQ : ∀ m' h tk, Pins m' [(Str.ofString "places", Value.ref Pl), (Str.ofString "hosts", Value.ref Ho), (Str.ofString "steps", Value.ref S), (Str.ofString "late", Value.int (l : Nat) t1), (Str.ofString "early", Value.int (e : Nat) t2), (Str.ofString "floors", Value.int n t3)] → Fr h₀ L h m' → News h₀ L h ((S, W.listOf (sv ++ [Value.int f t4]).toArray (kk + 1)) :: (La, LCg.lst las) :: (Ho, LCg.lst hs) :: (Pl, LCg.lst ps) :: (Dz, o) :: (L + 1 + 1, o2) :: (L + 1, oc) :: tl) → Q .next { s with heap := h, toks := tk }) :
    wpAny (model PySem.Challenge.rw_xe0040_01.row.prog w) (callerA.deeper (lawEnv fa9 cd9 w.params L)) (exec (lawBk w.params 2) (lawEnv fa9 cd9 w.params L)) Q E s := by
  k_with_none
  k_with "call builtin:list.append" => (k_here; (with_reducible show wpAny _ _ (call (Value.builtin _) [Value.ref _, _]) _ _ _); k_dflt (refine' append_K ?k1 ?k2 ?k3 ?_ ?z; (case k1 => k_asm); (case k2 => k_asm); (case k3 => k_upd); (case z => with_reducible assumption); k_whole); intro h'q F'q N'q; (try k_sweep))
  w_top off
  have hfill : PySem.Challenge.rw_xe0040_01 = PySem.Challenge.rw_xe0040_01 ∧ Mine.hd.heap_39 = Mine.hd.heap_39 := by (k_fill; exact ⟨rfl, rfl⟩)
  clear hfill
  generalize hS : lawBk w.params 2 = S0
  generalize hC : lawScope w.params = C
  with_unfolding_all conv at hS => lhs; whnf
  with_unfolding_all conv at hC => lhs; whnf
  subst hS hC
  rw [pinL hp] at F
  simp only [chain] at F
  k_steps
  all_goals first
    | (exfalso; omega)
    | skip
  (with_reducible rename News _ _ _ _ => N8)
  (with_reducible rename Fr _ _ _ _ => F8)
  rw [List.push_toArray] at N8
  refine hQ _ _ _ ?hpins F8 N8
  case hpins => (repeat' (first | exact trivial | refine And.intro (by with_unfolding_all rfl) ?_))
theorem b2B20 (w : World) (mean : ExcName → Option Value) (mg mb : Str → Option Value) (base h₀ : Heap) (L : Addr) (m : Str → Option Value) (s : Shared) (Q : Flow → Shared → Prop) (E : Value → Shared → Prop) (S La Ho Pl Dz : Addr) (sto o o2 oc : Obj) (las hs ps : List Value) (tl : List (Addr × Obj)) (zs : List Int) (kk : Nat) (f0 f1 : Int) (s0 s1 : Tok) (n f : Int) (t1 t2 t3 t4 : Tok)
    (B : Below callerA base [] h₀) (X : (hd.heap_39 w.params).In h₀) (T : Top hd.view_39 (looseW hd.view_39 [Str.ofString "IPV4_RE"]) mean mg mb h₀)
    (six : Six zs) (isz : IsZs zs o) (hoc : oc.data = .cell (some (.ref Dz))) (ho2 : o2.data = .cell (some (.ref La)))
    (hf : (f = f0 ∨ f = f1) ∧ f0 ≤ f ∧ f1 ≤ f) 
    (F : Fr h₀ L s.heap m) (hp : Pins m [(Str.ofString "places", Value.ref Pl), (Str.ofString "hosts", Value.ref Ho), (Str.ofString "steps", Value.ref S), (Str.ofString "late", Value.int 2 t1), (Str.ofString "early", Value.int 0 t2), (Str.ofString "floors", Value.int n t3), (Str.ofString "far", Value.int f t4)])
    (N : News h₀ L s.heap ((S, W.listOf #[.int f0 s0, .int f1 s1] kk) :: (La, LCg.lst las) :: (Ho, LCg.lst hs) :: (Pl, LCg.lst ps) :: (Dz, o) :: (L + 1 + 1, o2) :: (L + 1, oc) :: tl))
    (hQ : ∀ m' h tk, Pins m' [(Str.ofString "places", Value.ref Pl), (Str.ofString "hosts", Value.ref Ho), (Str.ofString "steps", Value.ref S), (Str.ofString "late", Value.int 2 t1), (Str.ofString "early", Value.int 0 t2), (Str.ofString "floors", Value.int n t3)] → Fr h₀ L h m' → News h₀ L h ((S, W.listOf #[.int f0 s0, .int f1 s1] kk) :: (La, LCg.lst las) :: (Ho, LCg.lst hs) :: (Pl, LCg.lst ps) :: (Dz, o) :: (L + 1 + 1, o2) :: (L + 1, oc) :: tl) → Q .next { s with heap := h, toks := tk }) :
    wpAny (model PySem.Challenge.rw_xe0040_01.row.prog w) (callerA.deeper (lawEnv fa9 cd9 w.params L)) (exec (lawBk w.params 2) (lawEnv fa9 cd9 w.params L)) Q E s := by
  k_with_none
  k_with "call builtin:list.append" => (k_here; (with_reducible show wpAny _ _ (call (Value.builtin _) [Value.ref _, _]) _ _ _); k_dflt (refine' append_K ?k1 ?k2 ?k3 ?_ ?z; (case k1 => k_asm); (case k2 => k_asm); (case k3 => k_upd); (case z => with_reducible assumption); k_whole); intro h'q F'q N'q; (try k_sweep))
  w_top off
  have hfill : PySem.Challenge.rw_xe0040_01 = PySem.Challenge.rw_xe0040_01 ∧ Mine.hd.heap_39 = Mine.hd.heap_39 := by (k_fill; exact ⟨rfl, rfl⟩)
  clear hfill
  generalize hS : lawBk w.params 2 = S0
  generalize hC : lawScope w.params = C
  with_unfolding_all conv at hS => lhs; whnf
  with_unfolding_all conv at hC => lhs; whnf
  subst hS hC
  rw [pinL hp] at F
  simp only [chain] at F
  k_steps
  all_goals first
    | (exfalso; omega)
    | skip
  (with_reducible rename News _ _ _ _ => N8)
  (with_reducible rename Fr _ _ _ _ => F8)
  replace N8 := fun p hp => N8 p (List.mem_cons_of_mem _ hp)
  refine hQ _ _ _ ?hpins F8 N8
  case hpins => (repeat' (first | exact trivial | refine And.intro (by with_unfolding_all rfl) ?_))
theorem b2B30 (w : World) (mean : ExcName → Option Value) (mg mb : Str → Option Value) (base h₀ : Heap) (L : Addr) (m : Str → Option Value) (s : Shared) (Q : Flow → Shared → Prop) (E : Value → Shared → Prop) (S La Ho Pl Dz : Addr) (sto o o2 oc : Obj) (las hs ps : List Value) (tl : List (Addr × Obj)) (zs : List Int) (kk : Nat) (f0 f1 f2 : Int) (s0 s1 s2 : Tok) (n f : Int) (t1 t2 t3 t4 : Tok)
    (B : Below callerA base [] h₀) (X : (hd.heap_39 w.params).In h₀) (T : Top hd.view_39 (looseW hd.view_39 [Str.ofString "IPV4_RE"]) mean mg mb h₀)
    (six : Six zs) (isz : IsZs zs o) (hoc : oc.data = .cell (some (.ref Dz))) (ho2 : o2.data = .cell (some (.ref La)))
    (hf : (f = f0 ∨ f = f1 ∨ f = f2) ∧ f0 ≤ f ∧ f1 ≤ f ∧ f2 ≤ f) 
    (F : Fr h₀ L s.heap m) (hp : Pins m [(Str.ofString "places", Value.ref Pl), (Str.ofString "hosts", Value.ref Ho), (Str.ofString "steps", Value.ref S), (Str.ofString "late", Value.int 3 t1), (Str.ofString "early", Value.int 0 t2), (Str.ofString "floors", Value.int n t3), (Str.ofString "far", Value.int f t4)])
    (N : News h₀ L s.heap ((S, W.listOf #[.int f0 s0, .int f1 s1, .int f2 s2] kk) :: (La, LCg.lst las) :: (Ho, LCg.lst hs) :: (Pl, LCg.lst ps) :: (Dz, o) :: (L + 1 + 1, o2) :: (L + 1, oc) :: tl))
    (hQ : ∀ m' h tk, Pins m' [(Str.ofString "places", Value.ref Pl), (Str.ofString "hosts", Value.ref Ho), (Str.ofString "steps", Value.ref S), (Str.ofString "late", Value.int 3 t1), (Str.ofString "early", Value.int 0 t2), (Str.ofString "floors", Value.int n t3)] → Fr h₀ L h m' → News h₀ L h ((S, W.listOf #[.int f0 s0, .int f1 s1, .int f2 s2] kk) :: (La, LCg.lst las) :: (Ho, LCg.lst hs) :: (Pl, LCg.lst ps) :: (Dz, o) :: (L + 1 + 1, o2) :: (L + 1, oc) :: tl) → Q .next { s with heap := h, toks := tk }) :
    wpAny (model PySem.Challenge.rw_xe0040_01.row.prog w) (callerA.deeper (lawEnv fa9 cd9 w.params L)) (exec (lawBk w.params 2) (lawEnv fa9 cd9 w.params L)) Q E s := by
  k_with_none
  k_with "call builtin:list.append" => (k_here; (with_reducible show wpAny _ _ (call (Value.builtin _) [Value.ref _, _]) _ _ _); k_dflt (refine' append_K ?k1 ?k2 ?k3 ?_ ?z; (case k1 => k_asm); (case k2 => k_asm); (case k3 => k_upd); (case z => with_reducible assumption); k_whole); intro h'q F'q N'q; (try k_sweep))
  w_top off
  have hfill : PySem.Challenge.rw_xe0040_01 = PySem.Challenge.rw_xe0040_01 ∧ Mine.hd.heap_39 = Mine.hd.heap_39 := by (k_fill; exact ⟨rfl, rfl⟩)
  clear hfill
  generalize hS : lawBk w.params 2 = S0
  generalize hC : lawScope w.params = C
  with_unfolding_all conv at hS => lhs; whnf
  with_unfolding_all conv at hC => lhs; whnf
  subst hS hC
  rw [pinL hp] at F
  simp only [chain] at F
  k_steps
  all_goals first
    | (exfalso; omega)
    | skip
  (with_reducible rename News _ _ _ _ => N8)
  (with_reducible rename Fr _ _ _ _ => F8)
  replace N8 := fun p hp => N8 p (List.mem_cons_of_mem _ hp)
  refine hQ _ _ _ ?hpins F8 N8
  case hpins => (repeat' (first | exact trivial | refine And.intro (by with_unfolding_all rfl) ?_))
theorem b2B31 (w : World) (mean : ExcName → Option Value) (mg mb : Str → Option Value) (base h₀ : Heap) (L : Addr) (m : Str → Option Value) (s : Shared) (Q : Flow → Shared → Prop) (E : Value → Shared → Prop) (S La Ho Pl Dz : Addr) (sto o o2 oc : Obj) (las hs ps : List Value) (tl : List (Addr × Obj)) (zs : List Int) (kk : Nat) (f0 f1 f2 : Int) (s0 s1 s2 : Tok) (n f : Int) (t1 t2 t3 t4 : Tok)
    (B : Below callerA base [] h₀) (X : (hd.heap_39 w.params).In h₀) (T : Top hd.view_39 (looseW hd.view_39 [Str.ofString "IPV4_RE"]) mean mg mb h₀)
    (six : Six zs) (isz : IsZs zs o) (hoc : oc.data = .cell (some (.ref Dz))) (ho2 : o2.data = .cell (some (.ref La)))
    (hf : (f = f1 ∨ f = f2) ∧ f1 ≤ f ∧ f2 ≤ f) 
    (F : Fr h₀ L s.heap m) (hp : Pins m [(Str.ofString "places", Value.ref Pl), (Str.ofString "hosts", Value.ref Ho), (Str.ofString "steps", Value.ref S), (Str.ofString "late", Value.int 3 t1), (Str.ofString "early", Value.int 1 t2), (Str.ofString "floors", Value.int n t3), (Str.ofString "far", Value.int f t4)])
    (N : News h₀ L s.heap ((S, W.listOf #[.int f0 s0, .int f1 s1, .int f2 s2] kk) :: (La, LCg.lst las) :: (Ho, LCg.lst hs) :: (Pl, LCg.lst ps) :: (Dz, o) :: (L + 1 + 1, o2) :: (L + 1, oc) :: tl))
    (hQ : ∀ m' h tk, Pins m' [(Str.ofString "places", Value.ref Pl), (Str.ofString "hosts", Value.ref Ho), (Str.ofString "steps", Value.ref S), (Str.ofString "late", Value.int 3 t1), (Str.ofString "early", Value.int 1 t2), (Str.ofString "floors", Value.int n t3)] → Fr h₀ L h m' → News h₀ L h ((S, W.listOf #[.int f0 s0, .int f1 s1, .int f2 s2] kk) :: (La, LCg.lst las) :: (Ho, LCg.lst hs) :: (Pl, LCg.lst ps) :: (Dz, o) :: (L + 1 + 1, o2) :: (L + 1, oc) :: tl) → Q .next { s with heap := h, toks := tk }) :
    wpAny (model PySem.Challenge.rw_xe0040_01.row.prog w) (callerA.deeper (lawEnv fa9 cd9 w.params L)) (exec (lawBk w.params 2) (lawEnv fa9 cd9 w.params L)) Q E s := by
  k_with_none
  k_with "call builtin:list.append" => (k_here; (with_reducible show wpAny _ _ (call (Value.builtin _) [Value.ref _, _]) _ _ _); k_dflt (refine' append_K ?k1 ?k2 ?k3 ?_ ?z; (case k1 => k_asm); (case k2 => k_asm); (case k3 => k_upd); (case z => with_reducible assumption); k_whole); intro h'q F'q N'q; (try k_sweep))
  w_top off
  have hfill : PySem.Challenge.rw_xe0040_01 = PySem.Challenge.rw_xe0040_01 ∧ Mine.hd.heap_39 = Mine.hd.heap_39 := by (k_fill; exact ⟨rfl, rfl⟩)
  clear hfill
  generalize hS : lawBk w.params 2 = S0
  generalize hC : lawScope w.params = C
  with_unfolding_all conv at hS => lhs; whnf
  with_unfolding_all conv at hC => lhs; whnf
  subst hS hC
  rw [pinL hp] at F
  simp only [chain] at F
  k_steps
  all_goals first
    | (exfalso; omega)
    | skip
  (with_reducible rename News _ _ _ _ => N8)
  (with_reducible rename Fr _ _ _ _ => F8)
  replace N8 := fun p hp => N8 p (List.mem_cons_of_mem _ hp)
  refine hQ _ _ _ ?hpins F8 N8
  case hpins => (repeat' (first | exact trivial | refine And.intro (by with_unfolding_all rfl) ?_))
end Mine
end
section
open PySem PySem.W PySem.Calls PyProof.Rows
set_option maxRecDepth 100000
set_option maxHeartbeats 1000000
namespace Mine
variable {fa9 : Addr} {cd9 : Value}
abbrev intV (n : Int) (t : Tok) : Value := .int n t
theorem are_range {fl : Nat → Int} {sv : List Value} {k : Nat} (h : Are intV sv ((List.range k).map fl)) : sv.length = k := by rw [h.len]; simp
theorem are_two {fl : Nat → Int} {sv : List Value} (h : Are intV sv ((List.range 2).map fl)) : ∃ s0 s1, sv = [.int (fl 0) s0, .int (fl 1) s1] := by
  cases h with | cons _ s0 h => cases h with | cons _ s1 h => cases h; exact ⟨s0, s1, rfl⟩
theorem are_three {fl : Nat → Int} {sv : List Value} (h : Are intV sv ((List.range 3).map fl)) : ∃ s0 s1 s2, sv = [.int (fl 0) s0, .int (fl 1) s1, .int (fl 2) s2] := by
  cases h with | cons _ s0 h => cases h with | cons _ s1 h => cases h with | cons _ s2 h => cases h; exact ⟨s0, s1, s2, rfl⟩
theorem b2 (w : World) (mean : ExcName → Option Value) (mg mb : Str → Option Value) (base h₀ : Heap) (L : Addr) (m : Str → Option Value) (s : Shared) (Q : Flow → Shared → Prop) (E : Value → Shared → Prop) (S La Ho Pl Dz : Addr) (sto o o2 oc : Obj) (las hs ps : List Value) (tl : List (Addr × Obj)) (zs : List Int) (sv : List Value) (kk e l : Nat) (n f : Int) (t1 t2 t3 t4 : Tok) (fl : Nat → Int)
    (B : Below callerA base [] h₀) (X : (hd.heap_39 w.params).In h₀) (T : Top hd.view_39 (looseW hd.view_39 [Str.ofString "IPV4_RE"]) mean mg mb h₀)
    (six : Six zs) (isz : IsZs zs o) (hoc : oc.data = .cell (some (.ref Dz))) (ho2 : o2.data = .cell (some (.ref La)))
    (hel : e < l) (hl : l < 4) (hf : f = 2 * n) (hn : 0 ≤ n ∧ n ≤ 3) (hsv : Are intV sv ((List.range (if e + 1 = l then l - 1 else l)).map fl)) (h1 : e + 1 = l → f = fl e) (h2 : e + 1 < l → (∃ i, e ≤ i ∧ i < l ∧ f = fl i) ∧ ∀ i, e ≤ i → i < l → fl i ≤ f) (hneS : @Ne Nat La S ∧ @Ne Nat Ho S ∧ @Ne Nat Pl S ∧ @Ne Nat Dz S ∧ @Ne Nat (L + 1 + 1) S ∧ @Ne Nat (L + 1) S) (htS : ∀ p ∈ tl, p.1 ≠ S)
    (F : Fr h₀ L s.heap m) (hp : Pins m [(Str.ofString "places", Value.ref Pl), (Str.ofString "hosts", Value.ref Ho), (Str.ofString "steps", Value.ref S), (Str.ofString "late", Value.int (l : Nat) t1), (Str.ofString "early", Value.int (e : Nat) t2), (Str.ofString "floors", Value.int n t3), (Str.ofString "far", Value.int f t4)])
    (N : News h₀ L s.heap ((S, W.listOf sv.toArray kk) :: (La, LCg.lst las) :: (Ho, LCg.lst hs) :: (Pl, LCg.lst ps) :: (Dz, o) :: (L + 1 + 1, o2) :: (L + 1, oc) :: tl))
    (hQ : ∀ m' h tk sv' kk', Are intV sv' ((List.range l).map fl) → Pins m' [(Str.ofString "places", Value.ref Pl), (Str.ofString "hosts", Value.ref Ho), (Str.ofString "steps", Value.ref S), (Str.ofString "late", Value.int (l : Nat) t1), (Str.ofString "early", Value.int (e : Nat) t2), (Str.ofString "floors", Value.int n t3)] → Fr h₀ L h m' → News h₀ L h ((S, W.listOf sv'.toArray kk') :: (La, LCg.lst las) :: (Ho, LCg.lst hs) :: (Pl, LCg.lst ps) :: (Dz, o) :: (L + 1 + 1, o2) :: (L + 1, oc) :: tl) → Q .next { s with heap := h, toks := tk }) :
    wpAny (model PySem.Challenge.rw_xe0040_01.row.prog w) (callerA.deeper (lawEnv fa9 cd9 w.params L)) (exec (lawBk w.params 2) (lawEnv fa9 cd9 w.params L)) Q E s := by
  by_cases c : e + 1 = l
  · rw [if_pos c] at hsv
    have e1 : f = fl e := h1 c
    have e2 : l - 1 = e := by omega
    rw [e2] at hsv
    have hz : sv.toArray.size ≤ sizeLine := by
      rw [List.size_toArray, are_range hsv]
      exact Nat.le_trans (Nat.le_of_lt (Nat.lt_trans hel hl)) (by decide)
    refine b2A w mean mg mb base h₀ L m s Q E S La Ho Pl Dz o o o2 oc las hs ps tl zs sv kk e l n f t1 t2 t3 t4 B X T six isz hoc ho2 c hf hn hz hneS htS F hp N fun m' h tk => hQ m' h tk _ _ ?_
    have e3 : List.range l = List.range e ++ [e] := by rw [← c, List.range_succ]
    rw [e3, List.map_append]
    rw [e1]
    exact hsv.snoc (f := intV) (fl e) _
  · rw [if_neg c] at hsv
    obtain ⟨h3, h4⟩ := h2 (by omega)
    have cs : (l = 2 ∧ e = 0) ∨ (l = 3 ∧ e = 0) ∨ (l = 3 ∧ e = 1) := by omega
    rcases cs with ⟨rfl, rfl⟩ | ⟨rfl, rfl⟩ | ⟨rfl, rfl⟩
    · obtain ⟨s0, s1, rfl⟩ := are_two hsv
      have g0 := h4 0 (by omega) (by omega)
      have g1 := h4 1 (by omega) (by omega)
      have g : f = fl 0 ∨ f = fl 1 := by
        obtain ⟨i, a, b, c⟩ := h3
        match i, b with
        | 0, _ => exact .inl c
        | 1, _ => exact .inr c
      exact b2B20 w mean mg mb base h₀ L m s Q E S La Ho Pl Dz (W.listOf #[.int (fl 0) s0, .int (fl 1) s1] kk) o o2 oc las hs ps tl zs kk _ _ s0 s1 n f t1 t2 t3 t4 B X T six isz hoc ho2 ⟨g, g0, g1⟩ F hp N fun m' h tk => hQ m' h tk _ _ hsv
    · obtain ⟨s0, s1, s2, rfl⟩ := are_three hsv
      have g0 := h4 0 (by omega) (by omega)
      have g1 := h4 1 (by omega) (by omega)
      have g2 := h4 2 (by omega) (by omega)
      have g : f = fl 0 ∨ f = fl 1 ∨ f = fl 2 := by
        obtain ⟨i, a, b, c⟩ := h3
        match i, b with
        | 0, _ => exact .inl c
        | 1, _ => exact .inr (.inl c)
        | 2, _ => exact .inr (.inr c)
      exact b2B30 w mean mg mb base h₀ L m s Q E S La Ho Pl Dz (W.listOf #[.int (fl 0) s0, .int (fl 1) s1, .int (fl 2) s2] kk) o o2 oc las hs ps tl zs kk _ _ _ s0 s1 s2 n f t1 t2 t3 t4 B X T six isz hoc ho2 ⟨g, g0, g1, g2⟩ F hp N fun m' h tk => hQ m' h tk _ _ hsv
    · obtain ⟨s0, s1, s2, rfl⟩ := are_three hsv
      have g1 := h4 1 (by omega) (by omega)
      have g2 := h4 2 (by omega) (by omega)
      have g : f = fl 1 ∨ f = fl 2 := by
        obtain ⟨i, a, b, c⟩ := h3
        match i, a, b with
        | 1, _, _ => exact .inl c
        | 2, _, _ => exact .inr c
      exact b2B31 w mean mg mb base h₀ L m s Q E S La Ho Pl Dz (W.listOf #[.int (fl 0) s0, .int (fl 1) s1, .int (fl 2) s2] kk) o o2 oc las hs ps tl zs kk _ _ _ s0 s1 s2 n f t1 t2 t3 t4 B X T six isz hoc ho2 ⟨g, g1, g2⟩ F hp N fun m' h tk => hQ m' h tk _ _ hsv
structure Pair (zs : List Int) (p q : Nat) : Prop where
  lp : (hostT zs p).length ≤ 40
  lq : (hostT zs q).length ≤ 40
  lv : lev (hostT zs p) (hostT zs q) (2 * (zs.length : Nat)) = 2 * (parted zs p q : Nat)
  pn : parted zs p q ≤ 3
  dm : ∀ j, j ≤ zs.length → ∃ y, (lad zs.length (hostT zs p))[j]? = some y ∧ DM (hostT zs q) y (decide (((parted zs p q : Nat) : Int) ≤ (j : Int)))
theorem body9 (w : World) (mean : ExcName → Option Value) (mg mb : Str → Option Value) (base h₀ : Heap) (L : Addr) (m : Str → Option Value) (s : Shared) (Q : Flow → Shared → Prop) (E : Value → Shared → Prop) (S La Ho Pl Dz : Addr) (sto o o2 oc : Obj) (las hs ps : List Value) (tl : List (Addr × Obj)) (zs : List Int) (lds : List (Addr × Obj)) (xs : List Nat) (sv : List Value) (kk e l a b : Nat) (t1 t2 : Tok) (fl : Nat → Int)
    (B : Below callerA base [] h₀) (X : (hd.heap_39 w.params).In h₀) (T : Top hd.view_39 (looseW hd.view_39 [Str.ofString "IPV4_RE"]) mean mg mb h₀)
    (hE : PassesOwn (model PySem.Challenge.rw_xe0040_01.row.prog w) (callerA.deeper (lawEnv fa9 cd9 w.params L)) (lawEnv fa9 cd9 w.params L) E)
    (six : Six zs) (isz : IsZs zs o) (hoc : oc.data = .cell (some (.ref Dz))) (ho2 : o2.data = .cell (some (.ref La)))
    (hxs : ∀ x ∈ xs, x < 16) (hps : Are natV ps xs) (hhs : Are Value.str hs (xs.map fun (x : Nat) => hostT zs x)) (hld : Lads zs.length (xs.map fun (x : Nat) => hostT zs x) lds) (hlas : las = refsOf lds) (hin : ∀ p ∈ lds, p ∈ tl)
    (hel : e < l) (hl : l < 4) (ha : xs[e]? = some a) (hb : xs[l]? = some b) (pr : Pair zs a b) (hsv : Are intV sv ((List.range (if e + 1 = l then l - 1 else l)).map fl)) (h1 : e + 1 = l → 2 * ((parted zs a b : Nat) : Int) = fl e) (h2 : e + 1 < l → (∃ i, e ≤ i ∧ i < l ∧ 2 * ((parted zs a b : Nat) : Int) = fl i) ∧ ∀ i, e ≤ i → i < l → fl i ≤ 2 * ((parted zs a b : Nat) : Int)) (hneS : @Ne Nat La S ∧ @Ne Nat Ho S ∧ @Ne Nat Pl S ∧ @Ne Nat Dz S ∧ @Ne Nat (L + 1 + 1) S ∧ @Ne Nat (L + 1) S) (htS : ∀ p ∈ tl, p.1 ≠ S)
    (F : Fr h₀ L s.heap m) (hp : Pins m [(Str.ofString "places", Value.ref Pl), (Str.ofString "hosts", Value.ref Ho), (Str.ofString "steps", Value.ref S), (Str.ofString "late", Value.int (l : Nat) t1), (Str.ofString "early", Value.int (e : Nat) t2)])
    (N : News h₀ L s.heap ((S, W.listOf sv.toArray kk) :: (La, LCg.lst las) :: (Ho, LCg.lst hs) :: (Pl, LCg.lst ps) :: (Dz, o) :: (L + 1 + 1, o2) :: (L + 1, oc) :: tl))
    (hQ : ∀ m' h tk sv' kk', Are intV sv' ((List.range l).map fl) → Pins m' [(Str.ofString "places", Value.ref Pl), (Str.ofString "hosts", Value.ref Ho), (Str.ofString "steps", Value.ref S), (Str.ofString "late", Value.int (l : Nat) t1)] → Fr h₀ L h m' → News h₀ L h ((S, W.listOf sv'.toArray kk') :: (La, LCg.lst las) :: (Ho, LCg.lst hs) :: (Pl, LCg.lst ps) :: (Dz, o) :: (L + 1 + 1, o2) :: (L + 1, oc) :: tl) → Q .next { s with heap := h, toks := tk }) :
    wpAny (model PySem.Challenge.rw_xe0040_01.row.prog w) (callerA.deeper (lawEnv fa9 cd9 w.params L)) (execs (lawB w.params) (lawEnv fa9 cd9 w.params L)) Q E s := by
  have hz := six_len six
  obtain ⟨ta, hpa⟩ := hps.get e a ha
  obtain ⟨tb, hpb⟩ := hps.get l b hb
  obtain ⟨tx, hha⟩ := hhs.get e (hostT zs a) (by simp [ha])
  obtain ⟨ty, hhb⟩ := hhs.get l (hostT zs b) (by simp [hb])
  obtain ⟨⟨la, lo⟩, hle, lvs, k9, hlv, hlo⟩ := hld.get e (hostT zs a) (by simp [ha])
  have hlo : lo = W.listOf lvs.toArray k9 := hlo
  subst hlo
  have hlae : las[e]? = some (.ref la) := by rw [hlas]; simp [refsOf, hle]
  have hlat : (la, W.listOf lvs.toArray k9) ∈ tl := hin _ (List.mem_of_getElem? hle)
  have h16 : 0 ≤ (a : Int) ∧ (a : Int) < 16 := by have := hxs a (List.mem_of_getElem? ha); omega
  have h17 : 0 ≤ (b : Int) ∧ (b : Int) < 16 := by have := hxs b (List.mem_of_getElem? hb); omega
  have hn : 0 ≤ ((parted zs a b : Nat) : Int) ∧ ((parted zs a b : Nat) : Int) ≤ 3 := by have := pr.pn; omega
  rw [lawB_eq]
  refine wpAny_execs_cons (b0 w mean mg mb base h₀ L m s _ E S La Ho Pl Dz _ o o2 oc las hs ps tl zs e l a b t1 t2 ta tb (by omega) (by omega) h16 h17 hpa hpb B X T six isz hoc ho2 F hp N fun m₁ hh₁ k₁ u₁ p₁ F₁ N₁ => ?_)
  refine wpAny_execs_cons (b1 w mean mg mb base h₀ L m₁ _ _ E S La Ho Pl Dz _ o o2 oc las hs ps tl zs e l _ t1 t2 u₁ tx ty (hostT zs a) (hostT zs b) hz (by omega) (by omega) pr.lp pr.lq hha hhb B X T six isz hoc ho2 F₁ p₁ N₁ fun m₂ hh₂ k₂ u₂ p₂ F₂ N₂ => ?_)
  rw [pr.lv] at p₂
  refine wpAny_execs_cons (b2 w mean mg mb base h₀ L m₂ _ _ E S La Ho Pl Dz (W.listOf sv.toArray kk) o o2 oc las hs ps tl zs sv kk e l _ _ t1 t2 u₁ u₂ fl B X T six isz hoc ho2 hel hl rfl hn hsv h1 h2 hneS htS F₂ p₂ N₂ fun m₃ hh₃ k₃ sv' kk' hsv' p₃ F₃ N₃ => ?_)
  refine wpAny_execs_cons (b3 w mean mg mb base h₀ L m₃ _ _ E S La Ho Pl Dz _ o o2 oc las hs ps tl zs la lvs k9 e l _ t1 t2 u₁ ty (hostT zs b) B X T hE six isz hoc ho2 hz (by omega) (by omega) hhb hlae hlat (fun j hj => ?_) F₃ p₃ N₃ fun m₄ hh₄ k₄ p₄ F₄ N₄ => ?_)
  · obtain ⟨y, hy, dm⟩ := pr.dm j hj
    obtain ⟨tz, hyy⟩ := hlv.get j y hy
    exact ⟨y, tz, hyy, dm⟩
  · refine wpAny_execs_nil ?_
    exact hQ _ _ _ sv' kk' hsv' ⟨p₄.1, p₄.2.1, p₄.2.2.1, p₄.2.2.2.1, trivial⟩ F₄ N₄
end Mine
end
section
open PySem PySem.W PySem.Calls PyProof.Rows
set_option maxRecDepth 100000
set_option maxHeartbeats 1000000
namespace Mine
variable {fa9 : Addr} {cd9 : Value}
local macro_rules | `(tactic| k_mem) => `(tactic| with_reducible_and_instances assumption)
noncomputable def lawM (p : Params) : Stmt := match bodyOf (lawSt p 9) with
  | st :: _ => st
  | _ => .Pass default
theorem lawM_body (p : Params) : bodyOf (lawM p) = lawB p := by with_unfolding_all rfl
theorem mid9 (w : World) (mean : ExcName → Option Value) (mg mb : Str → Option Value) (base h₀ : Heap) (L : Addr) (m : Str → Option Value) (s : Shared) (Q : Flow → Shared → Prop) (E : Value → Shared → Prop) (S La Ho Pl Dz : Addr) (sto o o2 oc : Obj) (las hs ps : List Value) (tl : List (Addr × Obj)) (zs : List Int) (lds : List (Addr × Obj)) (xs : List Nat) (sv : List Value) (kk l : Nat) (t1 : Tok) (fl : Nat → Int)
    (B : Below callerA base [] h₀) (X : (hd.heap_39 w.params).In h₀) (T : Top hd.view_39 (looseW hd.view_39 [Str.ofString "IPV4_RE"]) mean mg mb h₀)
    (hE : PassesOwn (model PySem.Challenge.rw_xe0040_01.row.prog w) (callerA.deeper (lawEnv fa9 cd9 w.params L)) (lawEnv fa9 cd9 w.params L) E)
    (six : Six zs) (isz : IsZs zs o) (hoc : oc.data = .cell (some (.ref Dz))) (ho2 : o2.data = .cell (some (.ref La)))
    (hxs : ∀ x ∈ xs, x < 16) (hps : Are natV ps xs) (hhs : Are Value.str hs (xs.map fun (x : Nat) => hostT zs x)) (hld : Lads zs.length (xs.map fun (x : Nat) => hostT zs x) lds) (hlas : las = refsOf lds) (hin : ∀ p ∈ lds, p ∈ tl)
    (h0 : 0 < l) (hl : l < 4) (hlx : xs.length = 4) (hpair : ∀ e l a b, e < l → xs[e]? = some a → xs[l]? = some b → Pair zs a b ∧ (e + 1 = l → 2 * ((parted zs a b : Nat) : Int) = fl e) ∧ (e + 1 < l → (∃ i, e ≤ i ∧ i < l ∧ 2 * ((parted zs a b : Nat) : Int) = fl i) ∧ ∀ i, e ≤ i → i < l → fl i ≤ 2 * ((parted zs a b : Nat) : Int))) (hsv : Are intV sv ((List.range (l - 1)).map fl)) (hneS : @Ne Nat La S ∧ @Ne Nat Ho S ∧ @Ne Nat Pl S ∧ @Ne Nat Dz S ∧ @Ne Nat (L + 1 + 1) S ∧ @Ne Nat (L + 1) S) (htS : ∀ p ∈ tl, p.1 ≠ S)
    (F : Fr h₀ L s.heap m) (hp : Pins m [(Str.ofString "places", Value.ref Pl), (Str.ofString "hosts", Value.ref Ho), (Str.ofString "steps", Value.ref S), (Str.ofString "late", Value.int (l : Nat) t1)])
    (N : News h₀ L s.heap ((S, W.listOf sv.toArray kk) :: (La, LCg.lst las) :: (Ho, LCg.lst hs) :: (Pl, LCg.lst ps) :: (Dz, o) :: (L + 1 + 1, o2) :: (L + 1, oc) :: tl))
    (hQ : ∀ m' h tk sv' kk', Are intV sv' ((List.range l).map fl) → Pins m' [(Str.ofString "places", Value.ref Pl), (Str.ofString "hosts", Value.ref Ho), (Str.ofString "steps", Value.ref S)] → Fr h₀ L h m' → News h₀ L h ((S, W.listOf sv'.toArray kk') :: (La, LCg.lst las) :: (Ho, LCg.lst hs) :: (Pl, LCg.lst ps) :: (Dz, o) :: (L + 1 + 1, o2) :: (L + 1, oc) :: tl) → Q .next { s with heap := h, toks := tk }) :
    wpAny (model PySem.Challenge.rw_xe0040_01.row.prog w) (callerA.deeper (lawEnv fa9 cd9 w.params L)) (exec (lawM w.params) (lawEnv fa9 cd9 w.params L)) Q E s := by
  k_with_none
  k_with "call type:range" => (k_here; refine Stop.out ?_)
  k_with "UnrEnd" => (k_here; refine Stop.out ?_)
  w_top off
  have hfill : PySem.Challenge.rw_xe0040_01 = PySem.Challenge.rw_xe0040_01 ∧ Mine.hd.heap_39 = Mine.hd.heap_39 := by (k_fill; exact ⟨rfl, rfl⟩)
  clear hfill
  have turn := body9 (fa9 := fa9) (cd9 := cd9) w mean mg mb base h₀ L
  have hB := lawM_body w.params
  generalize hS : lawM w.params = S0
  rw [hS] at hB
  with_unfolding_all conv at hS => lhs; whnf
  subst hS
  rw [← hB] at turn
  clear hB
  rw [pinL hp] at F
  simp only [chain] at F
  refine For_invVF F rfl rfl ?_
  k_steps
  refine Stop.go ?_
  (with_reducible rename News _ _ _ _ => N8)
  (with_reducible rename Fr _ _ _ _ => F8)
  refine range3_rows F8 N8 (by decide) ?_ (Or.inl (PyProof.noPylong_small (by omega)))
  intro h9 tk9 u1 u2 u3 R9 F9 N9 keep9
  refine iter_rangeJ (n := l) (fun i m' n' => Pins m' [(Str.ofString "places", Value.ref Pl), (Str.ofString "hosts", Value.ref Ho), (Str.ofString "steps", Value.ref S), (Str.ofString "late", Value.int (l : Nat) t1)] ∧ ∃ sv kk, Are intV sv ((List.range (if i = 0 then l - 1 else l)).map fl) ∧ n' = ((S, W.listOf sv.toArray kk) :: (La, LCg.lst las) :: (Ho, LCg.lst hs) :: (Pl, LCg.lst ps) :: (Dz, o) :: (L + 1 + 1, o2) :: (L + 1, oc) :: tl)) rfl R9 (small_down (by omega) (by omega) (by omega) (by omega)) (by rw [rangeSize_downNat]; omega) F9 N9 ⟨?hpins, sv, kk, hsv, rfl⟩ ?turn ?done
  case hpins => (repeat' (first | exact trivial | refine And.intro (by with_unfolding_all rfl) ?_))
  case done =>
    rintro m' n' h tk ⟨hp', sv', kk', hsv', rfl⟩ F' N'
    rw [if_neg (by omega)] at hsv'
    exact hQ m' h tk sv' kk' hsv' ⟨hp'.1, hp'.2.1, hp'.2.2.1, trivial⟩ F' N'
  case turn =>
    rintro i hi m' n' t h tk I it ⟨hp', sv', kk', hsv', rfl⟩ off _ hit F' N'
    obtain ⟨e, he⟩ : ∃ e : Nat, e + 1 + i = l := ⟨l - 1 - i, by omega⟩
    rw [show ((l : Int) - 1 + (i : Int) * -1) = ((e : Nat) : Int) by omega] at F'
    obtain ⟨a, ha⟩ : ∃ a, xs[e]? = some a := ⟨_, List.getElem?_eq_getElem (by omega)⟩
    obtain ⟨b, hb⟩ : ∃ b, xs[l]? = some b := ⟨_, List.getElem?_eq_getElem (by omega)⟩
    obtain ⟨pr, g1, g2⟩ := hpair e l a b (by omega) ha hb
    have hsv2 : Are intV sv' ((List.range (if e + 1 = l then l - 1 else l)).map fl) := by
      by_cases c : i = 0
      · rw [if_pos c] at hsv'; rw [if_pos (by omega)]; exact hsv'
      · rw [if_neg c] at hsv'; rw [if_neg (by omega)]; exact hsv'
    have hSI : @Ne Nat I S := fun q => off (S, W.listOf sv'.toArray kk') (.head _) q.symm
    refine turn _ _ _ E S La Ho Pl Dz (W.listOf sv'.toArray kk') o o2 oc las hs ps ((I, it) :: tl) zs lds xs sv' kk' e l a b t1 t fl B X T hE six isz hoc ho2 hxs hps hhs hld hlas (fun p hp => List.mem_cons_of_mem _ (hin p hp)) (by omega) hl ha hb pr hsv2 g1 g2 hneS ?hts F' ?hpins ?nn ?rr
    case hts =>
      intro p hp
      rcases List.mem_cons.mp hp with h | h
      · rw [h]; exact hSI
      · exact htS p h
    case hpins => exact ⟨by show (if _ then _ else _) = _; rw [if_neg (by decide)]; exact hp'.1, by show (if _ then _ else _) = _; rw [if_neg (by decide)]; exact hp'.2.1, by show (if _ then _ else _) = _; rw [if_neg (by decide)]; exact hp'.2.2.1, by show (if _ then _ else _) = _; rw [if_neg (by decide)]; exact hp'.2.2.2.1, if_pos rfl, trivial⟩
    case nn =>
      intro p hp
      refine N' p ?_
      simp only [List.mem_cons] at hp ⊢
      grind
    case rr =>
      intro m'' h' tk' sv'' kk'' hsv'' hp'' F'' N''
      refine UnrEnd.intro F'' N'' _ ?sub ?off ⟨hp'', sv'', kk'', by rw [if_neg (by omega)]; exact hsv'', rfl⟩
      case sub =>
        intro p hp
        simp only [List.mem_cons] at hp ⊢
        grind
      case off =>
        intro p hp
        rcases List.mem_cons.mp hp with h | h
        · rw [h]; exact hSI.symm
        · exact off p (List.mem_cons_of_mem _ h)
theorem seg9 (w : World) (mean : ExcName → Option Value) (mg mb : Str → Option Value) (base h₀ : Heap) (L : Addr) (m : Str → Option Value) (s : Shared) (Q : Flow → Shared → Prop) (E : Value → Shared → Prop) (S La Ho Pl Dz : Addr) (sto o o2 oc : Obj) (las hs ps : List Value) (zs : List Int) (lds : List (Addr × Obj)) (xs : List Nat) (kk : Nat) (fl : Nat → Int)
    (B : Below callerA base [] h₀) (X : (hd.heap_39 w.params).In h₀) (T : Top hd.view_39 (looseW hd.view_39 [Str.ofString "IPV4_RE"]) mean mg mb h₀)
    (hE : PassesOwn (model PySem.Challenge.rw_xe0040_01.row.prog w) (callerA.deeper (lawEnv fa9 cd9 w.params L)) (lawEnv fa9 cd9 w.params L) E)
    (six : Six zs) (isz : IsZs zs o) (hoc : oc.data = .cell (some (.ref Dz))) (ho2 : o2.data = .cell (some (.ref La)))
    (hxs : ∀ x ∈ xs, x < 16) (hps : Are natV ps xs) (hhs : Are Value.str hs (xs.map fun (x : Nat) => hostT zs x)) (hld : Lads zs.length (xs.map fun (x : Nat) => hostT zs x) lds) (hlas : las = refsOf lds)
    (hlx : xs.length = 4) (hpair : ∀ e l a b, e < l → xs[e]? = some a → xs[l]? = some b → Pair zs a b ∧ (e + 1 = l → 2 * ((parted zs a b : Nat) : Int) = fl e) ∧ (e + 1 < l → (∃ i, e ≤ i ∧ i < l ∧ 2 * ((parted zs a b : Nat) : Int) = fl i) ∧ ∀ i, e ≤ i → i < l → fl i ≤ 2 * ((parted zs a b : Nat) : Int))) (hneS : @Ne Nat La S ∧ @Ne Nat Ho S ∧ @Ne Nat Pl S ∧ @Ne Nat Dz S ∧ @Ne Nat (L + 1 + 1) S ∧ @Ne Nat (L + 1) S) (htS : ∀ p ∈ lds, p.1 ≠ S)
    (F : Fr h₀ L s.heap m) (hp : Pins m [(Str.ofString "places", Value.ref Pl), (Str.ofString "hosts", Value.ref Ho), (Str.ofString "steps", Value.ref S)])
    (N : News h₀ L s.heap ((S, W.listOf #[] kk) :: (La, LCg.lst las) :: (Ho, LCg.lst hs) :: (Pl, LCg.lst ps) :: (Dz, o) :: (L + 1 + 1, o2) :: (L + 1, oc) :: lds))
    (hQ : ∀ m' h tk sv' kk', Are intV sv' ((List.range 3).map fl) → Pins m' [(Str.ofString "places", Value.ref Pl), (Str.ofString "hosts", Value.ref Ho), (Str.ofString "steps", Value.ref S)] → Fr h₀ L h m' → News h₀ L h ((S, W.listOf sv'.toArray kk') :: (La, LCg.lst las) :: (Ho, LCg.lst hs) :: (Pl, LCg.lst ps) :: (Dz, o) :: (L + 1 + 1, o2) :: (L + 1, oc) :: lds) → Q .next { s with heap := h, toks := tk }) :
    wpAny (model PySem.Challenge.rw_xe0040_01.row.prog w) (callerA.deeper (lawEnv fa9 cd9 w.params L)) (exec (lawSt w.params 9) (lawEnv fa9 cd9 w.params L)) Q E s := by
  k_with_none
  k_with "call type:range" => (k_here; refine Stop.out ?_)
  k_with "UnrEnd" => (k_here; refine Stop.out ?_)
  w_top off
  have hfill : PySem.Challenge.rw_xe0040_01 = PySem.Challenge.rw_xe0040_01 ∧ Mine.hd.heap_39 = Mine.hd.heap_39 := by (k_fill; exact ⟨rfl, rfl⟩)
  clear hfill
  have turn := mid9 (fa9 := fa9) (cd9 := cd9) w mean mg mb base h₀ L
  have hB : lawM w.params = lawM w.params := rfl
  unfold lawM at turn
  generalize hS : lawSt w.params 9 = S0
  rw [hS] at turn
  clear hB
  with_unfolding_all conv at hS => lhs; whnf
  subst hS
  simp only [bodyOf] at turn
  rw [pinL hp] at F
  simp only [chain] at F
  refine For_invVF F rfl rfl ?_
  k_steps
  refine Stop.go ?_
  (with_reducible rename News _ _ _ _ => N8)
  (with_reducible rename Fr _ _ _ _ => F8)
  refine range2_rows F8 N8 ?_
  intro h9 tk9 u1 u2 u3 R9 F9 N9 keep9
  refine iter_rangeJ (n := 3) (fun i m' n' => Pins m' [(Str.ofString "places", Value.ref Pl), (Str.ofString "hosts", Value.ref Ho), (Str.ofString "steps", Value.ref S)] ∧ ∃ sv kk, Are intV sv ((List.range i).map fl) ∧ n' = ((S, W.listOf sv.toArray kk) :: (La, LCg.lst las) :: (Ho, LCg.lst hs) :: (Pl, LCg.lst ps) :: (Dz, o) :: (L + 1 + 1, o2) :: (L + 1, oc) :: lds)) rfl R9 (by decide) (by decide) F9 N9 ⟨?hpins, [], kk, .nil, rfl⟩ ?turn ?done
  case hpins => (repeat' (first | exact trivial | refine And.intro (by with_unfolding_all rfl) ?_))
  case done =>
    rintro m' n' h tk ⟨hp', sv', kk', hsv', rfl⟩ F' N'
    exact hQ m' h tk sv' kk' hsv' hp' F' N'
  case turn =>
    rintro i hi m' n' t h tk I it ⟨hp', sv', kk', hsv', rfl⟩ off _ hit F' N'
    rw [show ((1 : Int) + (i : Int) * 1) = ((i + 1 : Nat) : Int) by omega] at F'
    have hSI : @Ne Nat I S := fun q => off (S, W.listOf sv'.toArray kk') (.head _) q.symm
    refine wpAny_execs_cons ?_
    refine turn _ _ _ E S La Ho Pl Dz (W.listOf sv'.toArray kk') o o2 oc las hs ps ((I, it) :: lds) zs lds xs sv' kk' (i + 1) t fl B X T hE six isz hoc ho2 hxs hps hhs hld hlas (fun p hp => List.mem_cons_of_mem _ hp) (by omega) (by omega) hlx hpair hsv' hneS ?hts F' ?hpins ?nn ?rr
    case hts =>
      intro p hp
      rcases List.mem_cons.mp hp with h | h
      · rw [h]; exact hSI
      · exact htS p h
    case hpins => exact ⟨by show (if _ then _ else _) = _; rw [if_neg (by decide)]; exact hp'.1, by show (if _ then _ else _) = _; rw [if_neg (by decide)]; exact hp'.2.1, by show (if _ then _ else _) = _; rw [if_neg (by decide)]; exact hp'.2.2.1, if_pos rfl, trivial⟩
    case nn =>
      intro p hp
      refine N' p ?_
      simp only [List.mem_cons] at hp ⊢
      grind
    case rr =>
      intro m'' h' tk' sv'' kk'' hsv'' hp'' F'' N''
      refine wpAny_execs_nil ?_
      refine UnrEnd.intro F'' N'' _ ?sub ?off ⟨hp'', sv'', kk'', hsv'', rfl⟩
      case sub =>
        intro p hp
        simp only [List.mem_cons] at hp ⊢
        grind
      case off =>
        intro p hp
        rcases List.mem_cons.mp hp with h | h
        · rw [h]; exact hSI.symm
        · exact off p (List.mem_cons_of_mem _ h)
end Mine
end
section
open PySem PySem.W PySem.Calls PyProof.Rows
set_option maxRecDepth 100000
set_option maxHeartbeats 1000000
namespace Mine
variable {fa9 : Addr} {cd9 : Value}
local macro_rules | `(tactic| k_mem) => `(tactic| with_reducible_and_instances assumption)
abbrev bareT (x : Str) : Str := Txt.slice x none (some (-6))
structure Bare (x y : Str) : Prop where
  l1 : x.length ≤ 40
  l2 : y.length ≤ 40
  l5 : 1 ≤ (Txt.slice x none (some (-6))).length
  l3 : (Txt.slice x none (some (-6))).length ≤ 100
  l4 : (Txt.slice y (some 1) none).length ≤ 100
  hb1 : (reHit (Txt.slice x none (some (-6)))).isSome
  hb2 : (reHit (Txt.slice y (some 1) none)).isSome
  c1 : Txt.count (Txt.slice x none (some (-6))) (Str.ofString ".") = 2 → (Str.ofString "9").cps.toList < (Txt.item (Txt.slice x none (some (-6))) (-1)).cps.toList → reachT (Txt.slice x none (some (-6))) = Txt.slice (Txt.slice x none (some (-6))) (some 1) none
  c2 : Txt.count (Txt.slice x none (some (-6))) (Str.ofString ".") = 2 → ¬ (Str.ofString "9").cps.toList < (Txt.item (Txt.slice x none (some (-6))) (-1)).cps.toList → reachT (Txt.slice x none (some (-6))) = Txt.slice x none (some (-6))
  c3 : Txt.count (Txt.slice x none (some (-6))) (Str.ofString ".") ≠ 2 → reachT (Txt.slice x none (some (-6))) = Txt.slice x none (some (-6))
  c4 : reachT (Txt.slice y (some 1) none) = Str.ofString "local"
theorem s10_turn3 (w : World) (mean : ExcName → Option Value) (mg mb : Str → Option Value) (base h₀ : Heap) (L : Addr) (m : Str → Option Value) (s : Shared) (Q : Flow → Shared → Prop) (E : Value → Shared → Prop) (S la Pl Ho I : Addr) (it : Obj) (kk : Nat) (x0 x1 x2 : Str) (r0 r1 r2 : Tok) (rest : (Str → Option Value) → List (Addr × Obj) → Prop) (all : List (Addr × Obj))
    (B : Below callerA base [] h₀) (X : (hd.heap_39 w.params).In h₀) (T : Top hd.view_39 (looseW hd.view_39 [Str.ofString "IPV4_RE"]) mean mg mb h₀)
    (br : Bare x0 x2)
    (F : Fr h₀ L s.heap m) (hp : Pins m [(Str.ofString "ladder", Value.ref la), (Str.ofString "places", Value.ref Pl), (Str.ofString "hosts", Value.ref Ho), (Str.ofString "steps", Value.ref S)])
    (N : News h₀ L s.heap ((la, W.listOf #[.str x0 r0, .str x1 r1, .str x2 r2] kk) :: (I, it) :: all))
    (hr : ∀ m' h tk, Pins m' [(Str.ofString "places", Value.ref Pl), (Str.ofString "hosts", Value.ref Ho), (Str.ofString "steps", Value.ref S)] → Fr h₀ L h m' → News h₀ L h ((la, W.listOf #[.str x0 r0, .str x1 r1, .str x2 r2] kk) :: (I, it) :: all) → UnrEnd h₀ L s I it rest { s with heap := h, toks := tk }) :
    wpAny (model PySem.Challenge.rw_xe0040_01.row.prog w) (callerA.deeper (lawEnv fa9 cd9 w.params L)) (execs (bodyOf (lawSt w.params 10)) (lawEnv fa9 cd9 w.params L)) (UnrPost h₀ L s I it rest Q) E s := by
  k_with_none
  k_with "UnrEnd" => (k_here; refine Stop.out ?_)
  k_with "call ref" => (k_here; (with_reducible show wpAny _ _ (call (Value.ref 57) _ _) _ _ _); k_dflt (refine' reach_gives _ _ _ _ (by with_reducible assumption) (by with_reducible assumption) _ _ _ _ _ _ _ _ _ _ _ _ _ _ _ _ _ _ _ _ _ ?k1 ?k2 ?k3 ?k4 ?k5 ?k6 ?k7 ?k8 ?_; (case k1 => k_asm); (case k2 => k_asm); (case k3 => k_asm); (case k4 => k_asm); (case k5 => k_asm); (case k6 => exact rfl); (case k7 => ktr_room); (case k8 => ktr_units)); intro v9q h9q tk9q e9q F9q N9q; k_dflt (obtain ⟨t9q, e9q⟩ := e9q); subst e9q; (try dsimp only); (try k_fold))
  w_top off
  have hfill : PySem.Challenge.rw_xe0040_01 = PySem.Challenge.rw_xe0040_01 ∧ Mine.hd.heap_39 = Mine.hd.heap_39 := by (k_fill; exact ⟨rfl, rfl⟩)
  clear hfill
  generalize hS : bodyOf (lawSt w.params 10) = S0
  generalize hC : lawScope w.params = C
  with_unfolding_all conv at hS => lhs; whnf
  with_unfolding_all conv at hC => lhs; whnf
  subst hS hC
  rw [pinL hp] at F
  simp only [chain] at F
  obtain ⟨l1, l2, l5, l3, l4, hb1, hb2, c1, c2, c3, c4⟩ := br
  k_steps
  all_goals first
    | (exfalso; (rename (_ != _) = true => hz); (first | rw [c4] at hz | rw [c1 (by assumption) (by assumption)] at hz | rw [c2 (by assumption) (by assumption)] at hz | rw [c3 (by assumption)] at hz); simp at hz; done)
    | skip
  all_goals
    (with_reducible rename News _ _ _ _ => N8)
    (with_reducible rename Fr _ _ _ _ => F8)
    refine Stop.go ?_
    refine hr _ _ _ ?hpins F8 N8
    case hpins => (repeat' (first | exact trivial | refine And.intro (by with_unfolding_all rfl) ?_))
theorem s10_turn4 (w : World) (mean : ExcName → Option Value) (mg mb : Str → Option Value) (base h₀ : Heap) (L : Addr) (m : Str → Option Value) (s : Shared) (Q : Flow → Shared → Prop) (E : Value → Shared → Prop) (S la Pl Ho I : Addr) (it : Obj) (kk : Nat) (x0 x1 x2 x3 : Str) (r0 r1 r2 r3 : Tok) (rest : (Str → Option Value) → List (Addr × Obj) → Prop) (all : List (Addr × Obj))
    (B : Below callerA base [] h₀) (X : (hd.heap_39 w.params).In h₀) (T : Top hd.view_39 (looseW hd.view_39 [Str.ofString "IPV4_RE"]) mean mg mb h₀)
    (br : Bare x0 x3)
    (F : Fr h₀ L s.heap m) (hp : Pins m [(Str.ofString "ladder", Value.ref la), (Str.ofString "places", Value.ref Pl), (Str.ofString "hosts", Value.ref Ho), (Str.ofString "steps", Value.ref S)])
    (N : News h₀ L s.heap ((la, W.listOf #[.str x0 r0, .str x1 r1, .str x2 r2, .str x3 r3] kk) :: (I, it) :: all))
    (hr : ∀ m' h tk, Pins m' [(Str.ofString "places", Value.ref Pl), (Str.ofString "hosts", Value.ref Ho), (Str.ofString "steps", Value.ref S)] → Fr h₀ L h m' → News h₀ L h ((la, W.listOf #[.str x0 r0, .str x1 r1, .str x2 r2, .str x3 r3] kk) :: (I, it) :: all) → UnrEnd h₀ L s I it rest { s with heap := h, toks := tk }) :
    wpAny (model PySem.Challenge.rw_xe0040_01.row.prog w) (callerA.deeper (lawEnv fa9 cd9 w.params L)) (execs (bodyOf (lawSt w.params 10)) (lawEnv fa9 cd9 w.params L)) (UnrPost h₀ L s I it rest Q) E s := by
  k_with_none
  k_with "UnrEnd" => (k_here; refine Stop.out ?_)
  k_with "call ref" => (k_here; (with_reducible show wpAny _ _ (call (Value.ref 57) _ _) _ _ _); k_dflt (refine' reach_gives _ _ _ _ (by with_reducible assumption) (by with_reducible assumption) _ _ _ _ _ _ _ _ _ _ _ _ _ _ _ _ _ _ _ _ _ ?k1 ?k2 ?k3 ?k4 ?k5 ?k6 ?k7 ?k8 ?_; (case k1 => k_asm); (case k2 => k_asm); (case k3 => k_asm); (case k4 => k_asm); (case k5 => k_asm); (case k6 => exact rfl); (case k7 => ktr_room); (case k8 => ktr_units)); intro v9q h9q tk9q e9q F9q N9q; k_dflt (obtain ⟨t9q, e9q⟩ := e9q); subst e9q; (try dsimp only); (try k_fold))
  w_top off
  have hfill : PySem.Challenge.rw_xe0040_01 = PySem.Challenge.rw_xe0040_01 ∧ Mine.hd.heap_39 = Mine.hd.heap_39 := by (k_fill; exact ⟨rfl, rfl⟩)
  clear hfill
  generalize hS : bodyOf (lawSt w.params 10) = S0
  generalize hC : lawScope w.params = C
  with_unfolding_all conv at hS => lhs; whnf
  with_unfolding_all conv at hC => lhs; whnf
  subst hS hC
  rw [pinL hp] at F
  simp only [chain] at F
  obtain ⟨l1, l2, l5, l3, l4, hb1, hb2, c1, c2, c3, c4⟩ := br
  k_steps
  all_goals first
    | (exfalso; (rename (_ != _) = true => hz); (first | rw [c4] at hz | rw [c1 (by assumption) (by assumption)] at hz | rw [c2 (by assumption) (by assumption)] at hz | rw [c3 (by assumption)] at hz); simp at hz; done)
    | skip
  all_goals
    (with_reducible rename News _ _ _ _ => N8)
    (with_reducible rename Fr _ _ _ _ => F8)
    refine Stop.go ?_
    refine hr _ _ _ ?hpins F8 N8
    case hpins => (repeat' (first | exact trivial | refine And.intro (by with_unfolding_all rfl) ?_))
end Mine
end
section
open PySem PySem.W PySem.Calls PyProof.Rows
set_option maxRecDepth 100000
set_option maxHeartbeats 1000000
namespace Mine
variable {fa9 : Addr} {cd9 : Value}
local macro_rules | `(tactic| k_mem) => `(tactic| with_reducible_and_instances assumption)
def upN : Nat → Str → Str
  | 0, x => x
  | n + 1, x => upN n (up1 x)
theorem Are.three {α : Type} {f : α → Tok → Value} {vs : List Value} {a b c : α} (h : Are f vs [a, b, c]) : ∃ ta tb tc, vs = [f a ta, f b tb, f c tc] := by
  cases h with | cons _ ta h => cases h with | cons _ tb h => cases h with | cons _ tc h => cases h; exact ⟨ta, tb, tc, rfl⟩
theorem refs_get {lds : List (Addr × Obj)} {i : Nat} {v : Value} (h : (refsOf lds)[i]? = some v) : ∃ p, lds[i]? = some p ∧ v = .ref p.1 := by
  unfold refsOf at h
  rw [List.getElem?_map, Option.map_eq_some_iff] at h
  obtain ⟨p, a, b⟩ := h
  exact ⟨p, a, b.symm⟩
theorem seg10 (w : World) (mean : ExcName → Option Value) (mg mb : Str → Option Value) (base h₀ : Heap) (L : Addr) (m : Str → Option Value) (s : Shared) (Q : Flow → Shared → Prop) (E : Value → Shared → Prop) (S La Ho Pl Dz : Addr) (sto o o2 oc : Obj) (las hs ps : List Value) (tl : List (Addr × Obj)) (zs : List Int) (lds : List (Addr × Obj)) (xs : List Str)
    (B : Below callerA base [] h₀) (X : (hd.heap_39 w.params).In h₀) (T : Top hd.view_39 (looseW hd.view_39 [Str.ofString "IPV4_RE"]) mean mg mb h₀)
    (hE : PassesOwn (model PySem.Challenge.rw_xe0040_01.row.prog w) (callerA.deeper (lawEnv fa9 cd9 w.params L)) (lawEnv fa9 cd9 w.params L) E)
    (six : Six zs) (isz : IsZs zs o) (hoc : oc.data = .cell (some (.ref Dz))) (ho2 : o2.data = .cell (some (.ref La)))
    (hld : Lads zs.length xs lds) (hlas : las = refsOf lds) (hin : ∀ p ∈ lds, p ∈ tl) (hl : xs.length ≤ 8) (hbr : ∀ x ∈ xs, Bare x (upN zs.length x))
    (F : Fr h₀ L s.heap m) (hp : Pins m [(Str.ofString "places", Value.ref Pl), (Str.ofString "hosts", Value.ref Ho), (Str.ofString "steps", Value.ref S)])
    (N : News h₀ L s.heap ((S, sto) :: (La, LCg.lst las) :: (Ho, LCg.lst hs) :: (Pl, LCg.lst ps) :: (Dz, o) :: (L + 1 + 1, o2) :: (L + 1, oc) :: tl))
    (hQ : ∀ m' h tk, Pins m' [(Str.ofString "places", Value.ref Pl), (Str.ofString "hosts", Value.ref Ho), (Str.ofString "steps", Value.ref S)] → Fr h₀ L h m' → News h₀ L h ((S, sto) :: (La, LCg.lst las) :: (Ho, LCg.lst hs) :: (Pl, LCg.lst ps) :: (Dz, o) :: (L + 1 + 1, o2) :: (L + 1, oc) :: tl) → Q .next { s with heap := h, toks := tk }) :
    wpAny (model PySem.Challenge.rw_xe0040_01.row.prog w) (callerA.deeper (lawEnv fa9 cd9 w.params L)) (exec (lawSt w.params 10) (lawEnv fa9 cd9 w.params L)) Q E s := by
  k_with_none
  k_with "pyIter ref" => (k_here; refine Stop.out ?_)
  w_top off
  have hfill : PySem.Challenge.rw_xe0040_01 = PySem.Challenge.rw_xe0040_01 ∧ Mine.hd.heap_39 = Mine.hd.heap_39 := by (k_fill; exact ⟨rfl, rfl⟩)
  clear hfill
  have t3 := s10_turn3 (fa9 := fa9) (cd9 := cd9) w mean mg mb base h₀ L
  have t4 := s10_turn4 (fa9 := fa9) (cd9 := cd9) w mean mg mb base h₀ L
  generalize hS : lawSt w.params 10 = S0
  rw [hS] at t3 t4
  with_unfolding_all conv at hS => lhs; whnf
  subst hS
  rw [pinL hp] at F
  simp only [chain] at F
  refine For_invVF F rfl rfl ?_
  k_steps
  refine Stop.go ?_
  (with_reducible rename News _ _ _ _ => N8)
  (with_reducible rename Fr _ _ _ _ => F8)
  refine iter_listUnr (lo := LCg.lst las) (vs := las) rfl F8 N8 (by simp) rfl rfl ?_
  intro I hI
  refine ListRest.ofJ (vs := las) (fun i m' n' => Pins m' [(Str.ofString "places", Value.ref Pl), (Str.ofString "hosts", Value.ref Ho), (Str.ofString "steps", Value.ref S)] ∧ n' = ((S, sto) :: (La, LCg.lst las) :: (Ho, LCg.lst hs) :: (Pl, LCg.lst ps) :: (Dz, o) :: (L + 1 + 1, o2) :: (L + 1, oc) :: tl)) ?turn ?done las.length 0 _ _ (Nat.zero_add _) (by simp) ⟨?hpins, rfl⟩
  case hpins => (repeat' (first | exact trivial | refine And.intro (by with_unfolding_all rfl) ?_))
  case done =>
    rintro m' n' h tk ⟨hp', rfl⟩ F' N'
    exact hQ m' h tk hp' F' N'
  case turn =>
    rintro i v hv m' n' it h tk hit hm ⟨hp', rfl⟩ F' N'
    rw [hlas] at hv
    obtain ⟨p, hp1, rfl⟩ := refs_get hv
    obtain ⟨x, hx, vs, kk, hvs, hpo⟩ := hld.back i p hp1
    have br := hbr x (List.mem_of_getElem? hx)
    have hpm := hin p (List.mem_of_getElem? hp1)
    obtain ⟨la, po⟩ := p
    subst hpo
    have off : ∀ p ∈ ((S, sto) :: (La, LCg.lst las) :: (Ho, LCg.lst hs) :: (Pl, LCg.lst ps) :: (Dz, o) :: (L + 1 + 1, o2) :: (L + 1, oc) :: tl), p.1 ≠ I := fun p hp e => Nat.lt_irrefl I (e ▸ hI p hp)
    have N₂ : ∀ q, q ∈ tl → News h₀ L h (q :: (I, it) :: ((S, sto) :: (La, LCg.lst las) :: (Ho, LCg.lst hs) :: (Pl, LCg.lst ps) :: (Dz, o) :: (L + 1 + 1, o2) :: (L + 1, oc) :: tl)) := fun q hq p hp => by
      rcases List.mem_cons.mp hp with rfl | hp
      · exact N' _ (List.mem_cons_of_mem _ (by simp [hq]))
      · exact N' p hp
    rcases (by have := six_len six; omega : zs.length = 2 ∨ zs.length = 3) with hn | hn
    · rw [hn] at hvs br
      obtain ⟨r0, r1, r2, rfl⟩ := Are.three (hvs : Are Value.str vs [x, up1 x, up1 (up1 x)])
      exact t3 _ _ Q E S la Pl Ho I it kk _ _ _ _ _ _ _ _ B X T br F' ⟨if_pos rfl, hp'.set (by with_unfolding_all rfl)⟩ (N₂ _ hpm) fun m'' h' tk' hp'' F'' N'' => UnrEnd.intro F'' N'' _ (fun p hp => List.mem_cons_of_mem _ hp) off ⟨hm, hp'', rfl⟩
    · rw [hn] at hvs br
      obtain ⟨r0, r1, r2, r3, rfl⟩ := Are.four (hvs : Are Value.str vs [x, up1 x, up1 (up1 x), up1 (up1 (up1 x))])
      exact t4 _ _ Q E S la Pl Ho I it kk _ _ _ _ _ _ _ _ _ _ B X T br F' ⟨if_pos rfl, hp'.set (by with_unfolding_all rfl)⟩ (N₂ _ hpm) fun m'' h' tk' hp'' F'' N'' => UnrEnd.intro F'' N'' _ (fun p hp => List.mem_cons_of_mem _ hp) off ⟨hm, hp'', rfl⟩
end Mine
end
section
open PySem PySem.W PySem.Calls PyProof.Rows
set_option maxRecDepth 100000
set_option maxHeartbeats 1000000
namespace Mine
open LCg
section
variable {prog : Program} {w : World} {A : Around} {E : Value → Shared → Prop} {R : Result → Shared → Prop} {s : Shared}
theorem compTurn_set1 (elt target iter : Expr) (scope : Scope) (pos : Pos) (it acc : Value) (env : Env) :
    compTurn (.SetComp elt [⟨target, iter, [], 0⟩] scope pos) 0 it acc env = (standAt iter.pos >>= fun _ => pyNext it >>= fun r => match r with
      | none => pure (.done .next)
      | some v => letOwnedTupleGo target it v >>= fun _ => assign target env v >>= fun _ =>
        (eval elt env >>= fun x => standAt elt.pos >>= fun _ => call (.builtin "set.add") [acc, x] >>= fun _ => pure ()) >>= fun _ =>
          again (.compLoop (.SetComp elt [⟨target, iter, [], 0⟩] scope pos) 0 it acc env)) := by rfl
theorem codeAny_compLoop_set {elt target iter : Expr} {scope : Scope} {pos : Pos} {it acc : Value} {env : Env} (I : Nat → Shared → Prop)
    (turn : ∀ n s, I n s → wpAny (model prog w) A (pyNext it) (fun r s₁ => match r with
      | none => R (.ok .next) s₁
      | some v => wpAny (model prog w) A (assign target env v) (fun _ s₂ => wpAny (model prog w) A (eval elt env) (fun x s₃ =>
          wpAny (model prog w) A (call (.builtin "set.add") [acc, x]) (fun _ s₄ => ∃ m, m < n ∧ I m s₄) (notedBy (model prog w) A env fun e s' => R (.error e) s') s₃)
          (notedBy (model prog w) A env fun e s' => R (.error e) s') s₂) (notedBy (model prog w) A env fun e s' => R (.error e) s') s₁) (notedBy (model prog w) A env fun e s' => R (.error e) s') s)
    (n : Nat) (h : I n s) (ht : ∀ v, letOwnedTupleGo target it v = pure () := by intro _; rfl) :
    codeAny (model prog w) A (.compLoop (.SetComp elt [⟨target, iter, [], 0⟩] scope pos) 0 it acc env) R s := by
  refine codeAny_loop rfl I (fun n s hI => ?_) n h
  show wpAny _ _ ((compTurn (.SetComp elt [⟨target, iter, [], 0⟩] scope pos) 0 it acc env).onRaise (fun x => do noteFrame x env; theTreesLotGoes x)) _ _ s
  refine wpAny_noted ?_
  rw [compTurn_set1]
  refine wpAny_bind (wpAny_standAt (wpAny_bind (wpAny_mono (turn n s hI) (fun r s₁ h₁ => ?_) fun _ _ h' => h')))
  cases r with
  | none => exact wpAny_pure h₁
  | some v =>
    refine wpAny_bind (wpAny_of_eq (ht v) ?_)
    exact wpAny_bind (wpAny_mono h₁ (fun _ s₂ h₂ => wpAny_bind (wpAny_bind (wpAny_mono h₂ (fun x s₃ h₃ => wpAny_bind (wpAny_standAt (wpAny_bind (wpAny_mono h₃
      (fun _ s₄ h₄ => wpAny_pure (wpAny_pure ⟨rfl, h₄⟩)) fun _ _ h' => h')))) fun _ _ h' => h'))) fun _ _ h' => h')
theorem codeAny_compStart_set {elt target iter ifs rest scope pos it acc env}
    (h0 : codeAny (model prog w) A (.compLoop (.SetComp elt (⟨target, iter, ifs, 0⟩ :: rest) scope pos) 0 it acc env) R s)
    (h : wpAny (model prog w) A (pyIter it) (fun it' s' => codeAny (model prog w) A (.compLoop (.SetComp elt (⟨target, iter, ifs, 0⟩ :: rest) scope pos) 0 it' acc env) R s')
      (notedBy (model prog w) A env fun x s' => R (.error x) s') s) :
    codeAny (model prog w) A (.compStart (.SetComp elt (⟨target, iter, ifs, 0⟩ :: rest) scope pos) 0 it acc env) R s := by
  refine codeAny_of_tree ?_
  show wpAny _ _ ((compStart (.SetComp elt (⟨target, iter, ifs, 0⟩ :: rest) scope pos) 0 it acc env).onRaise (fun x => do noteFrame x env; standAt theWindowsPlace)) _ _ s
  refine wpAny_notedAt ?_
  unfold compStart
  show wpAny _ _ (ask >>= _) _ _ s
  refine wpAny_bind (wpAny_askSetting (wpAny_ite ?_))
  split
  · first
      | exact wpAny_bind (wpAny_pure (wpAny_pure (And.intro rfl h0)))
      | exact wpAny_pure (And.intro rfl h0)
  · first
      | exact wpAny_bind (wpAny_rule (wpAny_bind (wpAny_standAt (wpAny_bind (wpAny_mono h (fun it' s' h' => wpAny_pure (And.intro rfl h')) fun _ _ x => x)))))
      | (refine wpAny_bind (wpAny_rule ?_); show wpAny _ _ (standAt iter.pos >>= _) _ _ s; exact wpAny_bind (wpAny_standAt (wpAny_bind (wpAny_mono h (fun it' s' h' => wpAny_pure (And.intro rfl h')) fun _ _ x => x))))
theorem eval_SetComp {env : Env} (elt gens scope pos) : eval (.SetComp elt gens scope pos) env =
    comprehension (.SetComp elt gens scope pos) scope env (firstIterPos gens pos) (newSet (.type "set")) (firstAsync gens) (firstIter gens env) := rfl
end
def sstep (p : (Str → Bool) × Nat) (y : Str) : (Str → Bool) × Nat := (fun k => p.1 k || decide (k = y), if p.1 y then p.2 else p.2 + 1)
def sset (ys : List Str) : (Str → Bool) × Nat := ys.foldl sstep (fun _ => false, 0)
theorem sset_snoc (l : List Str) (y : Str) : sset (l ++ [y]) = sstep (sset l) y := by unfold sset; rw [List.foldl_append]; rfl
theorem sstep_le : ∀ (l : List Str) (p : (Str → Bool) × Nat), (l.foldl sstep p).2 ≤ p.2 + l.length
  | [], p => Nat.le_refl _
  | y :: l, p => by
    have h := sstep_le l (sstep p y)
    have h2 : (sstep p y).2 ≤ p.2 + 1 := by unfold sstep; dsimp only; split <;> omega
    rw [List.foldl_cons, List.length_cons]; omega
theorem sset_le (l : List Str) : (sset l).2 ≤ l.length := by have := sstep_le l (fun _ => false, 0); simpa [sset] using this
section
variable {prog : Program} {w : World} {A : Around} {E : Value → Shared → Prop} {s : Shared} {h₀ : Heap} {L : Addr} {m : Str → Option Value} {env : Env}
def SrcS (prog : Program) (w : World) (A : Around) (h₀ : Heap) (L : Addr) (m : Str → Option Value) (env : Env) (elt : Expr) (x : Str) (scope : Scope) (cl : List (Str × Addr)) (Q : Value → Shared → Prop) (xv : Value) (s₁ : Shared) : Prop :=
  ∃ ax its kk news ys, xv = .ref ax ∧ A.handled = none ∧ Fr h₀ L s₁.heap m ∧ News h₀ L s₁.heap news ∧ (ax, ({ cls := .type "list", data := .seq its kk } : Obj)) ∈ news ∧ its.size = ys.length ∧ ys.length ≤ 8 ∧
    (∀ (i : Nat) (v : Value) (y : Str), its[i]? = some v → ys[i]? = some y → ∀ C oC m₂ h tk (E' : Value → Shared → Prop), NsObj oC m₂ → m₂ x = some v → Fr h₀ L h m → News h₀ L h ((C, oC) :: news) → (∀ p ∈ news, p.1 ≠ C) →
      wpAny (model prog w) A (eval elt (compEnvC scope cl C env)) (fun u s₄ => (∃ t, u = .str y t) ∧ ∃ tk', s₄ = { s₁ with heap := h, toks := tk' }) E' { s₁ with heap := h, toks := tk }) ∧
    (∀ D so h tk, (∀ p ∈ news, p.1 ≠ D) → Fr h₀ L h m → News h₀ L h ((D, so) :: news) → so.SetObjOf (PySem.strKind prog w) (sset ys).1 (sset ys).2 → Q (.ref D) { s₁ with heap := h, toks := tk })
theorem block_set {elt iter : Expr} {x : Str} {px : Pos} {scope : Scope} {cl : List (Str × Addr)} {pos : Pos} {s₂ : Shared} {I ax : Addr} {its : Array Value} {kk : Nat} {news : List (Addr × Obj)} {ys : List Str}
    {RR : Value → Addr → Result → Shared → Prop} (hh : A.handled = none) (hIax : I ≠ ax)
    (hcell : ∀ y ∈ scope.names, y.2 ≠ .cell) (hkind : scope.kind = .function) (hx : scope.names.lookup x = some .local) (hit : s₂.heap.IsListIter I ax 0)
    (F : Fr h₀ L s₂.heap m) (N : News h₀ L s₂.heap news) (hm : (ax, ({ cls := .type "list", data := .seq its kk } : Obj)) ∈ news) (hlen : its.size = ys.length) (h8 : ys.length ≤ 8) (hIL : L ≠ I) (hI₀ : h₀.get? I = none) (off : ∀ p ∈ news, p.1 ≠ I)
    (turn : ∀ (i : Nat) (v : Value) (y : Str), its[i]? = some v → ys[i]? = some y → ∀ C oC m₂ h tk (E' : Value → Shared → Prop), NsObj oC m₂ → m₂ x = some v → Fr h₀ L h m → News h₀ L h ((C, oC) :: news) → (∀ p ∈ news, p.1 ≠ C) →
      wpAny (model prog w) A (eval elt (compEnvC scope cl C env)) (fun u s₄ => (∃ t, u = .str y t) ∧ ∃ tk', s₄ = { s₂ with heap := h, toks := tk' }) E' { s₂ with heap := h, toks := tk })
    (hRR : ∀ D C so h tk m', Fr h₀ L h m → News h₀ L h ((D, so) :: news) → (∀ p ∈ news, p.1 ≠ D) → so.SetObjOf (PySem.strKind prog w) (sset ys).1 (sset ys).2 → h.Ns C m' → h₀.get? C = none → C ≠ L → C ≠ D → (∀ p ∈ news, p.1 ≠ C) → RR (.ref D) C (.ok .next) { s₂ with heap := h, toks := tk }) :
    wpAny (model prog w) A (newSet (.type "set")) (fun acc s₃ => wpAny (model prog w) A (newFunctionEnv scope env.globals cl [] env.qual none .none (some env)) (fun cenv s₄ =>
      codeAny (model prog w) A (.compStart (.SetComp elt [⟨.Name x px, iter, [], 0⟩] scope pos) 0 (.ref I) acc { cenv with scope := relabel scope env }) (RR acc cenv.locals) s₄) E s₃) E s₂ := by
  have hIlt : I < s₂.heap.objs.size := by obtain ⟨_, e, _⟩ := hit; exact Heap.lt_size e
  refine wpAny_newSet_of (knd := PySem.strKind prog w) fun led _ => ?_
  have hso : Obj.SetObjOf (PySem.strKind prog w) { cls := .type "set", dict := none, data := .set #[] 0 (.fresh 0 0 led) } (fun _ => false) 0 := setObjOf_fresh (knd := PySem.strKind prog w) led
  generalize hso0 : ({ cls := .type "set", dict := none, data := .set #[] 0 (.fresh 0 0 led) } : Obj) = so0 at hso ⊢
  have hnf : so0.isFreed = false := by rw [← hso0]; rfl
  refine wpAny_newFunctionEnv hcell (by intro y hy; simp at hy) (fun h₁ hns₁ hsb₁ => ?_) hkind
  dsimp only at hns₁ hsb₁ ⊢
  generalize hH2 : s₂.heap.push so0 = H2 at hns₁ hsb₁ ⊢
  have hC : H2.objs.size = s₂.heap.objs.size + 1 := by rw [← hH2, Heap.size_push]
  have hDC : s₂.heap.objs.size ≠ H2.objs.size := by rw [hC]; exact Nat.ne_of_lt (Nat.lt_succ_self _)
  have below : ∀ b, b < s₂.heap.objs.size → b ≠ H2.objs.size ∧ b ≠ s₂.heap.objs.size := fun b hb => ⟨by rw [hC]; exact Nat.ne_of_lt (Nat.lt_succ_of_lt hb), Nat.ne_of_lt hb⟩
  have old : ∀ b o, s₂.heap.get? b = some o → h₁.get? b = some o := fun b o e => hsb₁.extBut b o (below b (Heap.lt_size e)).1 (Heap.get?_push_of_some _ (hH2 ▸ Heap.get?_push_of_some _ e))
  have hacc : h₁.get? s₂.heap.objs.size = some so0 := hsb₁.extBut _ _ hDC (Heap.get?_push_of_some _ (hH2 ▸ Heap.get?_push_size _ hnf))
  have fresh : ∀ a, s₂.heap.objs.size ≤ a → s₂.heap.get? a = none := fun a ha => by
    cases e : s₂.heap.get? a with
    | none => rfl
    | some o' => exact absurd (Heap.lt_size e) (Nat.not_lt.mpr ha)
  have fresh₀ : ∀ a, s₂.heap.objs.size ≤ a → h₀.get? a = none := fun a ha => by
    cases e : h₀.get? a with
    | none => rfl
    | some o' => have := F.keep a o' e; rw [fresh a ha] at this; cases this
  have hD₀ : h₀.get? s₂.heap.objs.size = none := fresh₀ _ (Nat.le_refl _)
  have hC₀ : h₀.get? H2.objs.size = none := fresh₀ _ (by rw [hC]; exact Nat.le_succ _)
  have hLlt : L < s₂.heap.objs.size := F.ns.lt
  have hDL : s₂.heap.objs.size ≠ L := Ne.symm (below L hLlt).2
  have hCL : H2.objs.size ≠ L := Ne.symm (below L hLlt).1
  have hCI : I ≠ H2.objs.size := (below I hIlt).1
  have hDI : I ≠ s₂.heap.objs.size := (below I hIlt).2
  have offC : ∀ p ∈ news, p.1 ≠ H2.objs.size := fun p hp => (below _ (Heap.lt_size (N p hp).1)).1
  have offD : ∀ p ∈ news, p.1 ≠ s₂.heap.objs.size := fun p hp => (below _ (Heap.lt_size (N p hp).1)).2
  generalize hDn : s₂.heap.objs.size = D at *
  have W : Walks prog w A I [I, ax] [I] its.size (fun i v => its[i]? = some v) (fun i h => h.IsListIter I ax i ∧ h.IsList ax its) := Walks.list hh I ax (Ne.symm hIax) its
  have loop : ∀ s₃ : Shared, s₃ = { s₂ with heap := h₁, toks := s₂.toks + ([] : List (Str × Value)).length } →
      codeAny (model prog w) A (.compLoop (.SetComp elt [⟨.Name x px, iter, [], 0⟩] scope pos) 0 (.ref I) (.ref D) (compEnvC scope cl H2.objs.size env))
        (RR (.ref D) H2.objs.size) s₃ := by
    rintro s₃ rfl
    refine codeAny_compLoop_set
      (fun k s' => ∃ h' tk i so m', s' = { s₂ with heap := h', toks := tk } ∧ i ≤ its.size ∧ k = its.size + 1 - i ∧ h'.IsListIter I ax i ∧ Fr h₀ L h' m ∧ h'.Ns H2.objs.size m' ∧ News h₀ L h' ((D, so) :: news) ∧
        so.SetObjOf (PySem.strKind prog w) (sset (ys.take i)).1 (sset (ys.take i)).2) ?_ (its.size + 1)
      ⟨h₁, _, 0, so0, _, rfl, Nat.zero_le _, rfl, ?_, F.keeps old, hns₁, fun p hp => ?_, hso⟩
    · rintro k s' ⟨h', tk, i, so, m', rfl, hi, rfl, hit', F', hn', N', hso'⟩
      have hl' : h'.IsList ax its := News.isList N' (List.mem_cons_of_mem _ hm)
      by_cases hlt : i < its.size
      · refine W.item i _ _ _ hlt ⟨hit', hl'⟩ fun v h₂ tk₂ hPv hst₂ hk₂ => ?_
        refine wpAny_assign_Name (wpAny_storeName_local (lookup_relabel_local hx) (hn'.at' fun o e => hk₂ _ o (by simpa using Ne.symm hCI) e) (fun h₃ hn₃ hs₃ => ?_) (by simp [compEnvC, relabel, hkind]))
        have hst₃ : h₃.IsListIter I ax (i + 1) := by
          obtain ⟨o, e, r⟩ := hst₂.1
          exact ⟨o, hs₃.extBut _ _ hCI e, r⟩
        obtain ⟨oI, heI, hoI⟩ := id hst₃
        obtain ⟨oC, heC, hoC⟩ := ns_obj hn₃
        have F₃ : Fr h₀ L h₃ m := (fr_but F' hk₂ hIL hI₀).change hs₃ hCL hC₀
        have N₂ : News h₀ L h₂ ((D, so) :: news) := news_but N' hk₂ fun p hp => by
          rcases List.mem_cons.mp hp with rfl | hp
          · exact Ne.symm hDI
          · exact off p hp
        have N₃ : News h₀ L h₃ ((I, oI) :: (H2.objs.size, oC) :: (D, so) :: news) := fun p hp => by
          rcases List.mem_cons.mp hp with rfl | hp
          · exact ⟨heI, Ne.symm hIL, hI₀⟩
          · rcases List.mem_cons.mp hp with rfl | hp
            · exact ⟨heC, hCL, hC₀⟩
            · have z := N₂ p hp
              refine ⟨hs₃.extBut _ _ ?_ z.1, z.2⟩
              rcases List.mem_cons.mp hp with rfl | hp
              · exact hDC
              · exact offC p hp
        have hy : ys[i]? = some ys[i] := List.getElem?_eq_getElem (hlen ▸ hlt)
        have N₃' : News h₀ L h₃ ((H2.objs.size, oC) :: news) := fun p hp => N₃ p (by
          rcases List.mem_cons.mp hp with rfl | hp
          · simp
          · simp [hp])
        refine wpAny_mono (turn i v ys[i] hPv hy H2.objs.size oC _ h₃ _ _ hoC (by simp) F₃ N₃' offC) (fun u s₄ h₄ => ?_) fun _ _ e => e
        obtain ⟨⟨t, rfl⟩, tk', rfl⟩ := h₄
        have hb : (sset (ys.take i)).2 + 1 < scanBound := by
          have h1 := sset_le (ys.take i)
          have h2 := List.length_take_le' i ys
          exact Nat.lt_of_le_of_lt (show _ ≤ 9 by omega) (by decide)
        refine kse_add (knd := PySem.strKind prog w) F₃ N₃ (UpdF.tail hDI.symm.symm (UpdF.tail (Ne.symm hDC) (UpdF.head offD))) hso' hb (strKind_is _ _ _ _) rfl fun h₅ so₅ F₅ N₅ hso₅ => ?_
        refine ⟨its.size + 1 - (i + 1), by omega, h₅, _, i + 1, so₅, _, rfl, hlt, rfl, ⟨oI, (N₅ (I, oI) (List.mem_cons_self ..)).1, hoI⟩, F₅, hoC.ns (N₅ (H2.objs.size, oC) (List.mem_cons_of_mem _ (List.mem_cons_self ..))).1, fun p hp => N₅ p (List.mem_cons_of_mem _ (List.mem_cons_of_mem _ hp)), ?_⟩
        rw [take_snoc hy, sset_snoc]
        exact hso₅
      · obtain rfl : i = its.size := Nat.le_antisymm hi (Nat.not_lt.mp hlt)
        refine W.done _ _ _ ⟨hit', hl'⟩ fun h₂ tk₂ hk₂ => ?_
        rw [hlen, List.take_length] at hso'
        exact hRR _ _ so h₂ tk₂ _ (fr_but F' hk₂ hIL hI₀) (news_but N' hk₂ fun p hp => by
          rcases List.mem_cons.mp hp with rfl | hp
          · exact Ne.symm hDI
          · exact off p hp) offD hso' (hn'.at' fun o e => hk₂ _ o (by simpa using Ne.symm hCI) e) hC₀ hCL (Ne.symm hDC) offC
    · obtain ⟨o, e, r⟩ := hit
      exact ⟨o, old _ _ e, r⟩
    · rcases List.mem_cons.mp hp with rfl | hp
      · exact ⟨hacc, hDL, hD₀⟩
      · exact ⟨old _ _ (N p hp).1, (N p hp).2⟩
  refine codeAny_compStart_set (loop _ rfl) (W.self 0 _ _ _ ⟨?_, ?_⟩ (loop _ rfl))
  · obtain ⟨o, e, r⟩ := hit
    exact ⟨o, old _ _ e, r⟩
  · exact (News.isList N hm).at fun o e => old _ o e
theorem SetComp_J {elt iter : Expr} {x : Str} {px : Pos} {scope : Scope} {cl : List (Str × Addr)} {pos : Pos} {Q : Value → Shared → Prop} (F₀ : Fr h₀ L s.heap m)
    (hclos : closureFor scope env = pure cl) (hcell : ∀ y ∈ scope.names, y.2 ≠ .cell) (hkind : scope.kind = .function)
    (hnames : ∀ y ∈ scope.names, y.2 = .local → scope.names.lookup y.1 = some .local) (hx : scope.names.lookup x = some .local)
    (h : wpAny (model prog w) A (eval iter env) (SrcS prog w A h₀ L m env elt x scope cl Q) E s)
    (hs : ∀ x, foldedSetIterable iter env x = pure x := by intro _; rfl) :
    wpAny (model prog w) A (eval (.SetComp elt [⟨.Name x px, iter, [], 0⟩] scope pos) env) Q E s := by
  rw [eval_SetComp]
  refine wpAny_comprehension_free (use := none) rfl hs hclos hkind hnames (wpAny_mono h (fun xv s₁ h₁ => ?_) fun _ _ e => e)
  obtain ⟨ax, its, kk, news, ys, rfl, hh, F, N, hm, hlen, h8, turn, done⟩ := h₁
  have hl : s₁.heap.IsList ax its := News.isList N hm
  have hlt : ax < s₁.heap.objs.size := by obtain ⟨_, e, _⟩ := hl; exact Heap.lt_size e
  refine wpAny_pyIter_list hl ?_
  have up : ∀ b o, s₁.heap.get? b = some o → (s₁.heap.push { cls := .type "list_iterator", data := .fields #[.ref ax, .int 0 0] }).get? b = some o := fun b o e => Heap.get?_push_of_some _ e
  refine block_set (I := s₁.heap.objs.size) hh (Ne.symm (Nat.ne_of_lt hlt)) hcell hkind hx ⟨_, Heap.get?_push_size _ rfl, rfl, rfl⟩ (F.keeps up) (N.grown up) hm hlen h8 (Nat.ne_of_lt F.ns.lt) (next_is_new F) (fun p hp => Nat.ne_of_lt (Heap.lt_size (N p hp).1)) turn ?_
  intro D C so h' tk m' F' N' oD hso hn hC₀ hCL hCD offC
  refine ⟨m', hn, fun h'' hs'' => done D so h'' tk oD (F'.change hs'' hCL hC₀) (fun p hp => ?_) hso⟩
  refine ⟨hs''.extBut _ _ ?_ (N' p hp).1, (N' p hp).2⟩
  rcases List.mem_cons.mp hp with rfl | hp
  · exact Ne.symm hCD
  · exact offC p hp
end
end Mine
end
section
open PySem PySem.W PySem.Calls PyProof.Rows
set_option maxRecDepth 100000
set_option maxHeartbeats 1000000
namespace Mine
open LCg
section
variable {M : Model} {A : Around} {E : Value → Shared → Prop} {s : Shared}
theorem newFunctionEnv_one {scope : Scope} {globals : Addr} {cl : List (Str × Addr)} {qual : Str} {x : Str} {around : Env} {Q : Env → Shared → Prop}
    (hc1 : ∀ n, cellsFrom n scope.names cl = (x, n) :: cl) (hc2 : ∀ h : Heap, pushCells h scope.names = h.push { cls := .type "cell", data := .cell none })
    (hQ : ∀ h' C K, C = s.heap.objs.size → K = s.heap.objs.size + 1 → h'.Ns C (fun _ => none) → h'.IsCell K none → (∀ b o, s.heap.get? b = some o → h'.get? b = some o) → h'.objs.size = s.heap.objs.size + 2 →
      Q (newEnv scope C globals ((x, K) :: cl) qual none .none (some around) builtinsNs) { s with heap := h' }) :
    wpAny M A (newFunctionEnv scope globals cl [] qual none .none (some around)) Q E s := by
  simp only [newFunctionEnv, Option.isSome_some, if_true]
  refine wpAny_bind (wpAny_alloc ?_)
  refine wpAny_bind (wpAny_layCells _ (fun name kind cells => by cases hkc : kind == NameKind.cell <;> simp [hkc]) _ _ _ _ ?_)
  simp only [List.forIn_nil]
  refine wpAny_bind (wpAny_pure (wpAny_pure ?_))
  rw [hc1, hc2]
  have z := hQ ((s.heap.push { cls := .type "dict", data := .dict #[] }).push { cls := .type "cell", data := .cell none }) _ _ rfl rfl ((Heap.Ns.new s.heap (.type "dict")).keeps fun b o e => Heap.get?_push_of_some _ e)
    ⟨_, by rw [← Heap.size_push]; exact Heap.get?_push_size _ rfl, rfl⟩ (fun b o e => Heap.get?_push_of_some _ (Heap.get?_push_of_some _ e)) (by rw [Heap.size_push, Heap.size_push])
  rw [show ({ s with heap := s.heap.push { cls := .type "dict", data := .dict #[] } } : Shared).heap.objs.size = s.heap.objs.size + 1 from Heap.size_push ..]
  exact z
end
section
variable {prog : Program} {w : World} {A : Around} {E : Value → Shared → Prop} {s : Shared} {h₀ : Heap} {L : Addr} {m : Str → Option Value} {env : Env}
def SrcK (prog : Program) (w : World) (A : Around) (h₀ : Heap) (L : Addr) (m : Str → Option Value) (env : Env) (elt : Expr) (x : Str) (scope : Scope) (cl : List (Str × Addr)) (c : Nat → Int) (Q : Value → Shared → Prop) (xv : Value) (s₁ : Shared) : Prop :=
  ∃ r b t u v n news, xv = .ref r ∧ A.handled = none ∧ Fr h₀ L s₁.heap m ∧ News h₀ L s₁.heap news ∧ IsRange s₁.heap r 0 b 1 t u v ∧ Builtin.Range.small 0 b 1 = true ∧ Builtin.Range.rangeSize 0 b 1 = ((n : Nat) : Int) ∧ n ≤ 8 ∧
    (∀ i : Nat, i < n → ∀ t C oC K oK D ys m₂ h tk (E' : Value → Shared → Prop), NsObj oC m₂ → oK.data = .cell (some (.int (i : Nat) t)) → Fr h₀ L h m → News h₀ L h ((K, oK) :: (C, oC) :: (D, lst ys) :: news) → (∀ p ∈ news, p.1 ≠ K ∧ p.1 ≠ C ∧ p.1 ≠ D) → @Ne Nat K C → @Ne Nat K D → @Ne Nat C D →
      ∀ I oI, (∀ p ∈ (K, oK) :: (C, oC) :: (D, lst ys) :: news, p.1 ≠ I) → News h₀ L h ((I, oI) :: (K, oK) :: (C, oC) :: (D, lst ys) :: news) →
      wpAny (model prog w) A (eval elt (compEnvC scope ((x, K) :: cl) C env)) (fun y s₄ => (∃ t', y = .int (c i) t') ∧ ∃ h' tk', s₄ = { s₁ with heap := h', toks := tk' } ∧ Fr h₀ L h' m ∧ News h₀ L h' ((I, oI) :: (K, oK) :: (C, oC) :: (D, lst ys) :: news)) E' { s₁ with heap := h, toks := tk }) ∧
    (∀ D ys h tk, Are intV ys ((List.range n).map c) → (∀ p ∈ news, p.1 ≠ D) → Fr h₀ L h m → News h₀ L h ((D, lst ys) :: news) → Q (.ref D) { s₁ with heap := h, toks := tk })
theorem block_K {elt iter : Expr} {x : Str} {px : Pos} {scope : Scope} {cl : List (Str × Addr)} {pos : Pos} {s₂ : Shared} {I : Addr} {n : Nat} {news : List (Addr × Obj)} {c : Nat → Int}
    {RR : Value → Addr → Result → Shared → Prop} (hh : A.handled = none)
    (hc1 : ∀ n, cellsFrom n scope.names cl = (x, n) :: cl) (hc2 : ∀ h : Heap, pushCells h scope.names = h.push { cls := .type "cell", data := .cell none })
    (hkind : scope.kind = .function) (hx : ∀ C K, Env.kindOf (compEnvC scope ((x, K) :: cl) C env) x = some .cell) (hit : IsRangeIter s₂.heap I 0 n 1)
    (F : Fr h₀ L s₂.heap m) (N : News h₀ L s₂.heap news) (h8 : n ≤ 8) (hIL : L ≠ I) (hI₀ : h₀.get? I = none) (off : ∀ p ∈ news, p.1 ≠ I)
    (turn : ∀ i : Nat, i < n → ∀ t C oC K oK D ys m₂ h tk (E' : Value → Shared → Prop), NsObj oC m₂ → oK.data = .cell (some (.int (i : Nat) t)) → Fr h₀ L h m → News h₀ L h ((K, oK) :: (C, oC) :: (D, lst ys) :: news) → (∀ p ∈ news, p.1 ≠ K ∧ p.1 ≠ C ∧ p.1 ≠ D) → @Ne Nat K C → @Ne Nat K D → @Ne Nat C D →
      ∀ I oI, (∀ p ∈ (K, oK) :: (C, oC) :: (D, lst ys) :: news, p.1 ≠ I) → News h₀ L h ((I, oI) :: (K, oK) :: (C, oC) :: (D, lst ys) :: news) →
      wpAny (model prog w) A (eval elt (compEnvC scope ((x, K) :: cl) C env)) (fun y s₄ => (∃ t', y = .int (c i) t') ∧ ∃ h' tk', s₄ = { s₂ with heap := h', toks := tk' } ∧ Fr h₀ L h' m ∧ News h₀ L h' ((I, oI) :: (K, oK) :: (C, oC) :: (D, lst ys) :: news)) E' { s₂ with heap := h, toks := tk })
    (hRR : ∀ D C ys h tk m', Fr h₀ L h m → News h₀ L h ((D, lst ys) :: news) → (∀ p ∈ news, p.1 ≠ D) → Are intV ys ((List.range n).map c) → h.Ns C m' → h₀.get? C = none → C ≠ L → C ≠ D → (∀ p ∈ news, p.1 ≠ C) → RR (.ref D) C (.ok .next) { s₂ with heap := h, toks := tk }) :
    wpAny (model prog w) A (newList []) (fun acc s₃ => wpAny (model prog w) A (newFunctionEnv scope env.globals cl [] env.qual none .none (some env)) (fun cenv s₄ =>
      codeAny (model prog w) A (.compStart (.ListComp elt [⟨.Name x px, iter, [], 0⟩] scope pos) 0 (.ref I) acc { cenv with scope := relabel scope env }) (RR acc cenv.locals) s₄) E s₃) E s₂ := by
  have hIlt : I < s₂.heap.objs.size := Heap.lt_size hit
  refine wpAny_newObj_type (newFunctionEnv_one (x := x) hc1 hc2 fun h₁ C K hCe hKe hns₁ hcell₁ old₁ _ => ?_)
  dsimp only at hCe hKe old₁ ⊢
  have hsz := Heap.size_push s₂.heap { cls := .type "list", dict := none, data := .seq ([] : List Value).toArray }
  rw [hsz] at hCe hKe
  have old : ∀ b o, s₂.heap.get? b = some o → h₁.get? b = some o := fun b o e => old₁ b o (Heap.get?_push_of_some _ e)
  have hacc : h₁.get? s₂.heap.objs.size = some (lst []) := old₁ _ _ (Heap.get?_push_size _ rfl)
  have fresh₀ : ∀ a, s₂.heap.objs.size ≤ a → h₀.get? a = none := fun a ha => by
    cases e : h₀.get? a with
    | none => rfl
    | some o' => exact absurd (Heap.lt_size (F.keep a o' e)) (Nat.not_lt.mpr ha)
  have hLlt : L < s₂.heap.objs.size := F.ns.lt
  generalize hDn : s₂.heap.objs.size = D at *
  have hD₀ : h₀.get? D = none := fresh₀ _ (Nat.le_refl _)
  have hC₀ : h₀.get? C = none := fresh₀ _ (by rw [hCe]; omega)
  have hK₀ : h₀.get? K = none := fresh₀ _ (by rw [hKe]; omega)
  have hDL : D ≠ L := by have := hLlt; exact fun e => by rw [e] at this; exact Nat.lt_irrefl _ this
  have hCL : C ≠ L := by rw [hCe]; exact Ne.symm (Nat.ne_of_lt (Nat.lt_succ_of_lt hLlt))
  have hKL : K ≠ L := by rw [hKe]; exact Ne.symm (Nat.ne_of_lt (Nat.lt_succ_of_lt (Nat.lt_succ_of_lt hLlt)))
  have hCI : I ≠ C := by rw [hCe]; exact Nat.ne_of_lt (Nat.lt_succ_of_lt hIlt)
  have hDI : I ≠ D := fun e => by rw [e] at hIlt; exact Nat.lt_irrefl _ hIlt
  have hKI : I ≠ K := by rw [hKe]; exact Nat.ne_of_lt (Nat.lt_succ_of_lt (Nat.lt_succ_of_lt hIlt))
  have hDC : D ≠ C := by rw [hCe]; exact Nat.ne_of_lt (Nat.lt_succ_self _)
  have hDK : D ≠ K := by rw [hKe]; exact Nat.ne_of_lt (by omega)
  have hCK : C ≠ K := by rw [hCe, hKe]; exact Nat.ne_of_lt (Nat.lt_succ_self _)
  have lt : ∀ p ∈ news, p.1 < D := fun p hp => by rw [← hDn]; exact Heap.lt_size (N p hp).1
  have off3 : ∀ p ∈ news, p.1 ≠ K ∧ p.1 ≠ C ∧ p.1 ≠ D := fun p hp => by
    have h := lt p hp
    rw [hKe, hCe]
    exact ⟨Nat.ne_of_lt (Nat.lt_succ_of_lt (Nat.lt_succ_of_lt h)), Nat.ne_of_lt (Nat.lt_succ_of_lt h), Nat.ne_of_lt h⟩
  have W : Walks prog w A I [I] [I] n (fun i v => ∃ t, v = .int (0 + (i : Int)) t) (fun i h => IsRangeIter h I (0 + (i : Nat) * 1) ((n : Int) - (i : Nat)) 1) := range_walks hh 0 n
  clear hCe hKe
  have loop : ∀ s₃ : Shared, s₃ = { s₂ with heap := h₁ } →
      codeAny (model prog w) A (.compLoop (.ListComp elt [⟨.Name x px, iter, [], 0⟩] scope pos) 0 (.ref I) (.ref D) (compEnvC scope ((x, K) :: cl) C env))
        (RR (.ref D) C) s₃ := by
    rintro s₃ rfl
    refine codeAny_compLoop_list
      (fun k s' => ∃ h' tk i ys m', s' = { s₂ with heap := h', toks := tk } ∧ i ≤ n ∧ k = n + 1 - i ∧ IsRangeIter h' I (0 + (i : Nat) * 1) ((n : Int) - (i : Nat)) 1 ∧ Fr h₀ L h' m ∧ h'.Ns C m' ∧ (∃ v, h'.IsCell K v) ∧ News h₀ L h' ((D, lst ys) :: news) ∧
        Are intV ys ((List.range i).map c)) ?_ (n + 1)
      ⟨h₁, _, 0, [], _, rfl, Nat.zero_le _, rfl, ?_, F.keeps old, hns₁, ⟨_, hcell₁⟩, fun p hp => ?_, .nil⟩
    · rintro k s' ⟨h', tk, i, ys, m', rfl, hi, rfl, hit', F', hn', ⟨cv, hcv⟩, N', hys⟩
      by_cases hlt : i < n
      · refine W.item i _ _ _ hlt hit' fun v h₂ tk₂ hPv hst₂ hk₂ => ?_
        obtain ⟨t, rfl⟩ := hPv
        rw [show (0 : Int) + (i : Int) = ((i : Nat) : Int) by omega]
        have hcv₂ : h₂.IsCell K cv := by
          obtain ⟨o, e, r⟩ := hcv
          exact ⟨o, hk₂ _ o (by simpa using Ne.symm hKI) e, r⟩
        refine wpAny_assign_Name (wpAny_storeName_cell (c := K) (by show (relabel scope env).kind = _; exact hkind) (hx C K) (by show List.lookup x ((x, K) :: cl) = some K; simp) hcv₂ fun h₃ hcv₃ hs₃ => ?_)
        have hst₃ : IsRangeIter h₃ I (0 + ((i + 1 : Nat) : Int) * 1) ((n : Int) - ((i + 1 : Nat) : Int)) 1 := hs₃.extBut _ _ hKI hst₂
        obtain ⟨oI, heI⟩ : ∃ oI, h₃.get? I = some oI := ⟨_, hst₃⟩
        have hn₃ : h₃.Ns C m' := (hn'.at' fun o e => hk₂ _ o (by simpa using Ne.symm hCI) e).at' fun o e => hs₃.extBut _ o hCK e
        obtain ⟨oC, heC, hoC⟩ := ns_obj hn₃
        obtain ⟨oK, heK, hoK⟩ := hcv₃
        have F₃ : Fr h₀ L h₃ m := (fr_but F' hk₂ hIL hI₀).change hs₃ hKL hK₀
        have N₂ : News h₀ L h₂ ((D, lst ys) :: news) := news_but N' hk₂ fun p hp => by
          rcases List.mem_cons.mp hp with rfl | hp
          · exact Ne.symm hDI
          · exact off p hp
        have N₄ : News h₀ L h₃ ((K, oK) :: (C, oC) :: (D, lst ys) :: news) := fun p hp => by
          rcases List.mem_cons.mp hp with rfl | hp
          · exact ⟨heK, hKL, hK₀⟩
          · rcases List.mem_cons.mp hp with rfl | hp
            · exact ⟨heC, hCL, hC₀⟩
            · have z := N₂ p hp
              refine ⟨hs₃.extBut _ _ ?_ z.1, z.2⟩
              rcases List.mem_cons.mp hp with rfl | hp
              · exact hDK
              · exact (off3 p hp).1
        have N₃ : News h₀ L h₃ ((I, oI) :: (K, oK) :: (C, oC) :: (D, lst ys) :: news) := fun p hp => by
          rcases List.mem_cons.mp hp with rfl | hp
          · exact ⟨heI, Ne.symm hIL, hI₀⟩
          · exact N₄ p hp
        have offI : ∀ p ∈ (K, oK) :: (C, oC) :: (D, lst ys) :: news, p.1 ≠ I := fun p hp => by
          rcases List.mem_cons.mp hp with rfl | hp
          · exact Ne.symm hKI
          · rcases List.mem_cons.mp hp with rfl | hp
            · exact Ne.symm hCI
            · rcases List.mem_cons.mp hp with rfl | hp
              · exact Ne.symm hDI
              · exact off p hp
        refine wpAny_mono (turn i hlt t C oC K oK D ys _ h₃ _ _ hoC hoK F₃ N₄ off3 (Ne.symm hCK) (Ne.symm hDK) (Ne.symm hDC) I oI offI N₃) (fun y s₄ h₄ => ?_) fun _ _ e => e
        obtain ⟨⟨t', rfl⟩, h₄, tk₄, rfl, F₄, N₅⟩ := h₄
        have zI := (N₅ (I, oI) List.mem_cons_self).1
        have zK := (N₅ (K, oK) (by simp)).1
        have zC := (N₅ (C, oC) (by simp)).1
        have zD := (N₅ (D, lst ys) (by simp)).1
        have hl : ys.length ≤ n := by
          have := hys.len
          rw [List.length_map, List.length_range] at this
          omega
        refine append_at (hsz := by show ys.toArray.size ≤ sizeLine; rw [List.size_toArray]; exact Nat.le_trans hl (Nat.le_trans h8 (by decide))) zD fun h₅ hs₅ hD₅ => ?_
        refine ⟨n + 1 - (i + 1), by omega, h₅, tk₄, i + 1, ys ++ [intV (c i) t'], _, rfl, hlt, rfl, ?_, F₄.change hs₅ hDL hD₀, (hoC.ns zC).sameBut hs₅ (Ne.symm hDC), ⟨_, oK, hs₅.extBut _ _ (Ne.symm hDK) zK, hoK⟩, fun p hp => ?_, ?_⟩
        · have e : oI = _ := Option.some.inj (heI.symm.trans hst₃)
          have z := hs₅.extBut _ _ hDI zI
          rw [e] at z
          exact z
        · rcases List.mem_cons.mp hp with rfl | hp
          · exact ⟨hD₅.trans (congrArg some (lst_snoc ys _)), hDL, hD₀⟩
          · exact ⟨hs₅.extBut _ _ (off3 p hp).2.2 (N₅ p (by simp [hp])).1, (N₅ p (by simp [hp])).2⟩
        · rw [List.range_succ, List.map_append]
          exact hys.snoc _ _
      · obtain rfl : i = n := Nat.le_antisymm hi (Nat.not_lt.mp hlt)
        refine W.done _ _ _ hit' fun h₂ tk₂ hk₂ => ?_
        exact hRR _ _ ys h₂ tk₂ _ (fr_but F' hk₂ hIL hI₀) (news_but N' hk₂ fun p hp => by
          rcases List.mem_cons.mp hp with rfl | hp
          · exact Ne.symm hDI
          · exact off p hp) (fun p hp => (off3 p hp).2.2) hys (hn'.at' fun o e => hk₂ _ o (by simpa using Ne.symm hCI) e) hC₀ hCL (Ne.symm hDC) (fun p hp => (off3 p hp).2.1)
    · have z := old _ _ hit
      show h₁.get? I = _
      rw [z]
      simp
    · rcases List.mem_cons.mp hp with rfl | hp
      · exact ⟨hacc, hDL, hD₀⟩
      · exact ⟨old _ _ (N p hp).1, (N p hp).2⟩
  refine codeAny_compStart_list (loop _ rfl) (W.self 0 _ _ _ ?_ (loop _ rfl))
  have z := old _ _ hit
  show h₁.get? I = _
  rw [z]
  simp
theorem ListComp_K {elt iter : Expr} {x : Str} {px : Pos} {scope : Scope} {cl : List (Str × Addr)} {pos : Pos} {Q : Value → Shared → Prop} {c : Nat → Int} (F₀ : Fr h₀ L s.heap m)
    (hclos : closureFor scope env = pure cl) (hc1 : ∀ n, cellsFrom n scope.names cl = (x, n) :: cl) (hc2 : ∀ h : Heap, pushCells h scope.names = h.push { cls := .type "cell", data := .cell none })
    (hkind : scope.kind = .function) (hx : ∀ C K, Env.kindOf (compEnvC scope ((x, K) :: cl) C env) x = some .cell)
    (hnames : ∀ y ∈ scope.names, y.2 = .local → scope.names.lookup y.1 = some .local)
    (h : wpAny (model prog w) A (eval iter env) (SrcK prog w A h₀ L m env elt x scope cl c Q) E s)
    (hs : ∀ x, foldedSetIterable iter env x = pure x := by intro _; rfl) :
    wpAny (model prog w) A (eval (.ListComp elt [⟨.Name x px, iter, [], 0⟩] scope pos) env) Q E s := by
  rw [eval_ListComp]
  refine wpAny_comprehension_free (use := none) rfl hs hclos hkind hnames (wpAny_mono h (fun xv s₁ h₁ => ?_) fun _ _ e => e)
  obtain ⟨r, b, t, u, v, n, news, rfl, hh, F, N, hr, hsm, hn, h8, turn, done⟩ := h₁
  refine wpAny_pyIter_range hr hsm ?_
  refine block_K (n := n) hh hc1 hc2 hkind hx (by show IsRangeIter _ _ _ _ _; rw [hn]; simpa using Heap.get?_push_size _ rfl)
    (F.keeps fun _ _ e => Heap.get?_push_of_some _ e) (N.grown fun _ _ e => Heap.get?_push_of_some _ e) h8 (Nat.ne_of_lt F.ns.lt) (next_is_new F) (fun p hp => Nat.ne_of_lt (Heap.lt_size (N p hp).1)) turn ?_
  intro D C ys h' tk m' F' N' oD hys hn hC₀ hCL hCD offC
  refine ⟨m', hn, fun h'' hs'' => done D ys h'' tk hys oD (F'.change hs'' hCL hC₀) (fun p hp => ?_)⟩
  refine ⟨hs''.extBut _ _ ?_ (N' p hp).1, (N' p hp).2⟩
  rcases List.mem_cons.mp hp with rfl | hp
  · exact Ne.symm hCD
  · exact offC p hp
end
end Mine
end
section
open PySem PySem.W PySem.Calls PyProof.Rows
set_option maxRecDepth 100000
set_option maxHeartbeats 1000000
namespace Mine
variable {fa9 : Addr} {cd9 : Value}
local macro_rules | `(tactic| k_mem) => `(tactic| with_reducible_and_instances assumption)
def colT (n i : Nat) (x : Str) : Str := ((lad n x)[i]?).getD x
theorem lad_len : ∀ (n : Nat) (x : Str), (lad n x).length = n + 1
  | 0, _ => rfl
  | n + 1, x => by show (lad n (up1 x)).length + 1 = _; rw [lad_len n]
theorem lad_get {n i : Nat} {x : Str} (h : i ≤ n) : (lad n x)[i]? = some (colT n i x) := by
  have : i < (lad n x).length := by rw [lad_len]; omega
  unfold colT
  rw [List.getElem?_eq_getElem this]; rfl
def tie (n : Nat) (xs : List Str) (i : Nat) : Int := ((sset (xs.map (colT n i))).2 : Int) - 1
theorem seg11 (w : World) (mean : ExcName → Option Value) (mg mb : Str → Option Value) (base h₀ : Heap) (L : Addr) (m : Str → Option Value) (s : Shared) (Q : Flow → Shared → Prop) (E : Value → Shared → Prop) (S La Ho Pl Dz : Addr) (sto o o2 oc : Obj) (las hs ps : List Value) (tl : List (Addr × Obj)) (zs : List Int) (lds : List (Addr × Obj)) (xs : List Str)
    (B : Below callerA base [] h₀) (X : (hd.heap_39 w.params).In h₀) (T : Top hd.view_39 (looseW hd.view_39 [Str.ofString "IPV4_RE"]) mean mg mb h₀)
    (hE : PassesOwn (model PySem.Challenge.rw_xe0040_01.row.prog w) (callerA.deeper (lawEnv fa9 cd9 w.params L)) (lawEnv fa9 cd9 w.params L) E)
    (six : Six zs) (isz : IsZs zs o) (hoc : oc.data = .cell (some (.ref Dz))) (ho2 : o2.data = .cell (some (.ref La)))
    (hld : Lads zs.length xs lds) (hlas : las = refsOf lds) (hin : ∀ p ∈ lds, p ∈ tl) (hl : xs.length ≤ 8)
    (F : Fr h₀ L s.heap m) (hp : Pins m [(Str.ofString "places", Value.ref Pl), (Str.ofString "hosts", Value.ref Ho), (Str.ofString "steps", Value.ref S)])
    (N : News h₀ L s.heap ((S, sto) :: (La, LCg.lst las) :: (Ho, LCg.lst hs) :: (Pl, LCg.lst ps) :: (Dz, o) :: (L + 1 + 1, o2) :: (L + 1, oc) :: tl))
    (hQ : ∀ m' h tk t9 nv, nv = ((List.range zs.length).map (tie zs.length xs)).sum → Pins m' [(Str.ofString "places", Value.ref Pl), (Str.ofString "hosts", Value.ref Ho), (Str.ofString "steps", Value.ref S), (Str.ofString "ties", Value.int nv t9)] → Fr h₀ L h m' → News h₀ L h ((S, sto) :: (La, LCg.lst las) :: (Ho, LCg.lst hs) :: (Pl, LCg.lst ps) :: (Dz, o) :: (L + 1 + 1, o2) :: (L + 1, oc) :: tl) → Q .next { s with heap := h, toks := tk }) :
    wpAny (model PySem.Challenge.rw_xe0040_01.row.prog w) (callerA.deeper (lawEnv fa9 cd9 w.params L)) (exec (lawSt w.params 11) (lawEnv fa9 cd9 w.params L)) Q E s := by
  k_with_none
  k_with "eval ListComp" => (k_here; refine Stop.out ?_)
  k_with "call type:range" => (k_here; refine Stop.out ?_)
  k_with "SrcK" => (k_here; refine Stop.out ?_)
  k_with "SrcS" => (k_here; refine Stop.out ?_)
  k_with "eval SetComp" => (k_here; refine Stop.out ?_)
  k_with "call builtin:len" => (k_here; (with_reducible show wpAny _ _ (call (Value.builtin "len") [Value.ref _]) _ _ _); k_dflt (refine len_led (by k_asm) (by with_reducible assumption) (by with_reducible assumption) (by k_mem) ?_))
  k_with "subscriptTail" => (k_here; (with_reducible show wpAny _ _ (subscriptTail _ _ (Value.ref _) (Value.int ((_ : Nat) : Int) _)) _ _ _); k_dflt (refine item_led (by k_asm) (by with_reducible assumption) (by k_mem) (by omega) ?_))
  w_top off
  have hfill : PySem.Challenge.rw_xe0040_01 = PySem.Challenge.rw_xe0040_01 ∧ Mine.hd.heap_39 = Mine.hd.heap_39 := by (k_fill; exact ⟨rfl, rfl⟩)
  clear hfill
  generalize hS : lawSt w.params 11 = S
  generalize hC : lawScope w.params = C
  with_unfolding_all conv at hS => lhs; whnf
  with_unfolding_all conv at hC => lhs; whnf
  subst hS hC
  rw [pinL hp] at F
  simp only [chain] at F
  k_steps
  refine Stop.go ?_
  refine ListComp_K F (c := tie zs.length xs) (by with_unfolding_all rfl) (fun _ => rfl) (fun _ => rfl) (by rfl) (fun _ _ => by with_unfolding_all rfl) (by decide) ?_
  k_steps
  refine Stop.go ?_
  (with_reducible rename News _ _ _ _ => N8)
  (with_reducible rename Fr _ _ _ _ => F8)
  refine range1_rows F8 N8 ?_
  intro h9 tk9 u1 u2 u3 R9 F9 N9 keep9
  have z2 := six_len six
  refine ⟨_, _, _, _, _, zs.length, _, rfl, rfl, F9, N9, R9, small_one (by omega) (by omega) (by omega) (by omega), by rw [rangeSize_nat]; omega, by omega, ?turn, ?done⟩
  case done =>
    intro D ys h' tk' hys oD F' N'
    dsimp only
    rcases (by omega : zs.length = 2 ∨ zs.length = 3) with hn | hn
    · rw [hn] at hys hQ
      obtain ⟨r0, r1, rfl⟩ := are_two hys
      clear z2
      k_steps
      (with_reducible rename News _ _ _ _ => N7)
      (with_reducible rename Fr _ _ _ _ => F7)
      refine' hQ _ _ _ _ _ ?hsuma ?hpinsa F7 ?hNa
      case hpinsa => (repeat' (first | exact trivial | refine And.intro (by with_unfolding_all rfl) ?_))
      case hsuma => simp [List.range_succ]; try omega
      case hNa => exact fun p hp => N7 p (List.mem_cons_of_mem _ hp)
    · rw [hn] at hys hQ
      obtain ⟨r0, r1, r2, rfl⟩ := Are.three hys
      clear z2
      k_steps
      (with_reducible rename News _ _ _ _ => N7)
      (with_reducible rename Fr _ _ _ _ => F7)
      refine' hQ _ _ _ _ _ ?hsumb ?hpinsb F7 ?hNb
      case hpinsb => (repeat' (first | exact trivial | refine And.intro (by with_unfolding_all rfl) ?_))
      case hsumb => simp [List.range_succ]; try omega
      case hNb => exact fun p hp => N7 p (List.mem_cons_of_mem _ hp)
  case turn =>
    intro i hi t C oC K oK D ys m₂ h tk E' hoC hoK F' N' off3 nKC nKD nCD I oI offI NI
    clear N' N8 F8 F9 N9 R9 keep9 hQ
    dsimp only
    k_steps
    refine Stop.go ?_
    refine SetComp_J F' (by with_unfolding_all rfl) (by decide) (by rfl) (by decide) (by with_unfolding_all rfl) ?_
    k_steps
    refine Stop.go ?_
    refine ⟨La, las.toArray, las.length, _, xs.map (colT zs.length i), rfl, rfl, F', NI, by simp, ?hsz, by simpa using hl, ?turn2, ?done2⟩
    case hsz => rw [List.size_toArray, hlas, List.length_map, refsOf, List.length_map]; exact hld.len
    case done2 =>
      intro D2 so h2 tk2 oD2 F3 N3 hso
      dsimp only
      k_steps
      refine kse_len (knd := PySem.strKind _ _) N3 (UpdF.head oD2) hso ?fit ?_
      case fit =>
        have := sset_le (xs.map (colT zs.length i))
        rw [List.length_map] at this
        exact Int.lt_of_le_of_lt (show _ ≤ (8 : Int) by omega) (by decide)
      k_steps
      all_goals first | exact F3 | exact fun p hp => N3 p (List.mem_cons_of_mem _ hp)
    case turn2 =>
      intro j v y hv hy C2 oC2 m₃ h2 tk2 E2 hoC2 hm2 F2 N2 off2
      rw [hlas, List.getElem?_toArray] at hv
      obtain ⟨p, hp1, rfl⟩ := refs_get hv
      obtain ⟨x, hx, vs, kk, hvs, hpo⟩ := hld.back j p hp1
      have hpm := hin p (List.mem_of_getElem? hp1)
      obtain ⟨la, po⟩ := p
      subst hpo
      rw [List.getElem?_map, hx] at hy
      have hy2 : (lad zs.length x)[i]? = some y := by rw [lad_get (by omega)]; exact hy
      obtain ⟨ty, hvy⟩ := hvs.get i y hy2
      have hla' : (la, ({ cls := .type "list", data := .seq vs.toArray kk } : Obj)) ∈ tl := hpm
      clear hv hp1
      dsimp only at hm2
      k_steps
end Mine
end
section
open PySem PySem.W PySem.Calls PyProof.Rows
set_option maxRecDepth 100000
set_option maxHeartbeats 1000000
namespace Mine
variable {fa9 : Addr} {cd9 : Value}
structure Plain : Prop where
  climb : ∀ zs, Six zs → ∀ p : Nat, p < 16 → ClimbsN zs.length (hostT zs p)
  pair : ∀ zs, Six zs → ∀ p q : Nat, p ≤ q → q < 16 → Pair zs p q
  bare : ∀ zs, Six zs → ∀ p : Nat, p < 16 → Bare (hostT zs p) (upN zs.length (hostT zs p))
  ultra : ∀ zs, Six zs → ∀ a b c : Nat, a ≤ b → b ≤ c → c < 16 → parted zs a c = max (parted zs a b) (parted zs b c)
  ties : ∀ zs, Six zs → ∀ a b c d : Nat, a ≤ b → b ≤ c → c ≤ d → d < 16 → ((List.range zs.length).map (tie zs.length ([a, b, c, d].map fun (x : Nat) => hostT zs x))).sum = (parted zs a b : Nat) + (parted zs b c : Nat) + (parted zs c d : Nat)
def fl4 (zs : List Int) (a b c d : Nat) : Nat → Int
  | 0 => 2 * ((parted zs a b : Nat) : Int)
  | 1 => 2 * ((parted zs b c : Nat) : Int)
  | _ => 2 * ((parted zs c d : Nat) : Int)
theorem four_pairs (pl : Plain) {zs : List Int} (six : Six zs) {a b c d : Nat} (ab : a ≤ b) (bc : b ≤ c) (cd : c ≤ d) (d16 : d < 16) :
    ∀ e l p q, e < l → [a, b, c, d][e]? = some p → [a, b, c, d][l]? = some q → Pair zs p q ∧ (e + 1 = l → 2 * ((parted zs p q : Nat) : Int) = fl4 zs a b c d e) ∧
      (e + 1 < l → (∃ i, e ≤ i ∧ i < l ∧ 2 * ((parted zs p q : Nat) : Int) = fl4 zs a b c d i) ∧ ∀ i, e ≤ i → i < l → fl4 zs a b c d i ≤ 2 * ((parted zs p q : Nat) : Int)) := by
  have u1 := pl.ultra zs six a b c ab bc (by omega)
  have u2 := pl.ultra zs six b c d bc cd d16
  have u3 := pl.ultra zs six a b d ab (by omega) d16
  intro e l p q hel hp hq
  have hl : l < 4 := by
    have := (List.getElem?_eq_some_iff.mp hq).1
    simpa using this
  match e, l, hel, hl with
  | 0, 1, _, _ =>
    obtain rfl := Option.some.inj hp
    obtain rfl := Option.some.inj hq
    exact ⟨pl.pair zs six a b ab (by omega), fun _ => rfl, fun h => absurd h (by decide)⟩
  | 1, 2, _, _ =>
    obtain rfl := Option.some.inj hp
    obtain rfl := Option.some.inj hq
    exact ⟨pl.pair zs six b c bc (by omega), fun _ => rfl, fun h => absurd h (by decide)⟩
  | 2, 3, _, _ =>
    obtain rfl := Option.some.inj hp
    obtain rfl := Option.some.inj hq
    exact ⟨pl.pair zs six c d cd d16, fun _ => rfl, fun h => absurd h (by decide)⟩
  | 0, 2, _, _ =>
    obtain rfl := Option.some.inj hp
    obtain rfl := Option.some.inj hq
    refine ⟨pl.pair zs six a c (by omega) (by omega), fun h => absurd h (by decide), fun _ => ⟨?_, ?_⟩⟩
    · rcases Nat.le_total (parted zs a b) (parted zs b c) with h | h
      · exact ⟨1, by decide, by decide, by rw [u1, Nat.max_eq_right h]; rfl⟩
      · exact ⟨0, by decide, by decide, by rw [u1, Nat.max_eq_left h]; rfl⟩
    · intro i _ hi
      match i, hi with
      | 0, _ => show 2 * ((parted zs a b : Nat) : Int) ≤ _; omega
      | 1, _ => show 2 * ((parted zs b c : Nat) : Int) ≤ _; omega
  | 1, 3, _, _ =>
    obtain rfl := Option.some.inj hp
    obtain rfl := Option.some.inj hq
    refine ⟨pl.pair zs six b d (by omega) (by omega), fun h => absurd h (by decide), fun _ => ⟨?_, ?_⟩⟩
    · rcases Nat.le_total (parted zs b c) (parted zs c d) with h | h
      · exact ⟨2, by decide, by decide, by rw [u2, Nat.max_eq_right h]; rfl⟩
      · exact ⟨1, by decide, by decide, by rw [u2, Nat.max_eq_left h]; rfl⟩
    · intro i h1 hi
      match i, h1, hi with
      | 1, _, _ => show 2 * ((parted zs b c : Nat) : Int) ≤ _; omega
      | 2, _, _ => show 2 * ((parted zs c d : Nat) : Int) ≤ _; omega
  | 0, 3, _, _ =>
    obtain rfl := Option.some.inj hp
    obtain rfl := Option.some.inj hq
    refine ⟨pl.pair zs six a d (by omega) (by omega), fun h => absurd h (by decide), fun _ => ⟨?_, ?_⟩⟩
    · rcases Nat.le_total (parted zs a b) (parted zs b d) with h | h
      · rcases Nat.le_total (parted zs b c) (parted zs c d) with h' | h'
        · exact ⟨2, by decide, by decide, by rw [u3, Nat.max_eq_right h, u2, Nat.max_eq_right h']; rfl⟩
        · exact ⟨1, by decide, by decide, by rw [u3, Nat.max_eq_right h, u2, Nat.max_eq_left h']; rfl⟩
      · exact ⟨0, by decide, by decide, by rw [u3, Nat.max_eq_left h]; rfl⟩
    · intro i _ hi
      match i, hi with
      | 0, _ => show 2 * ((parted zs a b : Nat) : Int) ≤ _; omega
      | 1, _ => show 2 * ((parted zs b c : Nat) : Int) ≤ _; omega
      | 2, _ => show 2 * ((parted zs c d : Nat) : Int) ≤ _; omega
  | e + 3, l, h1, h2 => exact absurd h1 (by omega)
theorem HuesAre.four {vs : List Value} {p q r t : Nat} (h : HuesAre vs [p, q, r, t]) : ∃ a b c d, vs = [.float (hue16 p) a, .float (hue16 q) b, .float (hue16 r) c, .float (hue16 t) d] ∧ p < 16 ∧ q < 16 ∧ r < 16 ∧ t < 16 := by
  cases h with | cons _ a ga h => cases h with | cons _ b gb h => cases h with | cons _ c gc h => cases h with | cons _ d gd h => cases h; exact ⟨a, b, c, d, rfl, ga, gb, gc, gd⟩
theorem law_tail (w : World) (mean : ExcName → Option Value) (mg mb : Str → Option Value) (base h₀ : Heap) (L : Addr) (m : Str → Option Value) (s : Shared) (Q : Flow → Shared → Prop) (E : Value → Shared → Prop) (D : Addr) (o1 o2 : Obj) (x1 x2 x3 x4 : Int) (t1 t2 t3 t4 : Tok) (k : Nat) (pl : Plain)
    (B : Below callerA base [] h₀) (X : (hd.heap_39 w.params).In h₀) (T : Top hd.view_39 (looseW hd.view_39 [Str.ofString "IPV4_RE"]) mean mg mb h₀)
    (hE : PassesOwn (model PySem.Challenge.rw_xe0040_01.row.prog w) (callerA.deeper (lawEnv fa9 cd9 w.params L)) (lawEnv fa9 cd9 w.params L) E)
    (F : Fr h₀ L s.heap m) (mD : m (Str.ofString "drawn") = some (.ref D)) (d1 : o1.data = .cell none) (d2 : o2.data = .cell none) (l1 : @LT.lt Nat _ (L + 1 + 1) D)
    (N : News h₀ L s.heap [(D, W.listOf #[.int x1 t1, .int x2 t2, .int x3 t3, .int x4 t4] k), (L + 1 + 1, o2), (L + 1, o1)])
    (hQ : ∀ m' h tk, Fr h₀ L h m' → Q (.ret (.bool true)) { s with heap := h, toks := tk }) :
    wpAny (model PySem.Challenge.rw_xe0040_01.row.prog w) (callerA.deeper (lawEnv fa9 cd9 w.params L)) (execs [lawSt w.params 2, lawSt w.params 3, lawSt w.params 4, lawSt w.params 5, lawSt w.params 6, lawSt w.params 7, lawSt w.params 8, lawSt w.params 9, lawSt w.params 10, lawSt w.params 11, lawSt w.params 12] (lawEnv fa9 cd9 w.params L)) Q E s := by
  refine wpAny_execs_cons (seg2 w mean mg mb base h₀ L m s _ E D o1 o2 x1 x2 x3 x4 t1 t2 t3 t4 k B X T F mD d1 l1 N ?_)
  intro m1 h1 tk1 Dz o oc zs six isz hoc ne1 mD1 F1 N1
  refine wpAny_execs_cons (seg3 w mean mg mb base h₀ L _ _ _ E D Dz o oc o2 _ B X T F1 mD1 N1 ?_)
  intro m2 h2 tk2 H k2 lt2 mH2 mD2 F2 N2
  refine wpAny_execs_cons (seg4 w mean mg mb base h₀ L D H Dz o oc o2 _ _ _ E x1 x2 x3 x4 t1 t2 t3 t4 k k2 hE ⟨(Nat.ne_of_lt lt2.1).symm, (Nat.ne_of_lt lt2.2.1).symm, (Nat.ne_of_lt lt2.2.2.1).symm, (Nat.ne_of_lt lt2.2.2.2).symm⟩ B F2 mH2 mD2 X N2 T ?_)
  intro m3 h3 tk3 hs3 kk3 hues mH3 F3 N3
  obtain ⟨u1, u2, u3, u4, rfl, p1, p2, p3, p4⟩ := hues.four
  refine wpAny_execs_cons (seg5 w mean mg mb base h₀ L _ _ _ E Dz H o oc o2 _ _ _ _ u1 u2 u3 u4 kk3 B X T p1 p2 p3 p4 F3 mH3 N3 ?_)
  intro m4 h4 tk4 Pl a b c d ts ab bc cd d16 hts mP4 F4 N4 ne4
  have hxs : ∀ x ∈ [a, b, c, d], x < 16 := by
    intro x hx
    simp only [List.mem_cons, List.not_mem_nil, or_false] at hx
    omega
  refine wpAny_execs_cons (seg6 w mean mg mb base h₀ L _ _ _ E Dz Pl o oc o2 zs [a, b, c, d] ts B X T six isz hoc hxs (by simp) hts F4 mP4 N4 ?_)
  intro m5 h5 tk5 Ho hs5 hhs mH5 mP5 F5 N5 ne5
  have hcl : ∀ x ∈ [a, b, c, d].map (fun (x : Nat) => hostT zs x), ClimbsN zs.length x := by
    intro x hx
    obtain ⟨p, hp, rfl⟩ := List.mem_map.mp hx
    exact pl.climb zs six p (hxs p hp)
  have hbr : ∀ x ∈ [a, b, c, d].map (fun (x : Nat) => hostT zs x), Bare x (upN zs.length x) := by
    intro x hx
    obtain ⟨p, hp, rfl⟩ := List.mem_map.mp hx
    exact pl.bare zs six p (hxs p hp)
  refine wpAny_execs_cons (seg7 w mean mg mb base h₀ L _ _ _ E Dz Pl Ho o oc o2 (LCg.lst ts) zs _ hs5 B X T six isz hoc d2 hcl (by simp) hhs ⟨ne5.2.2.1.symm, ne4.2.1.symm, ne1.2.1.symm⟩ F5 mP5 mH5 N5 ?_)
  intro m6 h6 tk6 La lds o2' lads ho2 mH6 mP6 F6 N6
  refine wpAny_execs_cons (seg8 w mean mg mb base h₀ L _ _ _ E Pl Ho _ B X T F6 ⟨mP6, mH6, trivial⟩ N6 ?_)
  intro m7 h7 tk7 S k7 ltS pins7 F7 N7
  have neS : ∀ p ∈ (La, LCg.lst (refsOf lds)) :: (Ho, LCg.lst hs5) :: (Pl, LCg.lst ts) :: (Dz, o) :: (L + 1 + 1, o2') :: (L + 1, oc) :: lds, @Ne Nat p.1 S := fun p hp => Nat.ne_of_lt (ltS p hp)
  refine wpAny_execs_cons (seg9 w mean mg mb base h₀ L _ _ _ E S La Ho Pl Dz o o o2' oc (refsOf lds) hs5 ts zs lds [a, b, c, d] k7 (fl4 zs a b c d) B X T hE six isz hoc ho2 hxs hts hhs lads rfl rfl (four_pairs pl six ab bc cd d16)
    ⟨neS (La, LCg.lst (refsOf lds)) (by simp), neS (Ho, LCg.lst hs5) (by simp), neS (Pl, LCg.lst ts) (by simp), neS (Dz, o) (by simp), neS (L + 1 + 1, o2') (by simp), neS (L + 1, oc) (by simp)⟩ (fun p hp => neS p (by simp [hp])) F7 pins7 N7 ?_)
  intro m8 h8 tk8 sv kk8 hsv pins8 F8 N8
  refine wpAny_execs_cons (seg10 w mean mg mb base h₀ L _ _ _ E S La Ho Pl Dz _ o o2' oc _ hs5 ts lds zs lds _ B X T hE six isz hoc ho2 lads rfl (fun _ h => h) (by simp) hbr F8 pins8 N8 ?_)
  intro m9 h9 tk9 pins9 F9 N9
  refine wpAny_execs_cons (seg11 w mean mg mb base h₀ L _ _ _ E S La Ho Pl Dz _ o o2' oc _ hs5 ts lds zs lds _ B X T hE six isz hoc ho2 lads rfl (fun _ h => h) (by simp) F9 pins9 N9 ?_)
  intro m10 h10 tk10 t9 nv hnv pins10 F10 N10
  obtain ⟨s0, s1, s2, rfl⟩ := Are.three (hsv : Are intV sv [fl4 zs a b c d 0, fl4 zs a b c d 1, fl4 zs a b c d 2])
  have q0 := (pl.pair zs six a b ab (by omega)).pn
  have q1 := (pl.pair zs six b c bc (by omega)).pn
  have q2 := (pl.pair zs six c d cd d16).pn
  rw [pl.ties zs six a b c d ab bc cd d16] at hnv
  refine wpAny_execs_cons (seg12 w mean mg mb base h₀ L _ _ _ E S Pl Ho _ (fl4 zs a b c d 0) (fl4 zs a b c d 1) (fl4 zs a b c d 2) nv s0 s1 s2 t9 kk8 B X T ?_ ?_ ?_ ?_ F10 pins10 N10 ?_)
  · show 0 ≤ 2 * ((parted zs a b : Nat) : Int) ∧ 2 * ((parted zs a b : Nat) : Int) ≤ 6; omega
  · show 0 ≤ 2 * ((parted zs b c : Nat) : Int) ∧ 2 * ((parted zs b c : Nat) : Int) ≤ 6; omega
  · show 0 ≤ 2 * ((parted zs c d : Nat) : Int) ∧ 2 * ((parted zs c d : Nat) : Int) ≤ 6; omega
  · show 2 * ((parted zs a b : Nat) : Int) + 2 * ((parted zs b c : Nat) : Int) + 2 * ((parted zs c d : Nat) : Int) = 2 * nv; omega
  · intro m' h tk F'
    exact hQ m' h tk F'
theorem law_tail_at (w : World) (mean : ExcName → Option Value) (mg mb : Str → Option Value) (base h₀ : Heap) (L : Addr) (m : Str → Option Value) (s : Shared) (Q : Flow → Shared → Prop) (E : Value → Shared → Prop) (D : Addr) (o1 o2 : Obj) (x1 x2 x3 x4 : Int) (t1 t2 t3 t4 : Tok) (k : Nat) (pl : Plain) (S : List Stmt) (C : Scope)
    (hS : [lawSt w.params 2, lawSt w.params 3, lawSt w.params 4, lawSt w.params 5, lawSt w.params 6, lawSt w.params 7, lawSt w.params 8, lawSt w.params 9, lawSt w.params 10, lawSt w.params 11, lawSt w.params 12] = S) (hC : lawScope w.params = C)
    (B : Below callerA base [] h₀) (X : (hd.heap_39 w.params).In h₀) (T : Top hd.view_39 (looseW hd.view_39 [Str.ofString "IPV4_RE"]) mean mg mb h₀)
    (hE : PassesOwn (model PySem.Challenge.rw_xe0040_01.row.prog w) (callerA.deeper (envOfC (Str.ofString "law") C L fa9 cd9)) (envOfC (Str.ofString "law") C L fa9 cd9) E)
    (F : Fr h₀ L s.heap m) (mD : m (Str.ofString "drawn") = some (.ref D)) (d1 : o1.data = .cell none) (d2 : o2.data = .cell none) (l1 : @LT.lt Nat _ (L + 1 + 1) D)
    (N : News h₀ L s.heap [(D, W.listOf #[.int x1 t1, .int x2 t2, .int x3 t3, .int x4 t4] k), (L + 1 + 1, o2), (L + 1, o1)])
    (hQ : ∀ m' h tk, Fr h₀ L h m' → Q (.ret (.bool true)) { s with heap := h, toks := tk }) :
    wpAny (model PySem.Challenge.rw_xe0040_01.row.prog w) (callerA.deeper (envOfC (Str.ofString "law") C L fa9 cd9)) (execs S (envOfC (Str.ofString "law") C L fa9 cd9)) Q E s := by
  subst hS hC
  exact law_tail w mean mg mb base h₀ L m s Q E D o1 o2 x1 x2 x3 x4 t1 t2 t3 t4 k pl B X T hE F mD d1 d2 l1 N hQ
end Mine
end
section
open PySem PySem.W PySem.Calls PyProof.Rows
set_option maxRecDepth 100000
set_option maxHeartbeats 1000000
namespace Mine
abbrev T (l : List Nat) : Str := ⟨l.toArray⟩
def loc : List Nat := [108, 111, 99, 97, 108]
def sg : List Nat := [98, 100, 101, 102, 103, 104, 105, 106, 107, 109, 110, 112, 113, 114, 115, 116, 117, 118, 119, 120, 121, 122, 48, 49, 50, 51, 52, 53, 54, 55, 56, 57]
def tx (ls : List Nat) : List Nat := ls.flatMap (fun c => [sg.getD c 0, 46]) ++ loc
def dt (ls : List Nat) : List Nat := 46 :: tx ls
def labs : List Nat → Nat → Nat → List Nat
  | [], _, _ => []
  | z :: zs, f, p => (f + p / z) :: labs zs (f + 16 / z) p
def bareC (ls : List Nat) : List Nat := (tx ls).take (2 * ls.length - 1)
def hdnB (v : Bool) (x : Str) : Bool := !v && !(x == Str.ofString "") && !(Txt.item x 0 == Str.ofString ".") && !(Txt.item x (-1) == Str.ofString ".")
theorem hdn_B {x : Str} {v : Bool} (h : reHit x = some v) : hdn x = hdnB v x := by
  unfold hdn hdnB
  rw [h]
  cases v <;> rfl
def reachB (b : Bool) (x : Str) : Str :=
  if 0 ≤ Txt.find x (Str.ofString ".") then
    (if b = true ∧ (0 ≤ Txt.find (Txt.slice x (some (Txt.find x (Str.ofString ".") + 1)) none) (Str.ofString ".") ∨ (Txt.slice x (some (Txt.find x (Str.ofString ".") + 1)) none == Str.ofString "local") = true) then
      Str.ofString "." ++ Txt.slice x (some (Txt.find x (Str.ofString ".") + 1)) none else x)
  else x
theorem reach_B {x : Str} {b : Bool} (h : hdn x = b) : reachT x = reachB b x := by
  unfold reachT reachB
  rw [h]
structure OkT (l : List Nat) : Prop where
  len : (T (tx l)).length ≤ 40
  hd : hdnB false (T (tx l)) = true
  up : reachB true (T (tx l)) = T (dt (l.drop 1))
structure OkD (l : List Nat) : Prop where
  len : (T (dt l)).length ≤ 40
  lw : Txt.lower (T (dt l)) = T (dt l)
  sl : Txt.slice (T (dt l)) (some 1) none = T (tx l)
  st : Txt.startswith (T (dt l)) (Str.ofString ".") = true
  ls : Txt.lstripChars (T (dt l)) (Str.ofString ".") = T (tx l)
structure OkH (l : List Nat) : Prop where
  lw : Txt.lower (T (tx l)) = T (tx l)
  sl : Txt.slice (T (tx l)) (some 1) none = T (dt (l.drop 1))
  st : Txt.startswith (T (tx l)) (Str.ofString ".") = false
  ls : Txt.lstripChars (T (tx l)) (Str.ofString ".") = T (tx l)
  cut : Txt.slice (T (tx l)) none (some (-6)) = T (bareC l)
  b1 : 1 ≤ (T (bareC l)).length
  b2 : (T (bareC l)).length ≤ 100
  c1 : Txt.count (T (bareC l)) (Str.ofString ".") = 2 → (Str.ofString "9").cps.toList < (Txt.item (T (bareC l)) (-1)).cps.toList → reachB (hdnB (decide (22 ≤ l.getLastD 0)) (T (bareC l))) (T (bareC l)) = Txt.slice (T (bareC l)) (some 1) none
  c2 : Txt.count (T (bareC l)) (Str.ofString ".") = 2 → ¬ (Str.ofString "9").cps.toList < (Txt.item (T (bareC l)) (-1)).cps.toList → reachB (hdnB (decide (22 ≤ l.getLastD 0)) (T (bareC l))) (T (bareC l)) = T (bareC l)
  c3 : Txt.count (T (bareC l)) (Str.ofString ".") ≠ 2 → reachB (hdnB (decide (22 ≤ l.getLastD 0)) (T (bareC l))) (T (bareC l)) = T (bareC l)
def okT (l : List Nat) : Bool := decide ((T (tx l)).length ≤ 40) && hdnB false (T (tx l)) && decide (reachB true (T (tx l)) = T (dt (l.drop 1)))
theorem okT_of {l : List Nat} (h : okT l = true) : OkT l := by
  simp only [okT, Bool.and_eq_true, decide_eq_true_eq] at h
  exact ⟨h.1.1, h.1.2, h.2⟩
def okD (l : List Nat) : Bool := decide ((T (dt l)).length ≤ 40) && decide (Txt.lower (T (dt l)) = T (dt l)) && decide (Txt.slice (T (dt l)) (some 1) none = T (tx l)) && Txt.startswith (T (dt l)) (Str.ofString ".") && decide (Txt.lstripChars (T (dt l)) (Str.ofString ".") = T (tx l))
theorem okD_of {l : List Nat} (h : okD l = true) : OkD l := by
  simp only [okD, Bool.and_eq_true, decide_eq_true_eq] at h
  exact ⟨h.1.1.1.1, h.1.1.1.2, h.1.1.2, h.1.2, h.2⟩
def okH (l : List Nat) : Bool := decide (Txt.lower (T (tx l)) = T (tx l)) && decide (Txt.slice (T (tx l)) (some 1) none = T (dt (l.drop 1))) && !(Txt.startswith (T (tx l)) (Str.ofString ".")) && decide (Txt.lstripChars (T (tx l)) (Str.ofString ".") = T (tx l)) && decide (Txt.slice (T (tx l)) none (some (-6)) = T (bareC l)) &&
  decide (1 ≤ (T (bareC l)).length) && decide ((T (bareC l)).length ≤ 100) &&
  decide (reachB (hdnB (decide (22 ≤ l.getLastD 0)) (T (bareC l))) (T (bareC l)) = if Txt.count (T (bareC l)) (Str.ofString ".") = 2 ∧ (Str.ofString "9").cps.toList < (Txt.item (T (bareC l)) (-1)).cps.toList then Txt.slice (T (bareC l)) (some 1) none else T (bareC l))
theorem okH_of {l : List Nat} (h : okH l = true) : OkH l := by
  simp only [okH, Bool.and_eq_true, decide_eq_true_eq, Bool.not_eq_true'] at h
  obtain ⟨⟨⟨⟨⟨⟨⟨h1, h2⟩, h3⟩, h4⟩, h5⟩, h6⟩, h7⟩, h8⟩ := h
  exact ⟨h1, h2, h3, h4, h5, h6, h7, fun a b => by rw [h8, if_pos ⟨a, b⟩], fun a b => by rw [h8, if_neg fun c => b c.2], fun a => by rw [h8, if_neg fun c => a c.1]⟩
def suf : List (List Nat) := [[16], [17], [18], [19], [20], [21], [22], [23], [24], [25], [26], [27], [16, 20], [16, 24], [17, 20], [17, 24], [18, 21], [18, 24], [18, 25], [19, 21], [19, 24], [19, 25], [20, 25], [20, 26], [21, 25], [21, 26], [22, 25], [22, 27], [23, 25], [23, 27]]
def textAt (l : List Nat) : Nat → Str
  | 0 => T (tx l)
  | j + 1 => T (dt (l.drop (j + 1)))
structure Tab (zi : List Int) (zn : List Nat) : Prop where
  len : zi.length = zn.length
  two : zn.length = 2 ∨ zn.length = 3
  ll : ∀ p, (labs zn 0 p).length = zn.length
  host : ∀ p, p < 16 → hostT zi (p : Nat) = T (tx (labs zn 0 p))
  rh : ∀ p, p < 16 → reHit (T (tx (labs zn 0 p))) = some false
  rb : ∀ p, p < 16 → reHit (T (bareC (labs zn 0 p))) = some (decide (22 ≤ (labs zn 0 p).getLastD 0))
  th : ∀ p, p < 16 → okT (labs zn 0 p) = true
  oh : ∀ p, p < 16 → okH (labs zn 0 p) = true
  sm : ∀ p, p < 16 → ∀ j, j < zn.length → 1 ≤ j → (labs zn 0 p).drop j ∈ suf
  rf : ∀ q, q < 16 → ∀ p, p < 16 → ∀ j, j < zn.length → 1 ≤ j → Txt.rfind (T (tx (labs zn 0 q))) (T (dt ((labs zn 0 p).drop j))) = if p / zn.getD j 1 = q / zn.getD j 1 then 2 * (j : Int) - 1 else -1
  rl : ∀ q, q < 16 → Txt.rfind (T (tx (labs zn 0 q))) (T (dt [])) = 2 * (zn.length : Int) - 1
  lv : ∀ p, p < 16 → ∀ q, q < 16 → p ≤ q → lev (T (tx (labs zn 0 p))) (T (tx (labs zn 0 q))) (2 * (zn.length : Nat)) = 2 * (parted zi (p : Nat) (q : Nat) : Nat)
  pj : ∀ p, p < 16 → ∀ q, q < 16 → p ≤ q → ∀ j, j < zn.length → (parted zi (p : Nat) (q : Nat) ≤ j ↔ p / zn.getD j 1 = q / zn.getD j 1)
  pl : ∀ p, p < 16 → ∀ q, q < 16 → p ≤ q → parted zi (p : Nat) (q : Nat) ≤ zn.length
  ul : ∀ a, a < 16 → ∀ b, b < 16 → a ≤ b → ∀ c, c < 16 → b ≤ c → parted zi (a : Nat) (c : Nat) = max (parted zi (a : Nat) (b : Nat)) (parted zi (b : Nat) (c : Nat))
  ti : ∀ p, p < 16 → ∀ q, q < 16 → p ≤ q → ∀ j, j < zn.length → (textAt (labs zn 0 p) j = textAt (labs zn 0 q) j ↔ p / zn.getD j 1 = q / zn.getD j 1)
  su : ∀ p, p < 16 → ∀ q, q < 16 → p ≤ q → parted zi (p : Nat) (q : Nat) = ((List.range zn.length).map fun j => if p / zn.getD j 1 = q / zn.getD j 1 then 0 else 1).sum
structure Sufs : Prop where
  rt : ∀ l ∈ suf, reHit (T (tx l)) = some false
  rd : ∀ l ∈ suf, reHit (T (dt l)) = some false
  rl : reHit (T loc) = some false
  ot : ∀ l ∈ suf, okT l = true
  od : ∀ l ∈ suf, okD l = true
  ol : okD [] = true
  hl : hdnB false (T loc) = true
  rr : reachB true (T loc) = Str.ofString "local"
end Mine
end
section
open PySem PySem.W PySem.Calls PyProof.Rows
set_option maxRecDepth 100000
set_option maxHeartbeats 1000000
namespace Mine
theorem T_len (l : List Nat) : (T l).length = l.length := by simp [T, Str.length]
theorem item_neg (l : List Nat) (k : Nat) (hk : k < l.length) : Txt.item (T l) (-(k : Int) - 1) = T [l.getD (l.length - 1 - k) 0] := by
  have e : (T l).cps[(-(k : Int) - 1 + (T l).length).toNat]? = some (l.getD (l.length - 1 - k) 0) := by
    rw [T_len]
    have : (-(k : Int) - 1 + (l.length : Nat)).toNat = l.length - 1 - k := by omega
    rw [this]
    have q : l.length - 1 - k < l.length := by omega
    simp [T, q]
  have := StrLaws.at_neg (x := T l) (i := -(k : Int) - 1) (by omega) (by rw [T_len]; omega) e
  unfold Txt.item Txt.charAt
  rw [this]
  rfl
theorem item_nat (l : List Nat) (k : Nat) (hk : k < l.length) : Txt.item (T l) (k : Int) = T [l.getD k 0] := by
  have e : (seqIndex? (k : Int) (T l).length).bind ((T l).cps[·]?) = some (l.getD k 0) := by
    refine StrLaws.at_nonneg (by omega) ?_
    rw [Int.toNat_natCast]
    simp [hk]
  unfold Txt.item Txt.charAt
  rw [e]
  rfl
theorem T_inj {a b : List Nat} (h : T a = T b) : a = b := by
  have := congrArg (fun s => s.cps.toList) h
  simpa [T] using this
theorem slice_all (l : List Nat) : Txt.slice (T l) (some 0) none = T l := by
  have := StrLaws.sliceText_from (x := T l) (i := 0) ⟨by omega, by omega⟩
  have e : StrLaws.sliceText (T l) (some 0) none = Txt.slice (T l) (some 0) none := rfl
  rw [← e, this]
  simp [T]
theorem sliceO_app (A S : List Nat) (hS : S ≠ []) : sliceO (T (A ++ S)) (-(S.length : Int)) = T A := by
  have hl : 0 < S.length := List.length_pos_iff.mpr hS
  unfold sliceO
  rw [if_neg (by omega)]
  have := StrLaws.sliceText_to_neg (x := T (A ++ S)) (j := -(S.length : Int)) (by omega) (by rw [T_len, List.length_append]; omega)
  have e : StrLaws.sliceText (T (A ++ S)) none (some (-(S.length : Int))) = Txt.slice (T (A ++ S)) none (some (-(S.length : Int))) := rfl
  rw [← e, this, T_len]
  have q : (-(S.length : Int) + ((A ++ S).length : Nat) - 0).toNat = A.length := by rw [List.length_append]; omega
  rw [q]
  simp [T]
theorem getD_app (A S : List Nat) (k : Nat) (hk : k < S.length) : (A ++ S).getD ((A ++ S).length - 1 - k) 0 = S.getD (S.length - 1 - k) 0 := by
  have e : (A ++ S).length - 1 - k = A.length + (S.length - 1 - k) := by rw [List.length_append]; omega
  rw [e, List.getD_eq_getElem?_getD, List.getD_eq_getElem?_getD, List.getElem?_append_right (by omega), Nat.add_sub_cancel_left]
theorem getD_app2 (A S : List Nat) (hA : 0 < A.length) : (A ++ S).getD ((A ++ S).length - 1 - S.length) 0 = A.getD (A.length - 1) 0 := by
  have e : (A ++ S).length - 1 - S.length = A.length - 1 := by rw [List.length_append]; omega
  have q : A.length - 1 < A.length := by omega
  rw [e, List.getD_eq_getElem?_getD, List.getD_eq_getElem?_getD, List.getElem?_append_left q]
theorem post_app (A C S : List Nat) (hA : 0 < A.length) (hC : 0 < C.length) (hd : A.getD (A.length - 1) 0 ≠ C.getD (C.length - 1) 0) :
    ∀ (d j n : Nat), j + d = S.length → d ≤ n → postGo (T (A ++ S)) (T (C ++ S)) n (-(j : Int)) = -(S.length : Int)
  | 0, j, n, e, _ => by
    have ej : j = S.length := by omega
    subst ej
    refine postGo_stop (fun q => ?_) n
    have q3 := q.2.2
    rw [item_neg _ _ (by rw [List.length_append]; omega), item_neg _ _ (by rw [List.length_append]; omega), getD_app2 _ _ hA, getD_app2 _ _ hC] at q3
    have q4 := T_inj (eq_of_beq q3)
    exact hd (List.cons.inj q4).1
  | d + 1, j, n + 1, e, hn => by
    unfold postGo
    have l1 := sliceO_len (T (A ++ S)) (-(j : Int)) (by omega) (by rw [T_len, List.length_append]; omega)
    have l2 := sliceO_len (T (C ++ S)) (-(j : Int)) (by omega) (by rw [T_len, List.length_append]; omega)
    rw [T_len (A ++ S), List.length_append] at l1
    rw [T_len (C ++ S), List.length_append] at l2
    rw [if_pos ⟨by omega, by omega, by
      rw [item_neg _ _ (by rw [List.length_append]; omega), item_neg _ _ (by rw [List.length_append]; omega), getD_app _ _ _ (by omega), getD_app _ _ _ (by omega)]
      exact beq_self_eq_true _⟩]
    have e2 : -(j : Int) - 1 = -((j + 1 : Nat) : Int) := by omega
    rw [e2]
    exact post_app A C S hA hC hd d (j + 1) n (by omega) (by omega)
theorem lev_app (A C S : List Nat) (mc : Int) (hm : 0 ≤ mc) (hA : 0 < A.length) (hAC : A.length = C.length) (hS : S ≠ []) (h0 : A.getD 0 0 ≠ C.getD 0 0) (hd : A.getD (A.length - 1) 0 ≠ C.getD (C.length - 1) 0) :
    lev (T (A ++ S)) (T (C ++ S)) mc = levTail (T A) (T C) mc := by
  have hC : 0 < C.length := by omega
  have hne : (T (A ++ S) == T (C ++ S)) = false := by
    refine beq_eq_false_iff_ne.mpr fun e => h0 ?_
    have := T_inj e
    have h1 := List.append_inj_left this hAC
    rw [h1]
  have hp : preEnd (T (A ++ S)) (T (C ++ S)) = 0 := by
    refine preGo_stop (fun q => ?_) _
    have q3 := q.2.2
    have a1 := item_nat (A ++ S) 0 (by rw [List.length_append]; omega)
    have a2 := item_nat (C ++ S) 0 (by rw [List.length_append]; omega)
    rw [show ((0 : Nat) : Int) = 0 from rfl] at a1 a2
    rw [a1, a2] at q3
    have q4 := (List.cons.inj (T_inj (eq_of_beq q3))).1
    rw [List.getD_eq_getElem?_getD, List.getD_eq_getElem?_getD, List.getElem?_append_left hA, List.getElem?_append_left hC, ← List.getD_eq_getElem?_getD, ← List.getD_eq_getElem?_getD] at q4
    exact h0 q4
  have hq : postEnd (T (A ++ S)) (T (C ++ S)) = -(S.length : Int) := by
    have := post_app A C S hA hC hd S.length 0 (T (A ++ S)).length (by omega) (by rw [T_len, List.length_append]; omega)
    exact this
  have c1 : levA (T A) (T C) = T A := by unfold levA; rw [if_neg (by rw [T_len, T_len]; omega)]
  have c2 : levB (T A) (T C) = T C := by unfold levB; rw [if_neg (by rw [T_len, T_len]; omega)]
  refine (lev_eq4 hne hp (slice_all _) (slice_all _) hq (sliceO_app A S hS) (sliceO_app C S hS) ?_ ?_ c1 c2 ?_).symm
  · rw [T_len]; omega
  · rw [T_len]; omega
  · rw [T_len, T_len]; omega
def stepRc (s d r : Int) (row : List Int) (k : Int) : Int :=
  if d + s < (if row.getD k.toNat 0 < r then row.getD k.toNat 0 else r) + 2 then d + s else (if row.getD k.toNat 0 < r then row.getD k.toNat 0 else r) + 2
def stepIc (s : Int) (st : Int × Int × Int × List Int) (i : Nat) : Int × Int × Int × List Int :=
  (st.2.2.2.getD i 0, stepRc s st.1 st.2.1 st.2.2.2 i, if stepRc s st.1 st.2.1 st.2.2.2 i < st.2.2.1 then stepRc s st.1 st.2.1 st.2.2.2 i else st.2.2.1, st.2.2.2.set i (stepRc s st.1 st.2.1 st.2.2.2 i))
def innerC (c : Nat → Int) : Nat → Int × Int × Int × List Int → Int × Int × Int × List Int
  | 0, st => st
  | k + 1, st => stepIc (c k) (innerC c k st) k
def outC (c : Nat → Nat → Int) (n : Nat) (mc : Int) : Nat → Option (List Int × Int)
  | 0 => some (rowOf n, 0)
  | j + 1 => match outC c n mc j with
    | none => none
    | some (row, _) => let st := innerC (c j) n ((j : Int) * 2, (j : Int) * 2, 9223372036854775807, row)
      if st.2.2.1 > mc then none else some (st.2.2.2, st.2.1)
def levC (c : Nat → Nat → Int) (n m : Nat) (mc : Int) : Int := match outC c n mc m with
  | none => mc + 1
  | some (_, r) => r
theorem innerN_eq (a bc : Str) (c : Nat → Int) : ∀ (k : Nat) (st : Int × Int × Int × List Int), (∀ i, i < k → subC bc (Txt.item a (i : Int)) = c i) → innerN a bc k st = innerC c k st
  | 0, _, _ => rfl
  | k + 1, st, h => by
    show stepI a bc (innerN a bc k st) k = stepIc (c k) (innerC c k st) k
    rw [innerN_eq a bc c k st (fun i hi => h i (by omega)), ← h k (by omega)]
    rfl
theorem outN_eq (a b : Str) (c : Nat → Nat → Int) (n : Nat) (mc : Int) (hn : a.length = n) : ∀ (j : Nat), (∀ i, i < j → ∀ k, k < n → subC (Txt.item b (i : Int)) (Txt.item a (k : Int)) = c i k) → outN a b mc j = outC c n mc j
  | 0, _ => by unfold outN outC; rw [hn]
  | j + 1, h => by
    unfold outN outC
    rw [outN_eq a b c n mc hn j (fun i hi => h i (by omega)), hn]
    cases outC c n mc j with
    | none => rfl
    | some v =>
      obtain ⟨row, z⟩ := v
      dsimp only
      rw [innerN_eq a _ (c j) n _ (fun k hk => h j (by omega) k hk)]
theorem levTail_eq (a b : Str) (c : Nat → Nat → Int) (n m : Nat) (mc : Int) (hn : a.length = n) (hm : b.length = m) (h : ∀ i, i < m → ∀ k, k < n → subC (Txt.item b (i : Int)) (Txt.item a (k : Int)) = c i k) : levTail a b mc = levC c n m mc := by
  unfold levTail levC
  rw [hm, outN_eq a b c n mc hn m h]
  try (cases outC c n mc m <;> rfl)
def codes : List Nat := 46 :: sg
theorem lower_codes : ∀ x ∈ codes, Txt.lower (T [x]) = T [x] := by decide +kernel
theorem subC_codes (x y : Nat) (hx : x ∈ codes) (hy : y ∈ codes) : subC (T [x]) (T [y]) = if x = y then 0 else 2 := by
  unfold subC
  rw [lower_codes x hx, lower_codes y hy]
  by_cases c : x = y
  · subst c; rw [if_pos rfl, if_pos rfl]
  · have : T [x] ≠ T [y] := fun e => c (List.cons.inj (T_inj e)).1
    rw [if_neg this, if_neg this, if_neg c]
def costM (i k : Nat) : Int := if i % 2 = 1 ∧ k % 2 = 1 then 0 else 2
def coreOk (A C : List Nat) : Bool := A.all (fun x => codes.contains x) && C.all (fun x => codes.contains x) && (List.range C.length).all fun i => (List.range A.length).all fun k => (C.getD i 0 == A.getD k 0) == (i % 2 == 1 && k % 2 == 1)
def pairOk (l l' : List Nat) (k : Nat) : Bool := (tx l).drop (2 * k - 1) == (tx l').drop (2 * k - 1) && ((tx l).take (2 * k - 1)).length == 2 * k - 1 && ((tx l').take (2 * k - 1)).length == 2 * k - 1 && coreOk ((tx l).take (2 * k - 1)) ((tx l').take (2 * k - 1)) && !((tx l).drop (2 * k - 1)).isEmpty
theorem core_tail (A C : List Nat) (mc : Int) (h : coreOk A C = true) : levTail (T A) (T C) mc = levC costM A.length C.length mc := by
  unfold coreOk at h
  simp only [Bool.and_eq_true, List.all_eq_true, List.mem_range, List.contains_iff_mem] at h
  obtain ⟨⟨hA, hC⟩, hM⟩ := h
  refine levTail_eq _ _ _ _ _ _ (T_len A) (T_len C) fun i hi k hk => ?_
  rw [item_nat C i hi, item_nat A k hk, subC_codes _ _ (hC _ (by simp [List.getD_eq_getElem?_getD, hi])) (hA _ (by simp [List.getD_eq_getElem?_getD, hk]))]
  have := eq_of_beq (hM i hi k hk)
  unfold costM
  by_cases c : C.getD i 0 = A.getD k 0
  · rw [if_pos c]
    rw [beq_iff_eq.mpr c] at this
    have q := this.symm
    simp only [Bool.and_eq_true, beq_iff_eq] at q
    rw [if_pos q]
  · rw [if_neg c]
    rw [beq_eq_false_iff_ne.mpr c] at this
    have q : ¬ (i % 2 = 1 ∧ k % 2 = 1) := fun q => by
      have q2 : (i % 2 == 1 && k % 2 == 1) = true := by simp [q]
      rw [q2] at this
      exact Bool.noConfusion this
    rw [if_neg q]
theorem lev_ok (l l' : List Nat) (k : Nat) (mc : Int) (hm : 0 ≤ mc) (h : pairOk l l' k = true) (hv : levC costM (2 * k - 1) (2 * k - 1) mc = 2 * (k : Int)) : lev (T (tx l)) (T (tx l')) mc = 2 * (k : Int) := by
  unfold pairOk at h
  simp only [Bool.and_eq_true] at h
  obtain ⟨⟨⟨⟨h1, h2⟩, h3⟩, h4⟩, h5⟩ := h
  have h1 := eq_of_beq h1
  have h2 := eq_of_beq h2
  have h3 := eq_of_beq h3
  have hS : (tx l).drop (2 * k - 1) ≠ [] := by
    intro e
    rw [e] at h5
    exact absurd h5 (by decide)
  have e1 := List.take_append_drop (2 * k - 1) (tx l)
  have e2 := List.take_append_drop (2 * k - 1) (tx l')
  rw [← h1] at e2
  rw [← e1, ← e2]
  generalize (tx l).take (2 * k - 1) = A at *
  generalize (tx l').take (2 * k - 1) = C at *
  generalize (tx l).drop (2 * k - 1) = S at *
  by_cases hk : k = 0
  · subst hk
    have a1 : A = [] := List.eq_nil_of_length_eq_zero h2
    have a2 : C = [] := List.eq_nil_of_length_eq_zero h3
    subst a1; subst a2
    exact (lev_eq0 (beq_self_eq_true _)).symm
  · have hM := h4
    unfold coreOk at hM
    simp only [Bool.and_eq_true, List.all_eq_true, List.mem_range] at hM
    have m0 := eq_of_beq (hM.2 0 (by omega) 0 (by omega))
    have m1 := eq_of_beq (hM.2 (2 * k - 2) (by omega) (2 * k - 2) (by omega))
    have par : (2 * k - 2) % 2 = 0 := by omega
    rw [par] at m1
    have n0 : A.getD 0 0 ≠ C.getD 0 0 := fun e => by rw [e] at m0; simp at m0
    have n1 : A.getD (A.length - 1) 0 ≠ C.getD (C.length - 1) 0 := fun e => by
      rw [h2, h3, show 2 * k - 1 - 1 = 2 * k - 2 by omega] at e
      rw [e] at m1
      simp at m1
    rw [lev_app A C S mc hm (by omega) (by omega) hS n0 n1, core_tail A C mc h4, h2, h3]
    exact hv
theorem levC_2 : ∀ k, k < 3 → levC costM (2 * k - 1) (2 * k - 1) 4 = 2 * (k : Nat) := by decide +kernel
theorem levC_3 : ∀ k, k < 4 → levC costM (2 * k - 1) (2 * k - 1) 6 = 2 * (k : Nat) := by decide +kernel
end Mine
end
section
open PySem PySem.W PySem.Calls PyProof.Rows
set_option maxRecDepth 100000
set_option maxHeartbeats 1000000
namespace Mine
theorem suf_rt : ∀ l ∈ suf, reHit (T (tx l)) = some false := by decide +kernel
theorem suf_rd : ∀ l ∈ suf, reHit (T (dt l)) = some false := by decide +kernel
theorem suf_ot : ∀ l ∈ suf, okT l = true := by decide +kernel
theorem suf_od : ∀ l ∈ suf, okD l = true := by decide +kernel
theorem sufs : Sufs := ⟨suf_rt, suf_rd, by decide +kernel, suf_ot, suf_od, by decide +kernel, by decide +kernel, by decide +kernel⟩
end Mine
end
section
open PySem PySem.W PySem.Calls PyProof.Rows
set_option maxRecDepth 100000
set_option maxHeartbeats 1000000
namespace Mine
theorem t_host1 : ∀ p, p < 16 → hostT [1, 2] (p : Nat) = T (tx (labs [1, 2] 0 p)) := by decide +kernel
theorem t_rh1 : ∀ p, p < 16 → reHit (T (tx (labs [1, 2] 0 p))) = some false := by decide +kernel
theorem t_rb1 : ∀ p, p < 16 → reHit (T (bareC (labs [1, 2] 0 p))) = some (decide (22 ≤ (labs [1, 2] 0 p).getLastD 0)) := by decide +kernel
theorem t_th1 : ∀ p, p < 16 → okT (labs [1, 2] 0 p) = true := by decide +kernel
theorem t_oh1 : ∀ p, p < 16 → okH (labs [1, 2] 0 p) = true := by decide +kernel
theorem t_sm1 : ∀ p, p < 16 → ∀ j, j < 2 → 1 ≤ j → (labs [1, 2] 0 p).drop j ∈ suf := by decide +kernel
theorem t_rf1_1 : ∀ q, q < 16 → ∀ b, b < 8 → Txt.rfind (T (tx (labs [1, 2] 0 q))) (T (dt ((labs [1, 2] 0 (b * 2)).drop 1))) = if b = q / 2 then 1 else -1 := by decide +kernel
theorem t_bl1_1 : ∀ p, p < 16 → (labs [1, 2] 0 p).drop 1 = (labs [1, 2] 0 (p / 2 * 2)).drop 1 := by decide +kernel
theorem t_rl1 : ∀ q, q < 16 → Txt.rfind (T (tx (labs [1, 2] 0 q))) (T (dt [])) = 3 := by decide +kernel
theorem t_pj1 : ∀ p, p < 16 → ∀ q, q < 16 → p ≤ q → ∀ j, j < 2 → (parted [1, 2] (p : Nat) (q : Nat) ≤ j ↔ p / [1, 2].getD j 1 = q / [1, 2].getD j 1) := by decide +kernel
theorem t_pl1 : ∀ p, p < 16 → ∀ q, q < 16 → p ≤ q → parted [1, 2] (p : Nat) (q : Nat) ≤ 2 := by decide +kernel
theorem t_ok1 : ∀ p, p < 16 → ∀ q, q < 16 → p ≤ q → pairOk (labs [1, 2] 0 p) (labs [1, 2] 0 q) (parted [1, 2] (p : Nat) (q : Nat)) = true := by decide +kernel
theorem t_lv1 : ∀ p, p < 16 → ∀ q, q < 16 → p ≤ q → lev (T (tx (labs [1, 2] 0 p))) (T (tx (labs [1, 2] 0 q))) 4 = 2 * (parted [1, 2] (p : Nat) (q : Nat) : Nat) := fun p hp q hq pq => lev_ok _ _ _ _ (by decide) (t_ok1 p hp q hq pq) (levC_2 _ (Nat.lt_succ_of_le (t_pl1 p hp q hq pq)))
theorem t_ul1 : ∀ a, a < 16 → ∀ b, b < 16 → a ≤ b → ∀ c, c < 16 → b ≤ c → parted [1, 2] (a : Nat) (c : Nat) = max (parted [1, 2] (a : Nat) (b : Nat)) (parted [1, 2] (b : Nat) (c : Nat)) := by decide +kernel
theorem t_ti1 : ∀ p, p < 16 → ∀ q, q < 16 → p ≤ q → ∀ j, j < 2 → (textAt (labs [1, 2] 0 p) j = textAt (labs [1, 2] 0 q) j ↔ p / [1, 2].getD j 1 = q / [1, 2].getD j 1) := by decide +kernel
theorem t_su1 : ∀ p, p < 16 → ∀ q, q < 16 → p ≤ q → parted [1, 2] (p : Nat) (q : Nat) = ((List.range 2).map fun j => if p / [1, 2].getD j 1 = q / [1, 2].getD j 1 then 0 else 1).sum := by decide +kernel
theorem t_rf1 : ∀ q, q < 16 → ∀ p, p < 16 → ∀ j, j < 2 → 1 ≤ j → Txt.rfind (T (tx (labs [1, 2] 0 q))) (T (dt ((labs [1, 2] 0 p).drop j))) = if p / [1, 2].getD j 1 = q / [1, 2].getD j 1 then 2 * (j : Int) - 1 else -1 := by
  intro q hq p hp j hj h1
  match j, hj, h1 with
  | 1, _, _ => rw [t_bl1_1 p hp]; exact t_rf1_1 q hq (p / 2) (by omega)
theorem tab1 : Tab [1, 2] [1, 2] where
  len := rfl
  two := by decide
  ll := fun p => rfl
  host := t_host1
  rh := t_rh1
  rb := t_rb1
  th := t_th1
  oh := t_oh1
  sm := t_sm1
  rf := t_rf1
  rl := t_rl1
  lv := t_lv1
  pj := t_pj1
  pl := t_pl1
  ul := t_ul1
  ti := t_ti1
  su := t_su1
end Mine
end
section
open PySem PySem.W PySem.Calls PyProof.Rows
set_option maxRecDepth 100000
set_option maxHeartbeats 1000000
namespace Mine
theorem t_host2 : ∀ p, p < 16 → hostT [1, 4] (p : Nat) = T (tx (labs [1, 4] 0 p)) := by decide +kernel
theorem t_rh2 : ∀ p, p < 16 → reHit (T (tx (labs [1, 4] 0 p))) = some false := by decide +kernel
theorem t_rb2 : ∀ p, p < 16 → reHit (T (bareC (labs [1, 4] 0 p))) = some (decide (22 ≤ (labs [1, 4] 0 p).getLastD 0)) := by decide +kernel
theorem t_th2 : ∀ p, p < 16 → okT (labs [1, 4] 0 p) = true := by decide +kernel
theorem t_oh2 : ∀ p, p < 16 → okH (labs [1, 4] 0 p) = true := by decide +kernel
theorem t_sm2 : ∀ p, p < 16 → ∀ j, j < 2 → 1 ≤ j → (labs [1, 4] 0 p).drop j ∈ suf := by decide +kernel
theorem t_rf1_2 : ∀ q, q < 16 → ∀ b, b < 4 → Txt.rfind (T (tx (labs [1, 4] 0 q))) (T (dt ((labs [1, 4] 0 (b * 4)).drop 1))) = if b = q / 4 then 1 else -1 := by decide +kernel
theorem t_bl1_2 : ∀ p, p < 16 → (labs [1, 4] 0 p).drop 1 = (labs [1, 4] 0 (p / 4 * 4)).drop 1 := by decide +kernel
theorem t_rl2 : ∀ q, q < 16 → Txt.rfind (T (tx (labs [1, 4] 0 q))) (T (dt [])) = 3 := by decide +kernel
theorem t_pj2 : ∀ p, p < 16 → ∀ q, q < 16 → p ≤ q → ∀ j, j < 2 → (parted [1, 4] (p : Nat) (q : Nat) ≤ j ↔ p / [1, 4].getD j 1 = q / [1, 4].getD j 1) := by decide +kernel
theorem t_pl2 : ∀ p, p < 16 → ∀ q, q < 16 → p ≤ q → parted [1, 4] (p : Nat) (q : Nat) ≤ 2 := by decide +kernel
theorem t_ok2 : ∀ p, p < 16 → ∀ q, q < 16 → p ≤ q → pairOk (labs [1, 4] 0 p) (labs [1, 4] 0 q) (parted [1, 4] (p : Nat) (q : Nat)) = true := by decide +kernel
theorem t_lv2 : ∀ p, p < 16 → ∀ q, q < 16 → p ≤ q → lev (T (tx (labs [1, 4] 0 p))) (T (tx (labs [1, 4] 0 q))) 4 = 2 * (parted [1, 4] (p : Nat) (q : Nat) : Nat) := fun p hp q hq pq => lev_ok _ _ _ _ (by decide) (t_ok2 p hp q hq pq) (levC_2 _ (Nat.lt_succ_of_le (t_pl2 p hp q hq pq)))
theorem t_ul2 : ∀ a, a < 16 → ∀ b, b < 16 → a ≤ b → ∀ c, c < 16 → b ≤ c → parted [1, 4] (a : Nat) (c : Nat) = max (parted [1, 4] (a : Nat) (b : Nat)) (parted [1, 4] (b : Nat) (c : Nat)) := by decide +kernel
theorem t_ti2 : ∀ p, p < 16 → ∀ q, q < 16 → p ≤ q → ∀ j, j < 2 → (textAt (labs [1, 4] 0 p) j = textAt (labs [1, 4] 0 q) j ↔ p / [1, 4].getD j 1 = q / [1, 4].getD j 1) := by decide +kernel
theorem t_su2 : ∀ p, p < 16 → ∀ q, q < 16 → p ≤ q → parted [1, 4] (p : Nat) (q : Nat) = ((List.range 2).map fun j => if p / [1, 4].getD j 1 = q / [1, 4].getD j 1 then 0 else 1).sum := by decide +kernel
theorem t_rf2 : ∀ q, q < 16 → ∀ p, p < 16 → ∀ j, j < 2 → 1 ≤ j → Txt.rfind (T (tx (labs [1, 4] 0 q))) (T (dt ((labs [1, 4] 0 p).drop j))) = if p / [1, 4].getD j 1 = q / [1, 4].getD j 1 then 2 * (j : Int) - 1 else -1 := by
  intro q hq p hp j hj h1
  match j, hj, h1 with
  | 1, _, _ => rw [t_bl1_2 p hp]; exact t_rf1_2 q hq (p / 4) (by omega)
theorem tab2 : Tab [1, 4] [1, 4] where
  len := rfl
  two := by decide
  ll := fun p => rfl
  host := t_host2
  rh := t_rh2
  rb := t_rb2
  th := t_th2
  oh := t_oh2
  sm := t_sm2
  rf := t_rf2
  rl := t_rl2
  lv := t_lv2
  pj := t_pj2
  pl := t_pl2
  ul := t_ul2
  ti := t_ti2
  su := t_su2
end Mine
end
section
open PySem PySem.W PySem.Calls PyProof.Rows
set_option maxRecDepth 100000
set_option maxHeartbeats 1000000
namespace Mine
theorem t_host3 : ∀ p, p < 16 → hostT [1, 8] (p : Nat) = T (tx (labs [1, 8] 0 p)) := by decide +kernel
theorem t_rh3 : ∀ p, p < 16 → reHit (T (tx (labs [1, 8] 0 p))) = some false := by decide +kernel
theorem t_rb3 : ∀ p, p < 16 → reHit (T (bareC (labs [1, 8] 0 p))) = some (decide (22 ≤ (labs [1, 8] 0 p).getLastD 0)) := by decide +kernel
theorem t_th3 : ∀ p, p < 16 → okT (labs [1, 8] 0 p) = true := by decide +kernel
theorem t_oh3 : ∀ p, p < 16 → okH (labs [1, 8] 0 p) = true := by decide +kernel
theorem t_sm3 : ∀ p, p < 16 → ∀ j, j < 2 → 1 ≤ j → (labs [1, 8] 0 p).drop j ∈ suf := by decide +kernel
theorem t_rf1_3 : ∀ q, q < 16 → ∀ b, b < 2 → Txt.rfind (T (tx (labs [1, 8] 0 q))) (T (dt ((labs [1, 8] 0 (b * 8)).drop 1))) = if b = q / 8 then 1 else -1 := by decide +kernel
theorem t_bl1_3 : ∀ p, p < 16 → (labs [1, 8] 0 p).drop 1 = (labs [1, 8] 0 (p / 8 * 8)).drop 1 := by decide +kernel
theorem t_rl3 : ∀ q, q < 16 → Txt.rfind (T (tx (labs [1, 8] 0 q))) (T (dt [])) = 3 := by decide +kernel
theorem t_pj3 : ∀ p, p < 16 → ∀ q, q < 16 → p ≤ q → ∀ j, j < 2 → (parted [1, 8] (p : Nat) (q : Nat) ≤ j ↔ p / [1, 8].getD j 1 = q / [1, 8].getD j 1) := by decide +kernel
theorem t_pl3 : ∀ p, p < 16 → ∀ q, q < 16 → p ≤ q → parted [1, 8] (p : Nat) (q : Nat) ≤ 2 := by decide +kernel
theorem t_ok3 : ∀ p, p < 16 → ∀ q, q < 16 → p ≤ q → pairOk (labs [1, 8] 0 p) (labs [1, 8] 0 q) (parted [1, 8] (p : Nat) (q : Nat)) = true := by decide +kernel
theorem t_lv3 : ∀ p, p < 16 → ∀ q, q < 16 → p ≤ q → lev (T (tx (labs [1, 8] 0 p))) (T (tx (labs [1, 8] 0 q))) 4 = 2 * (parted [1, 8] (p : Nat) (q : Nat) : Nat) := fun p hp q hq pq => lev_ok _ _ _ _ (by decide) (t_ok3 p hp q hq pq) (levC_2 _ (Nat.lt_succ_of_le (t_pl3 p hp q hq pq)))
theorem t_ul3 : ∀ a, a < 16 → ∀ b, b < 16 → a ≤ b → ∀ c, c < 16 → b ≤ c → parted [1, 8] (a : Nat) (c : Nat) = max (parted [1, 8] (a : Nat) (b : Nat)) (parted [1, 8] (b : Nat) (c : Nat)) := by decide +kernel
theorem t_ti3 : ∀ p, p < 16 → ∀ q, q < 16 → p ≤ q → ∀ j, j < 2 → (textAt (labs [1, 8] 0 p) j = textAt (labs [1, 8] 0 q) j ↔ p / [1, 8].getD j 1 = q / [1, 8].getD j 1) := by decide +kernel
theorem t_su3 : ∀ p, p < 16 → ∀ q, q < 16 → p ≤ q → parted [1, 8] (p : Nat) (q : Nat) = ((List.range 2).map fun j => if p / [1, 8].getD j 1 = q / [1, 8].getD j 1 then 0 else 1).sum := by decide +kernel
theorem t_rf3 : ∀ q, q < 16 → ∀ p, p < 16 → ∀ j, j < 2 → 1 ≤ j → Txt.rfind (T (tx (labs [1, 8] 0 q))) (T (dt ((labs [1, 8] 0 p).drop j))) = if p / [1, 8].getD j 1 = q / [1, 8].getD j 1 then 2 * (j : Int) - 1 else -1 := by
  intro q hq p hp j hj h1
  match j, hj, h1 with
  | 1, _, _ => rw [t_bl1_3 p hp]; exact t_rf1_3 q hq (p / 8) (by omega)
theorem tab3 : Tab [1, 8] [1, 8] where
  len := rfl
  two := by decide
  ll := fun p => rfl
  host := t_host3
  rh := t_rh3
  rb := t_rb3
  th := t_th3
  oh := t_oh3
  sm := t_sm3
  rf := t_rf3
  rl := t_rl3
  lv := t_lv3
  pj := t_pj3
  pl := t_pl3
  ul := t_ul3
  ti := t_ti3
  su := t_su3
end Mine
end
section
open PySem PySem.W PySem.Calls PyProof.Rows
set_option maxRecDepth 100000
set_option maxHeartbeats 1000000
namespace Mine
theorem t_host4 : ∀ p, p < 16 → hostT [1, 2, 4] (p : Nat) = T (tx (labs [1, 2, 4] 0 p)) := by decide +kernel
theorem t_rh4 : ∀ p, p < 16 → reHit (T (tx (labs [1, 2, 4] 0 p))) = some false := by decide +kernel
theorem t_rb4 : ∀ p, p < 16 → reHit (T (bareC (labs [1, 2, 4] 0 p))) = some (decide (22 ≤ (labs [1, 2, 4] 0 p).getLastD 0)) := by decide +kernel
theorem t_th4 : ∀ p, p < 16 → okT (labs [1, 2, 4] 0 p) = true := by decide +kernel
theorem t_oh4 : ∀ p, p < 16 → okH (labs [1, 2, 4] 0 p) = true := by decide +kernel
theorem t_sm4 : ∀ p, p < 16 → ∀ j, j < 3 → 1 ≤ j → (labs [1, 2, 4] 0 p).drop j ∈ suf := by decide +kernel
theorem t_rf1_4 : ∀ q, q < 16 → ∀ b, b < 8 → Txt.rfind (T (tx (labs [1, 2, 4] 0 q))) (T (dt ((labs [1, 2, 4] 0 (b * 2)).drop 1))) = if b = q / 2 then 1 else -1 := by decide +kernel
theorem t_bl1_4 : ∀ p, p < 16 → (labs [1, 2, 4] 0 p).drop 1 = (labs [1, 2, 4] 0 (p / 2 * 2)).drop 1 := by decide +kernel
theorem t_rf2_4 : ∀ q, q < 16 → ∀ b, b < 4 → Txt.rfind (T (tx (labs [1, 2, 4] 0 q))) (T (dt ((labs [1, 2, 4] 0 (b * 4)).drop 2))) = if b = q / 4 then 3 else -1 := by decide +kernel
theorem t_bl2_4 : ∀ p, p < 16 → (labs [1, 2, 4] 0 p).drop 2 = (labs [1, 2, 4] 0 (p / 4 * 4)).drop 2 := by decide +kernel
theorem t_rl4 : ∀ q, q < 16 → Txt.rfind (T (tx (labs [1, 2, 4] 0 q))) (T (dt [])) = 5 := by decide +kernel
theorem t_pj4 : ∀ p, p < 16 → ∀ q, q < 16 → p ≤ q → ∀ j, j < 3 → (parted [1, 2, 4] (p : Nat) (q : Nat) ≤ j ↔ p / [1, 2, 4].getD j 1 = q / [1, 2, 4].getD j 1) := by decide +kernel
theorem t_pl4 : ∀ p, p < 16 → ∀ q, q < 16 → p ≤ q → parted [1, 2, 4] (p : Nat) (q : Nat) ≤ 3 := by decide +kernel
theorem t_ok4 : ∀ p, p < 16 → ∀ q, q < 16 → p ≤ q → pairOk (labs [1, 2, 4] 0 p) (labs [1, 2, 4] 0 q) (parted [1, 2, 4] (p : Nat) (q : Nat)) = true := by decide +kernel
theorem t_lv4 : ∀ p, p < 16 → ∀ q, q < 16 → p ≤ q → lev (T (tx (labs [1, 2, 4] 0 p))) (T (tx (labs [1, 2, 4] 0 q))) 6 = 2 * (parted [1, 2, 4] (p : Nat) (q : Nat) : Nat) := fun p hp q hq pq => lev_ok _ _ _ _ (by decide) (t_ok4 p hp q hq pq) (levC_3 _ (Nat.lt_succ_of_le (t_pl4 p hp q hq pq)))
theorem t_ul4 : ∀ a, a < 16 → ∀ b, b < 16 → a ≤ b → ∀ c, c < 16 → b ≤ c → parted [1, 2, 4] (a : Nat) (c : Nat) = max (parted [1, 2, 4] (a : Nat) (b : Nat)) (parted [1, 2, 4] (b : Nat) (c : Nat)) := by decide +kernel
theorem t_ti4 : ∀ p, p < 16 → ∀ q, q < 16 → p ≤ q → ∀ j, j < 3 → (textAt (labs [1, 2, 4] 0 p) j = textAt (labs [1, 2, 4] 0 q) j ↔ p / [1, 2, 4].getD j 1 = q / [1, 2, 4].getD j 1) := by decide +kernel
theorem t_su4 : ∀ p, p < 16 → ∀ q, q < 16 → p ≤ q → parted [1, 2, 4] (p : Nat) (q : Nat) = ((List.range 3).map fun j => if p / [1, 2, 4].getD j 1 = q / [1, 2, 4].getD j 1 then 0 else 1).sum := by decide +kernel
theorem t_rf4 : ∀ q, q < 16 → ∀ p, p < 16 → ∀ j, j < 3 → 1 ≤ j → Txt.rfind (T (tx (labs [1, 2, 4] 0 q))) (T (dt ((labs [1, 2, 4] 0 p).drop j))) = if p / [1, 2, 4].getD j 1 = q / [1, 2, 4].getD j 1 then 2 * (j : Int) - 1 else -1 := by
  intro q hq p hp j hj h1
  match j, hj, h1 with
  | 1, _, _ => rw [t_bl1_4 p hp]; exact t_rf1_4 q hq (p / 2) (by omega)
  | 2, _, _ => rw [t_bl2_4 p hp]; exact t_rf2_4 q hq (p / 4) (by omega)
theorem tab4 : Tab [1, 2, 4] [1, 2, 4] where
  len := rfl
  two := by decide
  ll := fun p => rfl
  host := t_host4
  rh := t_rh4
  rb := t_rb4
  th := t_th4
  oh := t_oh4
  sm := t_sm4
  rf := t_rf4
  rl := t_rl4
  lv := t_lv4
  pj := t_pj4
  pl := t_pl4
  ul := t_ul4
  ti := t_ti4
  su := t_su4
end Mine
end
section
open PySem PySem.W PySem.Calls PyProof.Rows
set_option maxRecDepth 100000
set_option maxHeartbeats 1000000
namespace Mine
theorem t_host5 : ∀ p, p < 16 → hostT [1, 2, 8] (p : Nat) = T (tx (labs [1, 2, 8] 0 p)) := by decide +kernel
theorem t_rh5 : ∀ p, p < 16 → reHit (T (tx (labs [1, 2, 8] 0 p))) = some false := by decide +kernel
theorem t_rb5 : ∀ p, p < 16 → reHit (T (bareC (labs [1, 2, 8] 0 p))) = some (decide (22 ≤ (labs [1, 2, 8] 0 p).getLastD 0)) := by decide +kernel
theorem t_th5 : ∀ p, p < 16 → okT (labs [1, 2, 8] 0 p) = true := by decide +kernel
theorem t_oh5 : ∀ p, p < 16 → okH (labs [1, 2, 8] 0 p) = true := by decide +kernel
theorem t_sm5 : ∀ p, p < 16 → ∀ j, j < 3 → 1 ≤ j → (labs [1, 2, 8] 0 p).drop j ∈ suf := by decide +kernel
theorem t_rf1_5 : ∀ q, q < 16 → ∀ b, b < 8 → Txt.rfind (T (tx (labs [1, 2, 8] 0 q))) (T (dt ((labs [1, 2, 8] 0 (b * 2)).drop 1))) = if b = q / 2 then 1 else -1 := by decide +kernel
theorem t_bl1_5 : ∀ p, p < 16 → (labs [1, 2, 8] 0 p).drop 1 = (labs [1, 2, 8] 0 (p / 2 * 2)).drop 1 := by decide +kernel
theorem t_rf2_5 : ∀ q, q < 16 → ∀ b, b < 2 → Txt.rfind (T (tx (labs [1, 2, 8] 0 q))) (T (dt ((labs [1, 2, 8] 0 (b * 8)).drop 2))) = if b = q / 8 then 3 else -1 := by decide +kernel
theorem t_bl2_5 : ∀ p, p < 16 → (labs [1, 2, 8] 0 p).drop 2 = (labs [1, 2, 8] 0 (p / 8 * 8)).drop 2 := by decide +kernel
theorem t_rl5 : ∀ q, q < 16 → Txt.rfind (T (tx (labs [1, 2, 8] 0 q))) (T (dt [])) = 5 := by decide +kernel
theorem t_pj5 : ∀ p, p < 16 → ∀ q, q < 16 → p ≤ q → ∀ j, j < 3 → (parted [1, 2, 8] (p : Nat) (q : Nat) ≤ j ↔ p / [1, 2, 8].getD j 1 = q / [1, 2, 8].getD j 1) := by decide +kernel
theorem t_pl5 : ∀ p, p < 16 → ∀ q, q < 16 → p ≤ q → parted [1, 2, 8] (p : Nat) (q : Nat) ≤ 3 := by decide +kernel
theorem t_ok5 : ∀ p, p < 16 → ∀ q, q < 16 → p ≤ q → pairOk (labs [1, 2, 8] 0 p) (labs [1, 2, 8] 0 q) (parted [1, 2, 8] (p : Nat) (q : Nat)) = true := by decide +kernel
theorem t_lv5 : ∀ p, p < 16 → ∀ q, q < 16 → p ≤ q → lev (T (tx (labs [1, 2, 8] 0 p))) (T (tx (labs [1, 2, 8] 0 q))) 6 = 2 * (parted [1, 2, 8] (p : Nat) (q : Nat) : Nat) := fun p hp q hq pq => lev_ok _ _ _ _ (by decide) (t_ok5 p hp q hq pq) (levC_3 _ (Nat.lt_succ_of_le (t_pl5 p hp q hq pq)))
theorem t_ul5 : ∀ a, a < 16 → ∀ b, b < 16 → a ≤ b → ∀ c, c < 16 → b ≤ c → parted [1, 2, 8] (a : Nat) (c : Nat) = max (parted [1, 2, 8] (a : Nat) (b : Nat)) (parted [1, 2, 8] (b : Nat) (c : Nat)) := by decide +kernel
theorem t_ti5 : ∀ p, p < 16 → ∀ q, q < 16 → p ≤ q → ∀ j, j < 3 → (textAt (labs [1, 2, 8] 0 p) j = textAt (labs [1, 2, 8] 0 q) j ↔ p / [1, 2, 8].getD j 1 = q / [1, 2, 8].getD j 1) := by decide +kernel
theorem t_su5 : ∀ p, p < 16 → ∀ q, q < 16 → p ≤ q → parted [1, 2, 8] (p : Nat) (q : Nat) = ((List.range 3).map fun j => if p / [1, 2, 8].getD j 1 = q / [1, 2, 8].getD j 1 then 0 else 1).sum := by decide +kernel
theorem t_rf5 : ∀ q, q < 16 → ∀ p, p < 16 → ∀ j, j < 3 → 1 ≤ j → Txt.rfind (T (tx (labs [1, 2, 8] 0 q))) (T (dt ((labs [1, 2, 8] 0 p).drop j))) = if p / [1, 2, 8].getD j 1 = q / [1, 2, 8].getD j 1 then 2 * (j : Int) - 1 else -1 := by
  intro q hq p hp j hj h1
  match j, hj, h1 with
  | 1, _, _ => rw [t_bl1_5 p hp]; exact t_rf1_5 q hq (p / 2) (by omega)
  | 2, _, _ => rw [t_bl2_5 p hp]; exact t_rf2_5 q hq (p / 8) (by omega)
theorem tab5 : Tab [1, 2, 8] [1, 2, 8] where
  len := rfl
  two := by decide
  ll := fun p => rfl
  host := t_host5
  rh := t_rh5
  rb := t_rb5
  th := t_th5
  oh := t_oh5
  sm := t_sm5
  rf := t_rf5
  rl := t_rl5
  lv := t_lv5
  pj := t_pj5
  pl := t_pl5
  ul := t_ul5
  ti := t_ti5
  su := t_su5
end Mine
end
section
open PySem PySem.W PySem.Calls PyProof.Rows
set_option maxRecDepth 100000
set_option maxHeartbeats 1000000
namespace Mine
theorem t_host6 : ∀ p, p < 16 → hostT [1, 4, 8] (p : Nat) = T (tx (labs [1, 4, 8] 0 p)) := by decide +kernel
theorem t_rh6 : ∀ p, p < 16 → reHit (T (tx (labs [1, 4, 8] 0 p))) = some false := by decide +kernel
theorem t_rb6 : ∀ p, p < 16 → reHit (T (bareC (labs [1, 4, 8] 0 p))) = some (decide (22 ≤ (labs [1, 4, 8] 0 p).getLastD 0)) := by decide +kernel
theorem t_th6 : ∀ p, p < 16 → okT (labs [1, 4, 8] 0 p) = true := by decide +kernel
theorem t_oh6 : ∀ p, p < 16 → okH (labs [1, 4, 8] 0 p) = true := by decide +kernel
theorem t_sm6 : ∀ p, p < 16 → ∀ j, j < 3 → 1 ≤ j → (labs [1, 4, 8] 0 p).drop j ∈ suf := by decide +kernel
theorem t_rf1_6 : ∀ q, q < 16 → ∀ b, b < 4 → Txt.rfind (T (tx (labs [1, 4, 8] 0 q))) (T (dt ((labs [1, 4, 8] 0 (b * 4)).drop 1))) = if b = q / 4 then 1 else -1 := by decide +kernel
theorem t_bl1_6 : ∀ p, p < 16 → (labs [1, 4, 8] 0 p).drop 1 = (labs [1, 4, 8] 0 (p / 4 * 4)).drop 1 := by decide +kernel
theorem t_rf2_6 : ∀ q, q < 16 → ∀ b, b < 2 → Txt.rfind (T (tx (labs [1, 4, 8] 0 q))) (T (dt ((labs [1, 4, 8] 0 (b * 8)).drop 2))) = if b = q / 8 then 3 else -1 := by decide +kernel
theorem t_bl2_6 : ∀ p, p < 16 → (labs [1, 4, 8] 0 p).drop 2 = (labs [1, 4, 8] 0 (p / 8 * 8)).drop 2 := by decide +kernel
theorem t_rl6 : ∀ q, q < 16 → Txt.rfind (T (tx (labs [1, 4, 8] 0 q))) (T (dt [])) = 5 := by decide +kernel
theorem t_pj6 : ∀ p, p < 16 → ∀ q, q < 16 → p ≤ q → ∀ j, j < 3 → (parted [1, 4, 8] (p : Nat) (q : Nat) ≤ j ↔ p / [1, 4, 8].getD j 1 = q / [1, 4, 8].getD j 1) := by decide +kernel
theorem t_pl6 : ∀ p, p < 16 → ∀ q, q < 16 → p ≤ q → parted [1, 4, 8] (p : Nat) (q : Nat) ≤ 3 := by decide +kernel
theorem t_ok6 : ∀ p, p < 16 → ∀ q, q < 16 → p ≤ q → pairOk (labs [1, 4, 8] 0 p) (labs [1, 4, 8] 0 q) (parted [1, 4, 8] (p : Nat) (q : Nat)) = true := by decide +kernel
theorem t_lv6 : ∀ p, p < 16 → ∀ q, q < 16 → p ≤ q → lev (T (tx (labs [1, 4, 8] 0 p))) (T (tx (labs [1, 4, 8] 0 q))) 6 = 2 * (parted [1, 4, 8] (p : Nat) (q : Nat) : Nat) := fun p hp q hq pq => lev_ok _ _ _ _ (by decide) (t_ok6 p hp q hq pq) (levC_3 _ (Nat.lt_succ_of_le (t_pl6 p hp q hq pq)))
theorem t_ul6 : ∀ a, a < 16 → ∀ b, b < 16 → a ≤ b → ∀ c, c < 16 → b ≤ c → parted [1, 4, 8] (a : Nat) (c : Nat) = max (parted [1, 4, 8] (a : Nat) (b : Nat)) (parted [1, 4, 8] (b : Nat) (c : Nat)) := by decide +kernel
theorem t_ti6 : ∀ p, p < 16 → ∀ q, q < 16 → p ≤ q → ∀ j, j < 3 → (textAt (labs [1, 4, 8] 0 p) j = textAt (labs [1, 4, 8] 0 q) j ↔ p / [1, 4, 8].getD j 1 = q / [1, 4, 8].getD j 1) := by decide +kernel
theorem t_su6 : ∀ p, p < 16 → ∀ q, q < 16 → p ≤ q → parted [1, 4, 8] (p : Nat) (q : Nat) = ((List.range 3).map fun j => if p / [1, 4, 8].getD j 1 = q / [1, 4, 8].getD j 1 then 0 else 1).sum := by decide +kernel
theorem t_rf6 : ∀ q, q < 16 → ∀ p, p < 16 → ∀ j, j < 3 → 1 ≤ j → Txt.rfind (T (tx (labs [1, 4, 8] 0 q))) (T (dt ((labs [1, 4, 8] 0 p).drop j))) = if p / [1, 4, 8].getD j 1 = q / [1, 4, 8].getD j 1 then 2 * (j : Int) - 1 else -1 := by
  intro q hq p hp j hj h1
  match j, hj, h1 with
  | 1, _, _ => rw [t_bl1_6 p hp]; exact t_rf1_6 q hq (p / 4) (by omega)
  | 2, _, _ => rw [t_bl2_6 p hp]; exact t_rf2_6 q hq (p / 8) (by omega)
theorem tab6 : Tab [1, 4, 8] [1, 4, 8] where
  len := rfl
  two := by decide
  ll := fun p => rfl
  host := t_host6
  rh := t_rh6
  rb := t_rb6
  th := t_th6
  oh := t_oh6
  sm := t_sm6
  rf := t_rf6
  rl := t_rl6
  lv := t_lv6
  pj := t_pj6
  pl := t_pl6
  ul := t_ul6
  ti := t_ti6
  su := t_su6
end Mine
end
section
open PySem PySem.W PySem.Calls PyProof.Rows
set_option maxRecDepth 100000
set_option maxHeartbeats 1000000
namespace Mine
theorem drop_last_nil {l : List Nat} : l.drop l.length = [] := List.drop_length ..
theorem up_host {l : List Nat} (rh : reHit (T (tx l)) = some false) (ht : OkT l) (ls : Txt.lstripChars (T (tx l)) (Str.ofString ".") = T (tx l)) : up1 (T (tx l)) = T (dt (l.drop 1)) := by
  unfold up1
  rw [ls, reach_B ((hdn_B rh).trans ht.hd), ht.up]
theorem up_dot {l : List Nat} (rh : reHit (T (tx l)) = some false) (ht : OkT l) (od : OkD l) : up1 (T (dt l)) = T (dt (l.drop 1)) := by
  unfold up1
  rw [od.ls, reach_B ((hdn_B rh).trans ht.hd), ht.up]
section
variable {zi : List Int} {zn : List Nat} (S : Sufs) (t : Tab zi zn)
include S t
theorem Tab.up0 {p : Nat} (hp : p < 16) : up1 (T (tx (labs zn 0 p))) = T (dt ((labs zn 0 p).drop 1)) :=
  up_host (t.rh p hp) (okT_of (t.th p hp)) (okH_of (t.oh p hp)).ls
theorem Tab.upj {p j : Nat} (hp : p < 16) (hj : j < zn.length) (h1 : 1 ≤ j) : up1 (T (dt ((labs zn 0 p).drop j))) = T (dt ((labs zn 0 p).drop (j + 1))) := by
  have m := t.sm p hp j hj h1
  rw [up_dot (S.rt _ m) (okT_of (S.ot _ m)) (okD_of (S.od _ m)), List.drop_drop]
theorem Tab.climb0 {p : Nat} (hp : p < 16) : Climbs (T (tx (labs zn 0 p))) := by
  have ls := (okH_of (t.oh p hp)).ls
  have l := (okT_of (t.th p hp)).len
  refine ⟨l, ?_, ?_⟩
  · rw [ls]; exact Nat.le_trans l (by decide)
  · rw [ls, t.rh p hp]; rfl
theorem Tab.climbj {p j : Nat} (hp : p < 16) (hj : j < zn.length) (h1 : 1 ≤ j) : Climbs (T (dt ((labs zn 0 p).drop j))) := by
  have m := t.sm p hp j hj h1
  have od := okD_of (S.od _ m)
  have l := (okT_of (S.ot _ m)).len
  refine ⟨od.len, ?_, ?_⟩
  · rw [od.ls]; exact Nat.le_trans l (by decide)
  · rw [od.ls, S.rt _ m]; rfl
theorem Tab.climb {p : Nat} (hp : p < 16) : ClimbsN zi.length (hostT zi (p : Nat)) := by
  rw [t.host p hp, t.len]
  rcases t.two with h | h <;> rw [h]
  · refine ⟨t.climb0 S hp, ?_⟩
    rw [t.up0 S hp]
    exact ⟨t.climbj S hp (by omega) (by omega), trivial⟩
  · refine ⟨t.climb0 S hp, ?_⟩
    rw [t.up0 S hp]
    refine ⟨t.climbj S hp (by omega) (by omega), ?_⟩
    rw [t.upj S hp (by omega) (by omega)]
    exact ⟨t.climbj S hp (by omega) (by omega), trivial⟩
theorem Tab.lad_at {p : Nat} (hp : p < 16) : ∀ j, j ≤ zn.length → (lad zi.length (hostT zi (p : Nat)))[j]? = some (textAt (labs zn 0 p) j) := by
  rw [t.host p hp, t.len]
  have u0 := t.up0 S hp
  rcases t.two with h | h
  · have u1 := t.upj S (p := p) (j := 1) hp (by omega) (by omega)
    have e : lad zn.length (T (tx (labs zn 0 p))) = [T (tx (labs zn 0 p)), T (dt ((labs zn 0 p).drop 1)), T (dt ((labs zn 0 p).drop 2))] := by
      rw [h]
      show [_, up1 _, up1 (up1 _)] = _
      rw [u0, u1]
    rw [e]
    intro j hj
    match j, (show j ≤ 2 by omega) with
    | 0, _ => rfl
    | 1, _ => rfl
    | 2, _ => rfl
  · have u1 := t.upj S (p := p) (j := 1) hp (by omega) (by omega)
    have u2 := t.upj S (p := p) (j := 2) hp (by omega) (by omega)
    have e : lad zn.length (T (tx (labs zn 0 p))) = [T (tx (labs zn 0 p)), T (dt ((labs zn 0 p).drop 1)), T (dt ((labs zn 0 p).drop 2)), T (dt ((labs zn 0 p).drop 3))] := by
      rw [h]
      show [_, up1 _, up1 (up1 _), up1 (up1 (up1 _))] = _
      rw [u0, u1, u2]
    rw [e]
    intro j hj
    match j, (show j ≤ 3 by omega) with
    | 0, _ => rfl
    | 1, _ => rfl
    | 2, _ => rfl
    | 3, _ => rfl
theorem Tab.up_n {p : Nat} (hp : p < 16) : upN zi.length (hostT zi (p : Nat)) = T (dt []) := by
  rw [t.host p hp, t.len]
  have u0 := t.up0 S hp
  have ll := t.ll p
  rcases t.two with h | h
  · have u1 := t.upj S (p := p) (j := 1) hp (by omega) (by omega)
    rw [h]
    show up1 (up1 _) = _
    rw [u0, u1, List.drop_eq_nil_of_le (by omega)]
  · have u1 := t.upj S (p := p) (j := 1) hp (by omega) (by omega)
    have u2 := t.upj S (p := p) (j := 2) hp (by omega) (by omega)
    rw [h]
    show up1 (up1 (up1 _)) = _
    rw [u0, u1, u2, List.drop_eq_nil_of_le (by omega)]
theorem Tab.bare {p : Nat} (hp : p < 16) : Bare (hostT zi (p : Nat)) (upN zi.length (hostT zi (p : Nat))) := by
  rw [t.up_n S hp, t.host p hp]
  have oh := okH_of (t.oh p hp)
  have od := okD_of S.ol
  have hl := (okT_of (t.th p hp)).len
  have sl : Txt.slice (T (dt [])) (some 1) none = T loc := od.sl
  have rb := t.rb p hp
  have rB := reach_B (hdn_B rb)
  refine ⟨hl, od.len, ?_, ?_, ?_, ?_, ?_, ?_, ?_, ?_, ?_⟩
  · rw [oh.cut]; exact oh.b1
  · rw [oh.cut]; exact oh.b2
  · rw [sl]; decide
  · rw [oh.cut, rb]; rfl
  · rw [sl, S.rl]; rfl
  · rw [oh.cut, rB]; exact oh.c1
  · rw [oh.cut, rB]; exact oh.c2
  · rw [oh.cut, rB]; exact oh.c3
  · rw [sl, reach_B ((hdn_B S.rl).trans S.hl)]; exact S.rr
theorem Tab.dm {p q : Nat} (hp : p < 16) (hq : q < 16) (pq : p ≤ q) : ∀ j, j ≤ zn.length → DM (T (tx (labs zn 0 q))) (textAt (labs zn 0 p) j) (decide (((parted zi (p : Nat) (q : Nat) : Nat) : Int) ≤ (j : Int))) := by
  intro j hj
  have ohq := okH_of (t.oh q hq)
  have ohp := okH_of (t.oh p hp)
  have thq := okT_of (t.th q hq)
  have thp := okT_of (t.th p hp)
  have hx : hdn (T (tx (labs zn 0 q))) = true := (hdn_B (t.rh q hq)).trans thq.hd
  have rx : (reHit (Txt.lower (T (tx (labs zn 0 q))))).isSome = true := by rw [ohq.lw, t.rh q hq]; rfl
  have lx : (T (tx (labs zn 0 q))).length ≤ 100 := Nat.le_trans thq.len (by decide)
  have tw := t.two
  match j, hj with
  | 0, _ =>
    show DM _ (T (tx (labs zn 0 p))) _
    have m1 := t.sm p hp 1 (by omega) (by omega)
    refine ⟨lx, Nat.le_trans thp.len (by decide), rx, by rw [ohp.lw, ohp.sl, S.rd _ m1]; rfl, ?_⟩
    unfold dmatch
    rw [ohq.lw, ohp.lw, hx, ohp.st]
    have pj := t.pj p hp q hq pq 0 (by omega)
    have ti := t.ti p hp q hq pq 0 (by omega)
    by_cases e : T (tx (labs zn 0 q)) = T (tx (labs zn 0 p))
    · rw [if_pos (by rw [e]; exact beq_self_eq_true _)]
      have z := pj.mpr (ti.mp e.symm)
      simp; omega
    · rw [if_neg (by simpa using e)]
      have z : ¬ parted zi (p : Nat) (q : Nat) ≤ 0 := fun h => e (ti.mpr (pj.mp h)).symm
      have d : decide (((parted zi (p : Nat) (q : Nat) : Nat) : Int) ≤ ((0 : Nat) : Int)) = false := by simp; omega
      rw [d]
      simp
  | j + 1, hj =>
    show DM _ (T (dt ((labs zn 0 p).drop (j + 1)))) _
    have ne : (Txt.lower (T (tx (labs zn 0 q))) == T (dt ((labs zn 0 p).drop (j + 1)))) = false := by
      have h0 := ohq.st
      cases h : (Txt.lower (T (tx (labs zn 0 q))) == T (dt ((labs zn 0 p).drop (j + 1)))) with
      | false => rfl
      | true =>
        exfalso
        rw [ohq.lw] at h
        have e := eq_of_beq h
        have hst : Txt.startswith (T (dt ((labs zn 0 p).drop (j + 1)))) (Str.ofString ".") = true := by
          by_cases hlt : j + 1 < zn.length
          · exact (okD_of (S.od _ (t.sm p hp (j + 1) hlt (by omega)))).st
          · rw [List.drop_eq_nil_of_le (by rw [t.ll]; omega)]; exact (okD_of S.ol).st
        rw [← e, h0] at hst
        cases hst
    by_cases hlt : j + 1 < zn.length
    · have m := t.sm p hp (j + 1) hlt (by omega)
      have od := okD_of (S.od _ m)
      have hy : hdn (T (tx ((labs zn 0 p).drop (j + 1)))) = true := (hdn_B (S.rt _ m)).trans (okT_of (S.ot _ m)).hd
      refine ⟨lx, Nat.le_trans od.len (by decide), rx, by rw [od.lw, od.sl, S.rt _ m]; rfl, ?_⟩
      unfold dmatch
      rw [od.lw, ne, ohq.lw, hx, od.st, od.sl, hy, t.rf q hq p hp (j + 1) hlt (by omega)]
      have pj := t.pj p hp q hq pq (j + 1) hlt
      by_cases e : p / zn.getD (j + 1) 1 = q / zn.getD (j + 1) 1
      · have z := pj.mpr e
        have d : decide (((parted zi (p : Nat) (q : Nat) : Nat) : Int) ≤ ((j + 1 : Nat) : Int)) = true := by simp; omega
        rw [d, if_pos e, if_neg (by simp), if_neg (by simp), if_neg (by omega), if_neg (by omega), if_neg (by simp)]
      · have z : ¬ parted zi (p : Nat) (q : Nat) ≤ j + 1 := fun h => e (pj.mp h)
        have d : decide (((parted zi (p : Nat) (q : Nat) : Nat) : Int) ≤ ((j + 1 : Nat) : Int)) = false := by simp; omega
        rw [d, if_neg e, if_neg (by simp), if_neg (by simp), if_pos rfl]
    · have hn : j + 1 = zn.length := by omega
      rw [List.drop_eq_nil_of_le (by rw [t.ll]; omega)] at ne ⊢
      have od := okD_of S.ol
      have hy : hdn (T loc) = true := (hdn_B S.rl).trans S.hl
      have sl : Txt.slice (T (dt [])) (some 1) none = T loc := od.sl
      refine ⟨lx, Nat.le_trans od.len (by decide), rx, by rw [od.lw, sl, S.rl]; rfl, ?_⟩
      unfold dmatch
      have z := t.pl p hp q hq pq
      have d : decide (((parted zi (p : Nat) (q : Nat) : Nat) : Int) ≤ ((j + 1 : Nat) : Int)) = true := by simp; omega
      rw [od.lw, ne, ohq.lw, hx, od.st, sl, hy, t.rl q hq, d, if_neg (by simp), if_neg (by simp), if_neg (by omega), if_neg (by omega), if_neg (by simp)]
theorem Tab.pair {p q : Nat} (pq : p ≤ q) (hq : q < 16) : Pair zi p q := by
  have hp : p < 16 := by omega
  have tw := t.two
  refine ⟨?_, ?_, ?_, ?_, ?_⟩
  · rw [t.host p hp]; exact (okT_of (t.th p hp)).len
  · rw [t.host q hq]; exact (okT_of (t.th q hq)).len
  · rw [t.host p hp, t.host q hq, t.len]; exact t.lv p hp q hq pq
  · have := t.pl p hp q hq pq; omega
  · intro j hj
    rw [t.len] at hj
    refine ⟨_, t.lad_at S hp j hj, ?_⟩
    rw [t.host q hq]
    exact t.dm S hp hq pq j hj
end
theorem sset_four {x y z u : Str} (hxz : x = z → x = y) (hxu : x = u → x = y ∧ y = z) (hyu : y = u → y = z) :
    ((sset [x, y, z, u]).2 : Int) - 1 = (if x = y then 0 else 1) + (if y = z then 0 else 1) + (if z = u then 0 else 1) := by
  by_cases h1 : x = y
  · subst h1
    by_cases h2 : x = z
    · subst h2
      by_cases h3 : x = u
      · subst h3; simp [sset, sstep]
      · have h3' : ¬ u = x := fun e => h3 e.symm
        simp [sset, sstep, h3, h3']
    · have h4 : ¬ x = u := fun e => h2 (hyu e)
      have h2' : ¬ z = x := fun e => h2 e.symm
      have h4' : ¬ u = x := fun e => h4 e.symm
      by_cases h3 : z = u
      · subst h3; simp [sset, sstep, h2, h2']
      · have h3' : ¬ u = z := fun e => h3 e.symm
        simp [sset, sstep, h2, h2', h3, h3', h4, h4']
  · have h5 : ¬ x = z := fun e => h1 (hxz e)
    have h6 : ¬ x = u := fun e => h1 (hxu e).1
    have h1' : ¬ y = x := fun e => h1 e.symm
    have h5' : ¬ z = x := fun e => h5 e.symm
    have h6' : ¬ u = x := fun e => h6 e.symm
    by_cases h2 : y = z
    · subst h2
      by_cases h3 : y = u
      · subst h3; simp [sset, sstep, h1, h1']
      · have h3' : ¬ u = y := fun e => h3 e.symm
        simp [sset, sstep, h1, h1', h3, h3', h6, h6']
    · have h4 : ¬ y = u := fun e => h2 (hyu e)
      have h2' : ¬ z = y := fun e => h2 e.symm
      have h4' : ¬ u = y := fun e => h4 e.symm
      by_cases h3 : z = u
      · subst h3; simp [sset, sstep, h1, h1', h2, h2', h5, h5']
      · have h3' : ¬ u = z := fun e => h3 e.symm
        simp [sset, sstep, h1, h1', h2, h2', h3, h3', h4, h4', h5, h5', h6, h6']
section
variable {zi : List Int} {zn : List Nat} (S : Sufs) (t : Tab zi zn)
include S t
theorem Tab.col {p j : Nat} (hp : p < 16) (hj : j ≤ zn.length) : colT zi.length j (hostT zi (p : Nat)) = textAt (labs zn 0 p) j := by
  unfold colT
  rw [t.lad_at S hp j hj]; rfl
theorem Tab.tie {a b c d j : Nat} (ab : a ≤ b) (bc : b ≤ c) (cd : c ≤ d) (d16 : d < 16) (hj : j < zn.length) :
    tie zi.length ([a, b, c, d].map fun (x : Nat) => hostT zi x) j = (if a / zn.getD j 1 = b / zn.getD j 1 then 0 else 1) + (if b / zn.getD j 1 = c / zn.getD j 1 then 0 else 1) + (if c / zn.getD j 1 = d / zn.getD j 1 then 0 else 1) := by
  have ha : a < 16 := by omega
  have hb : b < 16 := by omega
  have hc : c < 16 := by omega
  unfold Mine.tie
  simp only [List.map_cons, List.map_nil]
  rw [t.col S ha (by omega), t.col S hb (by omega), t.col S hc (by omega), t.col S d16 (by omega)]
  have iab := t.ti a ha b hb ab j hj
  have ibc := t.ti b hb c hc bc j hj
  have icd := t.ti c hc d d16 cd j hj
  have iac := t.ti a ha c hc (by omega) j hj
  have iad := t.ti a ha d d16 (by omega) j hj
  have ibd := t.ti b hb d d16 (by omega) j hj
  have m1 : a / zn.getD j 1 ≤ b / zn.getD j 1 := Nat.div_le_div_right ab
  have m2 : b / zn.getD j 1 ≤ c / zn.getD j 1 := Nat.div_le_div_right bc
  have m3 : c / zn.getD j 1 ≤ d / zn.getD j 1 := Nat.div_le_div_right cd
  rw [sset_four (fun e => iab.mpr (by have := iac.mp e; omega)) (fun e => ⟨iab.mpr (by have := iad.mp e; omega), ibc.mpr (by have := iad.mp e; omega)⟩) (fun e => ibc.mpr (by have := ibd.mp e; omega))]
  simp only [iab, ibc, icd]
theorem Tab.ties {a b c d : Nat} (ab : a ≤ b) (bc : b ≤ c) (cd : c ≤ d) (d16 : d < 16) :
    ((List.range zi.length).map (Mine.tie zi.length ([a, b, c, d].map fun (x : Nat) => hostT zi x))).sum = (parted zi (a : Nat) (b : Nat) : Nat) + (parted zi (b : Nat) (c : Nat) : Nat) + (parted zi (c : Nat) (d : Nat) : Nat) := by
  rw [t.su a (by omega) b (by omega) ab, t.su b (by omega) c (by omega) bc, t.su c (by omega) d d16 cd]
  have e : (List.range zi.length).map (Mine.tie zi.length ([a, b, c, d].map fun (x : Nat) => hostT zi x)) = (List.range zn.length).map fun j => (if a / zn.getD j 1 = b / zn.getD j 1 then 0 else 1) + (if b / zn.getD j 1 = c / zn.getD j 1 then 0 else 1) + (if c / zn.getD j 1 = d / zn.getD j 1 then (0 : Int) else 1) := by
    rw [← t.len]
    refine List.map_congr_left fun j hj => ?_
    exact t.tie S ab bc cd d16 (by rw [← t.len]; exact List.mem_range.mp hj)
  rw [e]
  have cast : ∀ (p : Prop) [Decidable p], (((if p then 0 else 1 : Nat)) : Int) = if p then 0 else 1 := by
    intro p _; by_cases h : p <;> simp [h]
  rcases t.two with h | h <;> rw [h]
  · simp only [show List.range 2 = [0, 1] from rfl, List.map_cons, List.map_nil, List.sum_cons, List.sum_nil, Int.natCast_add, cast]
    simp; omega
  · simp only [show List.range 3 = [0, 1, 2] from rfl, List.map_cons, List.map_nil, List.sum_cons, List.sum_nil, Int.natCast_add, cast]
    simp; omega
end
theorem plain_of (S : Sufs) (t1 : Tab [1, 2] [1, 2]) (t2 : Tab [1, 4] [1, 4]) (t3 : Tab [1, 8] [1, 8]) (t4 : Tab [1, 2, 4] [1, 2, 4]) (t5 : Tab [1, 2, 8] [1, 2, 8]) (t6 : Tab [1, 4, 8] [1, 4, 8]) : Plain := by
  have key : ∀ zs, Six zs → ∃ zn, Tab zs zn := by
    intro zs h
    rcases h with rfl | rfl | rfl | rfl | rfl | rfl
    · exact ⟨_, t1⟩
    · exact ⟨_, t2⟩
    · exact ⟨_, t3⟩
    · exact ⟨_, t4⟩
    · exact ⟨_, t5⟩
    · exact ⟨_, t6⟩
  refine ⟨?_, ?_, ?_, ?_, ?_⟩
  · intro zs six p hp
    obtain ⟨zn, t⟩ := key zs six
    exact t.climb S hp
  · intro zs six p q pq hq
    obtain ⟨zn, t⟩ := key zs six
    exact t.pair S pq hq
  · intro zs six p hp
    obtain ⟨zn, t⟩ := key zs six
    exact t.bare S hp
  · intro zs six a b c ab bc hc
    obtain ⟨zn, t⟩ := key zs six
    exact t.ul a (by omega) b (by omega) ab c hc bc
  · intro zs six a b c d ab bc cd d16
    obtain ⟨zn, t⟩ := key zs six
    exact t.ties S ab bc cd d16
end Mine
end
section
open PySem PySem.W PySem.Calls PyProof.Rows
set_option maxRecDepth 100000
set_option maxHeartbeats 8000000
namespace Mine
local macro_rules | `(tactic| k_qdec) => `(tactic| decide +kernel)
theorem four_ints {ws : List Value} {sc : List Int} {f : Int → Int} (h : IntsAre ws ((sc.take 4).map f ++ List.drop (((sc.take 4).length : Nat) : Int).toNat [45, 102, 196, 23])) :
    ∃ x1 x2 x3 x4 t1 t2 t3 t4, ws = [.int x1 t1, .int x2 t2, .int x3 t3, .int x4 t4] := by
  have key : ∀ (l : List Int), l.length ≤ 4 → ∃ a b c d, l.map f ++ List.drop ((l.length : Nat) : Int).toNat [45, 102, 196, 23] = [a, b, c, d] := by
    intro l hl
    match l, hl with
    | [], _ => exact ⟨_, _, _, _, rfl⟩
    | [_], _ => exact ⟨_, _, _, _, rfl⟩
    | [_, _], _ => exact ⟨_, _, _, _, rfl⟩
    | [_, _, _], _ => exact ⟨_, _, _, _, rfl⟩
    | [_, _, _, _], _ => exact ⟨_, _, _, _, rfl⟩
    | _ :: _ :: _ :: _ :: _ :: _, hl => exact absurd hl (by simp)
  obtain ⟨a, b, c, d, e⟩ := key (sc.take 4) (List.length_take_le ..)
  rw [e] at h
  cases h with | cons _ t1 h => cases h with | cons _ t2 h => cases h with | cons _ t3 h => cases h with | cons _ t4 h => cases h; exact ⟨_, _, _, _, _, _, _, _, rfl⟩
local macro_rules | `(tactic| walk_at "execs cons") => `(tactic| (k_here; (with_reducible show wpAny _ _ (execs (Stmt.Assign [Expr.Name (Str.ofString "sizes") _] _ _ :: _) _) _ _ _); refine Stop.out ?_))
set_option pp.deepTerms false in
theorem holds_of (pl : Plain) : PySem.Challenge.rw_xe0040_01.Holds := Mine.hd (by w_strict (k_with_none; k_go0; (all_goals try k_fold); k_steps; (refine Stop.go ?_); (try k_whole); (try dsimp only); (rename IntsAre _ _ => hI9); (with_reducible rename News _ _ _ _ => N9); (with_reducible rename Fr _ _ _ _ => F9); (obtain ⟨x1, x2, x3, x4, t1, t2, t3, t4, e9⟩ := four_ints hI9); (subst e9); (refine' law_tail_at _ _ _ _ _ _ _ _ _ _ _ _ _ _ _ _ _ _ _ _ _ _ _ pl _ _ ?hS ?hC ?B ?X ?T ?hE ?F ?mD ?d1 ?d2 ?l1 ?N ?hQ); (case hS => (with_unfolding_all rfl)); (case hC => (with_unfolding_all rfl)); (case F => (exact F9)); (case N => (exact News.less N9 (by k_subL))); (case B => (k_asm)); (case X => (k_asm)); (case T => (k_asm)); (case hE => (with_unfolding_all passes_own)); (case mD => (with_unfolding_all rfl)); (case d1 => ((rename Obj.data _ = _ => e1); (with_unfolding_all exact e1))); (case d2 => ((rename Obj.data _ = _ => e1); (clear e1); (rename Obj.data _ = _ => e2); (with_unfolding_all exact e2))); (case l1 => ((rename (_ < _ ∧ _ < _ ∧ _ < _ ∧ _ < _ ∧ _ < _ ∧ _ < _ ∧ _ < _) => l9); exact l9.2.2.2.2.2.1)); (case hQ => ((intro m' h tk F'); k_steps))))
end Mine
end
theorem PySem.Challenge.cw_xe0040_01_holds : PySem.Challenge.rw_xe0040_01.Holds :=
  Mine.holds_of (Mine.plain_of Mine.sufs Mine.tab1 Mine.tab2 Mine.tab3 Mine.tab4 Mine.tab5 Mine.tab6)
