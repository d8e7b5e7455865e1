import PyProof.Rows.All
import Wide.All
import OpenK.AllK
import Wide.FinOn
import Lean
import PySem.Challenge.RW_wr0036_01
open PySem PySem.W PyProof.Rows
set_option Elab.async false
set_option maxRecDepth 100000
set_option maxHeartbeats 0
section
-- HN
namespace Mine
noncomputable def Marker (_ : Hook) : Prop := True
theorem hkId {P : Prop} (H : Hook) (_ : Marker H) (x : P) : P := x
noncomputable def hkMk {Q : Prop} (H : Hook) (f : Marker H → Q) : (_ : Hook) ×' Q := ⟨H, f trivial⟩
section
local macro_rules | `(tactic| o_head $H) => `(tactic| (refine hkId $H (by assumption) (by assumption)))
noncomputable def hd : (_ : Hook) ×' (OpenRow.Holds PySem.Challenge.rw_wr0036_01.row → True) := by
  refine' hkMk _ ?hh
  case hh =>
    intro hm h
    suffices g : OpenRow.Holds PySem.Challenge.rw_wr0036_01.row from trivial
    k_head
end
noncomputable abbrev rw1 : OpenRow := PySem.Challenge.rw_wr0036_01.row
noncomputable abbrev pr : Program := PySem.Challenge.pw_wr0036_01
noncomputable def q1 : Program := view pr [72]
noncomputable def lo1 : List Str := (pr.main.body.take 72).flatMap bindsAtTop
noncomputable abbrev xt1 (s : Shared) : Bool := xlAt q1 [] s && recOk (RowW.records rw1.toRowW) s
noncomputable def mkT (l : List Obj) : Nat → Nat → Nat → BT
  | 0, _, _ => .nil
  | n + 1, a, b => match l[b]? with
    | some o => .node o (mkT l n (2 * a) (a + b)) (mkT l n (2 * a) (2 * a + b))
    | none => .nil
noncomputable def toT (s : Shared) : SharedT := ⟨mkT s.heap.objs.toList 6 1 0, s.heap.objs.size, s.heap.life, s.gens, s.drawn, s.toks, s.os⟩
noncomputable def pos0 : Pos := { line := 0, col := 0, endLine := 0, endCol := 0 }
noncomputable def ev1 : Env := { scope := pr.main.scope, locals := mainNs, globals := mainNs, cells := [], code := .ref 13, frame := some 14 }
noncomputable def ann1 : Option Value := some (.ref 6)
noncomputable abbrev S0 (w : World) (os : OsState) : Shared := ⟨boot_heap w.params, Array.mk [], boot_drawn, boot_toks, os⟩
noncomputable abbrev tbT := PySem.W.Fast.tw14364793385576792824
noncomputable abbrev segT := PySem.W.Fast.tw10110043849684766642
noncomputable abbrev goT := PySem.W.Fast.tw15667345088766844465
noncomputable abbrev denT := PySem.W.Fast.tw11892475500146522536
noncomputable abbrev seenT := @PySem.W.Fast.tw4187177175401517315
noncomputable abbrev impT := PySem.W.Fast.tw5923862056798008813
theorem tb_is : treeTable = tbT := PySem.W.Fast.te14364793385576792824
theorem seg_is : segRunT = segT := PySem.W.Fast.te10110043849684766642
theorem go_is : topGo = goT := PySem.W.Fast.te15667345088766844465
theorem seen_is : @openSeen = seenT := PySem.W.Fast.te4187177175401517315
theorem den_is : denote = denT := PySem.W.Fast.te11892475500146522536
theorem imp_is : importedModules = impT := PySem.W.Fast.te5923862056798008813
noncomputable def bd : List Stmt := behindTheImports pr
noncomputable abbrev cE : Code := .body bd ev1
noncomputable def Sa (w : World) (os : OsState) : Shared := match goT tbT pr w 11 ann1 12 (S0 w os) (topStub pr) with
  | some r => r.1
  | none => S0 w os
theorem pre_ok0 (w : World) (os : OsState) : goT tbT pr w 11 ann1 12 (S0 w os) (topStub pr) = some (Sa w os, ⟨denT tbT cE, cE, pos0, [topFrame pos0]⟩) := by kernel_rfl
theorem pre_ok (w : World) (os : OsState) : topGo tbT pr w 11 ann1 12 (S0 w os) (topStub pr) = some (Sa w os, ⟨denote tbT cE, cE, pos0, [topFrame pos0]⟩) := by
  rw [go_is, den_is]; exact pre_ok0 w os
theorem abs_ok (w : World) (os : OsState) : (toT (Sa w os)).abs = Sa w os := by kernel_rfl
theorem block_ok {w : World} (s : Shared) : segRun tbT pr w 11 ann1 1 1 s (blockOf bd ev1 cE pos0 [topFrame pos0]) = some (.next, s, cE, pos0) := by kernel_rfl
theorem fin_ok {w : World} (s : Shared) (c : Code) (p : Pos) : topRun tbT pr w 11 ann1 2 s ⟨doneF .next, c, p, [topFrame pos0]⟩ = some s := by kernel_rfl
theorem open_ok : ∀ w : World, (fencedOpening treeTable pr w 4762).map (fun s => (s.heap, s.gens, s.drawn, s.toks)) = some (boot_heap w.params, Array.mk [], boot_drawn, boot_toks) :=
  boot_open (by kernel_rfl) (by kernel_rfl) (fun _ => by kernel_rfl)
theorem size_ok : ∀ w : World, ((boot_heap w.params).isNs mainGlobals && (Array.mk [] : Array GenState).size == 0, (boot_heap w.params).objs.size, (boot_heap w.params).nsMap mainGlobals "__annotations__") = (true, 11, ann1) := fun w => by kernel_rfl
noncomputable def looks (w : World) (s : Shared) := ((staticsOk (impT pr.main.body) (boot_heap w.params) s.heap && namesBound pr s.heap && gensDone s && laidKept (boot_heap w.params) s.heap), seenT q1 lo1 (impT pr.main.body) xt1 true s, hd.1.obs s)
noncomputable def good (w : World) := (true, openGood q1 lo1, hd.1.val w)
noncomputable def runE (w : World) (os : OsState) := (segT tbT pr w 11 ann1 1 2400 (toT (Sa w os)) (piecesOf bd ev1 cE pos0 [topFrame pos0])).map fun r => (r.1, r.2.2.1, looks w r.2.1.abs)
theorem run_f (w : World) (os : OsState) : runE (w.withFollow "special-get-raises" false) os = some (.next, cE, good (w.withFollow "special-get-raises" false)) := by kernel_rfl
theorem run_t (w : World) (os : OsState) : runE (w.withFollow "special-get-raises" true) os = some (.next, cE, good (w.withFollow "special-get-raises" true)) := by kernel_rfl
noncomputable def RunOk1 (w : World) : Prop := ∀ os, ∃ s₁, topRun treeTable pr w 11 ann1 2415 (S0 w os) (topStub pr) = some s₁ ∧ (staticsOk (importedModules pr.main.body) (boot_heap w.params) s₁.heap && namesBound pr s₁.heap && gensDone s₁ && laidKept (boot_heap w.params) s₁.heap, openSeen q1 lo1 (importedModules pr.main.body) xt1 true s₁, hd.1.obs s₁) = (true, openGood q1 lo1, hd.1.val w)
theorem run_of {w : World} (h : ∀ os, runE w os = some (.next, cE, good w)) : RunOk1 w := fun os => by
  have e := h os
  unfold runE at e
  rw [← seg_is] at e
  obtain ⟨⟨f, s, c, p⟩, e1, e2⟩ := Option.map_eq_some_iff.mp e
  obtain ⟨e3, e6⟩ := Prod.mk.inj e2
  obtain ⟨e5, e4⟩ := Prod.mk.inj e6
  clear e2 e6
  dsimp only at e3 e4 e5
  subst e3 e5
  have r1 := segRun_of e1
  rw [abs_ok] at r1
  refine ⟨s.abs, ?_, ?_⟩
  · rw [tb_is]
    have r2 := piece_app (rest := []) r1 (piece_nil (fin_ok s.abs _ p))
    rw [List.append_nil] at r2
    exact go_top (n := 12) (N := 1 + (2400 + 2)) (pre_ok w os) (piece_block (n := 1) (block_ok (Sa w os)) r2)
  · unfold looks good at e4
    rw [← seen_is, ← imp_is] at e4
    exact e4
theorem run_ok (w : World) : RunOk1 w := byRow2 "special-get-raises" (P := RunOk1) (fun w => run_of (run_f w)) (fun w => run_of (run_t w)) w
theorem from_ok (w : World) (os : OsState) : (topFrom treeTable pr w 4762 (S0 w os)).map (fun s => (openSeen q1 lo1 (importedModules pr.main.body) xt1 true s, hd.1.obs s)) = some (openGood q1 lo1, hd.1.val w) := by
  obtain ⟨s₁, r, l⟩ := run_ok w os
  have l1 := (Prod.mk.inj l).1
  have l2 := (Prod.mk.inj l).2
  have z1 := (Prod.mk.inj (size_ok w)).1
  have z2 := (Prod.mk.inj (Prod.mk.inj (size_ok w)).2).1
  have z3 := (Prod.mk.inj (Prod.mk.inj (size_ok w)).2).2
  have r2 : topRun treeTable pr w 11 ann1 4762 (S0 w os) (topStub pr) = some s₁ := topRun_mono 2347 2415 _ _ _ r
  have t : topFrom treeTable pr w 4762 (S0 w os) = some s₁ := by
    unfold topFrom
    simp -zeta only [z1]
    rw [z2, z3, r2, Option.bind_some]
    simp only [l1]
  rw [t, Option.map_some]
  exact congrArg some l2
theorem left_ok : LeftO pr q1 lo1 xt1 hd.1.obs hd.1.val 4762 true := by
  intro w
  have o := open_ok w
  obtain ⟨s, e, f⟩ := Option.map_eq_some_iff.mp o
  have hs : s = S0 w s.os := by
    obtain ⟨hp, gs, dr, tk, os⟩ := s
    have f1 : hp = _ := (Prod.mk.inj f).1
    have f2 : gs = _ := (Prod.mk.inj (Prod.mk.inj f).2).1
    have f3 : dr = _ := (Prod.mk.inj (Prod.mk.inj (Prod.mk.inj f).2).2).1
    have f4 : tk = _ := (Prod.mk.inj (Prod.mk.inj (Prod.mk.inj f).2).2).2
    rw [f1, f2, f3, f4]
  have h : openEnds treeTable pr w 4762 = topFrom treeTable pr w 4762 (S0 w s.os) := by
    rw [← hs]
    unfold openEnds
    rw [e, Option.bind_some]
  rw [h]
  exact from_ok w s.os
theorem said_okT : PySem.W.Fast.tw9446332074065402090 PySem.Challenge.rw_wr0036_01 = true := by kernel_rfl
theorem said_ok : OpenLaw.wellSaid PySem.Challenge.rw_wr0036_01 = true := (congrFun PySem.W.Fast.te9446332074065402090 _).trans said_okT
theorem said_r : rw1.wellSaid = true := row_said said_ok
theorem ok_ok : (chainsOk q1 && opensWell rw1.prog && (frees rw1.toRowW && rw1.within.isEmpty)) = true := by kernel_rfl
theorem prom_ok : PySem.Challenge.rw_wr0036_01.row.toRowW.promised := by w_witness2
end Mine
local macro_rules | `(tactic| walk_at $s:str) => `(tactic| k_extra $s)
local macro_rules | `(tactic| walk_at "pyIter ref") => `(tactic| k_extra "pyIter ref!")
local macro_rules | `(tactic| k_mem) => `(tactic| k_extra "k_mem")
local macro_rules | `(tactic| k_all) => `(tactic| k_extra "k_all")
local macro_rules | `(tactic| lcg_off) => `(tactic| k_extra "lcg_off")
local macro_rules | `(tactic| k_ne) => `(tactic| k_extra "k_ne")
local macro_rules | `(tactic| ktr_room) => `(tactic| k_extra "ktr_room")
local macro_rules | `(tactic| ktr_units) => `(tactic| k_extra "ktr_units")
-- M0
namespace Mine
theorem room_c (c : Nat) {d K R : Nat} (h : d + K < R) (e : Nat.ble c K = true) : d + c < R := Nat.lt_of_le_of_lt (Nat.add_le_add_left (Nat.le_of_ble_eq_true e) d) h
theorem lt_k {n : Nat} (h : n < 100) : n < 1000 := Nat.lt_trans h (by decide)
theorem ne_l0 {a b : Nat} (h : b < a) : a ≠ b := Nat.ne_of_gt h
theorem ne_r0 {a b : Nat} (h : a < b) : a ≠ b := Nat.ne_of_lt h
theorem ne_l1 {a b : Nat} {P : Prop} (h : b < a ∧ P) : a ≠ b := Nat.ne_of_gt h.1
theorem ne_r1 {a b : Nat} {P : Prop} (h : a < b ∧ P) : a ≠ b := Nat.ne_of_lt h.1
theorem ne_l2 {a b : Nat} {P1 P : Prop} (h : P1 ∧ b < a ∧ P) : a ≠ b := Nat.ne_of_gt h.2.1
theorem ne_r2 {a b : Nat} {P1 P : Prop} (h : P1 ∧ a < b ∧ P) : a ≠ b := Nat.ne_of_lt h.2.1
theorem ne_l3 {a b : Nat} {P1 P2 P : Prop} (h : P1 ∧ P2 ∧ b < a ∧ P) : a ≠ b := Nat.ne_of_gt h.2.2.1
theorem ne_r3 {a b : Nat} {P1 P2 P : Prop} (h : P1 ∧ P2 ∧ a < b ∧ P) : a ≠ b := Nat.ne_of_lt h.2.2.1
theorem ne_l4 {a b : Nat} {P1 P2 P3 P : Prop} (h : P1 ∧ P2 ∧ P3 ∧ b < a ∧ P) : a ≠ b := Nat.ne_of_gt h.2.2.2.1
theorem ne_r4 {a b : Nat} {P1 P2 P3 P : Prop} (h : P1 ∧ P2 ∧ P3 ∧ a < b ∧ P) : a ≠ b := Nat.ne_of_lt h.2.2.2.1
theorem ne_l5 {a b : Nat} {P1 P2 P3 P4 P : Prop} (h : P1 ∧ P2 ∧ P3 ∧ P4 ∧ b < a ∧ P) : a ≠ b := Nat.ne_of_gt h.2.2.2.2.1
theorem ne_r5 {a b : Nat} {P1 P2 P3 P4 P : Prop} (h : P1 ∧ P2 ∧ P3 ∧ P4 ∧ a < b ∧ P) : a ≠ b := Nat.ne_of_lt h.2.2.2.2.1
end Mine
-- MA
namespace Mine
open PySem.Builtin PySem.Builtin.Str
/-- the part of a text that find and rfind look at, up to an end that is not below nought -/
noncomputable def hiOf (n : Nat) (j : Int) : Nat := min (max 0 (if j < 0 then j + n else j)).toNat n
noncomputable def find4 (x y : Str) (i j : Int) : Int := match occurrences x y (fromIndex x.length i) (hiOf x.length j) 1 with | k :: _ => (k : Int) | [] => -1
noncomputable def rfind4 (x y : Str) (i j : Int) : Int := match lastOccurrence x y (fromIndex x.length i) (hiOf x.length j) with | some k => (k : Int) | none => -1
theorem gives_find4 (x y : Str) (i j : Int) (t u v z : Tok) : Gives (Builtin.«str.find» ⟨[.str x t, .str y u, .int i v, .int j z], []⟩) (.int (find4 x y i j)) := by
  unfold find4
  show Gives (match occurrences x y (fromIndex x.length i) (hiOf x.length j) 1 with | k :: _ => retInt k | [] => (do rule "str.find.not-found"; retInt (-1))) _
  cases occurrences x y (fromIndex x.length i) (hiOf x.length j) 1 with
  | nil => exact .rule (.of_eq rfl)
  | cons k _ => exact .of_eq rfl
theorem gives_rfind4 (x y : Str) (i j : Int) (t u v z : Tok) : Gives (Builtin.«str.rfind» ⟨[.str x t, .str y u, .int i v, .int j z], []⟩) (.int (rfind4 x y i j)) := by
  unfold rfind4
  show Gives (match lastOccurrence x y (fromIndex x.length i) (hiOf x.length j) with | some k => retInt k | none => (do rule "str.rfind.not-found"; retInt (-1))) _
  cases lastOccurrence x y (fromIndex x.length i) (hiOf x.length j) with
  | none => exact .rule (.of_eq rfl)
  | some k => exact .of_eq rfl
section
variable {prog : Program} {w : World} {A : Around} {E : Value → Shared → Prop} {s : Shared} {x y : Str} {t u v z : Tok} {i j : Int} {Q : Value → Shared → Prop}
theorem call_find4 (hq : Q (.int (find4 x y i j) s.toks) { s with toks := s.toks + 1 }) : wpAny (model prog w) A (call (.builtin "str.find") [.str x t, .str y u, .int i v, .int j z]) Q E s :=
  call_gives F.slot_str_find (typeIs_str _ _ _) F.entry_str_find (F.args_str_find_4 _ _ _ _) (gives_find4 x y i j t u v z) hq
theorem call_rfind4 (hq : Q (.int (rfind4 x y i j) s.toks) { s with toks := s.toks + 1 }) : wpAny (model prog w) A (call (.builtin "str.rfind") [.str x t, .str y u, .int i v, .int j z]) Q E s :=
  call_gives F.slot_str_rfind (typeIs_str _ _ _) F.entry_str_rfind (F.args_str_rfind_4 _ _ _ _) (gives_rfind4 x y i j t u v z) hq
end
end Mine
-- MB
namespace Mine
theorem rows1_MB : True := by
  k_with_none
  k_with "k_ne" => first | exact ne_l1 (by with_reducible assumption) | exact ne_r1 (by with_reducible assumption) | exact ne_l2 (by with_reducible assumption) | exact ne_r2 (by with_reducible assumption) | exact ne_l3 (by with_reducible assumption) | exact ne_r3 (by with_reducible assumption) | exact ne_l0 (by with_reducible assumption) | exact ne_r0 (by with_reducible assumption) | exact ne_l4 (by with_reducible assumption) | exact ne_r4 (by with_reducible assumption) | exact ne_l5 (by with_reducible assumption) | exact ne_r5 (by with_reducible assumption)
  k_with "ktr_room" => first | exact room_c 0 hd rfl | exact room_c 1 hd rfl | exact room_c 6 hd rfl | exact room_c 9 hd rfl | exact room_c 21 hd rfl | exact Nat.le_of_ble_eq_true rfl
  k_with "ktr_units" => first | exact room_c 43 hu rfl | exact room_c 63 hu rfl | exact room_c 203 hu rfl | exact Nat.le_of_ble_eq_true rfl
  trivial
noncomputable abbrev Claim1 (w : World) (f : Addr) (vs : List Value) (R : Tok → Value) : Prop :=
  ∀ {pT : Program} {lT : List Str} (mean : ExcName → Option Value) (mg mb : Str → Option Value) (dp un : Nat) (gd : Option (List Code)) (cn : Str) (cs : Scope) (a : Addr) (ccd : Value) (cl : List (Str × Addr)) (outer : List Env) (A₀ : Around) (base h₀ : Heap) (L : Addr) (m : Str → Option Value) (news : List (Addr × Obj)) (s : Shared) (Q E : Value → Shared → Prop),
    Below A₀ base outer h₀ → Fr h₀ L s.heap m → (Mine.hd.heap_1 w.params).In h₀ → News h₀ L s.heap news → Top pT lT mean mg mb h₀ → cs.kind = .function →
    dp + 5 < recursionLimit → un + 40 < cLine → CbRet h₀ L m news s Q R →
      wpAny (model PySem.Challenge.rw_wr0036_01.row.prog w) (ktrTop dp un gd cn cs L a ccd cl outer) (call (.ref f) vs) Q E s
noncomputable def collP (a b : Str) : Int := b2i (decide (b.cps.toList < a.cps.toList)) - b2i (decide (a.cps.toList < b.cps.toList))
theorem strcoll (w : World) (x y : Str) (tx ty : Tok) : Claim1 w 67 [.str x tx, .str y ty] (fun t => .int (collP x y) t) := by
  unfold Claim1; k_fill
  intro pT lT mean mg mb dp un gd cn cs a ccd cl outer A₀ base h₀ L m news s Q E B F X N T hk hd hu hret
  refine wpAny_call ?_
  k_dflt (refine' code_def (binds := [(Str.ofString "a", Value.str x tx), (Str.ofString "b", Value.str y ty)]) ?k1 ?k2 ?k3 ?k4 ?k5 ?kA ?kF ?kK ?k6 ?k7 ?k8 ?k9 ?kB ?_ ?c2 ?c3 ?c4 ?c5; (case kA => exact rfl); (case kF => exact rfl); (case kK => assumption); (case k1 => k_asm); (case k2 => k_asm); (case k3 => k_asm); (case k4 => k_asm); (case k5 => k_asm); (case k6 => k_is); (case k7 => k_is); (case k8 => ktr_room); (case k9 => exact BindsTo.of_eq rfl); (case c5 => decide); (case kB => exact locs rfl); (case c2 => exact rfl); (case c3 => exact rfl); (case c4 => exact rfl); k_whole; intro g' L' h' FG' F' N' B' X' T'; (try dsimp only); (try k_lift B'); (try k_fold))
  k_steps
  all_goals exact cb_retI hret rfl (by k_asm) (by k_asm)
theorem isterm (w : World) (x : Int) (tx : Tok) : Claim1 w 84 [.int x tx] (fun _ => .bool (decide (x < 256))) := by
  unfold Claim1; k_fill
  intro pT lT mean mg mb dp un gd cn cs a ccd cl outer A₀ base h₀ L m news s Q E B F X N T hk hd hu hret
  refine wpAny_call ?_
  k_dflt (refine' code_def (binds := [(Str.ofString "x", Value.int x tx)]) ?k1 ?k2 ?k3 ?k4 ?k5 ?kA ?kF ?kK ?k6 ?k7 ?k8 ?k9 ?kB ?_ ?c2 ?c3 ?c4 ?c5; (case kA => exact rfl); (case kF => exact rfl); (case kK => assumption); (case k1 => k_asm); (case k2 => k_asm); (case k3 => k_asm); (case k4 => k_asm); (case k5 => k_asm); (case k6 => k_is); (case k7 => k_is); (case k8 => ktr_room); (case k9 => exact BindsTo.of_eq rfl); (case c5 => decide); (case kB => exact locs rfl); (case c2 => exact rfl); (case c3 => exact rfl); (case c4 => exact rfl); k_whole; intro g' L' h' FG' F' N' B' X' T'; (try dsimp only); (try k_lift B'); (try k_fold))
  k_steps
  all_goals exact cb_retB hret rfl (by k_asm) (by k_asm)
theorem iseof (w : World) (x : Int) (tx : Tok) : Claim1 w 91 [.int x tx] (fun _ => .bool (decide (x = 0))) := by
  unfold Claim1; k_fill
  intro pT lT mean mg mb dp un gd cn cs a ccd cl outer A₀ base h₀ L m news s Q E B F X N T hk hd hu hret
  refine wpAny_call ?_
  k_dflt (refine' code_def (binds := [(Str.ofString "x", Value.int x tx)]) ?k1 ?k2 ?k3 ?k4 ?k5 ?kA ?kF ?kK ?k6 ?k7 ?k8 ?k9 ?kB ?_ ?c2 ?c3 ?c4 ?c5; (case kA => exact rfl); (case kF => exact rfl); (case kK => assumption); (case k1 => k_asm); (case k2 => k_asm); (case k3 => k_asm); (case k4 => k_asm); (case k5 => k_asm); (case k6 => k_is); (case k7 => k_is); (case k8 => ktr_room); (case k9 => exact BindsTo.of_eq rfl); (case c5 => decide); (case kB => exact locs rfl); (case c2 => exact rfl); (case c3 => exact rfl); (case c4 => exact rfl); k_whole; intro g' L' h' FG' F' N' B' X' T'; (try dsimp only); (try k_lift B'); (try k_fold))
  k_steps
  all_goals exact cb_retB hret rfl (by k_asm) (by k_asm)
theorem rows2_MB : True := by
  k_with "call builtin:str.find" => (k_dflt (k_here; (with_reducible show wpAny _ _ (call (Value.builtin "str.find") [Value.str _ _, Value.str _ _, Value.int _ _, Value.int _ _]) _ _ _); refine call_find4 ?_))
  k_with "call builtin:str.rfind" => (k_dflt (k_here; (with_reducible show wpAny _ _ (call (Value.builtin "str.rfind") [Value.str _ _, Value.str _ _, Value.int _ _, Value.int _ _]) _ _ _); refine call_rfind4 ?_))
  trivial
noncomputable def stripE0 (x : Str) : Int := if 0 ≤ Txt.find x (Str.ofString "\n") then Txt.find x (Str.ofString "\n") else x.length
noncomputable def stripE (x : Str) : Int := if 0 ≤ find4 x (Str.ofString ":") 0 (stripE0 x) then find4 x (Str.ofString ":") 0 (stripE0 x) else stripE0 x
noncomputable def stripB (x : Str) : Int := if 0 ≤ rfind4 x (Str.ofString ".") 0 (stripE x) then rfind4 x (Str.ofString ".") 0 (stripE x) + 1 else 0
noncomputable def stripP (x : Str) : Str := Txt.slice x (some (stripB x)) (some (stripE x))
theorem strip_eq {x : Str} {r e b : Int} (hr : 0 ≤ Txt.find x (Str.ofString "\n") ∧ r = Txt.find x (Str.ofString "\n") ∨ ¬0 ≤ Txt.find x (Str.ofString "\n") ∧ r = x.length)
    (he : 0 ≤ find4 x (Str.ofString ":") 0 r ∧ e = find4 x (Str.ofString ":") 0 r ∨ ¬ 0 ≤ find4 x (Str.ofString ":") 0 r ∧ e = r)
    (hb : 0 ≤ rfind4 x (Str.ofString ".") 0 e ∧ b = rfind4 x (Str.ofString ".") 0 e + 1 ∨ ¬ 0 ≤ rfind4 x (Str.ofString ".") 0 e ∧ b = 0) :
    Txt.slice x (some b) (some e) = stripP x := by
  have h0 : r = stripE0 x := by
    unfold stripE0
    rcases hr with ⟨a, b⟩ | ⟨a, b⟩
    · rw [if_pos a, b]
    · rw [if_neg a, b]
  subst h0
  have h1 : e = stripE x := by
    unfold stripE
    rcases he with ⟨a, b⟩ | ⟨a, b⟩
    · rw [if_pos a, b]
    · rw [if_neg a, b]
  subst h1
  have h2 : b = stripB x := by
    unfold stripB
    rcases hb with ⟨a, b⟩ | ⟨a, b⟩
    · rw [if_pos a, b]
    · rw [if_neg a, b]
  subst h2
  rfl
theorem stripd (w : World) (x : Str) (tx : Tok) (hx : x.length < 1000) : Claim1 w 28 [.str x tx] (fun t => .str (stripP x) t) := by
  unfold Claim1; k_fill
  intro pT lT mean mg mb dp un gd cn cs a ccd cl outer A₀ base h₀ L m news s Q E B F X N T hk hd hu hret
  refine wpAny_call ?_
  k_dflt (refine' code_def (binds := [(Str.ofString "msg", Value.str x tx)]) ?k1 ?k2 ?k3 ?k4 ?k5 ?kA ?kF ?kK ?k6 ?k7 ?k8 ?k9 ?kB ?_ ?c2 ?c3 ?c4 ?c5; (case kA => exact rfl); (case kF => exact rfl); (case kK => assumption); (case k1 => k_asm); (case k2 => k_asm); (case k3 => k_asm); (case k4 => k_asm); (case k5 => k_asm); (case k6 => k_is); (case k7 => k_is); (case k8 => ktr_room); (case k9 => exact BindsTo.of_eq rfl); (case c5 => decide); (case kB => exact locs rfl); (case c2 => exact rfl); (case c3 => exact rfl); (case c4 => exact rfl); k_whole; intro g' L' h' FG' F' N' B' X' T'; (try dsimp only); (try k_lift B'); (try k_fold))
  k_steps
  all_goals refine cb_retS hret ?_ (by k_asm) (cb_drop (by k_asm) fun p hp => .tail _ hp)
  all_goals refine strip_eq (by assumption) ?_ ?_
  all_goals first | exact .inl ⟨by assumption, rfl⟩ | exact .inr ⟨by assumption, rfl⟩
noncomputable def buildA (x : Option Str) : Str := x.getD (Str.ofString "C")
noncomputable def optV (x : Option Str) (t : Tok) : Value := match x with | some x => .str x t | none => .none
noncomputable def buildP (x y : Option Str) : Str := match y with | some y => buildA x ++ Str.ofString "." ++ y | none => buildA x
noncomputable abbrev tupOf (vs : List Value) : Obj := { cls := .type "tuple", data := .seq vs.toArray }
noncomputable abbrev Claim2 (w : World) (f : Addr) (q : Addr) (o : Obj) (R : Tok → Value) : Prop :=
  ∀ {pT : Program} {lT : List Str} (mean : ExcName → Option Value) (mg mb : Str → Option Value) (dp un : Nat) (gd : Option (List Code)) (cn : Str) (cs : Scope) (a : Addr) (ccd : Value) (cl : List (Str × Addr)) (outer : List Env) (A₀ : Around) (base h₀ : Heap) (L : Addr) (m : Str → Option Value) (news : List (Addr × Obj)) (s : Shared) (Q E : Value → Shared → Prop),
    Below A₀ base outer h₀ → Fr h₀ L s.heap m → (Mine.hd.heap_1 w.params).In h₀ → News h₀ L s.heap news → Top pT lT mean mg mb h₀ → cs.kind = .function →
    dp + 5 < recursionLimit → un + 40 < cLine → (q, o) ∈ news → CbRet h₀ L m news s Q R →
      wpAny (model PySem.Challenge.rw_wr0036_01.row.prog w) (ktrTop dp un gd cn cs L a ccd cl outer) (call (.ref f) [.ref q]) Q E s
theorem build (w : World) (q : Addr) (x y : Option Str) (tx ty : Tok) (hx : ∀ z, x = some z → z.length < 1000) (hy : ∀ z, y = some z → z.length < 1000) : Claim2 w 74 q (tupOf [optV x tx, optV y ty]) (fun t => .str (buildP x y) t) := by
  unfold Claim2; k_fill
  intro pT lT mean mg mb dp un gd cn cs a ccd cl outer A₀ base h₀ L m news s Q E B F X N₀ T hk hd hu hq hret
  have N : News h₀ L s.heap ((q, tupOf [optV x tx, optV y ty]) :: news) := fun p hp => (List.mem_cons.mp hp).elim (fun e => e ▸ N₀ _ hq) fun h => N₀ p h
  clear N₀
  cases x <;> cases y <;> dsimp only [optV] at N
  all_goals try (have hx' := hx _ rfl)
  all_goals try (have hy' := hy _ rfl)
  all_goals clear hx hy
  all_goals (
    refine wpAny_call ?_
    k_dflt (refine' code_def (binds := [(Str.ofString "localetuple", Value.ref q)]) ?k1 ?k2 ?k3 ?k4 ?k5 ?kA ?kF ?kK ?k6 ?k7 ?k8 ?k9 ?kB ?_ ?c2 ?c3 ?c4 ?c5; (case kA => exact rfl); (case kF => exact rfl); (case kK => assumption); (case k1 => k_asm); (case k2 => k_asm); (case k3 => k_asm); (case k4 => k_asm); (case k5 => k_asm); (case k6 => k_is); (case k7 => k_is); (case k8 => ktr_room); (case k9 => exact BindsTo.of_eq rfl); (case c5 => decide); (case kB => exact locs rfl); (case c2 => exact rfl); (case c3 => exact rfl); (case c4 => exact rfl); k_whole; intro g' L' h' FG' F' N' B' X' T'; (try dsimp only); (try k_lift B'); (try k_fold))
    k_steps
    all_goals refine cb_retS hret ?_ (by k_asm) (cb_drop (by k_asm) fun p hp => .tail _ hp)
    all_goals rfl)
theorem rows3_MB : True := by
  k_with "call ref" => (k_here; refine wpAny_call ?_; k_dflt (refine' code_def ?k1z6 ?k2z6 ?k3z6 ?k4z6 ?k5z6 ?kAz6 ?kFz6 ?kKz6 ?k6z6 ?k7z6 ?k8z6 ?k9z6 ?kBz6 ?_ ?c2z6 ?c3z6 ?c4z6 ?c5z6; (case kAz6 => exact rfl); (case kFz6 => exact rfl); (case kKz6 => first | exact rfl | assumption); (case k1z6 => k_asm); (case k2z6 => k_asm); (case k3z6 => k_asm); (case k4z6 => k_asm); (case k5z6 => k_asm); (case k6z6 => k_is); (case k7z6 => k_is); (case k8z6 => ktr_room); (case k9z6 => exact BindsTo.of_eq rfl); (case c5z6 => decide); (case kBz6 => exact locs rfl); (case c2z6 => exact rfl); (case c3z6 => exact rfl); (case c4z6 => exact rfl); k_whole; intro g' L' h' FG' F' N' B' X' T'; (try dsimp only); (try k_lift B'); (try k_fold)))
  k_with "call ref" => (k_here; (with_reducible show wpAny _ _ (call (Value.ref 67) [Value.str _ _, Value.str _ _]) _ _ _); k_dflt (refine' strcoll _ _ _ _ _ _ _ _ _ _ _ _ _ _ _ _ _ _ _ _ _ _ _ _ _ _ ?k1z7 ?k2z7 ?k3z7 ?k4z7 ?k5z7 ?kKz7 ?kdz7 ?kuz7  ?_; (case k1z7 => k_asm); (case k2z7 => k_asm); (case k3z7 => k_in); (case k4z7 => k_asm); (case k5z7 => k_asm); (case kKz7 => first | exact rfl | assumption); (case kdz7 => ktr_room); (case kuz7 => ktr_units); intro t9 h9 tk9 F9 N9; (try dsimp only); (try k_fold)))
  k_with "call ref" => (k_here; (with_reducible show wpAny _ _ (call (Value.ref 84) [Value.int _ _]) _ _ _); k_dflt (refine' isterm _ _ _ _ _ _ _ _ _ _ _ _ _ _ _ _ _ _ _ _ _ _ _ _ ?k1z8 ?k2z8 ?k3z8 ?k4z8 ?k5z8 ?kKz8 ?kdz8 ?kuz8  ?_; (case k1z8 => k_asm); (case k2z8 => k_asm); (case k3z8 => k_in); (case k4z8 => k_asm); (case k5z8 => k_asm); (case kKz8 => first | exact rfl | assumption); (case kdz8 => ktr_room); (case kuz8 => ktr_units); intro t9 h9 tk9 F9 N9; (try dsimp only); (try k_fold)))
  k_with "call ref" => (k_here; (with_reducible show wpAny _ _ (call (Value.ref 91) [Value.int _ _]) _ _ _); k_dflt (refine' iseof _ _ _ _ _ _ _ _ _ _ _ _ _ _ _ _ _ _ _ _ _ _ _ _ ?k1z9 ?k2z9 ?k3z9 ?k4z9 ?k5z9 ?kKz9 ?kdz9 ?kuz9  ?_; (case k1z9 => k_asm); (case k2z9 => k_asm); (case k3z9 => k_in); (case k4z9 => k_asm); (case k5z9 => k_asm); (case kKz9 => first | exact rfl | assumption); (case kdz9 => ktr_room); (case kuz9 => ktr_units); intro t9 h9 tk9 F9 N9; (try dsimp only); (try k_fold)))
  k_with "call ref" => (k_here; (with_reducible show wpAny _ _ (call (Value.ref 28) [Value.str _ _]) _ _ _); k_dflt (refine' stripd _ _ _ ?hxz10 _ _ _ _ _ _ _ _ _ _ _ _ _ _ _ _ _ _ _ _ _ ?k1z10 ?k2z10 ?k3z10 ?k4z10 ?k5z10 ?kKz10 ?kdz10 ?kuz10  ?_; (case k1z10 => k_asm); (case k2z10 => k_asm); (case k3z10 => k_in); (case k4z10 => k_asm); (case k5z10 => k_asm); (case kKz10 => first | exact rfl | assumption); (case kdz10 => ktr_room); (case kuz10 => ktr_units); (case hxz10 => first | assumption | omega | size_fits); intro t9 h9 tk9 F9 N9; (try dsimp only); (try k_fold)))
  trivial
end Mine
-- MP1
namespace Mine
open PySem.Builtin PySem.Builtin.Str
noncomputable abbrev tl (x : Str) : List Nat := x.cps.toList
theorem tl_ext {x y : Str} (h : tl x = tl y) : x = y := Str.ext' (Array.toList_inj.mp h)
theorem tl_app (x y : Str) : tl (x ++ y) = tl x ++ tl y := by
  show (x.cps ++ y.cps).toList = _
  simp
theorem len_tl (x : Str) : x.length = (tl x).length := by simp [Str.length]
theorem tl_mk (l : List Nat) : tl ⟨l.toArray⟩ = l := by simp
theorem item_tl {x : Str} {i : Int} (h0 : 0 ≤ i) (h : i < x.length) : ∃ c, (tl x)[i.toNat]? = some c ∧ Txt.item x i = ⟨#[c]⟩ := by
  obtain ⟨c, hc⟩ := StrLaws.some_at h0 h
  refine ⟨c, by simpa using hc, ?_⟩
  unfold Txt.item Txt.charAt
  rw [StrLaws.at_nonneg h0 hc]
  rfl
noncomputable def clipN (o : Option Int) (d n : Nat) : Nat := match o with
  | none => d
  | some i => (max 0 (min (if i < 0 then i + n else i) (n : Int))).toNat
theorem slice_tl (x : Str) (lo hi : Option Int) : tl (Txt.slice x lo hi) = ((tl x).drop (clipN lo 0 x.length)).take (clipN hi x.length x.length - clipN lo 0 x.length) := by
  have key : strSliceIndices lo hi 1 x.length = (List.range (clipN hi x.length x.length - clipN lo 0 x.length)).map (fun k => clipN lo 0 x.length + k) := by
    have ha : clipN lo 0 x.length ≤ x.length := by unfold clipN; split <;> lia
    have hb : clipN hi x.length x.length ≤ x.length := by unfold clipN; split <;> lia
    have e : strSliceIndices lo hi 1 x.length = sliceRange (clipN lo 0 x.length : Nat) (clipN hi x.length x.length : Nat) 1 := by
      unfold strSliceIndices clipN
      cases lo <;> cases hi <;> simp <;> (try congr 1) <;> lia
    rw [e]
    unfold sliceRange
    simp only [show ((1 : Int) > 0) = True from by simp, if_true]
    by_cases hlt : (clipN lo 0 x.length : Int) < (clipN hi x.length x.length : Int)
    · have e3 : (((clipN hi x.length x.length : Nat) : Int) - (clipN lo 0 x.length : Nat) + 1 - 1) / 1 = ((clipN hi x.length x.length - clipN lo 0 x.length : Nat) : Int) := by
        rw [Int.ediv_one]; lia
      rw [if_pos hlt, e3]
      simp only [Int.toNat_natCast]
      refine List.map_congr_left fun k _ => ?_
      lia
    · have : clipN hi x.length x.length - clipN lo 0 x.length = 0 := by lia
      rw [if_neg hlt, this]
      rfl
  have ha : clipN lo 0 x.length + (clipN hi x.length x.length - clipN lo 0 x.length) ≤ x.length ∨ clipN hi x.length x.length - clipN lo 0 x.length = 0 := by
    have hb : clipN hi x.length x.length ≤ x.length := by unfold clipN; split <;> lia
    lia
  have pick : (strSliceIndices lo hi 1 x.length).filterMap (x.cps[·]?) = ((tl x).drop (clipN lo 0 x.length)).take (clipN hi x.length x.length - clipN lo 0 x.length) := by
    rw [key]
    rcases ha with ha | ha
    · have := StrLaws.picks (tl x) (clipN hi x.length x.length - clipN lo 0 x.length) (clipN lo 0 x.length) (by rw [← len_tl]; exact ha)
      simpa using this
    · rw [ha]; simp
  show tl (StrLaws.sliceText x lo hi) = _
  unfold StrLaws.sliceText
  split
  · rename_i h
    have hl : (strSliceIndices lo hi 1 x.length).length = x.length := by simpa using h
    rw [key, List.length_map, List.length_range] at hl
    have hb : clipN hi x.length x.length ≤ x.length := by unfold clipN; split <;> lia
    have h0 : clipN lo 0 x.length = 0 ∨ x.length = 0 := by lia
    rcases h0 with h0 | h0
    · rw [hl, h0, List.drop_zero, len_tl, List.take_length]
    · rw [len_tl] at h0
      have : tl x = [] := List.length_eq_zero_iff.mp h0
      rw [this]; simp
  · rw [tl_mk, pick]
noncomputable def goP : List Nat → List Nat
  | [] => []
  | 34 :: 34 :: r => 34 :: goP r
  | 34 :: _ => []
  | c :: r => c :: goP r
theorem goP_quote2 (r : List Nat) : goP (34 :: 34 :: r) = 34 :: goP r := by rw [goP]
theorem goP_stop (r : List Nat) (h : r.head? ≠ some 34) : goP (34 :: r) = [] := by
  cases r with
  | nil => rfl
  | cons c r =>
    rw [goP]
    · exact fun h' => by simp_all
theorem goP_other (c : Nat) (r : List Nat) (h : c ≠ 34) : goP (c :: r) = c :: goP r := by
  rw [goP]
  · intro _ h1 _; exact h h1
  · intro h1; exact h h1
noncomputable def InvP (x : Str) (i : Int) (d : Str) : Prop := tl d ++ goP ((tl x).drop i.toNat) = goP ((tl x).drop 5)
noncomputable def parseP (x : Str) : Str := if (Txt.slice x (some 3) (some 5) != Str.ofString " \"") = true then Str.ofString "" else ⟨(goP ((tl x).drop 5)).toArray⟩
theorem quote_is : (Str.ofString "\"") = ⟨#[34]⟩ := by decide +kernel
theorem beq_one (a b : Nat) : ((⟨#[a]⟩ : Str) == ⟨#[b]⟩) = decide (a = b) := by
  rw [Bool.eq_iff_iff, beq_iff_eq, decide_eq_true_eq]
  constructor
  · intro h
    have := congrArg tl h
    simpa using this
  · rintro rfl; rfl
theorem drop_at {l : List Nat} {k c : Nat} (h : l[k]? = some c) : l.drop k = c :: l.drop (k + 1) := by
  obtain ⟨hlt, he⟩ := List.getElem?_eq_some_iff.mp h
  rw [List.drop_eq_getElem_cons hlt, he]
section
variable {x d : Str} {i : Int}
theorem pa_start : (5 ≤ (5 : Int) ∧ (5 : Int) ≤ 1000) ∧ ((Str.ofString "").length : Int) ≤ 5 ∧ InvP x 5 (Str.ofString "") := ⟨by lia, by decide, by unfold InvP; rfl⟩
theorem pa_item (h5 : 5 ≤ i) (h : i < x.length) : ∃ c, (tl x).drop i.toNat = c :: (tl x).drop (i.toNat + 1) ∧ Txt.item x i = ⟨#[c]⟩ := by
  obtain ⟨c, h1, h2⟩ := item_tl (by lia) h
  exact ⟨c, drop_at h1, h2⟩
theorem pa_one (hx : x.length < 1000) (hd : (d.length : Int) ≤ i) (h : InvP x i d) (h5 : 5 ≤ i) (hi : i < x.length) (hq : (Txt.item x i == Str.ofString "\"") = false) :
    (5 ≤ i + 1 ∧ i + 1 ≤ 1000) ∧ ((d ++ Txt.item x i).length : Int) ≤ i + 1 ∧ InvP x (i + 1) (d ++ Txt.item x i) := by
  obtain ⟨c, h1, h2⟩ := pa_item h5 hi
  rw [h2, quote_is, beq_one, decide_eq_false_iff_not] at hq
  refine ⟨by lia, ?_, ?_⟩
  · rw [Str.length_append, h2]
    show ((d.length + 1 : Nat) : Int) ≤ _
    lia
  · unfold InvP at h ⊢
    rw [h1, goP_other c _ hq] at h
    rw [tl_app, h2, show (i + 1).toNat = i.toNat + 1 from by lia, ← h, List.append_assoc]
    rfl
theorem pa_two (hx : x.length < 1000) (hd : (d.length : Int) ≤ i) (h : InvP x i d) (h5 : 5 ≤ i) (hi : i < x.length) (hq : (Txt.item x i == Str.ofString "\"") = true) (hi2 : i + 1 < x.length) (hq2 : (Txt.item x (i + 1) != Str.ofString "\"") = false) :
    (5 ≤ i + 1 + 1 ∧ i + 1 + 1 ≤ 1000) ∧ ((d ++ Txt.item x i).length : Int) ≤ i + 1 + 1 ∧ InvP x (i + 1 + 1) (d ++ Txt.item x i) := by
  obtain ⟨c, h1, h2⟩ := pa_item h5 hi
  obtain ⟨c', h1', h2'⟩ := pa_item (by lia) hi2
  rw [h2, quote_is, beq_one, decide_eq_true_eq] at hq
  rw [h2', quote_is, bne, beq_one, Bool.not_eq_false', decide_eq_true_eq] at hq2
  subst hq hq2
  refine ⟨by lia, ?_, ?_⟩
  · rw [Str.length_append, h2]
    show ((d.length + 1 : Nat) : Int) ≤ _
    lia
  · unfold InvP at h ⊢
    rw [show (i + 1).toNat = i.toNat + 1 from by lia] at h1'
    rw [h1, h1', goP_quote2] at h
    rw [tl_app, h2, show (i + 1 + 1).toNat = i.toNat + 1 + 1 from by lia, ← h, List.append_assoc]
    rfl
theorem pa_end (h : InvP x i d) (h5 : 5 ≤ i) (hi : ¬ i < x.length) (hs : (Txt.slice x (some 3) (some 5) != Str.ofString " \"") = false) : d = parseP x := by
  unfold parseP
  rw [if_neg (ne_true_of_eq_false hs)]
  apply tl_ext
  unfold InvP at h
  rw [List.drop_eq_nil_of_le (as := tl x) (i := i.toNat) (by rw [← len_tl]; lia)] at h
  rw [tl_mk, ← h]
  simp [goP]
theorem pa_stop1 (h : InvP x i d) (h5 : 5 ≤ i) (hi : i < x.length) (hq : (Txt.item x i == Str.ofString "\"") = true) (hi2 : ¬ i + 1 < x.length) (hs : (Txt.slice x (some 3) (some 5) != Str.ofString " \"") = false) : d = parseP x := by
  unfold parseP
  rw [if_neg (ne_true_of_eq_false hs)]
  apply tl_ext
  obtain ⟨c, h1, h2⟩ := pa_item h5 hi
  rw [h2, quote_is, beq_one, decide_eq_true_eq] at hq
  subst hq
  unfold InvP at h
  rw [h1, List.drop_eq_nil_of_le (as := tl x) (i := i.toNat + 1) (by rw [← len_tl]; lia), goP_stop _ (by simp)] at h
  rw [tl_mk, ← h]
  simp
theorem pa_stop2 (h : InvP x i d) (h5 : 5 ≤ i) (hi : i < x.length) (hq : (Txt.item x i == Str.ofString "\"") = true) (hi2 : i + 1 < x.length) (hq2 : (Txt.item x (i + 1) != Str.ofString "\"") = true) (hs : (Txt.slice x (some 3) (some 5) != Str.ofString " \"") = false) : d = parseP x := by
  unfold parseP
  rw [if_neg (ne_true_of_eq_false hs)]
  apply tl_ext
  obtain ⟨c, h1, h2⟩ := pa_item h5 hi
  obtain ⟨c', h1', h2'⟩ := pa_item (by lia) hi2
  rw [h2, quote_is, beq_one, decide_eq_true_eq] at hq
  rw [h2', quote_is, bne, beq_one, Bool.not_eq_true', decide_eq_false_iff_not] at hq2
  subst hq
  unfold InvP at h
  rw [show (i + 1).toNat = i.toNat + 1 from by lia] at h1'
  rw [h1, h1', goP_stop _ (by simpa using hq2)] at h
  rw [tl_mk, ← h]
  simp
end
end Mine
-- ML1
namespace Mine
section
variable {prog : Program} {w : World} {A : Around} {E : Value → Shared → Prop} {s : Shared} {env : Env} {h₀ : Heap} {x : Str} {body : List Stmt} {Q : Flow → Shared → Prop}
/-- a for loop over any iterator that walks: the ledger's objects that the iterator reads (kept) stay, the rest as J says -/
theorem loopJ {I : Addr} {fp wr : List Addr} {n : Nat} {P : Nat → Value → Prop} {St : Nat → Heap → Prop} {m₀ : Str → Option Value} {news : List (Addr × Obj)} (kept : List (Addr × Obj))
    (J : Nat → (Str → Option Value) → List (Addr × Obj) → Prop) (W : Walks prog w A I fp wr n P St) (hLf : env.locals ∉ fp) (hwr : ∀ b ∈ wr, h₀.get? b = none) (hnw : ∀ p ∈ news, p.1 ∉ wr)
    (hfp : ∀ b ∈ fp, b ∈ wr ∨ (h₀.get? b).isSome = true ∨ ∃ o, (b, o) ∈ kept) (hst : St 0 s.heap) (F : Fr h₀ env.locals s.heap m₀) (N : News h₀ env.locals s.heap news) (hk : ∀ p ∈ kept, p ∈ news) (hj : J 0 m₀ news)
    (turn : ∀ i v m₁ nx h tk own, i < n → P i v → nx.map (·.1) = news.map (·.1) → (∀ p ∈ kept, p ∈ nx) → OwnOff own (news.map (·.1)) → J i m₁ nx → Fr h₀ env.locals h (fun y => if y = x then some v else m₁ y) → News h₀ env.locals h (nx ++ own) →
      wpAny (model prog w) A (execs body env) (InvPostN h₀ env.locals (fun m' nx' => (∀ p ∈ kept, p ∈ nx') ∧ J (i + 1) m' nx') own (news.map (·.1)) { s with heap := h, toks := tk } Q) E { s with heap := h, toks := tk })
    (done : ∀ m₁ nx h tk, (∀ p ∈ kept, p ∈ nx) → J n m₁ nx → Fr h₀ env.locals h m₁ → News h₀ env.locals h nx → Q .next { s with heap := h, toks := tk }) :
    LoopAtV prog w A h₀ env x body Q E (.ref I) s := by
  refine ⟨I, fp, wr, n, P, St, m₀, news, fun i m nx => (nx.map (·.1) = news.map (·.1) ∧ ∀ p ∈ kept, p ∈ nx) ∧ J i m nx, rfl, W, hLf, hwr, hnw, hst, F, N, ⟨⟨rfl, hk⟩, hj⟩, ?_, ?_⟩
  · rintro i v m₁ nx s₁ own ⟨hp, tk, e⟩ hi hP ⟨⟨hadr, hkx⟩, hJ⟩ hoff hown hget _ _ F₁ N₁
    subst e
    -- of what the iterator reads: only what it turns is handed to the turn
    have offW : OwnOff (own.filter fun p => wr.contains p.1) (news.map (·.1)) := fun p hp b hb e => by
      obtain ⟨q, hq, hq'⟩ := List.mem_map.mp hb
      have h1 : p.1 ∈ wr := by simpa using (List.mem_filter.mp hp).2
      exact hnw q hq (by rw [hq', ← e]; exact h1)
    have N₂ : News h₀ env.locals hp (nx ++ own.filter fun p => wr.contains p.1) := fun p hp => by
      rcases List.mem_append.mp hp with h | h
      · exact N₁ p (List.mem_append_right _ h)
      · exact N₁ p (List.mem_append_left _ (List.mem_filter.mp h).1)
    refine wpAny_mono (turn i v m₁ nx hp tk _ hi hP hadr hkx offW hJ F₁ N₂) (fun f s₂ g => ?_) fun _ _ e => e
    have step : InvEndN h₀ env.locals (fun m' nx' => (∀ p ∈ kept, p ∈ nx') ∧ J (i + 1) m' nx') (own.filter fun p => wr.contains p.1) (news.map (·.1)) { s with heap := hp, toks := tk } s₂ →
        LoopStepU h₀ env.locals wr own (fun m nx' => (nx'.map (·.1) = news.map (·.1) ∧ ∀ p ∈ kept, p ∈ nx') ∧ J (i + 1) m nx') { s with heap := hp, toks := tk } .next s₂ := by
      rintro ⟨h', tk', m', news', nx', e, F', N', hn, ho, ha, hk', hJ'⟩
      refine ⟨rfl, h', tk', m', nx', e, F', fun p hpm => ?_, fun p hpm hw => ?_, ⟨ha, hk'⟩, hJ'⟩
      · rcases List.mem_append.mp hpm with h | h
        · rcases hfp p.1 (hown p h) with h1 | h1 | ⟨o, h1⟩
          · exact N' p (ho p (List.mem_filter.mpr ⟨h, by simpa using h1⟩))
          · have h2 := (N₁ p (List.mem_append_left _ h)).2.2
            rw [h2] at h1
            cases h1
          · have h2 := (N₁ _ (List.mem_append_right _ (hkx _ h1))).1
            have h3 := hget p h
            have h4 : p = (p.1, o) := Prod.ext rfl (Option.some.inj (h3.symm.trans h2))
            rw [h4]
            exact N' _ (hn _ (hk' _ h1))
        · exact N' p (hn p h)
      · have h1 : p.1 ∈ news.map (·.1) := ha ▸ List.mem_map.mpr ⟨p, hpm, rfl⟩
        obtain ⟨q, hq, hq'⟩ := List.mem_map.mp h1
        exact hnw q hq (by rw [hq']; exact hw)
    cases f with
    | ret r => exact .ret g
    | brk => exact .brk g
    | next => exact .next (step g)
    | cont => exact .cont (step g)
  · rintro h' tk m' nx F' N' _ ⟨⟨_, hkx⟩, hJ⟩
    exact done m' nx h' tk hkx hJ F' N'
/-- over a list of the ledger, whatever its items are -/
theorem iterJ {l : Addr} {vs : List Value} {nn : Nat} {m₀ : Str → Option Value} {news : List (Addr × Obj)} (J : Nat → (Str → Option Value) → List (Addr × Obj) → Prop)
    (hh : A.handled = none) (hl : (l, listOf vs.toArray nn) ∈ news) (F : Fr h₀ env.locals s.heap m₀) (N : News h₀ env.locals s.heap news) (hj : J 0 m₀ news)
    (turn : ∀ i v m₁ nx h tk own, vs[i]? = some v → nx.map (·.1) = news.map (·.1) → (l, listOf vs.toArray nn) ∈ nx → OwnOff own (news.map (·.1)) → J i m₁ nx → Fr h₀ env.locals h (fun y => if y = x then some v else m₁ y) → News h₀ env.locals h (nx ++ own) →
      wpAny (model prog w) A (execs body env) (InvPostN h₀ env.locals (fun m' nx' => (∀ p ∈ [(l, listOf vs.toArray nn)], p ∈ nx') ∧ J (i + 1) m' nx') own (news.map (·.1)) { s with heap := h, toks := tk } Q) E { s with heap := h, toks := tk })
    (done : ∀ m₁ nx h tk, (l, listOf vs.toArray nn) ∈ nx → J vs.length m₁ nx → Fr h₀ env.locals h m₁ → News h₀ env.locals h nx → Q .next { s with heap := h, toks := tk }) :
    wpAny (model prog w) A (pyIter (.ref l)) (fun it s₂ => LoopAtV prog w A h₀ env x body Q E it s₂) E s := by
  have hol : s.heap.get? l = some (listOf vs.toArray nn) := (N _ hl).1
  have hls : s.heap.IsList l vs.toArray := ⟨_, hol, rfl, nn, rfl⟩
  have hne : l ≠ s.heap.objs.size := Nat.ne_of_lt (Heap.lt_size hol)
  refine wpAny_pyIter_list hls ?_
  have W := Walks.list (prog := prog) (w := w) hh s.heap.objs.size l hne vs.toArray
  have hnx : ∀ p ∈ news, p.1 ∉ [s.heap.objs.size] := fun p hp hm => by
    have := Heap.lt_size (N p hp).1
    rw [List.mem_singleton.mp hm] at this
    exact Nat.lt_irrefl _ this
  refine loopJ [(l, listOf vs.toArray nn)] J W (fun hm => ?_) (fun b hb => ?_) hnx (fun b hb => ?_) ⟨⟨_, Heap.get?_push_size _ rfl, rfl, rfl⟩, hls.at fun o e => Heap.get?_push_of_some _ e⟩ (F.push _)
    (fun p hp => ⟨Heap.get?_push_of_some _ (N p hp).1, (N p hp).2⟩) (fun p hp => List.mem_singleton.mp hp ▸ hl) hj
    (fun i v m₁ nx h tk own hi hP ha hk ho hJ F₁ N₁ => turn i v m₁ nx h tk own (by simpa using hP) ha (hk _ (List.mem_singleton.mpr rfl)) ho hJ F₁ N₁)
    (fun m₁ nx h tk hk hJ F₁ N₁ => done m₁ nx h tk (hk _ (List.mem_singleton.mpr rfl)) (by simpa using hJ) F₁ N₁)
  · rcases List.mem_cons.mp hm with e | e
    · exact absurd F.ns.lt (by rw [e]; exact Nat.lt_irrefl _)
    · exact (N _ hl).2.1 (List.mem_singleton.mp e).symm
  · rw [List.mem_singleton.mp hb]
    exact next_is_new F
  · rcases List.mem_cons.mp hb with e | e
    · exact .inl (List.mem_singleton.mpr e)
    · exact .inr (.inr ⟨_, List.mem_singleton.mpr (by rw [List.mem_singleton.mp e])⟩)
end
end Mine
-- ML2
namespace Mine
noncomputable def TurnS {σ : Type} (Led : σ → List (Addr × Obj)) (ps : σ → List (Str × Value)) (stored : List Str) (x : Str) (m₀ : Str → Option Value) (P : σ → Prop) (m : Str → Option Value) (nx : List (Addr × Obj)) : Prop :=
  ∃ c : σ, nx = Led c ∧ (∀ p ∈ ps c, m p.1 = some p.2) ∧ (∀ z, z ≠ x → (∀ p ∈ ps c, z ≠ p.1) → stored.contains z = false → m z = m₀ z) ∧ P c
section
variable {prog : Program} {w : World} {A : Around} {E : Value → Shared → Prop} {s : Shared} {env : Env} {h₀ : Heap} {x : Str} {body : List Stmt} {Q : Flow → Shared → Prop}
theorem endS {σ : Type} {Led : σ → List (Addr × Obj)} {ps : σ → List (Str × Value)} {stored : List Str} {m₀ m' : Str → Option Value} {P : σ → Prop} {own news' : List (Addr × Obj)} {adr : List Addr} {L : Addr} {h' : Heap} {tk : Nat} (c : σ)
    (F : Fr h₀ L h' m') (N : News h₀ L h' news') (hn : ∀ p ∈ Led c, p ∈ news') (ho : ∀ p ∈ own, p ∈ news') (ha : (Led c).map (·.1) = adr) (hk : ∀ p ∈ ps c, m' p.1 = some p.2)
    (hr : ∀ z, z ≠ x → (∀ p ∈ ps c, z ≠ p.1) → stored.contains z = false → m' z = m₀ z) (hp : P c) : InvEndN h₀ L (TurnS Led ps stored x m₀ P) own adr s { s with heap := h', toks := tk } :=
  InvEndN.intro F N ⟨c, rfl, hk, hr, hp⟩ ha hn ho
theorem invPost_mono {L : Addr} {J J' : (Str → Option Value) → List (Addr × Obj) → Prop} {own : List (Addr × Obj)} {adr : List Addr} {f : Flow} {s₂ : Shared} (hJ : ∀ m nx, J m nx → J' m nx) (h : InvPostN h₀ L J own adr s Q f s₂) : InvPostN h₀ L J' own adr s Q f s₂ := by
  have up : InvEndN h₀ L J own adr s s₂ → InvEndN h₀ L J' own adr s s₂ := by
    rintro ⟨h', tk, m', news', nx, e, F, N, a, b, c, d⟩
    exact ⟨h', tk, m', news', nx, e, F, N, a, b, c, hJ _ _ d⟩
  cases f with
  | ret v => exact h
  | brk => exact h
  | next => exact up h
  | cont => exact up h
theorem iterS {σ : Type} {l : Addr} {vs : List Value} {nn : Nat} {m₀ : Str → Option Value} (Led : σ → List (Addr × Obj)) (ps : σ → List (Str × Value)) (stored : List Str) (P : Nat → σ → Prop) (c₀ : σ)
    (hh : A.handled = none) (hl : ∀ c, (l, listOf vs.toArray nn) ∈ Led c) (F : Fr h₀ env.locals s.heap m₀) (N : News h₀ env.locals s.heap (Led c₀)) (hk : ∀ p ∈ ps c₀, m₀ p.1 = some p.2) (hp : P 0 c₀)
    (turn : ∀ (c : σ) i v (u : Str → Option Value) h tk own, vs[i]? = some v → OwnOff own ((Led c₀).map (·.1)) → P i c →
      Fr h₀ env.locals h (fun y => if y = x then some v else kstB (fun z => if stored.contains z then u z else m₀ z) (ps c) y) → News h₀ env.locals h (Led c ++ own) →
      wpAny (model prog w) A (execs body env) (InvPostN h₀ env.locals (TurnS Led ps stored x m₀ (P (i + 1))) own ((Led c₀).map (·.1)) { s with heap := h, toks := tk } Q) E { s with heap := h, toks := tk })
    (done : ∀ (c : σ) (u : Str → Option Value) h tk, P vs.length c → Fr h₀ env.locals h (fun y => if y = x then u y else kstB (fun z => if stored.contains z then u z else m₀ z) (ps c) y) → News h₀ env.locals h (Led c) → Q .next { s with heap := h, toks := tk }) :
    wpAny (model prog w) A (pyIter (.ref l)) (fun it s₂ => LoopAtV prog w A h₀ env x body Q E it s₂) E s := by
  refine iterJ (fun i => TurnS Led ps stored x m₀ (P i)) hh (hl c₀) F N ⟨c₀, rfl, hk, fun _ _ _ _ => rfl, hp⟩ ?_ ?_
  · rintro i v m₁ nx h tk own hv _ _ hoff ⟨c, rfl, h1, h2, hP⟩ F₁ N₁
    refine wpAny_mono (turn c i v m₁ h tk own hv hoff hP (kst_fr h1 h2 F₁) N₁) (fun f s₂ g => ?_) fun _ _ e => e
    refine invPost_mono (fun m nx hT => ?_) g
    refine ⟨fun p hp => ?_, hT⟩
    rw [List.mem_singleton.mp hp]
    obtain ⟨c', rfl, _⟩ := hT
    exact hl c'
  · rintro m₁ nx h tk _ ⟨c, rfl, h1, h2, hP⟩ F₁ N₁
    exact done c m₁ h tk hP (kst_frOut h1 h2 F₁) N₁
end
end Mine
-- ML3
namespace Mine
section
variable {prog : Program} {w : World} {A : Around} {E : Value → Shared → Prop} {s : Shared} {env : Env} {h₀ : Heap} {xi xc : Str} {body : List Stmt} {Q : Flow → Shared → Prop}
/-- a for loop over pairs: what it reads of the ledger (kept) stays -/
theorem loopP {I : Addr} {fp wr : List Addr} {n : Nat} {Pt : Nat → Array Value → Prop} {St : Nat → Heap → Prop} {Mid : Nat → Addr → Heap → Prop} {P2 : Nat → Value → Value → Prop} {m₀ : Str → Option Value} {news : List (Addr × Obj)} (kept : List (Addr × Obj))
    (J : Nat → (Str → Option Value) → List (Addr × Obj) → Prop) (W : WalksT prog w A I fp wr n Pt St Mid) (h2 : ∀ i vals, Pt i vals → ∃ v0 v1, vals = #[v0, v1] ∧ P2 i v0 v1) (hLf : env.locals ∉ fp) (hwr : ∀ b ∈ wr, h₀.get? b = none) (hnw : ∀ p ∈ news, p.1 ∉ wr)
    (hfp : ∀ b ∈ fp, (∀ q ∈ news, b ≠ q.1) ∨ ∃ o, (b, o) ∈ kept) (hst : St 0 s.heap) (F : Fr h₀ env.locals s.heap m₀) (N : News h₀ env.locals s.heap news) (hk : ∀ p ∈ kept, p ∈ news) (hj : J 0 m₀ news)
    (turn : ∀ i v0 v1 m₁ nx h tk own, i < n → P2 i v0 v1 → nx.map (·.1) = news.map (·.1) → (∀ p ∈ kept, p ∈ nx) → OwnOff own (news.map (·.1)) → J i m₁ nx → Fr h₀ env.locals h (fun y => if y = xc then some v1 else if y = xi then some v0 else m₁ y) → News h₀ env.locals h (nx ++ own) →
      wpAny (model prog w) A (execs body env) (InvPostN h₀ env.locals (fun m' nx' => (∀ p ∈ kept, p ∈ nx') ∧ J (i + 1) m' nx') own (news.map (·.1)) { s with heap := h, toks := tk } Q) E { s with heap := h, toks := tk })
    (done : ∀ m₁ nx h tk, (∀ p ∈ kept, p ∈ nx) → J n m₁ nx → Fr h₀ env.locals h m₁ → News h₀ env.locals h nx → Q .next { s with heap := h, toks := tk }) :
    PairAt3 prog w A h₀ env xi xc body Q E (.ref I) s := by
  refine ⟨I, fp, wr, n, Pt, St, Mid, P2, m₀, news, fun i m nx => (∀ p ∈ kept, p ∈ nx) ∧ J i m nx, rfl, W, h2, hLf, hwr, hnw, hst, F, N, ⟨hk, hj⟩, ?_, ?_⟩
  · rintro i v0 v1 m₁ nx s₁ own ⟨hp, tk, e⟩ hi hP ⟨hkx, hJ⟩ hadr hown F₁ N₁
    subst e
    have apart : ∀ p ∈ own, (kept.all fun q => !decide (q.1 = p.1)) = true → ∀ q ∈ news, p.1 ≠ q.1 := fun p hp hn => by
      rcases hfp p.1 (hown p hp) with h | ⟨o, h⟩
      · exact h
      · have := List.all_eq_true.mp hn _ h
        simp at this
    have offW : OwnOff (own.filter fun p => kept.all fun q => !decide (q.1 = p.1)) (news.map (·.1)) := fun p hp b hb e => by
      obtain ⟨q, hq, hq'⟩ := List.mem_map.mp hb
      exact apart p (List.mem_filter.mp hp).1 (List.mem_filter.mp hp).2 q hq (by rw [hq']; exact e)
    have N₂ : News h₀ env.locals hp (nx ++ own.filter fun p => kept.all fun q => !decide (q.1 = p.1)) := fun p hp => by
      rcases List.mem_append.mp hp with h | h
      · exact N₁ p (List.mem_append_right _ h)
      · exact N₁ p (List.mem_append_left _ (List.mem_filter.mp h).1)
    refine wpAny_mono (turn i v0 v1 m₁ nx hp tk _ hi hP hadr hkx offW hJ F₁ N₂) (fun f s₂ g => ?_) fun _ _ e => e
    have step : InvEndN h₀ env.locals (fun m' nx' => (∀ p ∈ kept, p ∈ nx') ∧ J (i + 1) m' nx') (own.filter fun p => kept.all fun q => !decide (q.1 = p.1)) (news.map (·.1)) { s with heap := hp, toks := tk } s₂ →
        LoopStep2 h₀ env.locals own nx (fun m nx' => (∀ p ∈ kept, p ∈ nx') ∧ J (i + 1) m nx') { s with heap := hp, toks := tk } .next s₂ := by
      rintro ⟨h', tk', m', news', nx', e, F', N', hn, ho, ha, hk', hJ'⟩
      refine ⟨rfl, h', tk', m', nx', e, F', fun p hpm => ?_, ha.trans hadr.symm, hk', hJ'⟩
      rcases List.mem_append.mp hpm with h | h
      · cases hc : (kept.all fun q => !decide (q.1 = p.1)) with
        | true => exact N' p (ho p (List.mem_filter.mpr ⟨h, hc⟩))
        | false =>
          obtain ⟨q, hq, hq'⟩ := List.all_eq_false.mp hc
          have e1 : q.1 = p.1 := by simpa using hq'
          have h2 := (N₁ _ (List.mem_append_right _ (hkx _ hq))).1
          have h3 := (N₁ p (List.mem_append_left _ h)).1
          rw [e1] at h2
          have h4 : p = q := Prod.ext e1.symm (Option.some.inj (h3.symm.trans h2))
          rw [h4]
          exact N' _ (hn _ (hk' _ hq))
      · exact N' p (hn p h)
    cases f with
    | ret r => exact g
    | brk => exact g
    | next => exact step g
    | cont => exact step g
  · rintro h' tk m' nx F' N' _ ⟨hkx, hJ⟩
    exact done m' nx h' tk hkx hJ F' N'
noncomputable def TurnP {σ : Type} (Led : σ → List (Addr × Obj)) (ps : σ → List (Str × Value)) (stored : List Str) (xi xc : Str) (m₀ : Str → Option Value) (P : σ → Prop) (m : Str → Option Value) (nx : List (Addr × Obj)) : Prop :=
  ∃ c : σ, nx = Led c ∧ (∀ p ∈ ps c, m p.1 = some p.2) ∧ (∀ z, z ≠ xi → z ≠ xc → (∀ p ∈ ps c, z ≠ p.1) → stored.contains z = false → m z = m₀ z) ∧ P c
theorem endP {σ : Type} {Led : σ → List (Addr × Obj)} {ps : σ → List (Str × Value)} {stored : List Str} {m₀ m' : Str → Option Value} {P : σ → Prop} {own news' : List (Addr × Obj)} {adr : List Addr} {L : Addr} {h' : Heap} {tk : Nat} (c : σ)
    (F : Fr h₀ L h' m') (N : News h₀ L h' news') (hn : ∀ p ∈ Led c, p ∈ news') (ho : ∀ p ∈ own, p ∈ news') (ha : (Led c).map (·.1) = adr) (hk : ∀ p ∈ ps c, m' p.1 = some p.2)
    (hr : ∀ z, z ≠ xi → z ≠ xc → (∀ p ∈ ps c, z ≠ p.1) → stored.contains z = false → m' z = m₀ z) (hp : P c) : InvEndN h₀ L (TurnP Led ps stored xi xc m₀ P) own adr s { s with heap := h', toks := tk } :=
  InvEndN.intro F N ⟨c, rfl, hk, hr, hp⟩ ha hn ho
theorem pr_map {L : Addr} {h : Heap} {ps : List (Str × Value)} {stored : List Str} {m₀ m₁ : Str → Option Value} {v0 v1 : Value} (h1 : ∀ p ∈ ps, m₁ p.1 = some p.2) (h2 : ∀ z, z ≠ xi → z ≠ xc → (∀ p ∈ ps, z ≠ p.1) → stored.contains z = false → m₁ z = m₀ z)
    (F : Fr h₀ L h (fun y => if y = xc then some v1 else if y = xi then some v0 else m₁ y)) : Fr h₀ L h (fun y => if y = xc then some v1 else if y = xi then some v0 else kstB (fun z => if stored.contains z then m₁ z else m₀ z) ps y) := by
  have e : (fun y => if y = xc then some v1 else if y = xi then some v0 else kstB (fun z => if stored.contains z then m₁ z else m₀ z) ps y) = fun y => if y = xc then some v1 else if y = xi then some v0 else m₁ y := by
    funext y
    by_cases hc : y = xc
    · rw [if_pos hc, if_pos hc]
    · rw [if_neg hc, if_neg hc]
      by_cases hi : y = xi
      · rw [if_pos hi, if_pos hi]
      · rw [if_neg hi, if_neg hi]
        refine kstB_eq h1 fun hn => ?_
        cases h3 : stored.contains y with
        | true => simp [h3]
        | false => simp only [h3, Bool.false_eq_true, if_false]; exact (h2 y hi hc hn h3).symm
  rw [e]; exact F
theorem pr_out {L : Addr} {h : Heap} {ps : List (Str × Value)} {stored : List Str} {m₀ m₁ : Str → Option Value} (h1 : ∀ p ∈ ps, m₁ p.1 = some p.2) (h2 : ∀ z, z ≠ xi → z ≠ xc → (∀ p ∈ ps, z ≠ p.1) → stored.contains z = false → m₁ z = m₀ z)
    (F : Fr h₀ L h m₁) : Fr h₀ L h (fun y => if y = xc then m₁ y else if y = xi then m₁ y else kstB (fun z => if stored.contains z then m₁ z else m₀ z) ps y) := by
  have e : (fun y => if y = xc then m₁ y else if y = xi then m₁ y else kstB (fun z => if stored.contains z then m₁ z else m₀ z) ps y) = m₁ := by
    funext y
    by_cases hc : y = xc
    · rw [if_pos hc]
    · rw [if_neg hc]
      by_cases hi : y = xi
      · rw [if_pos hi]
      · rw [if_neg hi]
        refine kstB_eq h1 fun hn => ?_
        cases h3 : stored.contains y with
        | true => simp [h3]
        | false => simp only [h3, Bool.false_eq_true, if_false]; exact (h2 y hi hc hn h3).symm
  rw [e]; exact F
theorem zipS {σ : Type} {l1 l2 : Addr} {vs1 vs2 : List Value} {n1 n2 : Nat} {m₀ : Str → Option Value} (Led : σ → List (Addr × Obj)) (ps : σ → List (Str × Value)) (stored : List Str) (P : Nat → σ → Prop) (c₀ : σ)
    (hh : A.handled = none) (hl1 : ∀ c, (l1, listOf vs1.toArray n1) ∈ Led c) (hl2 : ∀ c, (l2, listOf vs2.toArray n2) ∈ Led c) (hlen : vs1.length = vs2.length) (F : Fr h₀ env.locals s.heap m₀) (N : News h₀ env.locals s.heap (Led c₀)) (hk : ∀ p ∈ ps c₀, m₀ p.1 = some p.2) (hp : P 0 c₀)
    (turn : ∀ (c : σ) i v0 v1 (u : Str → Option Value) h tk own, vs1[i]? = some v0 → vs2[i]? = some v1 → OwnOff own ((Led c₀).map (·.1)) → P i c →
      Fr h₀ env.locals h (fun y => if y = xc then some v1 else if y = xi then some v0 else kstB (fun z => if stored.contains z then u z else m₀ z) (ps c) y) → News h₀ env.locals h (Led c ++ own) →
      wpAny (model prog w) A (execs body env) (InvPostN h₀ env.locals (TurnP Led ps stored xi xc m₀ (P (i + 1))) own ((Led c₀).map (·.1)) { s with heap := h, toks := tk } Q) E { s with heap := h, toks := tk })
    (done : ∀ (c : σ) (u : Str → Option Value) h tk, P vs1.length c → Fr h₀ env.locals h (fun y => if y = xc then u y else if y = xi then u y else kstB (fun z => if stored.contains z then u z else m₀ z) (ps c) y) → News h₀ env.locals h (Led c) → Q .next { s with heap := h, toks := tk }) :
    wpAny (model prog w) A (call (.type "zip") [.ref l1, .ref l2]) (fun xv s₁ => wpAny (model prog w) A (pyIter xv) (fun it s₂ => PairAt3 prog w A h₀ env xi xc body Q E it s₂) E s₁) E s := by
  have g1 := (N _ (hl1 c₀)).1
  have g2 := (N _ (hl2 c₀)).1
  have hls1 : s.heap.IsList l1 vs1.toArray := ⟨_, g1, rfl, n1, rfl⟩
  have hls2 : s.heap.IsList l2 vs2.toArray := ⟨_, g2, rfl, n2, rfl⟩
  have a1 := Heap.lt_size g1
  have a2 := Heap.lt_size g2
  have hLs : @LT.lt Nat _ env.locals s.heap.objs.size := F.ns.lt
  have hab : @LE.le Nat _ h₀.objs.size env.locals := F.above
  have up : ∀ k : Nat, env.locals ≠ s.heap.objs.size + k := fun k e => absurd hLs (by rw [e]; lia)
  have hsz0 : ∀ k : Nat, @LE.le Nat _ h₀.objs.size (s.heap.objs.size + k) := fun k => by lia
  refine call_zip_2 hls1 hls2 fun h' hz hTI hTO hit1 hit2 hsz hkp => ?_
  have W := WalksT.zip2 (prog := prog) (w := w) hh (s.heap.objs.size + 4) (s.heap.objs.size + 2) (s.heap.objs.size + 3) s.heap.objs.size (s.heap.objs.size + 1) l1 l2 (zipApart_new a1 a2) vs1.toArray vs2.toArray
  have hst : IsZip h' (s.heap.objs.size + 4) (s.heap.objs.size + 2) (s.heap.objs.size + 3) .none ∧ IsPair h' (s.heap.objs.size + 2) (.ref s.heap.objs.size) (.ref (s.heap.objs.size + 1)) ∧ (∃ a b, IsPair h' (s.heap.objs.size + 3) a b) ∧ h'.IsListIter s.heap.objs.size l1 0 ∧ h'.IsListIter (s.heap.objs.size + 1) l2 0 ∧ h'.IsList l1 vs1.toArray ∧ h'.IsList l2 vs2.toArray :=
    ⟨hz, hTI, ⟨_, _, hTO⟩, hit1, hit2, hls1.at fun o e => hkp l1 o e, hls2.at fun o e => hkp l2 o e⟩
  refine W.self 0 _ _ _ hst ?_
  have hnew : ∀ k : Nat, ∀ q ∈ Led c₀, s.heap.objs.size + k ≠ q.1 := fun k q hq e => by
    have h9 : @LT.lt Nat _ q.1 s.heap.objs.size := Heap.lt_size (N q hq).1
    rw [← e] at h9
    exact absurd h9 (by lia)
  have hmin : min vs1.toArray.size vs2.toArray.size = vs1.length := by simp [hlen]
  rw [hmin] at W
  refine loopP [(l1, listOf vs1.toArray n1), (l2, listOf vs2.toArray n2)] (fun i => TurnP Led ps stored xi xc m₀ (P i)) W (P2 := fun i v0 v1 => vs1[i]? = some v0 ∧ vs2[i]? = some v1) (fun i vals h => ?_) (fun hm => ?_) (fun b hb => ?_) (fun p hp hm => ?_) (fun b hb => ?_) hst
    ⟨F.ns.keeps hkp, fun b o e => hkp b o (F.keep b o e), F.above⟩ (fun p hp => ⟨hkp _ _ (N p hp).1, (N p hp).2⟩) (fun p hp => ?_) ⟨c₀, rfl, hk, fun _ _ _ _ _ => rfl, hp⟩ ?_ ?_
  · obtain ⟨x, y, hx, hy, rfl⟩ := h
    exact ⟨x, y, rfl, by simpa using hx, by simpa using hy⟩
  · simp only [List.mem_cons, List.not_mem_nil, or_false] at hm
    rcases hm with e | e | e | e | e | e | e
    · exact up 4 e
    · exact up 2 e
    · exact up 3 e
    · exact up 0 e
    · exact up 1 e
    · exact (N _ (hl1 c₀)).2.1 e.symm
    · exact (N _ (hl2 c₀)).2.1 e.symm
  · have nw : ∀ k, h₀.get? (s.heap.objs.size + k) = none := fun k => Heap.get?_none_of_le (hsz0 k)
    simp only [List.mem_cons, List.not_mem_nil, or_false] at hb
    rcases hb with rfl | rfl | rfl | rfl
    · exact nw 4
    · exact nw 3
    · exact nw 0
    · exact nw 1
  · simp only [List.mem_cons, List.not_mem_nil, or_false] at hm
    rcases hm with e | e | e | e
    · exact hnew 4 p hp e.symm
    · exact hnew 3 p hp e.symm
    · exact hnew 0 p hp e.symm
    · exact hnew 1 p hp e.symm
  · simp only [List.mem_cons, List.not_mem_nil, or_false] at hb
    rcases hb with rfl | rfl | rfl | rfl | rfl | rfl | rfl
    · exact .inl (hnew 4)
    · exact .inl (hnew 2)
    · exact .inl (hnew 3)
    · exact .inl (hnew 0)
    · exact .inl (hnew 1)
    · exact .inr ⟨_, .head _⟩
    · exact .inr ⟨_, .tail _ (.head _)⟩
  · simp only [List.mem_cons, List.not_mem_nil, or_false] at hp
    rcases hp with rfl | rfl
    · exact hl1 c₀
    · exact hl2 c₀
  · rintro i v0 v1 m₁ nx h tk own _ ⟨hx, hy⟩ _ _ hoff ⟨c, rfl, h1, h2, hP⟩ F₁ N₁
    refine wpAny_mono (turn c i v0 v1 m₁ h tk own hx hy hoff hP (pr_map h1 h2 F₁) N₁) (fun f s₂ g => ?_) fun _ _ e => e
    refine invPost_mono (fun m nx hT => ⟨fun p hp => ?_, hT⟩) g
    obtain ⟨c', rfl, _⟩ := hT
    simp only [List.mem_cons, List.not_mem_nil, or_false] at hp
    rcases hp with rfl | rfl
    · exact hl1 c'
    · exact hl2 c'
  · rintro m₁ nx h tk _ ⟨c, rfl, h1, h2, hP⟩ F₁ N₁
    exact done c m₁ h tk hP (pr_out h1 h2 F₁) N₁
end
end Mine
-- MR
namespace Mine
theorem ki_delL_last : ∀ (vs : List Value) (z : Value), ki_delL (vs ++ [z]) vs.length = some vs
  | [], _ => rfl
  | v :: vs, z => by
    have := ki_delL_last vs z
    simp only [List.cons_append, List.length_cons, ki_delL, this]
section
variable {prog : Program} {w : World} {A : Around} {E : Value → Shared → Prop} {s : Shared} {h₀ : Heap} {L : Addr} {m : Str → Option Value} {news news' : List (Addr × Obj)}
theorem len_led {D : Addr} {vs : List Value} {n : Nat} {Q : Value → Shared → Prop} (N : News h₀ L s.heap news) (hm : (D, listOf vs.toArray n) ∈ news) (hfit : vs.length < 2 ^ 62)
    (h : Q (.int (vs.length : Nat) (s.toks + 1)) { s with toks := s.toks + 1 + 1 }) : wpAny (model prog w) A (call (.builtin "len") [.ref D]) Q E s :=
  len_list (News.isList N hm) (by simp only [List.size_toArray]; lia) (by simpa only [List.size_toArray] using h)
theorem item_first {value slice : Expr} {D : Addr} {v : Value} {r : List Value} {n : Nat} {k : Int} {u : Tok} {Q : Value → Shared → Prop} (N : News h₀ L s.heap news) (hm : (D, listOf (v :: r).toArray n) ∈ news) (ek : k = 0) (h : Q v s)
    (hs : subscripted slice false (.ref D) (.int k u) = operate [.ref D, .int k u] (getItem (.ref D) (.int k u)) := by with_unfolding_all rfl) (hg : ∀ r, letTemporaryGo value (.ref D) r = pure () := by intro _; with_unfolding_all rfl) :
    wpAny (model prog w) A (subscriptTail value slice (.ref D) (.int k u)) Q E s := by
  subst ek
  exact item_listL (News.isList N hm) (Int.le_refl 0) (by decide) rfl h hs hg
theorem item_last {value slice : Expr} {D : Addr} {vs : List Value} {z : Value} {n : Nat} {k : Int} {u : Tok} {Q : Value → Shared → Prop} (N : News h₀ L s.heap news) (hm : (D, listOf (vs ++ [z]).toArray n) ∈ news) (ek : k = -1) (h : Q z s)
    (hs : subscripted slice false (.ref D) (.int k u) = operate [.ref D, .int k u] (getItem (.ref D) (.int k u)) := by with_unfolding_all rfl) (hg : ∀ r, letTemporaryGo value (.ref D) r = pure () := by intro _; with_unfolding_all rfl) :
    wpAny (model prog w) A (subscriptTail value slice (.ref D) (.int k u)) Q E s := by
  subst ek
  have hL := News.isList N hm
  refine subscriptTail_builtin hL.typeIs slot_list_getitem.lookup (wpAny_getItem_list_neg hL (by decide) (by simp; lia) (by decide) ?_ h) hs hg
  have e : ((-1 : Int) + ((vs ++ [z]).toArray.size : Nat)).toNat = vs.length := by simp; lia
  rw [e]
  simp
theorem item_last' {value slice : Expr} {D : Addr} {vs : List Value} {v z : Value} {n : Nat} {k : Int} {u : Tok} {Q : Value → Shared → Prop} (N : News h₀ L s.heap news) (hm : (D, listOf (v :: (vs ++ [z])).toArray n) ∈ news) (ek : k = -1) (h : Q z s)
    (hs : subscripted slice false (.ref D) (.int k u) = operate [.ref D, .int k u] (getItem (.ref D) (.int k u)) := by with_unfolding_all rfl) (hg : ∀ r, letTemporaryGo value (.ref D) r = pure () := by intro _; with_unfolding_all rfl) :
    wpAny (model prog w) A (subscriptTail value slice (.ref D) (.int k u)) Q E s := item_last (vs := v :: vs) N hm ek h hs hg
theorem del_first {D : Addr} {v : Value} {r : List Value} {n : Nat} {k : Int} {u : Tok} {Q : Unit → Shared → Prop} (F : Fr h₀ L s.heap m) (N : News h₀ L s.heap news) (ek : k = 0) (U : Upd D (listOf (v :: r).toArray n) (listOf r.toArray (n + 1)) news news') (hz : r.length < 1000000)
    (h : ∀ h', Fr h₀ L h' m → News h₀ L h' news' → Q () { s with heap := h' }) : wpAny (model prog w) A (delItem (.ref D) (.int k u)) Q E s := by
  subst ek
  exact ki_del (k := 0) F N rfl (by simp [seqIndex?]) (by rfl) U (by show (v :: r).length ≤ sizeLine; rw [List.length_cons, sizeLine_eq]; lia) h
theorem del_last {D : Addr} {vs : List Value} {z : Value} {n : Nat} {k : Int} {u : Tok} {Q : Unit → Shared → Prop} (F : Fr h₀ L s.heap m) (N : News h₀ L s.heap news) (ek : k = -1) (U : Upd D (listOf (vs ++ [z]).toArray n) (listOf vs.toArray (n + 1)) news news') (hz : vs.length < 1000000)
    (h : ∀ h', Fr h₀ L h' m → News h₀ L h' news' → Q () { s with heap := h' }) : wpAny (model prog w) A (delItem (.ref D) (.int k u)) Q E s := by
  subst ek
  exact ki_del (k := vs.length) F N rfl (by rw [PySem.seqIndex_neg (by decide) (by simp; lia)]; congr 1; simp; lia) (by rw [List.toList_toArray]; exact ki_delL_last vs z) U (by rw [List.toList_toArray, List.length_append, sizeLine_eq]; simp; lia) h
theorem del_last' {D : Addr} {vs : List Value} {v z : Value} {n : Nat} {k : Int} {u : Tok} {Q : Unit → Shared → Prop} (F : Fr h₀ L s.heap m) (N : News h₀ L s.heap news) (ek : k = -1) (U : Upd D (listOf (v :: (vs ++ [z])).toArray n) (listOf (v :: vs).toArray (n + 1)) news news') (hz : vs.length < 10000)
    (h : ∀ h', Fr h₀ L h' m → News h₀ L h' news' → Q () { s with heap := h' }) : wpAny (model prog w) A (delItem (.ref D) (.int k u)) Q E s :=
  del_last (vs := v :: vs) F N ek U (by rw [List.length_cons]; lia) h
open PySem.Builtin PySem.Builtin.Str in
/-- a text cut at a mark that stands in it: two parts or more -/
theorem split_two {x y : Str} {t u : Tok} {Q : Value → Shared → Prop} (F : Fr h₀ L s.heap m) (N : News h₀ L s.heap news) (hy : (y.length == 0) = false) (hk : ∀ x : Str, Str.strKind x < Str.strKind y → False) (hin : (occurrences x y 0 x.length 1).isEmpty = false)
    (h : ∀ D a ta mid z tz h' k, ((a, ta) :: (mid ++ [(z, tz)])).map (·.1) = Txt.split x y → a.length ≤ x.length → (∀ p ∈ mid, p.1.length ≤ x.length) → z.length ≤ x.length → mid.length ≤ x.length → Fr h₀ L h' m → News h₀ L h' ((D, listOf (Value.str a ta :: (strValues mid ++ [Value.str z tz])).toArray 0) :: news) → (∀ p ∈ news, p.1 < D) → Q (.ref D) { s with heap := h', toks := k }) (hsz : x.length < 1000000) :
    wpAny (model prog w) A (call (.builtin "str.split") [.str x t, .str y u]) Q E s := by
  refine KSpl.split1 F N hy (fun D l h' k e _ F' N' hl => ?_) (by rw [sizeLine_eq]; lia)
  have hpos : 1 ≤ y.length := by
    rcases Nat.eq_zero_or_pos y.length with h0 | h0
    · rw [h0] at hy; cases hy
    · exact h0
  have hlen : y.length ≤ x.length := by
    rcases StrLaws.occ_head x y 1 (Nat.le_refl 1) with ⟨h0, _⟩ | ⟨i, r, _, h1, _⟩
    · rw [h0] at hin; cases hin
    · have := h1.1; lia
  have hnE : (occurrences x y 0 x.length (x.length + 1)).isEmpty = false := by
    rcases StrLaws.occ_head x y 1 (Nat.le_refl 1) with ⟨h0, _⟩ | ⟨i, r, _, h1, _⟩
    · rw [h0] at hin; cases hin
    · rcases StrLaws.occ_head x y (x.length + 1) (by lia) with ⟨_, h2⟩ | ⟨i', r', h2, _⟩
      · exact absurd h1 (h2 i)
      · rw [h2]; rfl
  have hs : Txt.split x y = partsBetween x (occurrences x y 0 x.length (x.length + 1)) y.length := by
    unfold Txt.split
    rw [if_neg, if_neg (by rw [hnE]; exact Bool.false_ne_true)]
    rw [Bool.or_eq_true, decide_eq_true_eq, decide_eq_true_eq]
    intro hc
    rcases hc with hc | hc
    · lia
    · exact hk x hc
  have hL : l.length = (occurrences x y 0 x.length (x.length + 1)).length + 1 := by
    have := congrArg List.length e
    rw [List.length_map, hs, length_partsBetween] at this
    exact this
  have hle : (occurrences x y 0 x.length (x.length + 1)).length ≤ x.length + 1 := StrLaws.occ_length_le x y 0 x.length (x.length + 1)
  have hne : (occurrences x y 0 x.length (x.length + 1)).length ≠ 0 := by
    intro h0
    rw [List.length_eq_zero_iff] at h0
    rw [h0] at hnE
    cases hnE
  cases l with
  | nil => simp at hL
  | cons p r =>
    have hr : r ≠ [] := by
      intro h0
      rw [h0] at hL
      simp at hL
      exact hne (by rw [hL]; rfl)
    obtain ⟨mid, q, hq⟩ : ∃ mid q, r = mid ++ [q] := ⟨r.dropLast, r.getLast hr, (List.dropLast_concat_getLast hr).symm⟩
    subst hq
    obtain ⟨a, ta⟩ := p
    obtain ⟨z, tz⟩ := q
    refine h D a ta mid z tz h' k e (part_short (y := y) (by rw [← e]; exact .head _)) (fun p hp => part_short (y := y) (by rw [← e]; exact List.mem_map.mpr ⟨p, .tail _ (List.mem_append_left _ hp), rfl⟩)) (part_short (y := y) (by rw [← e]; exact List.mem_map.mpr ⟨(z, tz), .tail _ (List.mem_append_right _ (.head _)), rfl⟩)) ?_ F' ?_ hl
    · simp at hL
      lia
    · simpa [strValues] using N'
end
end Mine
-- MC
namespace Mine
theorem rows1_MC : True := by
  k_with_none
  k_with "k_ne" => first | exact ne_l1 (by with_reducible assumption) | exact ne_r1 (by with_reducible assumption) | exact ne_l2 (by with_reducible assumption) | exact ne_r2 (by with_reducible assumption) | exact ne_l3 (by with_reducible assumption) | exact ne_r3 (by with_reducible assumption) | exact ne_l0 (by with_reducible assumption) | exact ne_r0 (by with_reducible assumption) | exact ne_l4 (by with_reducible assumption) | exact ne_r4 (by with_reducible assumption) | exact ne_l5 (by with_reducible assumption) | exact ne_r5 (by with_reducible assumption)
  k_with "ktr_room" => first | exact room_c 0 hd rfl | exact room_c 1 hd rfl | exact room_c 6 hd rfl | exact room_c 9 hd rfl | exact room_c 21 hd rfl | exact Nat.le_of_ble_eq_true rfl
  k_with "ktr_units" => first | exact room_c 43 hu rfl | exact room_c 63 hu rfl | exact room_c 203 hu rfl | exact Nat.le_of_ble_eq_true rfl
  k_with "call builtin:str.find" => (k_dflt (k_here; (with_reducible show wpAny _ _ (call (Value.builtin "str.find") [Value.str _ _, Value.str _ _, Value.int _ _, Value.int _ _]) _ _ _); refine call_find4 ?_))
  k_with "call builtin:str.rfind" => (k_dflt (k_here; (with_reducible show wpAny _ _ (call (Value.builtin "str.rfind") [Value.str _ _, Value.str _ _, Value.int _ _, Value.int _ _]) _ _ _); refine call_rfind4 ?_))
  k_with "call ref" => (k_here; refine wpAny_call ?_; k_dflt (refine' code_def ?k1z6 ?k2z6 ?k3z6 ?k4z6 ?k5z6 ?kAz6 ?kFz6 ?kKz6 ?k6z6 ?k7z6 ?k8z6 ?k9z6 ?kBz6 ?_ ?c2z6 ?c3z6 ?c4z6 ?c5z6; (case kAz6 => exact rfl); (case kFz6 => exact rfl); (case kKz6 => first | exact rfl | assumption); (case k1z6 => k_asm); (case k2z6 => k_asm); (case k3z6 => k_asm); (case k4z6 => k_asm); (case k5z6 => k_asm); (case k6z6 => k_is); (case k7z6 => k_is); (case k8z6 => ktr_room); (case k9z6 => exact BindsTo.of_eq rfl); (case c5z6 => decide); (case kBz6 => exact locs rfl); (case c2z6 => exact rfl); (case c3z6 => exact rfl); (case c4z6 => exact rfl); k_whole; intro g' L' h' FG' F' N' B' X' T'; (try dsimp only); (try k_lift B'); (try k_fold)))
  k_with "call ref" => (k_here; (with_reducible show wpAny _ _ (call (Value.ref 67) [Value.str _ _, Value.str _ _]) _ _ _); k_dflt (refine' strcoll _ _ _ _ _ _ _ _ _ _ _ _ _ _ _ _ _ _ _ _ _ _ _ _ _ _ ?k1z7 ?k2z7 ?k3z7 ?k4z7 ?k5z7 ?kKz7 ?kdz7 ?kuz7  ?_; (case k1z7 => k_asm); (case k2z7 => k_asm); (case k3z7 => k_in); (case k4z7 => k_asm); (case k5z7 => k_asm); (case kKz7 => first | exact rfl | assumption); (case kdz7 => ktr_room); (case kuz7 => ktr_units); intro t9 h9 tk9 F9 N9; (try dsimp only); (try k_fold)))
  k_with "call ref" => (k_here; (with_reducible show wpAny _ _ (call (Value.ref 84) [Value.int _ _]) _ _ _); k_dflt (refine' isterm _ _ _ _ _ _ _ _ _ _ _ _ _ _ _ _ _ _ _ _ _ _ _ _ ?k1z8 ?k2z8 ?k3z8 ?k4z8 ?k5z8 ?kKz8 ?kdz8 ?kuz8  ?_; (case k1z8 => k_asm); (case k2z8 => k_asm); (case k3z8 => k_in); (case k4z8 => k_asm); (case k5z8 => k_asm); (case kKz8 => first | exact rfl | assumption); (case kdz8 => ktr_room); (case kuz8 => ktr_units); intro t9 h9 tk9 F9 N9; (try dsimp only); (try k_fold)))
  k_with "call ref" => (k_here; (with_reducible show wpAny _ _ (call (Value.ref 91) [Value.int _ _]) _ _ _); k_dflt (refine' iseof _ _ _ _ _ _ _ _ _ _ _ _ _ _ _ _ _ _ _ _ _ _ _ _ ?k1z9 ?k2z9 ?k3z9 ?k4z9 ?k5z9 ?kKz9 ?kdz9 ?kuz9  ?_; (case k1z9 => k_asm); (case k2z9 => k_asm); (case k3z9 => k_in); (case k4z9 => k_asm); (case k5z9 => k_asm); (case kKz9 => first | exact rfl | assumption); (case kdz9 => ktr_room); (case kuz9 => ktr_units); intro t9 h9 tk9 F9 N9; (try dsimp only); (try k_fold)))
  k_with "call ref" => (k_here; (with_reducible show wpAny _ _ (call (Value.ref 28) [Value.str _ _]) _ _ _); k_dflt (refine' stripd _ _ _ ?hxz10 _ _ _ _ _ _ _ _ _ _ _ _ _ _ _ _ _ _ _ _ _ ?k1z10 ?k2z10 ?k3z10 ?k4z10 ?k5z10 ?kKz10 ?kdz10 ?kuz10  ?_; (case k1z10 => k_asm); (case k2z10 => k_asm); (case k3z10 => k_in); (case k4z10 => k_asm); (case k5z10 => k_asm); (case kKz10 => first | exact rfl | assumption); (case kdz10 => ktr_room); (case kuz10 => ktr_units); (case hxz10 => first | assumption | omega | size_fits); intro t9 h9 tk9 F9 N9; (try dsimp only); (try k_fold)))
  trivial
theorem parse (w : World) (x : Str) (tx : Tok) (hx : x.length < 1000) (h3 : Txt.slice x none (some 3) = Str.ofString "257") : Claim1 w 60 [.str x tx] (fun t => .str (parseP x) t) := by
  unfold Claim1; k_fill
  intro pT lT mean mg mb dp un gd cn cs a ccd cl outer A₀ base h₀ L m news s Q E B F X N T hk hd hu hret
  refine wpAny_call ?_
  k_dflt (refine' code_def (binds := [(Str.ofString "resp", Value.str x tx)]) ?k1 ?k2 ?k3 ?k4 ?k5 ?kA ?kF ?kK ?k6 ?k7 ?k8 ?k9 ?kB ?_ ?c2 ?c3 ?c4 ?c5; (case kA => exact rfl); (case kF => exact rfl); (case kK => assumption); (case k1 => k_asm); (case k2 => k_asm); (case k3 => k_asm); (case k4 => k_asm); (case k5 => k_asm); (case k6 => k_is); (case k7 => k_is); (case k8 => ktr_room); (case k9 => exact BindsTo.of_eq rfl); (case c5 => decide); (case kB => exact locs rfl); (case c2 => exact rfl); (case c3 => exact rfl); (case c4 => exact rfl); k_whole; intro g' L' h' FG' F' N' B' X' T'; (try dsimp only); (try k_lift B'); (try k_fold))
  k_with "exec While Compare cons nil" => k_while (fun _ i d => (5 ≤ i ∧ i ≤ 1000) ∧ (d.length : Int) ≤ i ∧ InvP x i d) (fun _ i _ => x.length - i.toNat) "i" "dirname"
  k_with "state" => first | exact pa_start | exact pa_one (by assumption) (by assumption) (by assumption) (by assumption) (by assumption) (by assumption) | exact pa_two (by assumption) (by assumption) (by assumption) (by assumption) (by assumption) (by assumption) (by omega) (by assumption)
  k_steps
  · exfalso
    rename ((Txt.slice x none (some 3) != Str.ofString "257") = true) => h9
    rw [h3] at h9
    exact absurd h9 (by decide +kernel)
  all_goals (rename Fr _ _ _ _ => kF; rename News _ _ _ _ => kN; refine cb_retS hret ?_ kF kN)
  · unfold parseP
    rw [if_pos (by assumption)]
  · exact pa_stop1 (by assumption) (by assumption) (by assumption) (by assumption) (by omega) (by assumption)
  · exact pa_stop2 (by assumption) (by assumption) (by assumption) (by assumption) (by omega) (by assumption) (by assumption)
  · exact pa_end (by assumption) (by assumption) (by assumption) (by assumption)
theorem rows2_MC : True := by
  k_with "call ref" => (k_here; (with_reducible show wpAny _ _ (call (Value.ref 60) [Value.str _ _]) _ _ _); k_dflt (refine' parse _ _ _ ?hxz11 ?h3z11 _ _ _ _ _ _ _ _ _ _ _ _ _ _ _ _ _ _ _ _ _ ?k1z11 ?k2z11 ?k3z11 ?k4z11 ?k5z11 ?kKz11 ?kdz11 ?kuz11  ?_; (case k1z11 => k_asm); (case k2z11 => k_asm); (case k3z11 => k_in); (case k4z11 => k_asm); (case k5z11 => k_asm); (case kKz11 => first | exact rfl | assumption); (case kdz11 => ktr_room); (case kuz11 => ktr_units); (case hxz11 => first | assumption | omega); (case h3z11 => assumption); intro t9 h9 tk9 F9 N9; (try dsimp only); (try k_fold)))
  trivial
end Mine
-- ME
namespace Mine
theorem rows1_ME : True := by
  k_with_none
  k_with "k_ne" => first | exact ne_l1 (by with_reducible assumption) | exact ne_r1 (by with_reducible assumption) | exact ne_l2 (by with_reducible assumption) | exact ne_r2 (by with_reducible assumption) | exact ne_l3 (by with_reducible assumption) | exact ne_r3 (by with_reducible assumption) | exact ne_l0 (by with_reducible assumption) | exact ne_r0 (by with_reducible assumption) | exact ne_l4 (by with_reducible assumption) | exact ne_r4 (by with_reducible assumption) | exact ne_l5 (by with_reducible assumption) | exact ne_r5 (by with_reducible assumption)
  k_with "ktr_room" => first | exact room_c 0 hd rfl | exact room_c 1 hd rfl | exact room_c 6 hd rfl | exact room_c 9 hd rfl | exact room_c 21 hd rfl | exact Nat.le_of_ble_eq_true rfl
  k_with "ktr_units" => first | exact room_c 43 hu rfl | exact room_c 63 hu rfl | exact room_c 203 hu rfl | exact Nat.le_of_ble_eq_true rfl
  k_with "call builtin:str.find" => (k_dflt (k_here; (with_reducible show wpAny _ _ (call (Value.builtin "str.find") [Value.str _ _, Value.str _ _, Value.int _ _, Value.int _ _]) _ _ _); refine call_find4 ?_))
  k_with "call builtin:str.rfind" => (k_dflt (k_here; (with_reducible show wpAny _ _ (call (Value.builtin "str.rfind") [Value.str _ _, Value.str _ _, Value.int _ _, Value.int _ _]) _ _ _); refine call_rfind4 ?_))
  k_with "call ref" => (k_here; refine wpAny_call ?_; k_dflt (refine' code_def ?k1z6 ?k2z6 ?k3z6 ?k4z6 ?k5z6 ?kAz6 ?kFz6 ?kKz6 ?k6z6 ?k7z6 ?k8z6 ?k9z6 ?kBz6 ?_ ?c2z6 ?c3z6 ?c4z6 ?c5z6; (case kAz6 => exact rfl); (case kFz6 => exact rfl); (case kKz6 => first | exact rfl | assumption); (case k1z6 => k_asm); (case k2z6 => k_asm); (case k3z6 => k_asm); (case k4z6 => k_asm); (case k5z6 => k_asm); (case k6z6 => k_is); (case k7z6 => k_is); (case k8z6 => ktr_room); (case k9z6 => exact BindsTo.of_eq rfl); (case c5z6 => decide); (case kBz6 => exact locs rfl); (case c2z6 => exact rfl); (case c3z6 => exact rfl); (case c4z6 => exact rfl); k_whole; intro g' L' h' FG' F' N' B' X' T'; (try dsimp only); (try k_lift B'); (try k_fold)))
  k_with "call ref" => (k_here; (with_reducible show wpAny _ _ (call (Value.ref 67) [Value.str _ _, Value.str _ _]) _ _ _); k_dflt (refine' strcoll _ _ _ _ _ _ _ _ _ _ _ _ _ _ _ _ _ _ _ _ _ _ _ _ _ _ ?k1z7 ?k2z7 ?k3z7 ?k4z7 ?k5z7 ?kKz7 ?kdz7 ?kuz7  ?_; (case k1z7 => k_asm); (case k2z7 => k_asm); (case k3z7 => k_in); (case k4z7 => k_asm); (case k5z7 => k_asm); (case kKz7 => first | exact rfl | assumption); (case kdz7 => ktr_room); (case kuz7 => ktr_units); intro t9 h9 tk9 F9 N9; (try dsimp only); (try k_fold)))
  k_with "call ref" => (k_here; (with_reducible show wpAny _ _ (call (Value.ref 84) [Value.int _ _]) _ _ _); k_dflt (refine' isterm _ _ _ _ _ _ _ _ _ _ _ _ _ _ _ _ _ _ _ _ _ _ _ _ ?k1z8 ?k2z8 ?k3z8 ?k4z8 ?k5z8 ?kKz8 ?kdz8 ?kuz8  ?_; (case k1z8 => k_asm); (case k2z8 => k_asm); (case k3z8 => k_in); (case k4z8 => k_asm); (case k5z8 => k_asm); (case kKz8 => first | exact rfl | assumption); (case kdz8 => ktr_room); (case kuz8 => ktr_units); intro t9 h9 tk9 F9 N9; (try dsimp only); (try k_fold)))
  k_with "call ref" => (k_here; (with_reducible show wpAny _ _ (call (Value.ref 91) [Value.int _ _]) _ _ _); k_dflt (refine' iseof _ _ _ _ _ _ _ _ _ _ _ _ _ _ _ _ _ _ _ _ _ _ _ _ ?k1z9 ?k2z9 ?k3z9 ?k4z9 ?k5z9 ?kKz9 ?kdz9 ?kuz9  ?_; (case k1z9 => k_asm); (case k2z9 => k_asm); (case k3z9 => k_in); (case k4z9 => k_asm); (case k5z9 => k_asm); (case kKz9 => first | exact rfl | assumption); (case kdz9 => ktr_room); (case kuz9 => ktr_units); intro t9 h9 tk9 F9 N9; (try dsimp only); (try k_fold)))
  k_with "call ref" => (k_here; (with_reducible show wpAny _ _ (call (Value.ref 28) [Value.str _ _]) _ _ _); k_dflt (refine' stripd _ _ _ ?hxz10 _ _ _ _ _ _ _ _ _ _ _ _ _ _ _ _ _ _ _ _ _ ?k1z10 ?k2z10 ?k3z10 ?k4z10 ?k5z10 ?kKz10 ?kdz10 ?kuz10  ?_; (case k1z10 => k_asm); (case k2z10 => k_asm); (case k3z10 => k_in); (case k4z10 => k_asm); (case k5z10 => k_asm); (case kKz10 => first | exact rfl | assumption); (case kdz10 => ktr_room); (case kuz10 => ktr_units); (case hxz10 => first | assumption | omega | size_fits); intro t9 h9 tk9 F9 N9; (try dsimp only); (try k_fold)))
  trivial
noncomputable def emLoop (got : Str) (e : Int) : List Str → Int → Bool
  | [], _ => true
  | w :: r, st => if find4 got w st e < 0 then false else emLoop got e r (find4 got w st e + w.length)
noncomputable def emCut (got : Str) (st : Int) (ws : List Str) (e : Int) : Bool := if e < st then false else emLoop got e ws st
noncomputable def emEnd (got : Str) (st : Int) (ws : List Str) (z : Str) : Bool := if (z.length : Int) = 0 then emCut got st (ws ++ [z]) got.length else if Txt.endswith got z = true then emCut got st ws (got.length - z.length) else false
noncomputable def emP (got a : Str) (mid : List Str) (z : Str) : Bool := if (a.length : Int) = 0 then emEnd got 0 (a :: mid) z else if Txt.startswith got a = true then emEnd got a.length mid z else false
noncomputable abbrev dots : Str := Str.ofString "..."
theorem kind_dots : ∀ x : Str, Builtin.Str.strKind x < Builtin.Str.strKind (Str.ofString "...") → False := by
  intro x h
  have h1 : Builtin.Str.strKind (Str.ofString "...") = 1 := by decide +kernel
  rw [h1] at h
  unfold Builtin.Str.strKind at h
  split at h <;> (try split at h) <;> omega
open PySem.Builtin PySem.Builtin.Str in
noncomputable def ellP (x y : Str) : Bool := if (occurrences x dots 0 x.length 1).isEmpty = true then x == y else
  match Txt.split x dots with
  | a :: r => emP y a r.dropLast (r.getLastD a)
  | [] => false
theorem find4_le (x y : Str) (i j : Int) : find4 x y i j + y.length ≤ x.length ∨ find4 x y i j = -1 := by
  unfold find4
  split
  · rename_i k r h
    left
    rw [StrLaws.occ_eq] at h
    rcases StrLaws.occ_first x y (hiOf x.length j) 1 (Nat.le_refl 1) (List.range' (fromIndex x.length i) (hiOf x.length j + 1 - fromIndex x.length i)) (fromIndex x.length i) (fun k hk => (List.mem_range'_1.mp hk).1) with ⟨h0, _⟩ | ⟨pre, a, post, _, h0, ha, _⟩
    · rw [h0] at h; cases h
    · have h1 : (k :: r)[0]? = some a := by rw [← h]; simpa using h0
      have h2 : k = a := by simpa using h1
      subst h2
      have h3 := ha.1
      have h4 : hiOf x.length j ≤ x.length := by unfold hiOf; omega
      omega
  · exact .inr rfl
section
variable {prog : Program} {w : World} {A : Around} {E : Value → Shared → Prop} {s : Shared} {env : Env} {h₀ : Heap} {x : Str} {body : List Stmt} {Q : Flow → Shared → Prop}
theorem em_loop {got : Str} {e st0 : Int} {t0 : Tok} (ps : List (Str × Tok)) {l : Addr} {vs : List Value} {nn : Nat} {m₀ : Str → Option Value} {news : List (Addr × Obj)} (hvs : vs = strValues ps)
    {te tg : Tok} (hh : A.handled = none) (hl : (l, listOf vs.toArray nn) ∈ news) (F : Fr h₀ env.locals s.heap m₀) (N : News h₀ env.locals s.heap news) (hk : m₀ (Str.ofString "startpos") = some (.int st0 t0)) (_he : m₀ (Str.ofString "endpos") = some (.int e te)) (_hg : m₀ (Str.ofString "got") = some (.str got tg))
    (h0 : 0 ≤ st0) (hle : st0 ≤ got.length) (hps : ∀ p ∈ ps, p.1.length < 1000)
    (turn : ∀ (v : Str) tv (rest : List Str) (st : Int) t (u : Str → Option Value) h tk own, 0 ≤ st → st ≤ got.length → v.length < 1000 → OwnOff own (news.map (·.1)) → emLoop got e (v :: rest) st = emLoop got e (ps.map (·.1)) st0 →
      Fr h₀ env.locals h (fun y => if y = x then some (.str v tv) else if y = Str.ofString "startpos" then some (.int st t) else m₀ y) → News h₀ env.locals h (news ++ own) →
      wpAny (model prog w) A (execs body env) (InvPostN h₀ env.locals (TurnS (fun _ => news) (fun c : Int × Tok => [(Str.ofString "startpos", .int c.1 c.2)]) [] x m₀ (fun c => (0 ≤ c.1 ∧ c.1 ≤ got.length) ∧ emLoop got e rest c.1 = emLoop got e (ps.map (·.1)) st0)) own (news.map (·.1)) { s with heap := h, toks := tk } Q) E { s with heap := h, toks := tk })
    (done : ∀ (st : Int) t (u : Str → Option Value) h tk, true = emLoop got e (ps.map (·.1)) st0 → Fr h₀ env.locals h (fun y => if y = x then u y else if y = Str.ofString "startpos" then some (.int st t) else m₀ y) → News h₀ env.locals h news → Q .next { s with heap := h, toks := tk }) :
    wpAny (model prog w) A (pyIter (.ref l)) (fun it s₂ => LoopAtV prog w A h₀ env x body Q E it s₂) E s := by
  subst hvs
  refine iterS (σ := Int × Tok) (fun _ => news) (fun c => [(Str.ofString "startpos", .int c.1 c.2)]) [] (fun i c => (0 ≤ c.1 ∧ c.1 ≤ got.length) ∧ emLoop got e ((ps.map (·.1)).drop i) c.1 = emLoop got e (ps.map (·.1)) st0) (st0, t0) hh (fun _ => hl) F N (fun p hp => by rw [List.mem_singleton.mp hp]; exact hk) ⟨⟨h0, hle⟩, rfl⟩ ?_ ?_
  · rintro c i v u h tk own hv hoff ⟨⟨hc0, hc1⟩, hP⟩ F₁ N₁
    unfold strValues at hv
    rw [List.getElem?_map] at hv
    obtain ⟨p, hp, rfl⟩ := Option.map_eq_some_iff.mp hv
    have hd : (ps.map (·.1)).drop i = p.1 :: (ps.map (·.1)).drop (i + 1) := by
      obtain ⟨hlt, hpe⟩ := List.getElem?_eq_some_iff.mp hp
      rw [List.drop_eq_getElem_cons (by simpa using hlt)]
      simp [hpe]
    rw [hd] at hP
    exact turn p.1 p.2 _ c.1 c.2 u h tk own hc0 hc1 (hps p (List.mem_of_getElem? hp)) hoff hP F₁ N₁
  · rintro c u h tk ⟨_, hP⟩ F₁ N₁
    have hn : (strValues ps).length = (ps.map (·.1)).length := by simp [strValues]
    rw [hn, List.drop_length] at hP
    exact done c.1 c.2 u h tk hP F₁ N₁
end
theorem rows2_ME : True := by
  k_with "call builtin:str.split" => (k_dflt (k_here; (with_reducible show wpAny _ _ (call (Value.builtin "str.split") [Value.str _ _, Value.str _ _]) _ _ _); (refine split_two (by k_asm) (by k_asm) (by decide) kind_dots (by assumption) ?_ (by omega))); (intro D' a' ta' mid' z' tz' h' k' e' ha' hm' hz' hn' F' N' l1; (try k_lt l1)))
  k_with "call builtin:len" => (k_here; (with_reducible show wpAny _ _ (call (Value.builtin "len") [Value.ref _]) _ _ _); k_dflt (refine len_led (by k_asm) (by k_mem) (by simp [strValues]; omega) ?_); simp only [List.length_cons, List.length_append, strValues, List.length_map, List.length_nil])
  k_with "subscriptTail" => (k_here; (with_reducible show wpAny _ _ (subscriptTail _ _ (Value.ref _) (Value.int _ _)) _ _ _); k_dflt (first | (refine' item_first ?kNz13 ?kmz13 ?kez13 ?_; (case kez13 => exact rfl); (case kNz13 => k_asm); (case kmz13 => k_mem)) | (refine' item_last' ?kNz13 ?kmz13 ?kez13 ?_; (case kez13 => exact rfl); (case kNz13 => k_asm); (case kmz13 => k_mem)) | (refine' item_last ?kNz13 ?kmz13 ?kez13 ?_; (case kez13 => exact rfl); (case kNz13 => k_asm); (case kmz13 => k_mem))))
  k_with "truthy str" => (k_dflt (k_here; (with_reducible show wpAny _ _ (PySem.truthy (Value.str _ _)) _ _ _); refine SBL.truthy (by omega) ?_))
  k_with "delItem ref int" => (k_here; (with_reducible show wpAny _ _ (PySem.delItem (Value.ref _) (Value.int _ _)) _ _ _); k_dflt (first | (refine' del_first ?kFz15 ?kNz15 ?kez15 ?kUz15 ?kzz15 ?_; (case kez15 => exact rfl); (case kFz15 => k_asm); (case kNz15 => k_asm); (case kUz15 => k_upd); (case kzz15 => first | omega | (simp [strValues]; omega))) | (refine' del_last' ?kFz15 ?kNz15 ?kez15 ?kUz15 ?kzz15 ?_; (case kez15 => exact rfl); (case kFz15 => k_asm); (case kNz15 => k_asm); (case kUz15 => k_upd); (case kzz15 => first | omega | (simp [strValues]; omega))) | (refine' del_last ?kFz15 ?kNz15 ?kez15 ?kUz15 ?kzz15 ?_; (case kez15 => exact rfl); (case kFz15 => k_asm); (case kNz15 => k_asm); (case kUz15 => k_upd); (case kzz15 => first | omega | (simp [strValues]; omega)))); intro h' F' N')
  trivial
theorem sv1 {a z : Str} {ta tz : Tok} {mid : List (Str × Tok)} : Value.str a ta :: (strValues mid ++ [Value.str z tz]) = strValues ((a, ta) :: (mid ++ [(z, tz)])) := by simp [strValues]
theorem sv2 {z : Str} {tz : Tok} {mid : List (Str × Tok)} : strValues mid ++ [Value.str z tz] = strValues (mid ++ [(z, tz)]) := by simp [strValues]
theorem sv3 {a : Str} {ta : Tok} {mid : List (Str × Tok)} : Value.str a ta :: strValues mid = strValues ((a, ta) :: mid) := by simp [strValues]
theorem ellP_of {x y a z : Str} {ta tz : Tok} {mid : List (Str × Tok)} (hin : (Builtin.Str.occurrences x (Str.ofString "...") 0 x.length 1).isEmpty = false) (e : ((a, ta) :: (mid ++ [(z, tz)])).map (·.1) = Txt.split x (Str.ofString "...")) :
    ellP x y = emP y a (mid.map (·.1)) z := by
  unfold ellP
  rw [if_neg (by rw [hin]; exact Bool.false_ne_true), ← e]
  simp
section
variable {x y a z : Str} {ta tz : Tok} {mid : List (Str × Tok)} (hin : (Builtin.Str.occurrences x (Str.ofString "...") 0 x.length 1).isEmpty = false) (e : ((a, ta) :: (mid ++ [(z, tz)])).map (·.1) = Txt.split x (Str.ofString "..."))
include hin e
theorem ell11 (ha : (a.length : Int) ≠ 0) (hs : Txt.startswith y a = true) (hz : (z.length : Int) ≠ 0) (he : Txt.endswith y z = true) (hc : ¬ (y.length : Int) - z.length < a.length) :
    ellP x y = emLoop y ((y.length : Int) - z.length) (mid.map (·.1)) a.length := by
  rw [ellP_of hin e, emP, if_neg ha, if_pos hs, emEnd, if_neg hz, if_pos he, emCut, if_neg hc]
theorem ell10 (ha : (a.length : Int) ≠ 0) (hs : Txt.startswith y a = true) (hz : (z.length : Int) = 0) (hc : ¬ (y.length : Int) < a.length) :
    ellP x y = emLoop y (y.length : Int) ((mid ++ [(z, tz)]).map (·.1)) a.length := by
  rw [ellP_of hin e, emP, if_neg ha, if_pos hs, emEnd, if_pos hz, emCut, if_neg hc]
  simp
theorem ell01 (ha : (a.length : Int) = 0) (hz : (z.length : Int) ≠ 0) (he : Txt.endswith y z = true) (hc : ¬ (y.length : Int) - z.length < 0) :
    ellP x y = emLoop y ((y.length : Int) - z.length) (((a, ta) :: mid).map (·.1)) 0 := by
  rw [ellP_of hin e, emP, if_pos ha, emEnd, if_neg hz, if_pos he, emCut, if_neg hc]
  rfl
theorem ell00 (ha : (a.length : Int) = 0) (hz : (z.length : Int) = 0) : ellP x y = emLoop y (y.length : Int) (((a, ta) :: (mid ++ [(z, tz)])).map (·.1)) 0 := by
  rw [ellP_of hin e, emP, if_pos ha, emEnd, if_pos hz, emCut, if_neg (by omega)]
  simp
theorem ellF1 (ha : (a.length : Int) ≠ 0) (hs : Txt.startswith y a = false) : ellP x y = false := by
  rw [ellP_of hin e, emP, if_neg ha, if_neg (ne_true_of_eq_false hs)]
theorem ellF2 (ha : (a.length : Int) ≠ 0) (hs : Txt.startswith y a = true) (hz : (z.length : Int) ≠ 0) (he : Txt.endswith y z = false) : ellP x y = false := by
  rw [ellP_of hin e, emP, if_neg ha, if_pos hs, emEnd, if_neg hz, if_neg (ne_true_of_eq_false he)]
theorem ellF3 (ha : (a.length : Int) = 0) (hz : (z.length : Int) ≠ 0) (he : Txt.endswith y z = false) : ellP x y = false := by
  rw [ellP_of hin e, emP, if_pos ha, emEnd, if_neg hz, if_neg (ne_true_of_eq_false he)]
theorem ellF4 (ha : (a.length : Int) ≠ 0) (hs : Txt.startswith y a = true) (hz : (z.length : Int) ≠ 0) (he : Txt.endswith y z = true) (hc : (y.length : Int) - z.length < a.length) : ellP x y = false := by
  rw [ellP_of hin e, emP, if_neg ha, if_pos hs, emEnd, if_neg hz, if_pos he, emCut, if_pos hc]
theorem ellF5 (ha : (a.length : Int) ≠ 0) (hs : Txt.startswith y a = true) (hz : (z.length : Int) = 0) (hc : (y.length : Int) < a.length) : ellP x y = false := by
  rw [ellP_of hin e, emP, if_neg ha, if_pos hs, emEnd, if_pos hz, emCut, if_pos hc]
theorem ellF6 (ha : (a.length : Int) = 0) (hz : (z.length : Int) ≠ 0) (he : Txt.endswith y z = true) (hc : (y.length : Int) - z.length < 0) : ellP x y = false := by
  rw [ellP_of hin e, emP, if_pos ha, emEnd, if_neg hz, if_pos he, emCut, if_pos hc]
end
theorem rows3_ME : True := by
  k_with "exec For" => (k_dflt (k_here; (rename Fr _ _ _ _ => lF'); (with_unfolding_all refine' For_invVF lF' ?k1z16 ?k2z16 ?_; (case k1z16 => exact rfl); (case k2z16 => exact rfl); k_whole)))
  trivial
theorem em_next {y v : Str} {e st : Int} {rest : List Str} {R : Bool} (h : ¬ find4 y v st e < 0) (hP : emLoop y e (v :: rest) st = R) :
    (0 ≤ find4 y v st e + (v.length : Int) ∧ find4 y v st e + (v.length : Int) ≤ (y.length : Int)) ∧ emLoop y e rest (find4 y v st e + (v.length : Int)) = R := by
  refine ⟨?_, ?_⟩
  · have := find4_le y v st e
    omega
  · simp only [emLoop, if_neg h] at hP
    exact hP
theorem em_stop {y v : Str} {e st : Int} {rest : List Str} {R : Bool} (h : find4 y v st e < 0) (hP : emLoop y e (v :: rest) st = R) : false = R := by
  simp only [emLoop, if_pos h] at hP
  exact hP
theorem hpsM {n : Nat} {mid : List (Str × Tok)} (hm : ∀ p ∈ mid, p.1.length ≤ n) (hn : n < 1000) : ∀ p ∈ mid, p.1.length < 1000 := fun p hp => Nat.lt_of_le_of_lt (hm p hp) hn
theorem hpsA {a : Str} {ta : Tok} {ps : List (Str × Tok)} (ha : a.length < 1000) (h : ∀ p ∈ ps, p.1.length < 1000) : ∀ p ∈ (a, ta) :: ps, p.1.length < 1000 := List.forall_mem_cons.mpr ⟨ha, h⟩
theorem hpsZ {a : Str} {ta : Tok} {ps : List (Str × Tok)} (ha : a.length < 1000) (h : ∀ p ∈ ps, p.1.length < 1000) : ∀ p ∈ ps ++ [(a, ta)], p.1.length < 1000 := List.forall_mem_append.mpr ⟨h, List.forall_mem_cons.mpr ⟨ha, fun _ h => nomatch h⟩⟩
theorem rows4_ME : True := by
  k_with "pyIter ref!" => (k_dflt (k_here; (rename Fr _ _ _ _ => lF'); (rename News _ _ _ _ => lN'); (rename (∀ p ∈ _, Str.length (Prod.fst p) ≤ _) => hm9); (refine' em_loop _ ?hvsz17 rfl ?hlz17 lF' lN' ?hkz17 ?hez17 ?hgz17 ?h0z17 ?hlez17 ?hpsz17 ?_ ?_); (case hlz17 => k_mem); (case hvsz17 => with_reducible first | exact sv1 | exact sv2 | exact sv3 | exact rfl); (case hkz17 => exact rfl); (case hez17 => exact rfl); (case hgz17 => exact rfl); (case h0z17 => omega); (case hlez17 => omega); (case hpsz17 => first | exact hpsA (by omega) (hpsZ (by omega) (hpsM hm9 (by assumption))) | exact hpsZ (by omega) (hpsM hm9 (by assumption)) | exact hpsA (by omega) (hpsM hm9 (by assumption)) | exact hpsM hm9 (by assumption))); (all_goals first | (intro v tv rest st t u h' tk own h0' hle' hv' ho' hP' F' N') | (intro st t u h' tk hP' F' N')))
  trivial
theorem ell (w : World) (x y : Str) (tx ty : Tok) (hx : x.length < 1000) (hy : y.length < 1000) : Claim1 w 21 [.str x tx, .str y ty] (fun _ => .bool (ellP x y)) := by
  unfold Claim1; k_fill
  intro pT lT mean mg mb dp un gd cn cs a ccd cl outer A₀ base h₀ L m news s Q E B F X N T hk hd hu hret
  refine wpAny_call ?_
  k_dflt (refine' code_def (binds := [(Str.ofString "want", Value.str x tx), (Str.ofString "got", Value.str y ty)]) ?k1 ?k2 ?k3 ?k4 ?k5 ?kA ?kF ?kK ?k6 ?k7 ?k8 ?k9 ?kB ?_ ?c2 ?c3 ?c4 ?c5; (case kA => exact rfl); (case kF => exact rfl); (case kK => assumption); (case k1 => k_asm); (case k2 => k_asm); (case k3 => k_asm); (case k4 => k_asm); (case k5 => k_asm); (case k6 => k_is); (case k7 => k_is); (case k8 => ktr_room); (case k9 => exact BindsTo.of_eq rfl); (case c5 => decide); (case kB => exact locs rfl); (case c2 => exact rfl); (case c3 => exact rfl); (case c4 => exact rfl); k_whole; intro g' L' h' FG' F' N' B' X' T'; (try dsimp only); (try k_lift B'); (try k_fold))
  k_steps
  all_goals (rename Fr _ _ _ _ => kF; rename News _ _ _ _ => kN)
  all_goals first
    | (with_reducible show InvEndN _ _ _ _ _ _ _)
      refine' endS (_, _) kF kN (fun p hp => List.mem_append_left _ hp) (fun p hp => List.mem_append_right _ hp) rfl (by kst_all) (by kst_same) (em_next (by with_reducible assumption) (by with_reducible assumption))
    | refine cb_retB hret ?_ kF (cb_drop kN ?_)
  all_goals first
    | (with_reducible show ∀ p ∈ _, p ∈ _)
      first | exact fun p hp => .tail _ (.tail _ hp) | exact fun p hp => List.mem_append_left _ (.tail _ (.tail _ hp)) | exact fun p hp => hp
    | skip
  all_goals first
    | (unfold ellP; rw [if_pos (by with_reducible assumption)]; done)
    | exact (ellF1 (by with_reducible assumption) (by with_reducible assumption) (by with_reducible assumption) (by with_reducible assumption) ).symm
    | exact (ellF2 (by with_reducible assumption) (by with_reducible assumption) (by with_reducible assumption) (by with_reducible assumption) (by with_reducible assumption) (by with_reducible assumption) ).symm
    | exact (ellF3 (by with_reducible assumption) (by with_reducible assumption) (by with_reducible assumption) (by with_reducible assumption) (by with_reducible assumption) ).symm
    | exact (ellF4 (by with_reducible assumption) (by with_reducible assumption) (by with_reducible assumption) (by with_reducible assumption) (by with_reducible assumption) (by with_reducible assumption) (by with_reducible assumption) ).symm
    | exact (ellF5 (by with_reducible assumption) (by with_reducible assumption) (by with_reducible assumption) (by with_reducible assumption) (by with_reducible assumption) (by with_reducible assumption) ).symm
    | exact (ellF6 (by with_reducible assumption) (by with_reducible assumption) (by with_reducible assumption) (by with_reducible assumption) (by with_reducible assumption) (by with_reducible assumption) ).symm
    | refine Eq.trans ?_ (ell11 (by with_reducible assumption) (by with_reducible assumption) (by with_reducible assumption) (by with_reducible assumption) (by with_reducible assumption) (by with_reducible assumption) (by with_reducible assumption) ).symm
    | refine Eq.trans ?_ (ell10 (by with_reducible assumption) (by with_reducible assumption) (by with_reducible assumption) (by with_reducible assumption) (by with_reducible assumption) (by with_reducible assumption) ).symm
    | refine Eq.trans ?_ (ell01 (by with_reducible assumption) (by with_reducible assumption) (by with_reducible assumption) (by with_reducible assumption) (by with_reducible assumption) (by with_reducible assumption) ).symm
    | refine Eq.trans ?_ (ell00 (by with_reducible assumption) (by with_reducible assumption) (by with_reducible assumption) (by with_reducible assumption) ).symm
  all_goals first | with_reducible assumption | exact em_stop (by with_reducible assumption) (by with_reducible assumption)
theorem rows5_ME : True := by
  k_with "call ref" => (k_here; (with_reducible show wpAny _ _ (call (Value.ref 21) [Value.str _ _, Value.str _ _]) _ _ _); k_dflt (refine' ell _ _ _ _ _ ?hxz18 ?hyz18 _ _ _ _ _ _ _ _ _ _ _ _ _ _ _ _ _ _ _ _ _ ?k1z18 ?k2z18 ?k3z18 ?k4z18 ?k5z18 ?kKz18 ?kdz18 ?kuz18  ?_; (case k1z18 => k_asm); (case k2z18 => k_asm); (case k3z18 => k_in); (case k4z18 => k_asm); (case k5z18 => k_asm); (case kKz18 => first | exact rfl | assumption); (case kdz18 => ktr_room); (case kuz18 => ktr_units); (case hxz18 => first | assumption | omega); (case hyz18 => first | assumption | omega); intro t9 h9 tk9 F9 N9; (try dsimp only); (try k_fold)))
  trivial
end Mine
-- ML4
namespace Mine
section
open Builtin
variable {prog : Program} {w : World} {A : Around} {E : Value → Shared → Prop} {s : Shared} {env : Env}
theorem NewExc.back {h h₂ h' : Heap} {e : Addr} {X : String} (hk : ∀ b o, h.get? b = some o → h₂.get? b = some o) (hx : Heap.NewExc h₂ h' e X) : Heap.NewExc h h' e X :=
  { keeps := fun b o hb => hx.keeps b o (hk b o hb)
    new := by
      cases hc : h.get? e with
      | none => rfl
      | some o => exact nomatch hx.new.symm.trans (hk e o hc)
    there := hx.there }
/-- a tuple that is too long for its two names -/
theorem unpack_many {elts : List Expr} {k} {pos : Pos} {t : Addr} {items : Array Value} {Q : Unit → Shared → Prop} (hh : A.handled = none) (ht : IsTup s.heap t items)
    (hn : (assignEach elts env).length = 2) (hstar : (assignEach elts env).findIdx? (·.1) = none) (hs : items.size = 3)
    (hE : ∀ h' tk e, Heap.NewExc s.heap h' e "ValueError" → E (.ref e) { s with heap := h', toks := tk }) : wpAny (model prog w) A (assign (.Tuple elts k pos) env (.ref t)) Q E s := by
  have hlt : t ≠ s.heap.objs.size := by obtain ⟨o, ho, _⟩ := ht; exact Nat.ne_of_lt (Heap.lt_size ho)
  rw [assign_Tuple]
  refine wpAny_bind (wpAny_standAt ?_)
  unfold unpack
  rw [hn, hstar]
  refine wpAny_bind (wpAny_holding ?_)
  unfold unpackItems
  refine wpAny_bind ?_
  unfold notIterableAtAll
  refine wpAny_bind (wpAny_specialOf ht.typeIs slot_tuple_iter.lookup ?_)
  refine wpAny_pure ?_
  simp only [Bool.false_eq_true, if_false]
  refine wpAny_bind (wpAny_holding (iter_tuple ht ?_))
  refine wpAny_bind (wpAny_holding (draw_tuple hlt 2 0 _ _ ⟨_, Heap.get?_push_size _ rfl, rfl, rfl⟩ (ht.push _) (by omega) fun h₁ hit₁ hs₁ => ?_))
  have hl : (List.take 2 (List.drop 0 items.toList)).length = 2 := by simp [hs]
  rw [if_neg (by rw [hl]; omega)]
  have ht₁ : IsTup h₁ t items := (ht.push _).extBut hs₁.extBut hlt
  have h2 : 2 < items.size := by omega
  refine wpAny_bind (wpAny_holding (next_tuple_item hit₁ ht₁ (i := 2) (x := items[2]) (by simp [h2]) fun h₂ hit₂ hs₂ => ?_))
  simp only [Option.isSome_some, if_true]
  have keep : ∀ b o, s.heap.get? b = some o → h₂.get? b = some o := fun b o hb => by
    have hb' : b ≠ s.heap.objs.size := Nat.ne_of_lt (Heap.lt_size hb)
    rw [hs₂.2 b hb', hs₁.2 b hb']
    exact Heap.get?_push_of_some _ hb
  first
    | refine wpAny_bind (wpAny_rule (wpAny_bind (raiseError_exc excClass_ValueError hh (fun h' tk e hx => hE h' tk e (NewExc.back keep hx)) ?_)))
    | refine wpAny_bind (wpAny_rule (raiseError_exc excClass_ValueError hh (fun h' tk e hx => hE h' tk e (NewExc.back keep hx)) ?_))
  rw [PySem.ofString_length, sizeLine_eq]; decide +kernel
theorem special_int_iter : typeLookup (.type "int") "__iter__" = pure none := by rw [typeLookup_type, builtinLookup_eq_fast]; kernel_rfl
theorem special_int_getitem : typeLookup (.type "int") "__getitem__" = pure none := by rw [typeLookup_type, builtinLookup_eq_fast]; kernel_rfl
/-- a number taken apart -/
theorem unpack_int {elts : List Expr} {k} {pos : Pos} {n : Int} {u : Tok} {Q : Unit → Shared → Prop} (hh : A.handled = none)
    (hE : ∀ h' tk e, Heap.NewExc s.heap h' e "TypeError" → E (.ref e) { s with heap := h', toks := tk }) : wpAny (model prog w) A (assign (.Tuple elts k pos) env (.int n u)) Q E s := by
  rw [assign_Tuple]
  refine wpAny_bind (wpAny_standAt ?_)
  unfold unpack
  refine wpAny_bind (wpAny_holding ?_)
  unfold unpackItems
  refine wpAny_bind ?_
  unfold notIterableAtAll
  refine wpAny_bind (wpAny_specialOf (typeIs_int s n u) special_int_iter ?_)
  simp only [Option.isSome_none, Bool.false_eq_true, if_false]
  refine wpAny_bind (wpAny_specialOf (typeIs_int s n u) special_int_getitem ?_)
  refine wpAny_pure ?_
  simp only [if_true]
  refine wpAny_bind (wpAny_rule (wpAny_bind (wpAny_typeNameOf' (typeIs_int s n u) (by decide) ?_)))
  first
    | refine wpAny_bind (raiseError_exc excClass_TypeError hh hE ?_)
    | refine raiseError_exc excClass_TypeError hh hE ?_
  rw [PySem.ofString_length, sizeLine_eq]; decide +kernel
/-- a text and a number -/
theorem add_str_int {x : Str} {t : Tok} {n : Int} {u : Tok} {Q : Value → Shared → Prop} (hh : A.handled = none)
    (hE : ∀ h' tk e, Heap.NewExc s.heap h' e "TypeError" → E (.ref e) { s with heap := h', toks := tk }) : wpAny (model prog w) A (binaryOp .Add (.str x t) (.int n u)) Q E s := by
  unfold binaryOp
  refine wpAny_holding ?_
  refine wpAny_bind (wpAny_binaryOp1_right_declines (nm := "add") (T := "str") (U := "int") (by decide) (typeIs_str s x t) (typeIs_int s n u) PySem.noFill_str_add F.fills_int_add F.slot_int_radd
    (call_gives F.slot_int_radd (typeIs_int s n u) F.entry_int_radd (F.args_int_radd_2 _ _) (AutoIntG4.int___radd___int_str_0 n u x t) ⟨rfl, ?_⟩))
  refine wpAny_bind (wpAny_typeOf (typeIs_str s x t) ?_)
  refine wpAny_bind (wpAny_of_eq PySem.seq_str_add ?_)
  refine wpAny_bind (wpAny_rule ?_)
  refine wpAny_call_entry F.slot_str_add (typeIs_str s x t) F.entry_str_add ?_ (F.args_str_add_2 _ _)
  show wpAny _ _ (do rule "str.__add__.not-a-str"; raiseError "TypeError" s!"can only concatenate str (not \"{← typeNameOf (Value.int n u)}\") to str") _ _ _
  refine wpAny_bind (wpAny_rule (wpAny_bind (wpAny_typeNameOf' (typeIs_int s n u) (by decide) ?_)))
  refine raiseError_exc (A := A.in1) excClass_TypeError hh hE ?_
  rw [PySem.ofString_length, sizeLine_eq]; decide +kernel
end
end Mine
-- MX
namespace Mine
section
variable {M : Model} {A : Around} {E : Value → Shared → Prop} {s : Shared}
/-- the first look at an exception in the frame that raised it; what the exception holds stays told -/
theorem noted_exact {base : Heap} {env : Env} {outer : List Env} {L e : Addr} {oe : Obj} {vs : Array Value} {Q : Unit → Shared → Prop}
    (hfr : A.frames = some (env :: outer)) (hl : s.heap.FunFrames base (env :: outer)) (hf : env.frame = some L)
    (he : s.heap.get? e = some oe) (hd : oe.data = .fields vs) (h1 : vs[1]? = some .none) (hkb : base.StaysIn s.heap) (hen : base.get? e = none)
    (h : ∀ h' T oT ts, base.StaysIn h' → s.heap.UpToSlots h' → h'.get? e = some (Obj.mapFields (·.setIfInBounds 1 (.ref T)) oe) → base.get? T = none → T ≠ e → h'.get? T = some oT → oT.data = .fields ts → 3 < ts.size → Q () { s with heap := h' }) :
    wpAny M A (noteFrame (.ref e) env) Q E s := by
  have out : e ∉ (env :: outer).filterMap (·.frame) := fun hm => by
    obtain ⟨_, o, ho, hn⟩ := hl.mem hm
    rw [he] at ho
    exact hn vs (Option.some.inj ho ▸ hd)
  unfold noteFrame
  simp only [hf]
  refine wpAny_bind (wpAny_field he hd h1 ?_)
  rw [if_neg (by decide)]
  refine wpAny_bind (wpAny_frameOf_fun hfr hl hf fun h₁ hs₁ => ?_)
  refine wpAny_bind (wpAny_entryPlaceOf fun pl hpl => ?_)
  unfold EntryCells.newEntry newFields
  refine wpAny_bind (wpAny_newObj_type ?_ (hpl.sizeOk5 _ _ _ _ _))
  have he₁ : h₁.get? e = some oe := (hs₁.2.1 e out).trans he
  have hTe : h₁.objs.size ≠ e := Nat.ne_of_gt (Heap.lt_size he₁)
  have kb₁ : base.StaysIn h₁ := fun b o hbo => (hs₁.2.1 b fun hm => by rw [(hl.mem hm).1] at hbo; cases hbo).trans (hkb b o hbo)
  have hu := Heap.get?_update_self (Obj.mapFields (·.setIfInBounds 1 (Value.ref h₁.objs.size))) (Heap.get?_push_of_some { cls := .type "traceback", dict := none, data := .fields ([Value.none, .ref L, .none, rawInt L, .none] ++ (if pl.isEmpty then List.replicate 6 Value.none else pl)).toArray } he₁) (Obj.isFreed_of_fields (Obj.data_mapFields hd _))
  have hT := (Heap.get?_update_other (h₁.push { cls := .type "traceback", dict := none, data := .fields ([Value.none, .ref L, .none, rawInt L, .none] ++ (if pl.isEmpty then List.replicate 6 Value.none else pl)).toArray }) (Obj.mapFields (·.setIfInBounds 1 (Value.ref h₁.objs.size))) hTe.symm).trans (Heap.get?_push_size h₁ rfl)
  refine wpAny_setField (Heap.get?_push_of_some _ he₁) hd (Array.getElem?_eq_some_iff.mp h1).1 (h _ h₁.objs.size _ _ (fun b o hb => ?_) (fun b o hb hn => ?_) hu kb₁.fresh hTe hT rfl ?_)
  · have hbe : e ≠ b := fun q => by rw [← q, hen] at hb; cases hb
    exact (Heap.get?_update_other _ _ hbe).trans (Heap.get?_push_of_some _ (kb₁ b o hb))
  · obtain ⟨sl, hs⟩ := hs₁.2.2 b o hb
    have hbe : e ≠ b := fun q => by rw [← q, he] at hb; exact hn vs (Option.some.inj hb ▸ hd)
    exact ⟨sl, (Heap.get?_update_other _ _ hbe).trans (Heap.get?_push_of_some _ hs)⟩
  · simp only [List.size_toArray, List.length_append, List.length_cons, List.length_nil]
    omega
theorem land_exact {base : Heap} {e T : Addr} {oe oT : Obj} {vs ts : Array Value} {Q : Unit → Shared → Prop} (he : s.heap.get? e = some oe) (hd : oe.data = .fields vs) (h1 : vs[1]? = some (.ref T)) (hTe : T ≠ e)
    (hT : s.heap.get? T = some oT) (hdT : oT.data = .fields ts) (h3 : 3 < ts.size) (hkb : base.StaysIn s.heap) (hTn : base.get? T = none)
    (h : ∀ h' oT' ts', base.StaysIn h' → s.heap.UpToSlots h' → h'.get? e = some oe → h'.get? T = some oT' → oT'.data = .fields ts' → 3 < ts'.size → Q () { s with heap := h' }) : wpAny M A (setFlight (.ref e) none) Q E s := by
  have hu := Heap.get?_update_self (Obj.mapFields (·.setIfInBounds 3 Value.none)) hT (Obj.isFreed_of_fields (Obj.data_mapFields hdT _))
  refine wpAny_setFlight_none he hd h1 hT hdT h3 (h _ _ _ (fun b o hb => ?_) (fun b o hb hn => ?_) ((Heap.get?_update_other _ _ hTe).trans he) hu (Obj.data_mapFields hdT _) (by simp [h3]))
  · have hbe : T ≠ b := fun q => by rw [← q, hTn] at hb; cases hb
    exact (Heap.get?_update_other _ _ hbe).trans (hkb b o hb)
  · have hbe : T ≠ b := fun q => by rw [← q, hT] at hb; exact hn ts (Option.some.inj hb ▸ hdT)
    exact ⟨o.slots, (Heap.get?_update_other _ _ hbe).trans hb⟩
end
section
variable {prog : Program} {w : World} {A₀ : Around} {E : Value → Shared → Prop} {s' : Shared} {base g h : Heap} {outer : List Env} {L a e : Addr} {m : Str → Option Value} {name : Str} {scope : Scope} {cd : Value}
  {b₀ : Stmt} {suite : List Stmt} {pos p1 p2 tpos : Pos} {kk : Nat} {rest : List ExceptHandler} {Q : Flow → Shared → Prop} {news : List (Addr × Obj)} {KF : Frag}
  {p : Program} {loose : List Str} {mean : ExcName → Option Value} {mg mb : Str → Option Value} {x1 x2 : Str} {X T1 T2 : String} {b1 b2 : Bool}
/-- an exception that a clause of two classes takes in the very frame that raised it -/
theorem caught_own2 (hx : Heap.NewExc h s'.heap e X) (F : Fr g L h m) (N : News g L h news) (K : Below A₀ base outer g) (XB : KF.In base) (TB : Top p loose mean mg mb base)
    (ex1 : nsIn KF mainGlobals x1 = some none) (hv1 : bootBuiltins x1 = some (.type T1)) (hn1 : x1 ≠ "__name__") (ex2 : nsIn KF mainGlobals x2 = some none) (hv2 : bootBuiltins x2 = some (.type T2)) (hn2 : x2 ≠ "__name__")
    (hexc1 : isSubtype (.type T1) (.type "BaseException") = pure true) (hnt1 : isSubtype (.type ((Manifest.find? T1).elim "type" fun x => x.metatype)) (.type "tuple") = pure false)
    (hexc2 : isSubtype (.type T2) (.type "BaseException") = pure true) (hnt2 : isSubtype (.type ((Manifest.find? T2).elim "type" fun x => x.metatype)) (.type "tuple") = pure false)
    (hsub1 : isSubtype (.type X) (.type T1) = pure b1) (hsub2 : isSubtype (.type X) (.type T2) = pure b2) (hb : (b1 || b2) = true)
    (k : ∀ h' g' oe vs, KtsTurn (outer.filterMap (·.frame)) g g' → Fr g' L h' m → News g' L h' news → Below A₀ base outer g' → h'.get? e = some oe → oe.data = .fields vs → vs[2]? = some .none →
      wpAny (model prog w) ((A₀.deeper (envOf name scope L a cd)).mark (some (.ref e))) (execs (b₀ :: suite) (envOf name scope L a cd)) Q E { s' with heap := h' })
    (hk : scope.kind = .function := by rfl) (hxk1 : (envOf name scope L a cd).kindOf x1 = some .globalImplicit := by rfl) (hd1 : (x1 == ("__debug__" : Str)) = false := by decide) (hxk2 : (envOf name scope L a cd).kindOf x2 = some .globalImplicit := by rfl) (hd2 : (x2 == ("__debug__" : Str)) = false := by decide)
    (hE : PassesOwnAt (model prog w) ((A₀.deeper (envOf name scope L a cd)).mark (some (.ref e))) (A₀.deeper (envOf name scope L a cd)) (envOf name scope L a cd) E := by passes_own) :
    wpAny (model prog w) (A₀.deeper (envOf name scope L a cd)) (noteFrame (.ref e) (envOf name scope L a cd))
      (fun _ s₂ => wpAny (model prog w) (A₀.deeper (envOf name scope L a cd)) (setFlight (.ref e) none) (fun _ s₃ =>
        wpAny (model prog w) (A₀.deeper (envOf name scope L a cd)) (handleBy (.ref e) (envOf name scope L a cd) (.ExceptHandler (some (.Tuple [.Name x1 p1, .Name x2 p2] kk tpos)) none (b₀ :: suite) pos :: rest)) Q E s₃) E s₂) E s' := by
  obtain ⟨ob, tp, he, hcls, hd⟩ := hx.there
  have K' := K.push (name := name) (a := a) (cd := cd) F hk
  have hin : ∀ env ∈ (envOf name scope L a cd :: outer), ∀ b, env.frame = some b → b ∈ (envOf name scope L a cd :: outer).filterMap (·.frame) := fun env he b hb => List.mem_filterMap.mpr ⟨env, he, hb⟩
  have hBG : ∀ b o, h.get? b = some o → b ∉ (envOf name scope L a cd :: outer).filterMap (·.frame) → (hideAll h ((envOf name scope L a cd :: outer).filterMap (·.frame))).get? b = some o := fun b o q nm => hideAll_get _ q nm
  have hen : (hideAll h ((envOf name scope L a cd :: outer).filterMap (·.frame))).get? e = none := by
    cases q : (hideAll h ((envOf name scope L a cd :: outer).filterMap (·.frame))).get? e with
    | none => rfl
    | some o => exact nomatch hx.new.symm.trans (of_hideAll _ q)
  have hl : ∀ q ∈ news, (hideAll h ((envOf name scope L a cd :: outer).filterMap (·.frame))).get? q.1 = some q.2 := fun q hq => by
    refine hideAll_get _ (N q hq).1 fun hm => ?_
    obtain ⟨env, hem, hf⟩ := List.mem_filterMap.mp hm
    rcases List.mem_cons.mp hem with rfl | hem
    · exact (N q hq).2.1 (Option.some.inj hf).symm
    · obtain ⟨o, ho, _⟩ := (K.frames.mem (List.mem_filterMap.mpr ⟨env, hem, hf⟩)).2
      exact nomatch (N q hq).2.2.symm.trans ho
  have up0 : h.UpToSlots s'.heap := Heap.UpToSlots.of_keeps hx.keeps
  refine noted_exact K'.stack ((funFrames_hide K'.frames hin).of_keeps fun b o hb _ => ⟨o, hx.keeps b o hb, rfl⟩) rfl he hd rfl (fun b o hb => hx.keeps b o (of_hideAll _ hb)) hen fun h₁ T oT ts st₁ up₁ he₁ hTn hTe hT hdT h3 => ?_
  have hd₁ := Obj.data_mapFields hd (·.setIfInBounds 1 (Value.ref T))
  refine land_exact he₁ hd₁ rfl hTe hT hdT h3 st₁ hTn fun h₂ oT₂ ts₂ st₂ up₂ he₂ hT₂ hdT₂ h3₂ => ?_
  obtain ⟨g₅, T₅, F₅, K₅⟩ := kts_ground K F hBG st₂ ((up0.trans up₁).trans up₂)
  have X₅ : KF.In g₅ := XB.keeps K₅.stays
  have P₅ : TopRead p loose mg mb g₅ := topRead_of (TB.keeps K₅.stays)
  refine wpAny_handleBy_tup2 hexc1 hnt1 hexc2 hnt2 hsub1 hsub2 ?_
  refine Tuple_ (spliced_more (name_B F₅ X₅ P₅ ex1 hv1 hn1 (spliced_more (name_B F₅ X₅ P₅ ex2 hv2 hn2 (spliced_none ?_) hk hxk2 hd2)) hk hxk1 hd1))
  refine wpAny_newObj_type ⟨_, rfl, IsTup.new _ _, ⟨_, Heap.get?_push_of_some _ he₂, (Obj.cls_mapFields _ _).trans hcls⟩, ?_⟩
  rw [if_pos hb]
  refine land_exact (Heap.get?_push_of_some _ he₂) hd₁ rfl hTe (Heap.get?_push_of_some _ hT₂) hdT₂ h3₂ (fun b o q => Heap.get?_push_of_some _ (st₂ b o q)) hTn fun h₃ oT₃ ts₃ st₃ up₃ he₃ hT₃ hdT₃ h3₃ => ?_
  have up₄ : h₂.UpToSlots h₃ := (Heap.UpToSlots.of_keeps fun b o q => Heap.get?_push_of_some _ q).trans up₃
  obtain ⟨g₆, T₆, F₆, K₆⟩ := kts_ground K F hBG st₃ (((up0.trans up₁).trans up₂).trans up₄)
  refine wpAny_passesOwnAt hE (k h₃ g₆ _ _ T₆ F₆ (fun q hq => ⟨st₃ _ _ (hl q hq), (N q hq).2.1, T₆.none_ _ (N q hq).2.2⟩) K₆ he₃ hd₁ rfl)
end
end Mine
-- MX2
namespace Mine
section
variable {prog : Program} {w : World} {A : Around} {E : Value → Shared → Prop} {s : Shared} {env : Env}
theorem unchain_none {e e1 : Addr} {o : Obj} {vs : Array Value} {Q : Value → Shared → Prop} (ho : s.heap.get? e1 = some o) (hd : o.data = .fields vs) (h2 : vs[2]? = some .none) (h : Q .none s) :
    wpAny (model prog w) A (runValue (.builtin "proto.unchain" ⟨[.ref e, .ref e1, .ref e1, .bool false], []⟩)) Q E s := by
  refine wpAny_runValue (codeAny_builtin (b := Builtin.«proto.unchain») (entryFor_of_tree (by kernel_rfl)) ?_)
  unfold Builtin.«proto.unchain»
  dsimp only
  refine wpAny_bind (wpAny_field ho hd h2 ?_)
  exact wpAny_of_eq (a := Fin.done (.ret .none)) rfl h
/-- raise X(..) from None, while another one is handled -/
theorem raise_from {cls newId initId : String} (FC : ExcCallFacts cls newId initId) (FR : ExcRaiseFacts cls) {x : Str} {np cpos pos cp : Pos} {kc : Nat} {e₀ : Expr} {rest : List Expr} {e1 : Addr} {Q : Flow → Shared → Prop} (hh : A.handled = some (.ref e1))
    (h : wpAny (model prog w) A (eval (.Name x np) env) (fun f s₁ => f = .type cls ∧ wpAny (model prog w) A (spliced (backTo cpos (starEach (e₀ :: rest) env)))
      (fun xs s₂ => xs.length ≤ sizeLine ∧ (∃ o vs, s₂.heap.get? e1 = some o ∧ o.data = .fields vs ∧ vs[2]? = some .none) ∧
        ∀ h' e t, (∀ b o, s₂.heap.get? b = some o → h'.get? b = some o) → s₂.heap.get? e = none → h'.get? e = some { cls := .type cls, data := .fields #[.ref t, .none, .ref e1, .none, .bool true, .none] } →
          s₂.heap.get? t = none → h'.get? t = some { cls := .type "tuple", data := .seq xs.toArray } → E (.ref e) { s₂ with heap := h' }) E s₁) E s)
    (he : starEach (e₀ :: rest) env = (false, eval e₀ env) :: starEach rest env := by rfl) (hplain : (backTo cpos (starEach rest env)).any (·.1) = false := by rfl) :
    wpAny (model prog w) A (exec (.Raise (some (.Call (.Name x np) (e₀ :: rest) [] cpos)) (some (.Constant .none kc cp)) pos) env) Q E s := by
  rw [arm_exec_Raise]
  refine wpAny_bind (wpAny_standAt ?_)
  unfold raiseStmt
  refine wpAny_bind (wpAny_bind (wpAny_mono (wpAny_Call_ofName (wpAny_mono h (fun f s₁ h₁ => ?_) fun _ _ x => x)) (fun v s₃ h₃ => wpAny_bind (wpAny_standAt (wpAny_pure h₃))) fun _ _ x => x))
  obtain ⟨rfl, h₂⟩ := h₁
  refine callWith_excType (by rw [he]; show (false || (backTo cpos (starEach rest env)).any (·.1)) = false; rw [hplain]; rfl) ?_
  rw [he] at h₂ ⊢
  refine Calls.evalArgs_plain (wpAny_mono h₂ (fun xs s₂ h₃ => ?_) fun _ _ y => y)
  obtain ⟨hlen, ⟨o, vs, ho, hd, hv2⟩, hE⟩ := h₃
  obtain ⟨hp, g, d, tk, os⟩ := s₂
  refine wpAny_call_exc FC (hrest := hlen) fun h' e hm => ?_
  obtain ⟨t, ht, htn, htt⟩ := hm.there
  have ho' := hm.keeps _ _ ho
  have hne : e1 ≠ e := fun q => by rw [q] at ho; exact nomatch hm.new.symm.trans ho
  have hte : t ≠ e := fun q => by rw [q] at htt; rw [ht] at htt; cases htt
  dsimp only
  refine wpAny_bind (wpAny_holding (wpAny_bind (Constant_none (wpAny_bind (wpAny_standAt (wpAny_pure (wpAny_bind (wpAny_pure ?_))))))))
  have hsub := FR.isExc
  have hmeta := FR.plainMeta
  dsimp only [Option.toList]
  refine wpAny_bind (wpAny_holding ?_)
  unfold excFromValue
  repeat (first | refine wpAny_loadPart ht ?_ | wp_step)
  have u1 := Heap.get?_update_self (Obj.mapFields (·.setIfInBounds 3 Value.none)) ht rfl
  have u2 := Heap.get?_update_self (Obj.mapFields (·.setIfInBounds 4 (Value.bool true))) u1 rfl
  have u3 := Heap.get?_update_self (Obj.mapFields (·.setIfInBounds 2 (Value.ref e1))) u2 rfl
  have other : ∀ b o, b ≠ e → h'.get? b = some o → (((h'.update e (Obj.mapFields (·.setIfInBounds 3 Value.none))).update e (Obj.mapFields (·.setIfInBounds 4 (Value.bool true)))).update e (Obj.mapFields (·.setIfInBounds 2 (Value.ref e1)))).get? b = some o := fun b o hb q => by
    rw [Heap.get?_update_other _ _ hb.symm, Heap.get?_update_other _ _ hb.symm, Heap.get?_update_other _ _ hb.symm]
    exact q
  have ho2 : ((h'.update e (Obj.mapFields (·.setIfInBounds 3 Value.none))).update e (Obj.mapFields (·.setIfInBounds 4 (Value.bool true)))).get? e1 = some o := by
    rw [Heap.get?_update_other _ _ hne.symm, Heap.get?_update_other _ _ hne.symm]
    exact ho'
  unfold raiseNew
  refine wpAny_bind (wpAny_handled ?_)
  rw [hh]
  dsimp only
  have hne' : (Value.ref e1 != Value.ref e) = true := by simp [hne]
  rw [if_pos hne']
  refine wpAny_bind (wpAny_holding (unchain_none ho2 hd hv2 (wpAny_bind ?_)))
  show wpAny _ _ (setField (.ref e) 2 (.ref e1)) _ _ _
  refine wpAny_setField u2 rfl (by simp) (wpAny_throw ?_)
  exact hE _ e t (fun b o q => other b o (fun z => by rw [z] at q; exact nomatch hm.new.symm.trans q) (hm.keeps b o q)) hm.new u3 htn (other t _ hte htt)
end
end Mine
-- MX3
namespace Mine
section
variable {prog : Program} {w : World} {A₀ A : Around} {s : Shared} {base h₀ : Heap} {L a : Addr} {m : Str → Option Value} {news : List (Addr × Obj)} {K : Frag} {p : Program} {loose : List Str} {mean : ExcName → Option Value} {mg mb : Str → Option Value}
    {R : Result → Shared → Prop} {name qual : Str} {params : Arguments} {body : List Stmt} {scope : Scope} {dV kV doc pm cdv ct oc : Value} {an od : Option Addr} {osl : Array (Option Value)} {f : Addr} {args : Args} {binds : List (Str × Value)} {env : Env}
/-- the entry into a def below which an exception is caught, from any frame that is the first -/
theorem code_defX0 (B : Below A₀ base [] h₀) (F : Fr h₀ L s.heap m) (X₀ : K.In h₀) (N : News h₀ L s.heap news) (T : Top p loose mean mg mb h₀) (hA : A.frames = some [env]) (hf : env.frame = some L) (hke : env.scope.kind = .function)
    (ho : K.lookup f = some ⟨oc, od, .func (fnOf name qual params body scope dV kV doc pm an cdv ct), osl⟩) (hcd : codeIn K cdv qual = true) (hroom : A.depth < recursionLimit)
    (hbind : BindsTo s (fnOf name qual params body scope dV kV doc pm an cdv ct) args binds) (hloc : ∀ y ∈ binds, scope.names.lookup y.1 = some .local)
    (h : ∀ g L' h₁, Fr h₀ L g m → Fr g L' h₁ (fun y => binds.reverse.lookup y) → News g L' h₁ news → Below A base [env] g → K.In g → Top p loose mean mg mb g → KtsDicts ([env].filterMap (·.frame)) g →
      wpAny (model prog w) (A.deeper (envOf qual scope L' f cdv)) (execs body (envOf qual scope L' f cdv))
        (fun fl s' => LeaveS0 ([env].filterMap (·.frame)) h₀ L m g R (match fl with | .ret v => v | _ => .none) s')
        (fun e s' => wpAny (model prog w) (A.deeper (envOf qual scope L' f cdv)) (leaving (envOf qual scope L' f cdv) e) (fun _ s'' => R (.error e) s'') (fun e' s'' => R (.error e') s'') s')
        { s with heap := h₁, toks := s.toks + binds.length })
    (hco : scope.isCoroutine = false) (hgen : scope.isGenerator = false) (hk : scope.kind = .function)
    (hcell : ∀ x ∈ scope.names, x.2 ≠ .cell) : codeAny (model prog w) A (.call (.ref f) args) R s := by
  have X := X₀.keeps F.keep
  obtain ⟨FG, BG, st, _⟩ := groundX (R := R) B F N hA hf hke
  have hfs : [env].filterMap (·.frame) = [L] := by simp [hf]
  obtain ⟨oL, es, ep, hLg, hLd, hLk, hLf⟩ := FG.ns
  refine codeAny_call_def (fd := fnOf name qual params body scope dV kV doc pm an cdv ct) (body := body) (binds := binds) hroom (X _ _ ho) rfl (T.nolimit.keeps F.keep) (codeRec_of X hcd) rfl hbind hcell hloc (fun h₁ hns hk₁ => ?_) hco hgen hk
  refine wpAny_mono (h _ s.heap.objs.size h₁ FG ⟨hns, fun b o e => hk₁ b o (of_hideAll _ e), Nat.le_of_eq (hideAll_size _ _)⟩
    (fun p hp => ⟨hk₁ _ _ (N p hp).1, Nat.ne_of_lt (Heap.lt_size (N p hp).1), hideAll_none _ (List.mem_map_of_mem hp)⟩) BG (X₀.keeps st) (T.keeps st) (fun b hb => by
      rw [hfs] at hb
      obtain rfl := List.mem_singleton.mp hb
      exact ⟨oL, es, ep, hLg, hLd⟩)) (fun fl s' hl => ?_) fun _ _ y => y
  rw [hfs] at hl
  obtain ⟨g', L', m', news', T', F', N', k⟩ := hl
  have nL₀ : h₀.get? L = none := kts_self F
  obtain ⟨sl, hs⟩ := T'.up hLg
  refine k ⟨⟨_, es, ep, F'.keep _ _ hs, hLd, hLk, hLf⟩, fun b o e => F'.keep b o (T'.other b o (st b o e) fun q => ?_), F.above⟩ fun p hp => ⟨(N' p hp).1, fun q => ?_, ?_⟩
  · rw [List.mem_singleton.mp q, nL₀] at e
    cases e
  · have := (N' p hp).2.2
    rw [q, hs] at this
    cases this
  · cases q : h₀.get? p.1 with
    | none => rfl
    | some o =>
      obtain ⟨sl', hs'⟩ := T'.up (st _ _ q)
      have := (N' p hp).2.2
      rw [hs'] at this
      cases this
end
section
variable {M : Model} {A : Around} {E : Value → Shared → Prop} {s' : Shared} {base g g₆ h : Heap} {outer : List Env} {L a e t : Addr} {m : Str → Option Value} {name : Str} {scope : Scope} {cd cls : Value} {Q : Unit → Shared → Prop} {news : List (Addr × Obj)} {xs : List Value} {c2 c3 c4 c5 : Value}
/-- an exception made in a handler leaves the frame -/
theorem leave_chained (K : Below A base outer g₆) (T : KtsTurn (outer.filterMap (·.frame)) g g₆) (F : Fr g₆ L h m) (N : News g₆ L h news)
    (hkeep : ∀ b o, h.get? b = some o → s'.heap.get? b = some o) (hnew : h.get? e = none) (hthere : s'.heap.get? e = some { cls := cls, data := .fields #[.ref t, .none, c2, c3, c4, c5] })
    (htn : h.get? t = none) (htt : s'.heap.get? t = some { cls := .type "tuple", data := .seq xs.toArray })
    (hQ : ∀ h', RaisedS base g outer e cls t xs news h' → g.UpToSlots h' → Q () { s' with heap := h' }) (hk : scope.kind = .function := by rfl) :
    wpAny M (A.deeper (envOf name scope L a cd)) (leaving (envOf name scope L a cd) (.ref e)) Q E s' := by
  have K' := K.push (name := name) (a := a) (cd := cd) F hk
  have hin : ∀ env ∈ (envOf name scope L a cd :: outer), ∀ b, env.frame = some b → b ∈ (envOf name scope L a cd :: outer).filterMap (·.frame) := fun env he b hb => List.mem_filterMap.mpr ⟨env, he, hb⟩
  have st : base.StaysIn (hideAll h ((envOf name scope L a cd :: outer).filterMap (·.frame))) := fun b o q => hideAll_get _ (K'.stays b o q) fun hm => by
    rw [(K'.frames.mem hm).1] at q; cases q
  have sg : ∀ b o, g.get? b = some o → b ∉ outer.filterMap (·.frame) → (hideAll h ((envOf name scope L a cd :: outer).filterMap (·.frame))).get? b = some o := fun b o q nm => by
    have q₆ := T.other b o q nm
    refine hideAll_get _ (F.keep b o q₆) fun hm => ?_
    rcases kts_mem hm with z | z
    · rw [z, kts_self F] at q₆
      cases q₆
    · exact nm z
  have gnone : ∀ b, g₆.get? b = none → g.get? b = none := fun b q => by
    cases z : g.get? b with
    | none => rfl
    | some o =>
      obtain ⟨sl, hs⟩ := T.up z
      exact nomatch q.symm.trans hs
  have hl : ∀ q ∈ news, (hideAll h ((envOf name scope L a cd :: outer).filterMap (·.frame))).get? q.1 = some q.2 ∧ g.get? q.1 = none ∧ base.get? q.1 = none := fun q hq => by
    refine ⟨hideAll_get _ (N q hq).1 fun hm => ?_, gnone _ (N q hq).2.2, fresh_of_stays K.stays (N q hq).2.2⟩
    obtain ⟨env, he, hf⟩ := List.mem_filterMap.mp hm
    rcases List.mem_cons.mp he with rfl | he
    · exact (N q hq).2.1 (Option.some.inj hf).symm
    · obtain ⟨o, ho, _⟩ := (K.frames.mem (List.mem_filterMap.mpr ⟨env, he, hf⟩)).2
      exact nomatch (N q hq).2.2.symm.trans ho
  have fresh : ∀ b, h.get? b = none → (hideAll h ((envOf name scope L a cd :: outer).filterMap (·.frame))).get? b = none := fun b hb => by
    cases q : (hideAll h ((envOf name scope L a cd :: outer).filterMap (·.frame))).get? b with
    | none => rfl
    | some o => exact nomatch hb.symm.trans (of_hideAll _ q)
  refine wpAny_leaving_firstW (a0 := .ref t) K'.stack ((funFrames_hide K'.frames hin).of_keeps fun b o hb _ => ⟨o, hkeep b o hb, rfl⟩) rfl hthere (fun b o hb => hkeep b o (of_hideAll _ hb)) (fresh e hnew) rfl rfl rfl fun h' hL => ?_
  obtain ⟨k1, ⟨_, _, k2⟩, k3, k4⟩ := hL
  have up : s'.heap.UpToSlots h' := k4
  refine hQ h' ⟨⟨_, st, sg, hl, ⟨k1, fresh e hnew, k2, k3⟩, fresh t htn⟩, Heap.TupAt.of_slots ⟨_, _, htt, rfl, rfl⟩ up⟩ ?_
  have u1 : g.UpToSlots g₆ := fun b o q _ => T.up q
  exact (u1.trans (Heap.UpToSlots.of_keeps F.keep)).trans ((Heap.UpToSlots.of_keeps hkeep).trans up)
end
end Mine
-- MF
namespace Mine
theorem rows1_MF : True := by
  k_with_none
  k_with "k_ne" => first | exact ne_l1 (by with_reducible assumption) | exact ne_r1 (by with_reducible assumption) | exact ne_l2 (by with_reducible assumption) | exact ne_r2 (by with_reducible assumption) | exact ne_l3 (by with_reducible assumption) | exact ne_r3 (by with_reducible assumption) | exact ne_l0 (by with_reducible assumption) | exact ne_r0 (by with_reducible assumption) | exact ne_l4 (by with_reducible assumption) | exact ne_r4 (by with_reducible assumption) | exact ne_l5 (by with_reducible assumption) | exact ne_r5 (by with_reducible assumption)
  k_with "ktr_room" => first | exact room_c 0 hd rfl | exact room_c 1 hd rfl | exact room_c 6 hd rfl | exact room_c 9 hd rfl | exact room_c 21 hd rfl | exact Nat.le_of_ble_eq_true rfl
  k_with "ktr_units" => first | exact room_c 43 hu rfl | exact room_c 63 hu rfl | exact room_c 203 hu rfl | exact Nat.le_of_ble_eq_true rfl
  k_with "call builtin:str.find" => (k_dflt (k_here; (with_reducible show wpAny _ _ (call (Value.builtin "str.find") [Value.str _ _, Value.str _ _, Value.int _ _, Value.int _ _]) _ _ _); refine call_find4 ?_))
  k_with "call builtin:str.rfind" => (k_dflt (k_here; (with_reducible show wpAny _ _ (call (Value.builtin "str.rfind") [Value.str _ _, Value.str _ _, Value.int _ _, Value.int _ _]) _ _ _); refine call_rfind4 ?_))
  k_with "call ref" => (k_here; refine wpAny_call ?_; k_dflt (refine' code_def ?k1z6 ?k2z6 ?k3z6 ?k4z6 ?k5z6 ?kAz6 ?kFz6 ?kKz6 ?k6z6 ?k7z6 ?k8z6 ?k9z6 ?kBz6 ?_ ?c2z6 ?c3z6 ?c4z6 ?c5z6; (case kAz6 => exact rfl); (case kFz6 => exact rfl); (case kKz6 => first | exact rfl | assumption); (case k1z6 => k_asm); (case k2z6 => k_asm); (case k3z6 => k_asm); (case k4z6 => k_asm); (case k5z6 => k_asm); (case k6z6 => k_is); (case k7z6 => k_is); (case k8z6 => ktr_room); (case k9z6 => exact BindsTo.of_eq rfl); (case c5z6 => decide); (case kBz6 => exact locs rfl); (case c2z6 => exact rfl); (case c3z6 => exact rfl); (case c4z6 => exact rfl); k_whole; intro g' L' h' FG' F' N' B' X' T'; (try dsimp only); (try k_lift B'); (try k_fold)))
  k_with "call ref" => (k_here; (with_reducible show wpAny _ _ (call (Value.ref 67) [Value.str _ _, Value.str _ _]) _ _ _); k_dflt (refine' strcoll _ _ _ _ _ _ _ _ _ _ _ _ _ _ _ _ _ _ _ _ _ _ _ _ _ _ ?k1z7 ?k2z7 ?k3z7 ?k4z7 ?k5z7 ?kKz7 ?kdz7 ?kuz7  ?_; (case k1z7 => k_asm); (case k2z7 => k_asm); (case k3z7 => k_in); (case k4z7 => k_asm); (case k5z7 => k_asm); (case kKz7 => first | exact rfl | assumption); (case kdz7 => ktr_room); (case kuz7 => ktr_units); intro t9 h9 tk9 F9 N9; (try dsimp only); (try k_fold)))
  k_with "call ref" => (k_here; (with_reducible show wpAny _ _ (call (Value.ref 84) [Value.int _ _]) _ _ _); k_dflt (refine' isterm _ _ _ _ _ _ _ _ _ _ _ _ _ _ _ _ _ _ _ _ _ _ _ _ ?k1z8 ?k2z8 ?k3z8 ?k4z8 ?k5z8 ?kKz8 ?kdz8 ?kuz8  ?_; (case k1z8 => k_asm); (case k2z8 => k_asm); (case k3z8 => k_in); (case k4z8 => k_asm); (case k5z8 => k_asm); (case kKz8 => first | exact rfl | assumption); (case kdz8 => ktr_room); (case kuz8 => ktr_units); intro t9 h9 tk9 F9 N9; (try dsimp only); (try k_fold)))
  k_with "call ref" => (k_here; (with_reducible show wpAny _ _ (call (Value.ref 91) [Value.int _ _]) _ _ _); k_dflt (refine' iseof _ _ _ _ _ _ _ _ _ _ _ _ _ _ _ _ _ _ _ _ _ _ _ _ ?k1z9 ?k2z9 ?k3z9 ?k4z9 ?k5z9 ?kKz9 ?kdz9 ?kuz9  ?_; (case k1z9 => k_asm); (case k2z9 => k_asm); (case k3z9 => k_in); (case k4z9 => k_asm); (case k5z9 => k_asm); (case kKz9 => first | exact rfl | assumption); (case kdz9 => ktr_room); (case kuz9 => ktr_units); intro t9 h9 tk9 F9 N9; (try dsimp only); (try k_fold)))
  k_with "call ref" => (k_here; (with_reducible show wpAny _ _ (call (Value.ref 28) [Value.str _ _]) _ _ _); k_dflt (refine' stripd _ _ _ ?hxz10 _ _ _ _ _ _ _ _ _ _ _ _ _ _ _ _ _ _ _ _ _ ?k1z10 ?k2z10 ?k3z10 ?k4z10 ?k5z10 ?kKz10 ?kdz10 ?kuz10  ?_; (case k1z10 => k_asm); (case k2z10 => k_asm); (case k3z10 => k_in); (case k4z10 => k_asm); (case k5z10 => k_asm); (case kKz10 => first | exact rfl | assumption); (case kdz10 => ktr_room); (case kuz10 => ktr_units); (case hxz10 => first | assumption | omega | size_fits); intro t9 h9 tk9 F9 N9; (try dsimp only); (try k_fold)))
  k_with "assign Tuple" => (k_dflt (k_here; (with_reducible show wpAny _ _ (assign (Expr.Tuple _ _ _) _ (Value.int _ _)) _ _ _); refine unpack_int rfl ?_); intro xh xtk xe hxx)
  k_with "binaryOp Add str int" => (k_dflt (k_here; refine add_str_int rfl ?_); intro xh xtk xe hxx)
  trivial
theorem refusedC (w : World) (tx : Tok)
    {pT : Program} {lT : List Str} (mean : ExcName → Option Value) (mg mb : Str → Option Value) (dp un : Nat) (gd : Option (List Code)) (cn : Str) (cs : Scope) (a : Addr) (ccd : Value) (cl : List (Str × Addr)) (A₀ : Around) (h₀ : Heap) (L : Addr) (m : Str → Option Value) (news : List (Addr × Obj)) (s : Shared) (Q E : Value → Shared → Prop) :
    Below A₀ h₀ [] h₀ → Fr h₀ L s.heap m → (Mine.hd.heap_1 w.params).In h₀ → News h₀ L s.heap news → Top pT lT mean mg mb h₀ → cs.kind = .function →
    dp + 8 < recursionLimit → un + 60 < cLine → CbRet h₀ L m news s Q (fun _ => .bool true) →
      wpAny (model PySem.Challenge.rw_wr0036_01.row.prog w) (ktrTop dp un gd cn cs L a ccd cl []) (call (.ref 108) [.int 7 tx]) Q E s := by
  k_fill
  intro B F X N T hk hd hu hret
  refine wpAny_call ?_
  k_dflt (refine' code_defX0 (binds := [(Str.ofString "pair", Value.int 7 tx)]) ?k1 ?k2 ?k3 ?k4 ?k5 ?kA ?kF ?kK ?k6 ?k7 ?k8 ?k9 ?kB ?_ ?c2 ?c3 ?c4 ?c5; (case kA => exact rfl); (case kF => exact rfl); (case kK => assumption); (case k1 => k_asm); (case k2 => k_asm); (case k3 => k_asm); (case k4 => k_asm); (case k5 => k_asm); (case k6 => k_is); (case k7 => k_is); (case k8 => ktr_room); (case k9 => exact BindsTo.of_eq rfl); (case c5 => decide); (case kB => exact locs rfl); (case c2 => exact rfl); (case c3 => exact rfl); (case c4 => exact rfl); k_whole; intro g' L' h' FG' F' N' B' X' T' D'; (try dsimp only); (try k_lift B'); (try k_fold))
  k_steps
  · rename Heap.NewExc _ _ _ _ => hx
    refine caught_own2 (T1 := "TypeError") (T2 := "ValueError") (b1 := true) (b2 := false) hx (by k_asm) (by k_asm) (by k_asm) X T ?ex1 PyProof.Rows.Boot.«TypeError» (by decide) ?ex2 PyProof.Rows.Boot.«ValueError» (by decide) PySem.F.isExc_TypeError PySem.F.notTuple_TypeError PySem.F.isExc_ValueError PySem.F.notTuple_ValueError (by rw [isSubtype_type]; kernel_rfl) (by rw [isSubtype_type]; kernel_rfl) rfl ?_
    case ex1 => k_is
    case ex2 => k_is
    intro h9 g9 oe vs T9 F9 N9 B9 he hvs hv2
    k_steps
    have X9 := X.keeps B9.stays
    have P9 := topRead_of (T.keeps B9.stays)
    refine raise_from PySem.F.excCall_TypeError PySem.F.excRaise_TypeError rfl (name_B F9 X9 P9 ?ex3 PyProof.Rows.Boot.«TypeError» (by decide) ⟨rfl, ?_⟩)
    case ex3 => k_is
    refine spliced_more (Calls.Constant_str (spliced_none ⟨by size_fits, ⟨oe, vs, he, hvs, hv2⟩, fun h8 e8 t8 k1 k2 k3 k4 k5 => ?_⟩))
    refine leave_chained B9 T9 F9 N9 k1 k2 k3 k4 k5 fun h7 R7 U7 => ?_
    refine caught_SB (T' := "TypeError") R7 (by k_asm) (by k_asm) U7 X T D' KtsTurn.refl ?ex4 PyProof.Rows.Boot.«TypeError» (by decide) PySem.F.isExc_TypeError PySem.F.notTuple_TypeError (by rw [isSubtype_type]; kernel_rfl) ?_
    case ex4 => k_is
    intro h6 g6 n6 tk6 T6 F6 N6 G6 N6' B6 X6 P6 D6
    k_steps
    exact cb_retB hret (by decide) (by k_asm) (cb_drop (by k_asm) fun p hp => hp)
theorem refusedB (w : World) (q : Addr) (x : Str) (tx ty : Tok) (hx0 : x.length < 1000)
    {pT : Program} {lT : List Str} (mean : ExcName → Option Value) (mg mb : Str → Option Value) (dp un : Nat) (gd : Option (List Code)) (cn : Str) (cs : Scope) (a : Addr) (ccd : Value) (cl : List (Str × Addr)) (A₀ : Around) (h₀ : Heap) (L : Addr) (m : Str → Option Value) (news : List (Addr × Obj)) (s : Shared) (Q E : Value → Shared → Prop) :
    Below A₀ h₀ [] h₀ → Fr h₀ L s.heap m → (Mine.hd.heap_1 w.params).In h₀ → News h₀ L s.heap news → Top pT lT mean mg mb h₀ → cs.kind = .function →
    dp + 8 < recursionLimit → un + 60 < cLine → (q, tupOf [.str x tx, .int 7 ty]) ∈ news → CbRet h₀ L m news s Q (fun _ => .bool true) →
      wpAny (model PySem.Challenge.rw_wr0036_01.row.prog w) (ktrTop dp un gd cn cs L a ccd cl []) (call (.ref 108) [.ref q]) Q E s := by
  k_fill
  intro B F X N₀ T hk hd hu hq hret
  have N : News h₀ L s.heap ((q, tupOf [.str x tx, .int 7 ty]) :: news) := fun p hp => (List.mem_cons.mp hp).elim (fun e => e ▸ N₀ _ hq) fun h => N₀ p h
  clear N₀
  refine wpAny_call ?_
  k_dflt (refine' code_defX0 (binds := [(Str.ofString "pair", Value.ref q)]) ?k1 ?k2 ?k3 ?k4 ?k5 ?kA ?kF ?kK ?k6 ?k7 ?k8 ?k9 ?kB ?_ ?c2 ?c3 ?c4 ?c5; (case kA => exact rfl); (case kF => exact rfl); (case kK => assumption); (case k1 => k_asm); (case k2 => k_asm); (case k3 => k_asm); (case k4 => k_asm); (case k5 => k_asm); (case k6 => k_is); (case k7 => k_is); (case k8 => ktr_room); (case k9 => exact BindsTo.of_eq rfl); (case c5 => decide); (case kB => exact locs rfl); (case c2 => exact rfl); (case c3 => exact rfl); (case c4 => exact rfl); k_whole; intro g' L' h' FG' F' N' B' X' T' D'; (try dsimp only); (try k_lift B'); (try k_fold))
  k_steps
  · rename Heap.NewExc _ _ _ _ => hx
    refine caught_own2 (T1 := "TypeError") (T2 := "ValueError") (b1 := true) (b2 := false) hx (by k_asm) (by k_asm) (by k_asm) X T ?ex1 PyProof.Rows.Boot.«TypeError» (by decide) ?ex2 PyProof.Rows.Boot.«ValueError» (by decide) PySem.F.isExc_TypeError PySem.F.notTuple_TypeError PySem.F.isExc_ValueError PySem.F.notTuple_ValueError (by rw [isSubtype_type]; kernel_rfl) (by rw [isSubtype_type]; kernel_rfl) rfl ?_
    case ex1 => k_is
    case ex2 => k_is
    intro h9 g9 oe vs T9 F9 N9 B9 he hvs hv2
    k_steps
    have X9 := X.keeps B9.stays
    have P9 := topRead_of (T.keeps B9.stays)
    refine raise_from PySem.F.excCall_TypeError PySem.F.excRaise_TypeError rfl (name_B F9 X9 P9 ?ex3 PyProof.Rows.Boot.«TypeError» (by decide) ⟨rfl, ?_⟩)
    case ex3 => k_is
    refine spliced_more (Calls.Constant_str (spliced_none ⟨by size_fits, ⟨oe, vs, he, hvs, hv2⟩, fun h8 e8 t8 k1 k2 k3 k4 k5 => ?_⟩))
    refine leave_chained B9 T9 F9 N9 k1 k2 k3 k4 k5 fun h7 R7 U7 => ?_
    refine caught_SB (T' := "TypeError") R7 (by k_asm) (by k_asm) U7 X T D' KtsTurn.refl ?ex4 PyProof.Rows.Boot.«TypeError» (by decide) PySem.F.isExc_TypeError PySem.F.notTuple_TypeError (by rw [isSubtype_type]; kernel_rfl) ?_
    case ex4 => k_is
    intro h6 g6 n6 tk6 T6 F6 N6 G6 N6' B6 X6 P6 D6
    k_steps
    exact cb_retB hret (by decide) (by k_asm) (cb_drop (by k_asm) fun p hp => .tail _ hp)
theorem refusedA (w : World) (q : Addr) (x y z : Str) (tx ty tz : Tok)
    {pT : Program} {lT : List Str} (mean : ExcName → Option Value) (mg mb : Str → Option Value) (dp un : Nat) (gd : Option (List Code)) (cn : Str) (cs : Scope) (a : Addr) (ccd : Value) (cl : List (Str × Addr)) (A₀ : Around) (h₀ : Heap) (L : Addr) (m : Str → Option Value) (news : List (Addr × Obj)) (s : Shared) (Q E : Value → Shared → Prop) :
    Below A₀ h₀ [] h₀ → Fr h₀ L s.heap m → (Mine.hd.heap_1 w.params).In h₀ → News h₀ L s.heap news → Top pT lT mean mg mb h₀ → cs.kind = .function →
    dp + 8 < recursionLimit → un + 60 < cLine → (q, tupOf [.str x tx, .str y ty, .str z tz]) ∈ news → CbRet h₀ L m news s Q (fun _ => .bool true) →
      wpAny (model PySem.Challenge.rw_wr0036_01.row.prog w) (ktrTop dp un gd cn cs L a ccd cl []) (call (.ref 108) [.ref q]) Q E s := by
  k_fill
  intro B F X N₀ T hk hd hu hq hret
  have N : News h₀ L s.heap ((q, tupOf [.str x tx, .str y ty, .str z tz]) :: news) := fun p hp => (List.mem_cons.mp hp).elim (fun e => e ▸ N₀ _ hq) fun h => N₀ p h
  clear N₀
  refine wpAny_call ?_
  k_dflt (refine' code_defX0 (binds := [(Str.ofString "pair", Value.ref q)]) ?k1 ?k2 ?k3 ?k4 ?k5 ?kA ?kF ?kK ?k6 ?k7 ?k8 ?k9 ?kB ?_ ?c2 ?c3 ?c4 ?c5; (case kA => exact rfl); (case kF => exact rfl); (case kK => assumption); (case k1 => k_asm); (case k2 => k_asm); (case k3 => k_asm); (case k4 => k_asm); (case k5 => k_asm); (case k6 => k_is); (case k7 => k_is); (case k8 => ktr_room); (case k9 => exact BindsTo.of_eq rfl); (case c5 => decide); (case kB => exact locs rfl); (case c2 => exact rfl); (case c3 => exact rfl); (case c4 => exact rfl); k_whole; intro g' L' h' FG' F' N' B' X' T' D'; (try dsimp only); (try k_lift B'); (try k_fold))
  k_steps
  refine unpack_many rfl (News.isTup (by k_asm) (List.Mem.head _)) rfl rfl rfl ?_
  intro xh xtk xe hxx
  k_steps
  · rename Heap.NewExc _ _ _ _ => hx
    refine caught_own2 (T1 := "TypeError") (T2 := "ValueError") (b1 := false) (b2 := true) hx (by k_asm) (by k_asm) (by k_asm) X T ?ex1 PyProof.Rows.Boot.«TypeError» (by decide) ?ex2 PyProof.Rows.Boot.«ValueError» (by decide) PySem.F.isExc_TypeError PySem.F.notTuple_TypeError PySem.F.isExc_ValueError PySem.F.notTuple_ValueError (by rw [isSubtype_type]; kernel_rfl) (by rw [isSubtype_type]; kernel_rfl) rfl ?_
    case ex1 => k_is
    case ex2 => k_is
    intro h9 g9 oe vs T9 F9 N9 B9 he hvs hv2
    k_steps
    have X9 := X.keeps B9.stays
    have P9 := topRead_of (T.keeps B9.stays)
    refine raise_from PySem.F.excCall_TypeError PySem.F.excRaise_TypeError rfl (name_B F9 X9 P9 ?ex3 PyProof.Rows.Boot.«TypeError» (by decide) ⟨rfl, ?_⟩)
    case ex3 => k_is
    refine spliced_more (Calls.Constant_str (spliced_none ⟨by size_fits, ⟨oe, vs, he, hvs, hv2⟩, fun h8 e8 t8 k1 k2 k3 k4 k5 => ?_⟩))
    refine leave_chained B9 T9 F9 N9 k1 k2 k3 k4 k5 fun h7 R7 U7 => ?_
    refine caught_SB (T' := "TypeError") R7 (by k_asm) (by k_asm) U7 X T D' KtsTurn.refl ?ex4 PyProof.Rows.Boot.«TypeError» (by decide) PySem.F.isExc_TypeError PySem.F.notTuple_TypeError (by rw [isSubtype_type]; kernel_rfl) ?_
    case ex4 => k_is
    intro h6 g6 n6 tk6 T6 F6 N6 G6 N6' B6 X6 P6 D6
    k_steps
    exact cb_retB hret (by decide) (by k_asm) (cb_drop (by k_asm) fun p hp => .tail _ hp)
end Mine
-- MU
namespace Mine
theorem build_s (w : World) (q : Addr) (x : Option Str) (y : Str) (tx ty : Tok) (hx : ∀ z, x = some z → z.length < 1000) (hy : y.length < 1000) : Claim2 w 74 q (tupOf [optV x tx, .str y ty]) (fun t => .str (buildP x (some y)) t) :=
  build w q x (some y) tx ty hx (fun _ h => (Option.some.inj h) ▸ hy)
theorem build_n (w : World) (q : Addr) (x : Option Str) (tx : Tok) (hx : ∀ z, x = some z → z.length < 1000) : Claim2 w 74 q (tupOf [optV x tx, .none]) (fun t => .str (buildP x none) t) :=
  build w q x none tx 0 hx (fun _ h => nomatch h)
structure RunOk (cl : List (Str × Tok)) (fl : List Bool) (nl : List (Str × Tok)) (behind : Str) (O : Nat → Nat → Option Str → Str → Prop) (G : Nat → Nat → Str → Str → Prop) : Prop where
  start : O 0 0 none (Str.ofString "257")
  pushT : ∀ i c o r a, O i c o r → cl[i]? = some a → fl[i]? = some true → G i c (buildP o (some a.1)) r
  pushF : ∀ i c o r a, O i c o r → cl[i]? = some a → fl[i]? = some false → G i c (buildP o none) (Str.ofString "257 \"\"\"" ++ a.1 ++ Str.ofString "\"\"\"" ++ r)
  popA : ∀ i c p r n, G i c p r → nl[c]? = some n → (stripP (p ++ behind) == n.1) = true → G i (c + 1) (Txt.slice p none (some (-1 - (n.1.length : Int)))) r
  popB : ∀ i c p r n, G i c p r → nl[c]? = some n → (stripP (p ++ behind) == n.1) = false → (parseP r == Str.ofString "\"" ++ n.1 ++ Str.ofString "\"") = true → G i (c + 1) p (Txt.slice r (some (10 + (n.1.length : Int))) none)
  stay : ∀ i c p r n, G i c p r → nl[c]? = some n → (stripP (p ++ behind) == n.1) = false → (parseP r == Str.ofString "\"" ++ n.1 ++ Str.ofString "\"") = false → O (i + 1) c (some p) r
  full : ∀ i p r, G i nl.length p r → O (i + 1) nl.length (some p) r
  boundO : ∀ i c o r, O i c o r → c ≤ nl.length ∧ (∀ p, o = some p → p.length < 100) ∧ r.length < 500
  boundG : ∀ i c p r, G i c p r → c ≤ nl.length ∧ p.length < 100 ∧ r.length < 500 ∧ Txt.slice r none (some 3) = Str.ofString "257"
  behind : behind.length < 100
  names : ∀ n ∈ nl, n.1.length < 10
  called : ∀ n ∈ cl, n.1.length < 10
  len : fl.length = cl.length
  small : nl.length < 100
noncomputable def boolValues (l : List Bool) : List Value := l.map Value.bool
noncomputable abbrev outOf (nl : List (Str × Tok)) (c e : Nat) : Obj := listOf (strValues (nl.take c)).toArray e
structure RunSt where
  o : Option Str
  t : Tok
  r : Str
  u : Tok
  c : Nat
  e : Nat
noncomputable abbrev runPs (c : RunSt) : List (Str × Value) := [(Str.ofString "pile", optV c.o c.t), (Str.ofString "replies", .str c.r c.u)]
section
variable {prog : Program} {w : World} {A : Around} {E : Value → Shared → Prop} {s : Shared} {env : Env} {h₀ : Heap} {xi xc : Str} {body : List Stmt} {Q : Flow → Shared → Prop}
theorem run_loop {cl nl : List (Str × Tok)} {fl : List Bool} {behind : Str} {O : Nat → Nat → Option Str → Str → Prop} {G : Nat → Nat → Str → Str → Prop} (RO : RunOk cl fl nl behind O G) {l1 l2 D l : Addr} {tup : Obj} {n1 n2 : Nat} {t0 : Tok} {m₀ : Str → Option Value} {news : List (Addr × Obj)}
    (hh : A.handled = none) (hl1 : (l1, listOf (strValues cl).toArray n1) ∈ news) (hl2 : (l2, listOf (boolValues fl).toArray n2) ∈ news) (F : Fr h₀ env.locals s.heap m₀) (N : News h₀ env.locals s.heap ((D, tup) :: (l, listOf #[] 0) :: news))
    (hp : m₀ (Str.ofString "pile") = some .none) (hr : m₀ (Str.ofString "replies") = some (.str (Str.ofString "257") t0))
    (turn : ∀ (c : RunSt) i nm tn b (u : Str → Option Value) h tk own, O i c.c c.o c.r → (∀ z, c.o = some z → z.length < 1000) → c.r.length < 500 → nm.length < 10 → cl[i]? = some (nm, tn) → (b = true → G i c.c (buildP c.o (some nm)) c.r) → (b = false → G i c.c (buildP c.o none) (Str.ofString "257 \"\"\"" ++ nm ++ Str.ofString "\"\"\"" ++ c.r)) → OwnOff own (((D, tup) :: (l, listOf #[] 0) :: news).map (·.1)) →
      Fr h₀ env.locals h (fun y => if y = xc then some (.bool b) else if y = xi then some (.str nm tn) else if y = Str.ofString "pile" then some (optV c.o c.t) else if y = Str.ofString "replies" then some (.str c.r c.u) else if [Str.ofString "wanted"].contains y then u y else m₀ y) →
      News h₀ env.locals h ((D, tup) :: (l, outOf nl c.c c.e) :: (news ++ own)) →
      wpAny (model prog w) A (execs body env) (InvPostN h₀ env.locals (TurnP (fun c : RunSt => (D, tup) :: (l, outOf nl c.c c.e) :: news) runPs [Str.ofString "wanted"] xi xc m₀ (fun c => O (i + 1) c.c c.o c.r)) own (((D, tup) :: (l, listOf #[] 0) :: news).map (·.1)) { s with heap := h, toks := tk } Q) E { s with heap := h, toks := tk })
    (done : ∀ (c : RunSt) (u : Str → Option Value) h tk, O cl.length c.c c.o c.r → Fr h₀ env.locals h (fun y => if y = xc then u y else if y = xi then u y else if y = Str.ofString "pile" then some (optV c.o c.t) else if y = Str.ofString "replies" then some (.str c.r c.u) else if [Str.ofString "wanted"].contains y then u y else m₀ y) → News h₀ env.locals h ((D, tup) :: (l, outOf nl c.c c.e) :: news) → Q .next { s with heap := h, toks := tk }) :
    wpAny (model prog w) A (call (.type "zip") [.ref l1, .ref l2]) (fun xv s₁ => wpAny (model prog w) A (pyIter xv) (fun it s₂ => PairAt3 prog w A h₀ env xi xc body Q E it s₂) E s₁) E s := by
  refine zipS (σ := RunSt) (vs1 := strValues cl) (vs2 := boolValues fl) (fun c => (D, tup) :: (l, outOf nl c.c c.e) :: news) runPs [Str.ofString "wanted"] (fun i c => O i c.c c.o c.r) ⟨none, 0, Str.ofString "257", t0, 0, 0⟩ hh (fun _ => .tail _ (.tail _ hl1)) (fun _ => .tail _ (.tail _ hl2)) (by simp [strValues, boolValues, RO.len]) F N (fun p hpm => ?_) RO.start ?_ ?_
  · simp only [List.mem_cons, List.not_mem_nil, or_false] at hpm
    rcases hpm with rfl | rfl
    · exact hp
    · exact hr
  · rintro c i v0 v1 u h tk own h0 h1 hoff hO F₁ N₁
    unfold strValues at h0
    unfold boolValues at h1
    rw [List.getElem?_map] at h0 h1
    obtain ⟨⟨nm, tn⟩, hn, rfl⟩ := Option.map_eq_some_iff.mp h0
    obtain ⟨b, hb, rfl⟩ := Option.map_eq_some_iff.mp h1
    have hb3 := RO.boundO _ _ _ _ hO
    exact turn c i nm tn b u h tk own hO (fun z hz => Nat.lt_trans (hb3.2.1 z hz) (by lia)) hb3.2.2 (RO.called _ (List.mem_of_getElem? hn)) hn (fun e => RO.pushT i c.c c.o c.r (nm, tn) hO hn (e ▸ hb)) (fun e => RO.pushF i c.c c.o c.r (nm, tn) hO hn (e ▸ hb)) hoff F₁ N₁
  · rintro c u h tk hO F₁ N₁
    rw [show (strValues cl).length = cl.length from by simp [strValues]] at hO
    exact done c u h tk hO F₁ N₁
structure RunW where
  p : Str
  t : Tok
  r : Str
  u : Tok
  c : Nat
  e : Nat
noncomputable abbrev runWs (c : RunW) : List (Str × Value) := [(Str.ofString "pile", .str c.p c.t), (Str.ofString "replies", .str c.r c.u)]
theorem run_while {cl nl : List (Str × Tok)} {fl : List Bool} {behind : Str} {O : Nat → Nat → Option Str → Str → Prop} {G : Nat → Nat → Str → Str → Prop} (RO : RunOk cl fl nl behind O G) {D2 D l : Addr} {tup2 tup : Obj} {p0 r0 : Str} {t0 u0 : Tok} {c0 e0 : Nat} {i : Nat} {m₀ : Str → Option Value} {post : List (Addr × Obj)} {test : Expr} {pos : Pos}
    (F : Fr h₀ env.locals s.heap m₀) (N : News h₀ env.locals s.heap ((D2, tup2) :: (D, tup) :: (l, outOf nl c0 e0) :: post))
    (hp : m₀ (Str.ofString "pile") = some (.str p0 t0)) (hr : m₀ (Str.ofString "replies") = some (.str r0 u0)) (hG : G i c0 p0 r0)
    (turn : ∀ (c : RunW) (u : Str → Option Value) h tk, G i c.c c.p c.r → c.c ≤ nl.length → c.p.length < 100 → c.r.length < 500 → Txt.slice c.r none (some 3) = Str.ofString "257" → nl.length < 100 →
      Fr h₀ env.locals h (fun z => if z = Str.ofString "pile" then some (.str c.p c.t) else if z = Str.ofString "replies" then some (.str c.r c.u) else if [Str.ofString "wanted"].contains z then u z else m₀ z) →
      News h₀ env.locals h ((D2, tup2) :: (D, tup) :: (l, outOf nl c.c c.e) :: post) →
      wpAny (model prog w) A (isTrue test env (eval test env)) (fun b s₂ =>
        if b = true then wpAny (model prog w) A (execs body env) (KswPost h₀ env.locals s (fun c : RunW => (D2, tup2) :: (D, tup) :: (l, outOf nl c.c c.e) :: post) runWs (fun _ => True) [Str.ofString "wanted"] m₀ (fun c => G i c.c c.p c.r) (fun c => nl.length - c.c) Q c) E s₂ else Q .next s₂) E { s with heap := h, toks := tk })
    (hE : PassesOwn (model prog w) A env E := by passes_own) :
    wpAny (model prog w) A (exec (.While test body [] pos) env) Q E s := by
  refine ksw_while (σ := RunW) (fun c => (D2, tup2) :: (D, tup) :: (l, outOf nl c.c c.e) :: post) runWs (fun _ => True) [Str.ofString "wanted"] (fun c => G i c.c c.p c.r) (fun c => nl.length - c.c) ⟨p0, t0, r0, u0, c0, e0⟩ F N trivial (fun p hpm => ?_) hG ?_ hE
  · simp only [List.mem_cons, List.not_mem_nil, or_false] at hpm
    rcases hpm with rfl | rfl
    · exact hp
    · exact hr
  · intro c u h tk _ hG' F₁ N₁
    have hb := RO.boundG _ _ _ _ hG'
    exact turn c u h tk hG' hb.1 hb.2.1 hb.2.2.1 hb.2.2.2 RO.small F₁ N₁
theorem len_strs {D : Addr} {l : List (Str × Tok)} {n : Nat} {L : Addr} {news : List (Addr × Obj)} {Q : Value → Shared → Prop} (N : News h₀ L s.heap news) (hm : (D, listOf (strValues l).toArray n) ∈ news) (hfit : l.length < 1000)
    (h : Q (.int (l.length : Nat) (s.toks + 1)) { s with toks := s.toks + 1 + 1 }) : wpAny (model prog w) A (call (.builtin "len") [.ref D]) Q E s :=
  len_led N hm (by simp [strValues]; lia) (by rw [show (strValues l).length = l.length from by simp [strValues]]; exact h)
theorem len_out {D : Addr} {nl : List (Str × Tok)} {c e : Nat} {L : Addr} {news : List (Addr × Obj)} {Q : Value → Shared → Prop} (N : News h₀ L s.heap news) (hm : (D, outOf nl c e) ∈ news) (hc : c ≤ nl.length) (hfit : nl.length < 1000)
    (h : Q (.int (c : Nat) (s.toks + 1)) { s with toks := s.toks + 1 + 1 }) : wpAny (model prog w) A (call (.builtin "len") [.ref D]) Q E s :=
  len_strs N hm (by rw [List.length_take]; lia) (by rw [show (nl.take c).length = c from by rw [List.length_take]; lia]; exact h)
theorem item_strs {value slice : Expr} {D : Addr} {l : List (Str × Tok)} {n c : Nat} {u : Tok} {L : Addr} {news : List (Addr × Obj)} {Q : Value → Shared → Prop} (N : News h₀ L s.heap news) (hm : (D, listOf (strValues l).toArray n) ∈ news) (hc : c < l.length) (hfit : l.length < 1000)
    (h : ∀ x t, l[c]? = some (x, t) → Q (.str x t) s)
    (hs : subscripted slice false (.ref D) (.int (c : Nat) u) = operate [.ref D, .int (c : Nat) u] (getItem (.ref D) (.int (c : Nat) u)) := by with_unfolding_all rfl) (hg : ∀ r, letTemporaryGo value (.ref D) r = pure () := by intro _; with_unfolding_all rfl) :
    wpAny (model prog w) A (subscriptTail value slice (.ref D) (.int (c : Nat) u)) Q E s := by
  have hx : l[c]? = some (l[c].1, l[c].2) := List.getElem?_eq_getElem hc
  refine item_listL (News.isList N hm) (by lia) (by lia) ?_ (h _ _ hx) hs hg
  simp [strValues, hx]
theorem out_append {l : Addr} {nl : List (Str × Tok)} {c e : Nat} {x : Str} {t : Tok} {L : Addr} {m : Str → Option Value} {news news' : List (Addr × Obj)} {Q : Value → Shared → Prop} (F : Fr h₀ L s.heap m) (N : News h₀ L s.heap news) (hx : nl[c]? = some (x, t)) (hfit : nl.length < 1000)
    (U : Upd l (outOf nl c e) (outOf nl (c + 1) (e + 1)) news news') (h : ∀ h', Fr h₀ L h' m → News h₀ L h' news' → Q .none { s with heap := h' }) : wpAny (model prog w) A (call (.builtin "list.append") [.ref l, .str x t]) Q E s := by
  have e1 : (strValues (nl.take (c + 1))).toArray = (strValues (nl.take c)).toArray.push (.str x t) := by
    rw [List.take_add_one, hx]
    simp [strValues]
  have U' : Upd l (listOf (strValues (nl.take c)).toArray e) (listOf ((strValues (nl.take c)).toArray.push (.str x t)) (e + 1)) news news' := by
    rw [← e1]; exact U
  exact append_K F N U' h (by simp [strValues, sizeLine_eq]; lia)
section
variable {cl nl : List (Str × Tok)} {fl : List Bool} {behind : Str} {O : Nat → Nat → Option Str → Str → Prop} {G : Nat → Nat → Str → Str → Prop} (RO : RunOk cl fl nl behind O G) {i c : Nat} {p r x : Str} {t : Tok}
include RO
theorem popA' (hG : G i c p r) (hn : nl[c]? = some (x, t)) (h : (stripP (p ++ behind) == x) = true) : G i (c + 1) (Txt.slice p none (some (-1 - (x.length : Int)))) r := RO.popA i c p r (x, t) hG hn h
theorem popB' (hG : G i c p r) (hn : nl[c]? = some (x, t)) (h : (stripP (p ++ behind) == x) = false) (h2 : (parseP r == Str.ofString "\"" ++ x ++ Str.ofString "\"") = true) : G i (c + 1) p (Txt.slice r (some (10 + (x.length : Int))) none) := RO.popB i c p r (x, t) hG hn h h2
theorem stay' (hG : G i c p r) (hn : nl[c]? = some (x, t)) (h : (stripP (p ++ behind) == x) = false) (h2 : (parseP r == Str.ofString "\"" ++ x ++ Str.ofString "\"") = false) : O (i + 1) c (some p) r := RO.stay i c p r (x, t) hG hn h h2
theorem full' (hG : G i c p r) (hc : c ≤ nl.length) (hc2 : ¬ c < nl.length) : O (i + 1) c (some p) r := by
  have : c = nl.length := by lia
  subst this
  exact RO.full i p r hG
end
theorem run_less {α : Type} {nl : List α} {c : Nat} {x : α} (h : nl[c]? = some x) : nl.length - (c + 1) < nl.length - c := by
  have := (List.getElem?_eq_some_iff.mp h).1
  lia
theorem sub3 {α : Type} {x a b : α} {l own : List α} : ∀ p ∈ a :: b :: l, p ∈ x :: a :: b :: (l ++ own) := fun p hp => by
  simp only [List.mem_cons, List.mem_append] at hp ⊢
  rcases hp with h | h | h
  · exact .inr (.inl h)
  · exact .inr (.inr (.inl h))
  · exact .inr (.inr (.inr (.inl h)))
theorem sub3o {α : Type} {x a b : α} {l own : List α} : ∀ p ∈ own, p ∈ x :: a :: b :: (l ++ own) := fun p hp => by
  simp only [List.mem_cons, List.mem_append]
  exact .inr (.inr (.inr (.inr hp)))
theorem sub2 {α : Type} {x a b : α} {l : List α} : ∀ p ∈ a :: b :: l, p ∈ a :: x :: b :: l := fun p hp => by
  simp only [List.mem_cons] at hp ⊢
  rcases hp with h | h | h
  · exact .inl h
  · exact .inr (.inr (.inl h))
  · exact .inr (.inr (.inr h))
end
end Mine
-- MV
namespace Mine
section
variable {nl : List (Str × Tok)} {O : Nat → Nat → Option Str → Str → Prop} {G : Nat → Nat → Str → Str → Prop} {h₀ : Heap} {L : Addr} {s : Shared} {i : Nat} {m₀ m' : Str → Option Value} {h' : Heap} {tk : Nat} {D2 D l : Addr} {tup2 tup : Obj} {post : List (Addr × Obj)}
theorem rows1_MV : True := by
  k_with_none
  k_with "k_ne" => first | exact ne_l1 (by with_reducible assumption) | exact ne_r1 (by with_reducible assumption) | exact ne_l2 (by with_reducible assumption) | exact ne_r2 (by with_reducible assumption) | exact ne_l3 (by with_reducible assumption) | exact ne_r3 (by with_reducible assumption) | exact ne_l0 (by with_reducible assumption) | exact ne_r0 (by with_reducible assumption) | exact ne_l4 (by with_reducible assumption) | exact ne_r4 (by with_reducible assumption) | exact ne_l5 (by with_reducible assumption) | exact ne_r5 (by with_reducible assumption)
  k_with "ktr_room" => first | exact room_c 0 hd rfl | exact room_c 1 hd rfl | exact room_c 6 hd rfl | exact room_c 9 hd rfl | exact room_c 21 hd rfl | exact Nat.le_of_ble_eq_true rfl
  k_with "ktr_units" => first | exact room_c 43 hu rfl | exact room_c 63 hu rfl | exact room_c 203 hu rfl | exact Nat.le_of_ble_eq_true rfl
  k_with "call builtin:str.find" => (k_dflt (k_here; (with_reducible show wpAny _ _ (call (Value.builtin "str.find") [Value.str _ _, Value.str _ _, Value.int _ _, Value.int _ _]) _ _ _); refine call_find4 ?_))
  k_with "call builtin:str.rfind" => (k_dflt (k_here; (with_reducible show wpAny _ _ (call (Value.builtin "str.rfind") [Value.str _ _, Value.str _ _, Value.int _ _, Value.int _ _]) _ _ _); refine call_rfind4 ?_))
  k_with "call ref" => (k_here; refine wpAny_call ?_; k_dflt (refine' code_def ?k1z6 ?k2z6 ?k3z6 ?k4z6 ?k5z6 ?kAz6 ?kFz6 ?kKz6 ?k6z6 ?k7z6 ?k8z6 ?k9z6 ?kBz6 ?_ ?c2z6 ?c3z6 ?c4z6 ?c5z6; (case kAz6 => exact rfl); (case kFz6 => exact rfl); (case kKz6 => first | exact rfl | assumption); (case k1z6 => k_asm); (case k2z6 => k_asm); (case k3z6 => k_asm); (case k4z6 => k_asm); (case k5z6 => k_asm); (case k6z6 => k_is); (case k7z6 => k_is); (case k8z6 => ktr_room); (case k9z6 => exact BindsTo.of_eq rfl); (case c5z6 => decide); (case kBz6 => exact locs rfl); (case c2z6 => exact rfl); (case c3z6 => exact rfl); (case c4z6 => exact rfl); k_whole; intro g' L' h' FG' F' N' B' X' T'; (try dsimp only); (try k_lift B'); (try k_fold)))
  k_with "call ref" => (k_here; (with_reducible show wpAny _ _ (call (Value.ref 67) [Value.str _ _, Value.str _ _]) _ _ _); k_dflt (refine' strcoll _ _ _ _ _ _ _ _ _ _ _ _ _ _ _ _ _ _ _ _ _ _ _ _ _ _ ?k1z7 ?k2z7 ?k3z7 ?k4z7 ?k5z7 ?kKz7 ?kdz7 ?kuz7  ?_; (case k1z7 => k_asm); (case k2z7 => k_asm); (case k3z7 => k_in); (case k4z7 => k_asm); (case k5z7 => k_asm); (case kKz7 => first | exact rfl | assumption); (case kdz7 => ktr_room); (case kuz7 => ktr_units); intro t9 h9 tk9 F9 N9; (try dsimp only); (try k_fold)))
  k_with "call ref" => (k_here; (with_reducible show wpAny _ _ (call (Value.ref 84) [Value.int _ _]) _ _ _); k_dflt (refine' isterm _ _ _ _ _ _ _ _ _ _ _ _ _ _ _ _ _ _ _ _ _ _ _ _ ?k1z8 ?k2z8 ?k3z8 ?k4z8 ?k5z8 ?kKz8 ?kdz8 ?kuz8  ?_; (case k1z8 => k_asm); (case k2z8 => k_asm); (case k3z8 => k_in); (case k4z8 => k_asm); (case k5z8 => k_asm); (case kKz8 => first | exact rfl | assumption); (case kdz8 => ktr_room); (case kuz8 => ktr_units); intro t9 h9 tk9 F9 N9; (try dsimp only); (try k_fold)))
  k_with "call ref" => (k_here; (with_reducible show wpAny _ _ (call (Value.ref 91) [Value.int _ _]) _ _ _); k_dflt (refine' iseof _ _ _ _ _ _ _ _ _ _ _ _ _ _ _ _ _ _ _ _ _ _ _ _ ?k1z9 ?k2z9 ?k3z9 ?k4z9 ?k5z9 ?kKz9 ?kdz9 ?kuz9  ?_; (case k1z9 => k_asm); (case k2z9 => k_asm); (case k3z9 => k_in); (case k4z9 => k_asm); (case k5z9 => k_asm); (case kKz9 => first | exact rfl | assumption); (case kdz9 => ktr_room); (case kuz9 => ktr_units); intro t9 h9 tk9 F9 N9; (try dsimp only); (try k_fold)))
  k_with "call ref" => (k_here; (with_reducible show wpAny _ _ (call (Value.ref 28) [Value.str _ _]) _ _ _); k_dflt (refine' stripd _ _ _ ?hxz10 _ _ _ _ _ _ _ _ _ _ _ _ _ _ _ _ _ _ _ _ _ ?k1z10 ?k2z10 ?k3z10 ?k4z10 ?k5z10 ?kKz10 ?kdz10 ?kuz10  ?_; (case k1z10 => k_asm); (case k2z10 => k_asm); (case k3z10 => k_in); (case k4z10 => k_asm); (case k5z10 => k_asm); (case kKz10 => first | exact rfl | assumption); (case kdz10 => ktr_room); (case kuz10 => ktr_units); (case hxz10 => first | assumption | omega | size_fits); intro t9 h9 tk9 F9 N9; (try dsimp only); (try k_fold)))
  k_with "call ref" => (k_here; (with_reducible show wpAny _ _ (call (Value.ref 60) [Value.str _ _]) _ _ _); k_dflt (refine' parse _ _ _ ?hxz11 ?h3z11 _ _ _ _ _ _ _ _ _ _ _ _ _ _ _ _ _ _ _ _ _ ?k1z11 ?k2z11 ?k3z11 ?k4z11 ?k5z11 ?kKz11 ?kdz11 ?kuz11  ?_; (case k1z11 => k_asm); (case k2z11 => k_asm); (case k3z11 => k_in); (case k4z11 => k_asm); (case k5z11 => k_asm); (case kKz11 => first | exact rfl | assumption); (case kdz11 => ktr_room); (case kuz11 => ktr_units); (case hxz11 => first | assumption | omega); (case h3z11 => assumption); intro t9 h9 tk9 F9 N9; (try dsimp only); (try k_fold)))
  k_with "k_all" => (refine List.forall_mem_append.mpr ⟨?_, ?_⟩ <;> k_all)
  k_with "k_all" => assumption
  k_with "k_mem" => (refine List.mem_append_left _ ?_; assumption)
  k_with "k_mem" => assumption
  k_with "call ref" => (k_here; (with_reducible show wpAny _ _ (call (Value.ref 74) [Value.ref _]) _ _ _); k_dflt (refine' build_s _ _ _ _ _ _ ?hxz16 ?hyz16 _ _ _ _ _ _ _ _ _ _ _ _ _ _ _ _ _ _ _ _ _ ?k1z16 ?k2z16 ?k3z16 ?k4z16 ?k5z16 ?kKz16 ?kdz16 ?kuz16 ?hqz16 ?_; (case k1z16 => k_asm); (case k2z16 => k_asm); (case k3z16 => k_in); (case k4z16 => k_asm); (case k5z16 => k_asm); (case kKz16 => first | exact rfl | assumption); (case kdz16 => ktr_room); (case kuz16 => ktr_units); (case hqz16 => k_mem); (case hxz16 => first | assumption | (intro zz hzz; cases hzz; omega)); (case hyz16 => first | assumption | omega); intro t9 h9 tk9 F9 N9; (try dsimp only); (try k_fold)))
  k_with "call ref" => (k_here; (with_reducible show wpAny _ _ (call (Value.ref 74) [Value.ref _]) _ _ _); k_dflt (refine' build_n _ _ _ _ ?hxz17 _ _ _ _ _ _ _ _ _ _ _ _ _ _ _ _ _ _ _ _ _ ?k1z17 ?k2z17 ?k3z17 ?k4z17 ?k5z17 ?kKz17 ?kdz17 ?kuz17 ?hqz17 ?_; (case k1z17 => k_asm); (case k2z17 => k_asm); (case k3z17 => k_in); (case k4z17 => k_asm); (case k5z17 => k_asm); (case kKz17 => first | exact rfl | assumption); (case kdz17 => ktr_room); (case kuz17 => ktr_units); (case hqz17 => k_mem); (case hxz17 => first | assumption | (intro zz hzz; cases hzz; omega)); intro t9 h9 tk9 F9 N9; (try dsimp only); (try k_fold)))
  k_with "call type:zip" => (k_dflt (k_here; (with_reducible rename Fr _ _ _ _ => lF'); (with_reducible rename News _ _ _ _ => lN'); (with_reducible rename RunOk _ _ _ _ _ _ => hRO'); (refine' run_loop hRO' rfl ?hl1z18 ?hl2z18 lF' lN' ?hpz18 ?hrz18 ?_ ?_); (case hl1z18 => assumption); (case hl2z18 => assumption); (case hpz18 => exact rfl); (case hrz18 => exact rfl)); (all_goals first | (intro c i nm tn b u h' tk own hO' hz1' hz2' hz3' hi' hT' hF' ho' F' N'; cases b; (have hG9' := hF' rfl); clear hT' hF'; rotate_left; (have hG9' := hT' rfl); clear hT' hF') | (intro c u h' tk hO' F' N')))
  k_with "exec While BoolOp" => (k_dflt (k_here; (with_reducible rename Fr _ _ _ _ => lF'); (with_reducible rename News _ _ _ _ => lN'); (with_reducible rename RunOk _ _ _ _ _ _ => hRO'); (with_unfolding_all refine' run_while hRO' lF' lN' ?hpz19 ?hrz19 ?hGz19 ?_); (case hpz19 => exact rfl); (case hrz19 => exact rfl); (case hGz19 => with_reducible assumption)); intro c u h' tk' hG' hc1' hc2' hc3' hc4' hc5' F' N')
  k_with "call builtin:len" => (k_dflt (k_here; (with_reducible show wpAny _ _ (call (Value.builtin "len") [Value.ref _]) _ _ _); first | (refine' len_out ?kNz20 ?kmz20 ?k1z20 ?k2z20 ?_; (case kNz20 => k_asm); (case kmz20 => k_mem); (case k1z20 => with_reducible assumption); (case k2z20 => exact lt_k (by with_reducible assumption))) | (refine' len_strs ?kNz20 ?kmz20 ?k1z20 ?_; (case kNz20 => k_asm); (case kmz20 => k_mem); (case k1z20 => exact lt_k (by with_reducible assumption)))))
  k_with "subscriptTail" => (k_dflt (k_here; (with_reducible show wpAny _ _ (subscriptTail _ _ (Value.ref _) (Value.int _ _)) _ _ _); (refine' item_strs ?kNz21 ?kmz21 ?k1z21 ?k2z21 ?_; (case kNz21 => k_asm); (case kmz21 => k_mem); (case k1z21 => exact lt_of_ne (by with_reducible assumption) (by with_reducible assumption)); (case k2z21 => exact lt_k (by with_reducible assumption)))); intro nx' nt' hnx'; (with_reducible rename RunOk _ _ _ _ _ _ => hRO'); (have hnm' := RunOk.names hRO' _ (List.mem_of_getElem? hnx')))
  k_with "call builtin:list.append" => (k_dflt (k_here; (refine' out_append ?kFz22 ?kNz22 ?kxz22 ?kzz22 ?kUz22 ?_; (case kFz22 => k_asm); (case kNz22 => k_asm); (case kxz22 => with_reducible assumption); (case kzz22 => exact lt_k (by with_reducible assumption)); (case kUz22 => k_upd))); intro h' F' N')
  trivial
theorem lt_of_ne {n c : Nat} (h1 : c ≤ n) (h : (decide ((n : Int) - (c : Int) = 0) == false) = true) : c < n := by simp at h; omega
theorem not_lt_of1 {n c : Nat} (h : (decide ((n : Int) - (c : Int) = 0) == false) = false) : ¬ c < n := by simp at h; omega
theorem not_lt_of2 {n c : Nat} (h : (decide ((c : Int) - (n : Int) = 0) == false) = false) : ¬ c < n := by simp at h; omega
theorem ksw_endR {p r : Str} {t u : Tok} {c' e : Nat} {c : RunW} {stored : List Str} (F : Fr h₀ L h' m') (N : News h₀ L h' ((D2, tup2) :: (D, tup) :: (l, outOf nl c' e) :: post)) (hp : G i c' p r) (k1 : m' (Str.ofString "pile") = some (.str p t)) (k2 : m' (Str.ofString "replies") = some (.str r u))
    (hr : ∀ z, z ≠ Str.ofString "pile" → z ≠ Str.ofString "replies" → stored.contains z = false → m' z = m₀ z) (hm : nl.length - c' < nl.length - c.c) :
    KswEnd h₀ L s (fun c : RunW => (D2, tup2) :: (D, tup) :: (l, outOf nl c.c c.e) :: post) runWs (fun _ => True) stored m₀ (fun c => G i c.c c.p c.r) (fun c => nl.length - c.c) c { s with heap := h', toks := tk } := by
  refine ksw_end (RunW.mk p t r u c' e) F N (fun p hp => hp) trivial ?_ (fun z hz hs => hr z (hz _ (.head _)) (hz _ (.tail _ (.head _))) hs) hp hm
  intro q hq
  simp only [List.mem_cons, List.not_mem_nil, or_false] at hq
  rcases hq with rfl | rfl
  · exact k1
  · exact k2
theorem endR {p r : Str} {t u : Tok} {c' e : Nat} {xi xc : Str} {own news' : List (Addr × Obj)} {adr : List Addr} (F : Fr h₀ L h' m') (N : News h₀ L h' news') (hp : O i c' (some p) r) (k1 : m' (Str.ofString "pile") = some (.str p t)) (k2 : m' (Str.ofString "replies") = some (.str r u))
    (hn : ∀ p ∈ (D, tup) :: (l, outOf nl c' e) :: post, p ∈ news') (ho : ∀ p ∈ own, p ∈ news') (ha : ((D, tup) :: (l, outOf nl c' e) :: post).map (·.1) = adr) {stored : List Str}
    (hr : ∀ z, z ≠ xi → z ≠ xc → z ≠ Str.ofString "pile" → z ≠ Str.ofString "replies" → stored.contains z = false → m' z = m₀ z) :
    InvEndN h₀ L (TurnP (fun c : RunSt => (D, tup) :: (l, outOf nl c.c c.e) :: post) runPs stored xi xc m₀ (fun c => O i c.c c.o c.r)) own adr s { s with heap := h', toks := tk } := by
  refine endP (RunSt.mk (some p) t r u c' e) F N hn ho ha ?_ (fun z h1 h2 hz hs => hr z h1 h2 (hz _ (.head _)) (hz _ (.tail _ (.head _))) hs) hp
  intro q hq
  simp only [List.mem_cons, List.not_mem_nil, or_false] at hq
  rcases hq with rfl | rfl
  · exact k1
  · exact k2
end
theorem runW (w : World) (cl nl : List (Str × Tok)) (fl : List Bool) (behind : Str) (O : Nat → Nat → Option Str → Str → Prop) (G : Nat → Nat → Str → Str → Prop) (RO : RunOk cl fl nl behind O G) (qc qf qn : Addr) (kc kf kn : Nat) (tb : Tok)
    {pT : Program} {lT : List Str} (mean : ExcName → Option Value) (mg mb : Str → Option Value) (dp un : Nat) (gd : Option (List Code)) (cn : Str) (cs : Scope) (a : Addr) (ccd : Value) (cl' : List (Str × Addr)) (outer : List Env) (A₀ : Around) (base h₀ : Heap) (L : Addr) (m : Str → Option Value) (news : List (Addr × Obj)) (s : Shared) (Q E : Value → Shared → Prop) :
    Below A₀ base outer h₀ → Fr h₀ L s.heap m → (Mine.hd.heap_1 w.params).In h₀ → News h₀ L s.heap news → Top pT lT mean mg mb h₀ → cs.kind = .function →
    dp + 8 < recursionLimit → un + 60 < cLine → (qc, listOf (strValues cl).toArray kc) ∈ news → (qf, listOf (boolValues fl).toArray kf) ∈ news → (qn, listOf (strValues nl).toArray kn) ∈ news →
    (∀ T o e c p r tp tr h' tk', O cl.length c p r → Fr h₀ L h' m → News h₀ L h' ((T, tupOf [optV p tp, .str r tr, .ref o]) :: (o, listOf (strValues (nl.take c)).toArray e) :: news) → Q (.ref T) { s with heap := h', toks := tk' }) →
    wpAny (model PySem.Challenge.rw_wr0036_01.row.prog w) (ktrTop dp un gd cn cs L a ccd cl' outer) (call (.ref 115) [.ref qc, .ref qf, .ref qn, .str behind tb]) Q E s := by
  k_fill
  intro B F X N T hk hd hu hc hf hn hret
  refine wpAny_call ?_
  k_dflt (refine' code_def (binds := [(Str.ofString "called", Value.ref qc), (Str.ofString "firsts", Value.ref qf), (Str.ofString "names", Value.ref qn), (Str.ofString "behind", Value.str behind tb)]) ?k1 ?k2 ?k3 ?k4 ?k5 ?kA ?kF ?kK ?k6 ?k7 ?k8 ?k9 ?kB ?_ ?c2 ?c3 ?c4 ?c5; (case kA => exact rfl); (case kF => exact rfl); (case kK => assumption); (case k1 => k_asm); (case k2 => k_asm); (case k3 => k_asm); (case k4 => k_asm); (case k5 => k_asm); (case k6 => k_is); (case k7 => k_is); (case k8 => ktr_room); (case k9 => exact BindsTo.of_eq rfl); (case c5 => decide); (case kB => exact locs rfl); (case c2 => exact rfl); (case c3 => exact rfl); (case c4 => exact rfl); k_whole; intro g' L' h' FG' F' N' B' X' T'; (try dsimp only); (try k_lift B'); (try k_fold))
  have hbe := RO.behind
  k_steps
  all_goals first
    | (with_reducible rename Fr _ _ _ _ => kF'
       with_reducible rename News _ _ _ _ => kN'
       with_reducible rename RunOk _ _ _ _ _ _ => hRO'
       first
         | (have hP' := popA' hRO' (by with_reducible assumption) (by with_reducible assumption) (by with_reducible assumption)
            refine' ksw_endR kF' kN' hP' (by with_unfolding_all rfl) (by with_unfolding_all rfl) ?_ (run_less (by with_reducible assumption)))
         | (have hP' := popB' hRO' (by with_reducible assumption) (by with_reducible assumption) (by with_reducible assumption) (by with_reducible assumption)
            refine' ksw_endR kF' kN' hP' (by with_unfolding_all rfl) (by with_unfolding_all rfl) ?_ (run_less (by with_reducible assumption)))
       intro z q1 q2 q4
       simp only [List.contains_cons, List.contains_nil, Bool.or_false, beq_eq_false_iff_ne, ne_eq] at q4
       simp [q1, q2, q4])
    | (with_reducible rename Fr _ _ _ _ => kF'
       with_reducible rename News _ _ _ _ => kN'
       with_reducible rename RunOk _ _ _ _ _ _ => hRO'
       first
         | have hP' := stay' hRO' (by with_reducible assumption) (by with_reducible assumption) (by with_reducible assumption) (by with_reducible assumption)
         | have hP' := full' hRO' (by with_reducible assumption) (by with_reducible assumption) (by first | exact not_lt_of1 (by with_reducible assumption) | exact not_lt_of2 (by with_reducible assumption) | (simp at *; omega))
       refine' endR kF' kN' hP' (by with_unfolding_all rfl) (by with_unfolding_all rfl) sub3 sub3o rfl ?_
       intro z q1 q2 q3 q5 q4
       simp only [List.contains_cons, List.contains_nil, Bool.or_false, beq_eq_false_iff_ne, ne_eq] at q4
       simp [q1, q2, q3, q4, q5])
    | (with_reducible rename Fr _ _ _ _ => kF
       with_reducible rename News _ _ _ _ => kN
       exact hret _ _ _ _ _ _ _ _ _ _ (by with_reducible assumption) kF (cb_drop kN sub2))
end Mine
-- ML5
namespace Mine
noncomputable def Rel {α : Type} (R : α → Value → Prop) : List α → List Value → Prop
  | [], [] => True
  | a :: l, y :: r => R a y ∧ Rel R l r
  | _, _ => False
theorem Rel.snoc {α : Type} {R : α → Value → Prop} {l : List α} {ys : List Value} {a : α} {y : Value} (h : Rel R l ys) (h2 : R a y) : Rel R (l ++ [a]) (ys ++ [y]) := by
  induction l generalizing ys with
  | nil => cases ys with
    | nil => exact ⟨h2, trivial⟩
    | cons _ _ => exact h.elim
  | cons b l ih => cases ys with
    | nil => exact h.elim
    | cons _ ys => exact ⟨h.1, ih h.2⟩
theorem Rel.length {α : Type} {R : α → Value → Prop} {l : List α} {ys : List Value} (h : Rel R l ys) : ys.length = l.length := by
  induction l generalizing ys with
  | nil => cases ys with
    | nil => rfl
    | cons _ _ => exact h.elim
  | cons b l ih => cases ys with
    | nil => exact h.elim
    | cons _ ys => exact congrArg Nat.succ (ih h.2)
theorem Rel.strs {α : Type} {g : α → Str} {l : List α} {ys : List Value} (h : Rel (fun a y => ∃ t, y = .str (g a) t) l ys) : ∃ ps : List (Str × Tok), ys = strValues ps ∧ ps.map (·.1) = l.map g := by
  induction l generalizing ys with
  | nil => cases ys with
    | nil => exact ⟨[], rfl, rfl⟩
    | cons _ _ => exact h.elim
  | cons b l ih => cases ys with
    | nil => exact h.elim
    | cons _ ys =>
      obtain ⟨⟨t, h1⟩, h2⟩ := h
      obtain ⟨ps, e1, e2⟩ := ih h2
      exact ⟨(g b, t) :: ps, by rw [h1, e1]; rfl, congrArg (List.cons (g b)) e2⟩
noncomputable def intValues (l : List (Int × Tok)) : List Value := l.map fun p => .int p.1 p.2
noncomputable def boolVals (l : List Bool) : List Value := l.map Value.bool
theorem Rel.ints {α : Type} {g : α → Int} {l : List α} {ys : List Value} (h : Rel (fun a y => ∃ t, y = .int (g a) t) l ys) : ∃ ps : List (Int × Tok), ys = intValues ps ∧ ps.map (·.1) = l.map g := by
  induction l generalizing ys with
  | nil => cases ys with
    | nil => exact ⟨[], rfl, rfl⟩
    | cons _ _ => exact h.elim
  | cons b l ih => cases ys with
    | nil => exact h.elim
    | cons _ ys =>
      obtain ⟨⟨t, h1⟩, h2⟩ := h
      obtain ⟨ps, e1, e2⟩ := ih h2
      exact ⟨(g b, t) :: ps, by rw [h1, e1]; rfl, congrArg (List.cons (g b)) e2⟩
/-- what an element's end asks: the ledger as before, the element as told -/
noncomputable def KEl {α : Type} (news : List (Addr × Obj)) (R : α → Value → Prop) (a : α) (y : Value) (news' : List (Addr × Obj)) : Prop := news' = news ∧ R a y
noncomputable def KElT {α : Type} (news : List (Addr × Obj)) (b : α → Bool) (R : α → Value → Prop) (a : α) (y : Value) (news' : List (Addr × Obj)) : Prop := news' = news ∧ b a = true ∧ R a y
noncomputable def KElF {α : Type} (news : List (Addr × Obj)) (b : α → Bool) (a : α) (news' : List (Addr × Obj)) : Prop := news' = news ∧ b a = false
section
variable {prog : Program} {w : World} {A : Around} {h₀ : Heap} {L : Addr} {m : Str → Option Value} {env : Env} {ct elt : Expr} {x : Str} {scope : Scope} {cl : List (Str × Addr)} {s : Shared} {S : List (Addr × Obj) → Prop} {P : Nat → Value → Prop} {Fin : List Value → List (Addr × Obj) → Prop} {news : List (Addr × Obj)}
theorem cr_map {α : Type} {n : Nat} (its : List α) (val : α → Value) (R : α → Value → Prop) (hn : its.length = n) (hP : ∀ i v, i < n → P i v → ∃ a, its[i]? = some a ∧ v = val a)
    (turn : ∀ a I oI C oC D m₂ ys h tk (E' : Value → Shared → Prop), a ∈ its → LCg.NsObj oC m₂ → m₂ x = some (val a) → Fr h₀ L h m → News h₀ L h ((I, oI) :: (C, oC) :: (D, LCg.lst ys) :: news) → LCg.Off3 I C D news → ((@Ne Nat I C) ∧ (@Ne Nat I D) ∧ (@Ne Nat C D)) → S news →
      wpAny (model prog w) A (eval elt (compEnvC scope cl C env)) (LCg.CompEnd h₀ L m { s with heap := h, toks := tk } I oI C oC D (LCg.lst ys) S (fun y news' => KEl news R a y news')) E' { s with heap := h, toks := tk })
    (hS : S news) (fin : ∀ ys, Rel R its ys → Fin ys news) : LCg.CompRest prog w A h₀ L m env elt x scope cl s S P Fin n 0 [] news := by
  have key : ∀ (j i : Nat) (ys : List Value), i + j = n → Rel R (its.take i) ys → LCg.CompRest prog w A h₀ L m env elt x scope cl s S P Fin j i ys news := by
    intro j
    induction j with
    | zero =>
      intro i ys hi hy
      have e : i = its.length := by lia
      subst e
      rw [List.take_length] at hy
      exact LCg.CompRest.zero (fin ys hy)
    | succ j ih =>
      intro i ys hi hy
      refine LCg.CompRest.succ ?_
      intro v I oI C oC D m₂ h tk E' hv hC hx F N off ne
      obtain ⟨a, ha, hv'⟩ := hP i v (by lia) hv
      rw [hv'] at hx
      refine wpAny_mono (turn a I oI C oC D m₂ ys h tk E' (List.mem_of_getElem? ha) hC hx F N off ne hS) (fun y s₂ hq => ?_) fun _ _ e => e
      obtain ⟨h', tk', nw, e, F', N', off', hS', hn', hR⟩ := hq
      rw [hn'] at N' off' hS'
      refine ⟨h', tk', news, e, F', N', off', hS', ?_⟩
      refine ih (i + 1) _ (by lia) ?_
      rw [List.take_add_one, ha]
      exact hy.snoc hR
  exact key n 0 [] (by lia) trivial
theorem cr_filter {α : Type} {n : Nat} (its : List α) (val : α → Value) (b : α → Bool) (R : α → Value → Prop) (hn : its.length = n) (hP : ∀ i v, i < n → P i v → ∃ a, its[i]? = some a ∧ v = val a)
    (turn : ∀ a I oI C oC D m₂ ys h tk (E' : Value → Shared → Prop), a ∈ its → LCg.NsObj oC m₂ → m₂ x = some (val a) → Fr h₀ L h m → News h₀ L h ((I, oI) :: (C, oC) :: (D, LCg.lst ys) :: news) → LCg.Off3 I C D news → ((@Ne Nat I C) ∧ (@Ne Nat I D) ∧ (@Ne Nat C D)) → S news →
      wpAny (model prog w) A (isTrue ct (compEnvC scope cl C env) (eval ct (compEnvC scope cl C env))) (fun ok s' => if ok = true then
        wpAny (model prog w) A (eval elt (compEnvC scope cl C env)) (LCg.CompEnd h₀ L m { s with heap := h, toks := tk } I oI C oC D (LCg.lst ys) S (fun y news' => KElT news b R a y news')) E' s'
        else LCg.CompEnd h₀ L m { s with heap := h, toks := tk } I oI C oC D (LCg.lst ys) S (fun _ news' => KElF news b a news') Value.none s') E' { s with heap := h, toks := tk })
    (hS : S news) (fin : ∀ ys, Rel R (its.filter b) ys → Fin ys news) : LCt.CompRestT prog w A h₀ L m env ct elt x scope cl s S P Fin n 0 [] news := by
  have key : ∀ (j i : Nat) (ys : List Value), i + j = n → Rel R ((its.take i).filter b) ys → LCt.CompRestT prog w A h₀ L m env ct elt x scope cl s S P Fin j i ys news := by
    intro j
    induction j with
    | zero =>
      intro i ys hi hy
      have e : i = its.length := by lia
      subst e
      rw [List.take_length] at hy
      exact LCt.CompRestT.zero (fin ys hy)
    | succ j ih =>
      intro i ys hi hy
      refine LCt.CompRestT.succ ?_
      intro v I oI C oC D m₂ h tk E' hv hC hx F N off ne
      obtain ⟨a, ha, hv'⟩ := hP i v (by lia) hv
      rw [hv'] at hx
      refine wpAny_mono (turn a I oI C oC D m₂ ys h tk E' (List.mem_of_getElem? ha) hC hx F N off ne hS) (fun ok s₂ hq => ?_) fun _ _ e => e
      cases ok with
      | true =>
        rw [if_pos rfl] at hq ⊢
        refine wpAny_mono hq (fun y s₃ hq => ?_) fun _ _ e => e
        obtain ⟨h', tk', nw, e, F', N', off', hS', hn', hb, hR⟩ := hq
        rw [hn'] at N' off' hS'
        refine ⟨h', tk', news, e, F', N', off', hS', ?_⟩
        refine ih (i + 1) _ (by lia) ?_
        rw [List.take_add_one, ha, List.filter_append]
        have : ([a] : List α).filter b = [a] := by simp [hb]
        exact this ▸ hy.snoc hR
      | false =>
        rw [if_neg Bool.false_ne_true] at hq ⊢
        obtain ⟨h', tk', nw, e, F', N', off', hS', hn', hb⟩ := hq
        rw [hn'] at N' off' hS'
        refine ⟨h', tk', news, e, F', N', off', hS', ?_⟩
        refine ih (i + 1) _ (by lia) ?_
        rw [List.take_add_one, ha, List.filter_append]
        have : ([a] : List α).filter b = [] := by simp [hb]
        show Rel R (_ ++ ([a] : List α).filter b) ys
        rw [this, List.append_nil]
        exact hy
  exact key n 0 [] (by lia) trivial
theorem strs_at {l : List (Str × Tok)} {i : Nat} {v : Value} (h : (strValues l).toArray[i]? = some v) : ∃ a, l[i]? = some a ∧ v = Value.str a.1 a.2 := by
  simp only [List.getElem?_toArray, strValues, List.getElem?_map] at h
  obtain ⟨a, ha, e⟩ := Option.map_eq_some_iff.mp h
  exact ⟨a, ha, e.symm⟩
theorem ints_at {l : List (Int × Tok)} {i : Nat} {v : Value} (h : (intValues l).toArray[i]? = some v) : ∃ a, l[i]? = some a ∧ v = Value.int a.1 a.2 := by
  simp only [List.getElem?_toArray, intValues, List.getElem?_map] at h
  obtain ⟨a, ha, e⟩ := Option.map_eq_some_iff.mp h
  exact ⟨a, ha, e.symm⟩
theorem bools_at {l : List Bool} {i : Nat} {v : Value} (h : (boolVals l).toArray[i]? = some v) : ∃ a, l[i]? = some a ∧ v = Value.bool a := by
  simp only [List.getElem?_toArray, boolVals, List.getElem?_map] at h
  obtain ⟨a, ha, e⟩ := Option.map_eq_some_iff.mp h
  exact ⟨a, ha, e.symm⟩
end
end Mine
-- MG
namespace Mine
theorem rows1_MG : True := by
  k_with_none
  k_with "k_ne" => first | exact ne_l1 (by with_reducible assumption) | exact ne_r1 (by with_reducible assumption) | exact ne_l2 (by with_reducible assumption) | exact ne_r2 (by with_reducible assumption) | exact ne_l3 (by with_reducible assumption) | exact ne_r3 (by with_reducible assumption) | exact ne_l0 (by with_reducible assumption) | exact ne_r0 (by with_reducible assumption) | exact ne_l4 (by with_reducible assumption) | exact ne_r4 (by with_reducible assumption) | exact ne_l5 (by with_reducible assumption) | exact ne_r5 (by with_reducible assumption)
  k_with "ktr_room" => first | exact room_c 0 hd rfl | exact room_c 1 hd rfl | exact room_c 6 hd rfl | exact room_c 9 hd rfl | exact room_c 21 hd rfl | exact Nat.le_of_ble_eq_true rfl
  k_with "ktr_units" => first | exact room_c 43 hu rfl | exact room_c 63 hu rfl | exact room_c 203 hu rfl | exact Nat.le_of_ble_eq_true rfl
  k_with "call builtin:str.find" => (k_dflt (k_here; (with_reducible show wpAny _ _ (call (Value.builtin "str.find") [Value.str _ _, Value.str _ _, Value.int _ _, Value.int _ _]) _ _ _); refine call_find4 ?_))
  k_with "call builtin:str.rfind" => (k_dflt (k_here; (with_reducible show wpAny _ _ (call (Value.builtin "str.rfind") [Value.str _ _, Value.str _ _, Value.int _ _, Value.int _ _]) _ _ _); refine call_rfind4 ?_))
  k_with "call ref" => (k_here; refine wpAny_call ?_; k_dflt (refine' code_def ?k1z6 ?k2z6 ?k3z6 ?k4z6 ?k5z6 ?kAz6 ?kFz6 ?kKz6 ?k6z6 ?k7z6 ?k8z6 ?k9z6 ?kBz6 ?_ ?c2z6 ?c3z6 ?c4z6 ?c5z6; (case kAz6 => exact rfl); (case kFz6 => exact rfl); (case kKz6 => first | exact rfl | assumption); (case k1z6 => k_asm); (case k2z6 => k_asm); (case k3z6 => k_asm); (case k4z6 => k_asm); (case k5z6 => k_asm); (case k6z6 => k_is); (case k7z6 => k_is); (case k8z6 => ktr_room); (case k9z6 => exact BindsTo.of_eq rfl); (case c5z6 => decide); (case kBz6 => exact locs rfl); (case c2z6 => exact rfl); (case c3z6 => exact rfl); (case c4z6 => exact rfl); k_whole; intro g' L' h' FG' F' N' B' X' T'; (try dsimp only); (try k_lift B'); (try k_fold)))
  k_with "call ref" => (k_here; (with_reducible show wpAny _ _ (call (Value.ref 67) [Value.str _ _, Value.str _ _]) _ _ _); k_dflt (refine' strcoll _ _ _ _ _ _ _ _ _ _ _ _ _ _ _ _ _ _ _ _ _ _ _ _ _ _ ?k1z7 ?k2z7 ?k3z7 ?k4z7 ?k5z7 ?kKz7 ?kdz7 ?kuz7  ?_; (case k1z7 => k_asm); (case k2z7 => k_asm); (case k3z7 => k_in); (case k4z7 => k_asm); (case k5z7 => k_asm); (case kKz7 => first | exact rfl | assumption); (case kdz7 => ktr_room); (case kuz7 => ktr_units); intro t9 h9 tk9 F9 N9; (try dsimp only); (try k_fold)))
  k_with "call ref" => (k_here; (with_reducible show wpAny _ _ (call (Value.ref 84) [Value.int _ _]) _ _ _); k_dflt (refine' isterm _ _ _ _ _ _ _ _ _ _ _ _ _ _ _ _ _ _ _ _ _ _ _ _ ?k1z8 ?k2z8 ?k3z8 ?k4z8 ?k5z8 ?kKz8 ?kdz8 ?kuz8  ?_; (case k1z8 => k_asm); (case k2z8 => k_asm); (case k3z8 => k_in); (case k4z8 => k_asm); (case k5z8 => k_asm); (case kKz8 => first | exact rfl | assumption); (case kdz8 => ktr_room); (case kuz8 => ktr_units); intro t9 h9 tk9 F9 N9; (try dsimp only); (try k_fold)))
  k_with "call ref" => (k_here; (with_reducible show wpAny _ _ (call (Value.ref 91) [Value.int _ _]) _ _ _); k_dflt (refine' iseof _ _ _ _ _ _ _ _ _ _ _ _ _ _ _ _ _ _ _ _ _ _ _ _ ?k1z9 ?k2z9 ?k3z9 ?k4z9 ?k5z9 ?kKz9 ?kdz9 ?kuz9  ?_; (case k1z9 => k_asm); (case k2z9 => k_asm); (case k3z9 => k_in); (case k4z9 => k_asm); (case k5z9 => k_asm); (case kKz9 => first | exact rfl | assumption); (case kdz9 => ktr_room); (case kuz9 => ktr_units); intro t9 h9 tk9 F9 N9; (try dsimp only); (try k_fold)))
  k_with "call ref" => (k_here; (with_reducible show wpAny _ _ (call (Value.ref 28) [Value.str _ _]) _ _ _); k_dflt (refine' stripd _ _ _ ?hxz10 _ _ _ _ _ _ _ _ _ _ _ _ _ _ _ _ _ _ _ _ _ ?k1z10 ?k2z10 ?k3z10 ?k4z10 ?k5z10 ?kKz10 ?kdz10 ?kuz10  ?_; (case k1z10 => k_asm); (case k2z10 => k_asm); (case k3z10 => k_in); (case k4z10 => k_asm); (case k5z10 => k_asm); (case kKz10 => first | exact rfl | assumption); (case kdz10 => ktr_room); (case kuz10 => ktr_units); (case hxz10 => first | assumption | omega | size_fits); intro t9 h9 tk9 F9 N9; (try dsimp only); (try k_fold)))
  k_with "CompEnd" => (k_dflt (k_here; refine LCg.CompEnd.intro (by assumption) (by assumption) _ ?csubz11 (by assumption) (by assumption) ⟨rfl, ?_⟩; (case csubz11 => kcf_all)))
  k_with "call ref" => (k_here; (with_reducible show wpAny _ _ (call (Value.ref 21) [Value.str _ _, Value.str _ _]) _ _ _); k_dflt (refine' ell _ _ _ _ _ ?hxz12 ?hyz12 _ _ _ _ _ _ _ _ _ _ _ _ _ _ _ _ _ _ _ _ _ ?k1z12 ?k2z12 ?k3z12 ?k4z12 ?k5z12 ?kKz12 ?kdz12 ?kuz12  ?_; (case k1z12 => k_asm); (case k2z12 => k_asm); (case k3z12 => k_in); (case k4z12 => k_asm); (case k5z12 => k_asm); (case kKz12 => first | exact rfl | assumption); (case kdz12 => ktr_room); (case kuz12 => ktr_units); (case hxz12 => first | assumption | omega); (case hyz12 => first | assumption | omega); intro t9 h9 tk9 F9 N9; (try dsimp only); (try k_fold)))
  trivial
theorem sz_sl {x : Str} {a b : Option Int} {n : Nat} (h : x.length ≤ n) : (Txt.slice x a b).length ≤ n := by
  refine Nat.le_trans ?_ h
  rw [len_tl, slice_tl, len_tl x]
  simp only [List.length_take, List.length_drop]
  omega
theorem sz_app {x y : Str} {m n : Nat} (h : x.length ≤ m) (h' : y.length ≤ n) : (x ++ y).length ≤ m + n := by
  rw [Str.length_append]; omega
theorem sz_dots : (Str.ofString "...").length ≤ 3 := by decide
theorem sz_lt {x : Str} {n m : Nat} (h : x.length ≤ n) (hm : n < m) : x.length < m := Nat.lt_of_le_of_lt h hm
theorem sz_1 {x : Str} (h : x.length = 6) : x.length ≤ 6 := Nat.le_of_eq h
theorem unrT {h₀ : Heap} {L I : Addr} {it : Obj} {rest : (Str → Option Value) → List (Addr × Obj) → Prop} {s₁ : Shared} {h' : Heap} {tk : Nat} {m' : Str → Option Value} {news' : List (Addr × Obj)} (F : Fr h₀ L h' m') (N : News h₀ L h' ((I, it) :: news')) (off : ∀ p ∈ news', p.1 ≠ I) (r : rest m' news') :
    UnrEnd h₀ L s₁ I it rest { s₁ with heap := h', toks := tk } := UnrEnd.intro F N news' (fun _ hp => hp) off r
theorem allLt_mem {I : Nat} : ∀ {l : List (Addr × Obj)}, AllLt I l → ∀ p ∈ l, @LT.lt Nat _ p.1 I
  | [], _, _, h => nomatch h
  | _ :: _, x, p, h => by
    rcases List.mem_cons.mp h with rfl | h
    · exact x.1
    · exact allLt_mem x.2 p h
theorem off_lt {c I : Addr} {o : Obj} {news : List (Addr × Obj)} (h : c < I ∧ AllLt I news) : ∀ p ∈ (c, o) :: news, p.1 ≠ I := fun p hp => by
  rcases List.mem_cons.mp hp with rfl | hp
  · exact Nat.ne_of_lt h.1
  · exact Nat.ne_of_lt (allLt_mem h.2 p hp)
theorem ellV (w : World) (x y : Str) (tx ty : Tok) (hx : x.length < 1000) (hy : y.length < 1000) {b : Bool} (hv : ellP x y = b) : Claim1 w 21 [.str x tx, .str y ty] (fun _ => .bool b) := hv ▸ ell w x y tx ty hx hy
noncomputable abbrev Claim1b (w : World) (f : Addr) (vs : List Value) (R : Tok → Value) : Prop :=
  ∀ {pT : Program} {lT : List Str} (mean : ExcName → Option Value) (mg mb : Str → Option Value) (dp un : Nat) (gd : Option (List Code)) (cn : Str) (cs : Scope) (a : Addr) (ccd : Value) (cl : List (Str × Addr)) (outer : List Env) (A₀ : Around) (base h₀ : Heap) (L : Addr) (m : Str → Option Value) (news : List (Addr × Obj)) (s : Shared) (Q E : Value → Shared → Prop),
    Below A₀ base outer h₀ → Fr h₀ L s.heap m → (Mine.hd.heap_1 w.params).In h₀ → News h₀ L s.heap news → Top pT lT mean mg mb h₀ → cs.kind = .function →
    dp + 20 < recursionLimit → un + 200 < cLine → CbRet h₀ L m news s Q R →
      wpAny (model PySem.Challenge.rw_wr0036_01.row.prog w) (ktrTop dp un gd cn cs L a ccd cl outer) (call (.ref f) vs) Q E s
theorem rows2_MG : True := by
  k_with "lcg_off" => (apply sz_lt; (repeat (first | with_reducible exact sz_dots | (with_reducible apply sz_app) | (with_reducible apply sz_sl) | with_reducible assumption)); decide)
  k_with "call ref" => (k_here; (with_reducible show wpAny _ _ (call (Value.ref 21) [Value.str _ _, Value.str _ _]) _ _ _); k_dflt (refine' ellV _ _ _ _ _ ?hxz14 ?hyz14 ?hvz14 _ _ _ _ _ _ _ _ _ _ _ _ _ _ _ _ _ _ _ _ _ ?k1z14 ?k2z14 ?k3z14 ?k4z14 ?k5z14 ?kKz14 ?kdz14 ?kuz14  ?_; (case k1z14 => k_asm); (case k2z14 => k_asm); (case k3z14 => k_in); (case k4z14 => k_asm); (case k5z14 => k_asm); (case kKz14 => first | exact rfl | assumption); (case kdz14 => ktr_room); (case kuz14 => ktr_units); (case hvz14 => with_reducible assumption); (case hxz14 => first | with_reducible assumption | lcg_off); (case hyz14 => first | with_reducible assumption | lcg_off); intro t9 h9 tk9 F9 N9; (try dsimp only); (try k_fold)))
  k_with "UnrEnd" => ((rename Fr _ _ _ _ => kF'); (rename News _ _ _ _ => kN'); k_dflt (refine unrT kF' kN' (off_lt (by assumption)) ?_))
  trivial
noncomputable def PlaceOk (x : Str) : Prop := ∀ k : Int, 0 ≤ k → k < 5 → ellP (Txt.slice x none (some 2) ++ Str.ofString "..." ++ Txt.slice x (some k) (some (k + 2)) ++ Str.ofString "...") x = decide (1 < k) ∧
      ellP (Str.ofString "..." ++ Txt.slice x (some k) (some (k + 2)) ++ Str.ofString "..." ++ Txt.slice x (some 4) none) x = decide (k < 3)
theorem PlaceOk.at {x : Str} (h : PlaceOk x) {k : Int} (h0 : 0 ≤ k) (h1 : k < 0 + ((5 + 0 - Nat.succ 0) / 1 + 1 : Nat)) : ellP (Txt.slice x none (some 2) ++ Str.ofString "..." ++ Txt.slice x (some k) (some (k + 2)) ++ Str.ofString "...") x = decide (1 < k) ∧
      ellP (Str.ofString "..." ++ Txt.slice x (some k) (some (k + 2)) ++ Str.ofString "..." ++ Txt.slice x (some 4) none) x = decide (k < 3) := h k h0 h1
theorem sz_item {x : Str} {i : Int} (h0 : 0 ≤ i) (h : i < (x.length : Int)) : (Txt.item x i).length ≤ 1 := by
  obtain ⟨c, _, h2⟩ := item_tl h0 h
  rw [h2]
  exact Nat.le_refl _
noncomputable def AskedOk (x : Str) (its : List Value) : Prop := ∀ a ∈ its, ∃ y t, a = Value.str y t ∧ y.length < 1000 ∧ ellP y x = false
theorem asked_nil {x : Str} : AskedOk x [] := fun _ h => nomatch h
theorem asked_cons {x y : Str} {t : Tok} {l : List Value} (hl : y.length < 1000) (h : ellP y x = false) (hr : AskedOk x l) : AskedOk x (Value.str y t :: l) :=
  List.forall_mem_cons.mpr ⟨⟨_, _, rfl, hl, h⟩, hr⟩
section
variable {prog : Program} {w : World} {A : Around} {h₀ : Heap} {L : Addr} {m : Str → Option Value} {env : Env} {ct elt : Expr} {x : Str} {scope : Scope} {cl : List (Str × Addr)} {s : Shared} {S : List (Addr × Obj) → Prop} {Fin : List Value → List (Addr × Obj) → Prop} {news : List (Addr × Obj)}
theorem asked_rest {its : List Value} {z : Str} (hx : AskedOk z its)
    (turn : ∀ y t I oI C oC D m₂ ys h tk (E' : Value → Shared → Prop), y.length < 1000 → ellP y z = false → LCg.NsObj oC m₂ → m₂ x = some (.str y t) → Fr h₀ L h m → News h₀ L h ((I, oI) :: (C, oC) :: (D, LCg.lst ys) :: news) → LCg.Off3 I C D news → ((@Ne Nat I C) ∧ (@Ne Nat I D) ∧ (@Ne Nat C D)) → S news →
      wpAny (model prog w) A (isTrue ct (compEnvC scope cl C env) (eval ct (compEnvC scope cl C env))) (fun ok s' => if ok = true then
        wpAny (model prog w) A (eval elt (compEnvC scope cl C env)) (LCg.CompEnd h₀ L m { s with heap := h, toks := tk } I oI C oC D (LCg.lst ys) S (fun y' news' => KElT news (fun _ => false) (fun _ _ => True) (Value.str y t) y' news')) E' s'
        else LCg.CompEnd h₀ L m { s with heap := h, toks := tk } I oI C oC D (LCg.lst ys) S (fun _ news' => KElF news (fun _ => false) (Value.str y t) news') Value.none s') E' { s with heap := h, toks := tk })
    (hS : S news) (fin : Fin [] news) : LCt.CompRestT prog w A h₀ L m env ct elt x scope cl s S (fun i v => its.toArray[i]? = some v) Fin its.toArray.size 0 [] news := by
  refine cr_filter its id (fun _ => false) (fun _ _ => True) (by simp) (fun i v _ h => ⟨v, by simpa using h, rfl⟩) ?_ hS ?_
  · intro a I oI C oC D m₂ ys h tk E' ha hC hx' F N off ne hS
    obtain ⟨y, t, rfl, hl, he⟩ := hx a ha
    exact turn y t I oI C oC D m₂ ys h tk E' hl he hC hx' F N off ne hS
  · intro ys hy
    have := hy.length
    rw [show its.filter (fun _ => false) = [] from List.filter_eq_nil_iff.mpr (by simp)] at this
    rw [List.length_eq_zero_iff.mp this]
    exact fin
end
theorem eq_nil {prog : Program} {w : World} {A : Around} {E : Value → Shared → Prop} {s : Shared} {h₀ : Heap} {L a b : Addr} {news : List (Addr × Obj)} {na nb : Nat} {Q : Value → Shared → Prop} (N : News h₀ L s.heap news) (ma : (a, listOf #[] na) ∈ news) (mb : (b, listOf #[] nb) ∈ news)
    (hu : A.units + 64 < cLine) (h : Q (.bool true) s) : wpAny (model prog w) A (compareOp .Eq (.ref a) (.ref b)) Q E s :=
  kqd_eq (n₁ := []) (n₂ := []) (xs := []) (ys := []) N ma rfl rfl .nil (fun _ h => nomatch h) mb rfl rfl .nil (fun _ h => nomatch h) (fun _ h => nomatch h) (fun _ h => nomatch h) hu (by simpa using h)
theorem lcg_in {h₀ : Heap} {ax : Addr} {its : Array Value} {news : List (Addr × Obj)} {n : Nat} (h : (ax, listOf its n) ∈ news) : LCg.SrcAt h₀ ax its news := Or.inr ⟨_, h, rfl, _, rfl⟩
theorem rows3_MG : True := by
  k_with "eval ListComp" => (k_here; k_dflt (refine LCt.ListComp_T (F₀ := by k_asm) (by with_unfolding_all rfl) (by decide) (by rfl) (by decide) (by rfl) ?_))
  k_with "CompSrcT" => (k_here; k_dflt (refine LCt.CompSrcT.ledger (by rfl) (by k_asm) (by k_asm) (by k_mem) (by exact Nat.le_of_ble_eq_true rfl) ?_; intro g'; (refine' asked_rest ?hxz17 ?_ ?hSz17 ?_; (case hxz17 => (repeat (refine asked_cons (by lcg_off) (by with_reducible assumption) ?_)); exact asked_nil); (case hSz17 => exact lcg_in (by k_mem))); all_goals first | (intro y t I' oI' C' oC' D' m' ys' h' tk' E' hl' he' hC' hx' F' N' off' ne' hS') | skip))
  k_with "compareOp Eq ref ref" => (k_dflt (k_here; refine' eq_nil ?Nz18 ?az18 ?bz18 ?uz18 ?_; (case Nz18 => k_asm); (case az18 => k_mem); (case bz18 => k_mem); (case uz18 => ke_room)))
  k_with "exec For" => (k_dflt (k_here; (rename Fr _ _ _ _ => lF'); (with_unfolding_all refine' For_invVF lF' ?k1z19 ?k2z19 ?_; (case k1z19 => exact rfl); (case k2z19 => exact rfl); k_whole)))
  k_with "pyIter ref!" => k_dflt ((k_here; (with_reducible show wpAny _ _ (pyIter (Value.ref _)) (fun it s₂ => LoopAtV _ _ _ _ _ _ _ _ _ it s₂) _ _); (rename Fr _ _ _ _ => lF'); (rename News _ _ _ _ => lN'); (rename IsRange _ _ _ _ _ _ _ _ => rgX); (with_unfolding_all refine iter_rangeLawO [] (by rfl) rgX (by decide) (by rfl) lF' lN' (fun n' t' u' h' tk' o' hlt' hlo' hhi' F' N' => ?_) (fun u' h' tk' F' N' => ?_)) <;> (clear lF' lN'; (try dsimp only at N'); (try (first | k_lt hlt' | clear hlt')); (try (rename PlaceOk _ => hpl; have hpl' := PlaceOk.at hpl hlo' hhi'; obtain ⟨hpl1, hpl2⟩ := hpl')))))
  trivial
theorem ends (w : World) (x : Str) (tx : Tok) (hx0 : x.length = 6)
    (hp : PlaceOk x)
    (h3 : ellP x x = true) (h4 : ellP (Txt.slice x (some 1) none) x = false) (h5 : ellP (Txt.slice x none (some 5)) x = false) (h6 : ellP (Txt.slice x (some 1) (some 3) ++ Str.ofString "...") x = false)
    (h7 : ellP (Str.ofString "..." ++ Txt.slice x (some 3) (some 5)) x = false) (h8 : ellP (x ++ Str.ofString "..." ++ Txt.item x 5) x = false) (h9 : ellP (Str.ofString "..." ++ Txt.slice x none (some 2) ++ Str.ofString "..." ++ Txt.slice x (some 1) (some 3) ++ Str.ofString "...") x = false)
    : Claim1b w 101 [.str x tx] (fun _ => .bool true) := by
  unfold Claim1b; k_fill
  intro pT lT mean mg mb dp un gd cn cs a ccd cl outer A₀ base h₀ L m news s Q E B F X N T hk hd hu hret
  refine wpAny_call ?_
  k_dflt (refine' code_defC (binds := [(Str.ofString "text", Value.str x tx)]) ?k1 ?k2 ?k3 ?k4 ?k5 ?kA ?kF ?kK ?k6 ?k7 ?k8 ?k9 ?kB ?kD ?_ ?c2 ?c3 ?c4; (case kA => exact rfl); (case kF => exact rfl); (case kK => assumption); (case k1 => k_asm); (case k2 => k_asm); (case k3 => k_asm); (case k4 => k_asm); (case k5 => k_asm); (case k6 => k_is); (case k7 => k_is); (case k8 => ktr_room); (case k9 => exact BindsTo.of_eq rfl); (case kB => exact rfl); (case kD => decide +kernel); (case c2 => exact rfl); (case c3 => exact rfl); (case c4 => exact rfl); k_whole; intro g' L' h' tk' cells' FG' F' N' Y' B' X' T' l1; (try k_lt l1); k_cells Y'; (try simp only [List.cons_append, List.nil_append] at N'); (try dsimp only); (try k_lift B'); (try k_fold))
  have hx1 := sz_1 hx0
  have hx2 := sz_item (x := x) (i := 5) (by omega) (by omega)
  k_steps
  · rename ((decide _ != decide _) = true) => h9
    rw [bne_self_eq_false] at h9
    cases h9
  · rename ((decide _ != decide _) = true) => h9
    rw [bne_self_eq_false] at h9
    cases h9
  · rename Fr _ _ _ _ => kF
    rename News _ _ _ _ => kN
    exact cb_retB hret rfl kF (cb_drop kN fun p hp => .tail _ (.tail _ (.tail _ (.tail _ hp))))
end Mine
-- ML6
namespace Mine
/-- one turn of a comprehension, with no test or with one -/
noncomputable def compBody (prog : Program) (w : World) (A : Around) (cs : List Expr) (elt : Expr) (env : Env) (QT : Value → Shared → Prop) (QF : Shared → Prop) (E : Value → Shared → Prop) (s : Shared) : Prop := match cs with
  | [] => wpAny (model prog w) A (eval elt env) QT E s
  | c :: _ => wpAny (model prog w) A (isTrue c env (eval c env)) (fun ok s' => if ok = true then wpAny (model prog w) A (eval elt env) QT E s' else QF s') E s
theorem compBody_mono {prog : Program} {w : World} {A : Around} {cs : List Expr} {elt : Expr} {env : Env} {QT QT' : Value → Shared → Prop} {QF QF' : Shared → Prop} {E : Value → Shared → Prop} {s : Shared}
    (h : compBody prog w A cs elt env QT QF E s) (h1 : ∀ v s', QT v s' → QT' v s') (h2 : ∀ s', QF s' → QF' s') : compBody prog w A cs elt env QT' QF' E s := by
  cases cs with
  | nil => exact wpAny_mono h h1 fun _ _ e => e
  | cons c r =>
    refine wpAny_mono h (fun ok s' q => ?_) fun _ _ e => e
    cases ok with
    | true => rw [if_pos rfl] at q ⊢; exact wpAny_mono q h1 fun _ _ e => e
    | false => rw [if_neg Bool.false_ne_true] at q ⊢; exact h2 _ q
theorem comp_loop {prog : Program} {w : World} {A : Around} {elt target iter : Expr} {cs : List Expr} {scope : Scope} {pos : Pos} {it acc : Value} {env : Env} {R : Result → Shared → Prop} (hcs : cs = [] ∨ ∃ c, cs = [c]) (I : Nat → Shared → Prop)
    (turn : ∀ n s, I n s → wpAny (model prog w) A (pyNext it) (fun r s₁ => match r with
      | none => R (.ok .next) s₁
      | some v => wpAny (model prog w) A (letOwnedTupleGo target it v) (fun _ s₀ => wpAny (model prog w) A (assign target env v) (fun _ s₂ =>
          compBody prog w A cs elt env (fun x s₄ =>
            wpAny (model prog w) A (call (.builtin "list.append") [acc, x]) (fun _ s₅ => ∃ m, m < n ∧ I m s₅) (notedBy (model prog w) A env fun e s' => R (.error e) s') s₄) (fun s₃ => ∃ m, m < n ∧ I m s₃) (notedBy (model prog w) A env fun e s' => R (.error e) s') s₂)
          (notedBy (model prog w) A env fun e s' => R (.error e) s') s₀) (notedBy (model prog w) A env fun e s' => R (.error e) s') s₁) (notedBy (model prog w) A env fun e s' => R (.error e) s') s)
    (n : Nat) (h : I n s) : codeAny (model prog w) A (.compLoop (.ListComp elt [⟨target, iter, cs, 0⟩] scope pos) 0 it acc env) R s := by
  rcases hcs with rfl | ⟨c, rfl⟩
  · exact kcp_loop I turn n h
  · exact kct_loop I turn n h
/-- the end of a turn: what the comprehension has made besides (g) lies above its own cell -/
noncomputable def CEnd (h₀ : Heap) (L : Addr) (m : Str → Option Value) (s₁ : Shared) (C : Addr) (oC : Obj) (D : Addr) (oD : Obj) (post : List (Addr × Obj)) (rest : Value → List (Addr × Obj) → Prop) (y : Value) (s₂ : Shared) : Prop :=
  ∃ h' tk g, s₂ = { s₁ with heap := h', toks := tk } ∧ Fr h₀ L h' m ∧ News h₀ L h' ((C, oC) :: (D, oD) :: (g ++ post)) ∧ (∀ p ∈ g, @LT.lt Nat _ C p.1) ∧ rest y g
section
variable {prog : Program} {w : World} {A : Around} {E : Value → Shared → Prop} {s : Shared} {h₀ : Heap} {L : Addr} {m : Str → Option Value} {env : Env}
theorem comp_blockZ {elt iter : Expr} {cs : List Expr} {a b : Str} {pa pb tp : Pos} {kk : Nat} {scope : Scope} {cl : List (Str × Addr)} {pos : Pos} {s₂ : Shared} {I : Addr} {fp wr : List Addr} {n : Nat} {P Md : Nat → Value → Heap → Prop} {St : Nat → Heap → Prop} {P2 : Nat → Value → Value → Prop} {news : List (Addr × Obj)}
    {J : Nat → List Value → List (Addr × Obj) → Prop} {RR : Value → Addr → Result → Shared → Prop}
    (W : KTurns prog w A (.Tuple [.Name a pa, .Name b pb] kk tp) I fp wr n P Md St) (hself : ∀ (s : Shared) (Q : Value → Shared → Prop) (E : Value → Shared → Prop), St 0 s.heap → Q (.ref I) s → wpAny (model prog w) A (pyIter (.ref I)) Q E s)
    (hh : A.handled = none) (hcs : cs = [] ∨ ∃ c, cs = [c]) (hsz : n ≤ sizeLine)
    (hP : ∀ i v h, P i v h → News h₀ L h news → ∃ T x y, v = .ref T ∧ h.IsTuple T #[x, y] ∧ P2 i x y)
    (hcell : ∀ y ∈ scope.names, y.2 ≠ .cell) (hkind : scope.kind = .function) (hxa : scope.names.lookup a = some .local) (hxb : scope.names.lookup b = some .local) (hab : ¬ a = b)
    (hst : St 0 s₂.heap) (hfp : ∀ b ∈ fp, @LT.lt Nat _ b s₂.heap.objs.size) (hLf : L ∉ fp) (hwr : ∀ b ∈ wr, h₀.get? b = none) (hnw : ∀ p ∈ news, p.1 ∉ wr)
    (F : Fr h₀ L s₂.heap m) (N : News h₀ L s₂.heap news) (h0 : J 0 [] [])
    (turn : ∀ i x y g ys own C oC D m₂ h tk (E' : Value → Shared → Prop), i < n → P2 i x y → J i ys g → LCg.NsObj oC m₂ → m₂ a = some x → m₂ b = some y → Fr h₀ L h m → News h₀ L h ((C, oC) :: (D, LCg.lst ys) :: (g ++ (news ++ own))) →
      @LT.lt Nat _ D C → (∀ p ∈ g ++ (news ++ own), p.1 ≠ C ∧ p.1 ≠ D) → (∀ p ∈ g, @LT.lt Nat _ C p.1) →
      compBody prog w A cs elt (compEnvC scope cl C env) (CEnd h₀ L m { s₂ with heap := h, toks := tk } C oC D (LCg.lst ys) (news ++ own) (fun y' g' => J (i + 1) (ys ++ [y']) g'))
        (CEnd h₀ L m { s₂ with heap := h, toks := tk } C oC D (LCg.lst ys) (news ++ own) (fun _ g' => J (i + 1) ys g') Value.none) E' { s₂ with heap := h, toks := tk })
    (hRR : ∀ D C h tk m' ys g, Fr h₀ L h m → News h₀ L h ((D, LCg.lst ys) :: (g ++ news)) → h.Ns C m' → h₀.get? C = none → h₀.get? D = none → C ≠ L → D ≠ L → C ≠ D → (∀ p ∈ g ++ news, p.1 ≠ C ∧ p.1 ≠ D) → (∀ p ∈ g, @LT.lt Nat _ D p.1) → (∀ p ∈ news, @LT.lt Nat _ p.1 D) → J n ys g → RR (.ref D) C (.ok .next) { s₂ with heap := h, toks := tk }) :
    wpAny (model prog w) A (newList []) (fun acc s₃ => wpAny (model prog w) A (newFunctionEnv scope env.globals cl [] env.qual none .none (some env)) (fun cenv s₄ =>
      codeAny (model prog w) A (.compStart (.ListComp elt [⟨.Tuple [.Name a pa, .Name b pb] kk tp, iter, cs, 0⟩] scope pos) 0 (.ref I) acc { cenv with scope := relabel scope env }) (RR acc cenv.locals) s₄) E s₃) E s₂ := by
  refine wpAny_newObj_type (wpAny_newFunctionEnv hcell (by intro y hy; simp at hy) (fun h₁ hns₁ hsb₁ => ?_) hkind)
  dsimp only at hns₁ hsb₁ ⊢
  generalize hH2 : s₂.heap.push { cls := .type "list", dict := none, data := .seq ([] : List Value).toArray } = H2 at hns₁ hsb₁ ⊢
  have hC : @Eq Nat H2.objs.size (s₂.heap.objs.size + 1) := by rw [← hH2, Heap.size_push]
  have hDC : @LT.lt Nat _ s₂.heap.objs.size H2.objs.size := by rw [hC]; exact Nat.lt_succ_self _
  have below : ∀ b, @LT.lt Nat _ b s₂.heap.objs.size → b ≠ H2.objs.size ∧ b ≠ s₂.heap.objs.size := fun b hb => ⟨Nat.ne_of_lt (Nat.lt_trans hb hDC), Nat.ne_of_lt hb⟩
  have hDf : s₂.heap.objs.size ∉ fp := fun hm => Nat.lt_irrefl _ (hfp _ hm)
  have hCf : H2.objs.size ∉ fp := fun hm => Nat.lt_irrefl _ (Nat.lt_trans (hfp _ hm) hDC)
  have old : ∀ b o, s₂.heap.get? b = some o → h₁.get? b = some o := fun b o e => hsb₁.extBut b o (below b (Heap.lt_size e)).1 (Heap.get?_push_of_some _ (hH2 ▸ Heap.get?_push_of_some _ e))
  have hacc : h₁.get? s₂.heap.objs.size = some (LCg.lst []) := hsb₁.extBut _ _ (Nat.ne_of_lt hDC) (Heap.get?_push_of_some _ (hH2 ▸ Heap.get?_push_size _ rfl))
  have hst₁ : St 0 h₁ := W.frame _ _ _ hst fun b _ o e => old b o e
  have fresh : ∀ a, @LE.le Nat _ s₂.heap.objs.size a → s₂.heap.get? a = none := fun a ha => by
    cases e : s₂.heap.get? a with
    | none => rfl
    | some o' => exact absurd (Heap.lt_size e) (Nat.not_lt.mpr ha)
  have fresh₀ : ∀ a, @LE.le Nat _ s₂.heap.objs.size a → h₀.get? a = none := fun a ha => by
    cases e : h₀.get? a with
    | none => rfl
    | some o' => have := F.keep a o' e; rw [fresh a ha] at this; cases this
  have hD₀ : h₀.get? s₂.heap.objs.size = none := fresh₀ _ (Nat.le_refl _)
  have hC₀ : h₀.get? H2.objs.size = none := fresh₀ _ (Nat.le_of_lt hDC)
  have hLlt : @LT.lt Nat _ L s₂.heap.objs.size := F.ns.lt
  have hDL : s₂.heap.objs.size ≠ L := Ne.symm (below L hLlt).2
  have hCL : H2.objs.size ≠ L := Ne.symm (below L hLlt).1
  have hLw : L ∉ wr := fun h => hLf (W.sub _ h)
  have hCw : H2.objs.size ∉ wr := fun h => hCf (W.sub _ h)
  have hDw : s₂.heap.objs.size ∉ wr := fun h => hDf (W.sub _ h)
  have old₀ : ∀ b o, h₀.get? b = some o → b ∉ wr := fun b o e hb => by rw [hwr b hb] at e; cases e
  have newsLt : ∀ p ∈ news, @LT.lt Nat _ p.1 s₂.heap.objs.size := fun p hp => Heap.lt_size (N p hp).1
  have loop : ∀ s₃ : Shared, s₃ = { s₂ with heap := h₁, toks := s₂.toks + ([] : List (Str × Value)).length } →
      codeAny (model prog w) A (.compLoop (.ListComp elt [⟨.Tuple [.Name a pa, .Name b pb] kk tp, iter, cs, 0⟩] scope pos) 0 (.ref I) (.ref s₂.heap.objs.size) (compEnvC scope cl H2.objs.size env))
        (RR (.ref s₂.heap.objs.size) H2.objs.size) s₃ := by
    rintro s₃ rfl
    refine comp_loop hcs
      (fun k s' => ∃ h' tk i ys m' g, s' = { s₂ with heap := h', toks := tk } ∧ i ≤ n ∧ k = n + 1 - i ∧ ys.length ≤ i ∧ St i h' ∧ Fr h₀ L h' m ∧ h'.Ns H2.objs.size m' ∧
        News h₀ L h' ((s₂.heap.objs.size, LCg.lst ys) :: (g ++ news)) ∧ (∀ p ∈ g, @LT.lt Nat _ H2.objs.size p.1) ∧ J i ys g) ?_ (n + 1)
      ⟨h₁, _, 0, [], _, [], rfl, Nat.zero_le _, rfl, Nat.le_refl _, hst₁, F.keeps old, hns₁, fun p hp => ?_, (fun _ h => nomatch h), h0⟩
    · rintro k s' ⟨h', tk, i, ys, m', g, rfl, hi, rfl, hyl, hst', F', hn', N', hg, hJ⟩
      have gLt : ∀ p ∈ g ++ news, p.1 ≠ H2.objs.size ∧ p.1 ≠ s₂.heap.objs.size ∧ p.1 ∉ wr := fun p hp => by
        rcases List.mem_append.mp hp with hp | hp
        · have h1 := hg p hp
          exact ⟨Nat.ne_of_gt h1, Nat.ne_of_gt (Nat.lt_trans hDC h1), fun hw => Nat.lt_irrefl _ (Nat.lt_trans (Nat.lt_trans h1 (hfp _ (W.sub _ hw))) hDC)⟩
        · exact ⟨(below _ (newsLt p hp)).1, (below _ (newsLt p hp)).2, hnw p hp⟩
      by_cases hlt : i < n
      · refine W.item i _ _ _ hlt hst' fun v h₂ tk₂ hMd hk₂ => ?_
        refine W.go i v _ _ _ hMd fun h₃ hPv hst₃ hk₃ => ?_
        have up₃ : ∀ c o, c ∉ wr → h'.get? c = some o → h₃.get? c = some o := fun c o hc e => hk₃ c o hc (hk₂ c o hc e)
        have F₃ : Fr h₀ L h₃ m := ⟨F'.ns.at' fun o e => up₃ L o hLw e, fun c o e => up₃ c o (old₀ c o e) (F'.keep c o e), F'.above⟩
        have N₃ : News h₀ L h₃ ((s₂.heap.objs.size, LCg.lst ys) :: (g ++ news)) := fun p hp => by
          refine ⟨up₃ _ _ ?_ (N' p hp).1, (N' p hp).2⟩
          rcases List.mem_cons.mp hp with rfl | hp
          · exact hDw
          · exact (gLt p hp).2.2
        obtain ⟨T, x, y, rfl, hT, hP2⟩ := hP i v h₃ hPv fun p hp => N₃ p (.tail _ (List.mem_append_right _ hp))
        refine kcp_assign (env := compEnvC scope cl H2.objs.size env) hh hT (lookup_relabel_local hxa) (lookup_relabel_local hxb) (by simp [compEnvC, relabel, hkind]) (hn'.at' fun o e => up₃ _ o hCw e) fun h₄ tk₄ hn₄ hs₄ => ?_
        have hst₄ : St (i + 1) h₄ := W.frame _ _ _ hst₃ fun b hb o e => hs₄ b o (fun q => hCf (by have q' : b = H2.objs.size := q; rw [← q']; exact hb)) e
        obtain ⟨oC, heC, hoC⟩ := LCg.ns_obj hn₄
        have F₄ : Fr h₀ L h₄ m := ⟨F₃.ns.at' fun o e => hs₄ L o (Ne.symm hCL) e, fun c o e => hs₄ c o (fun q => by have q' : c = H2.objs.size := q; rw [q', hC₀] at e; cases e) (F₃.keep c o e), F₃.above⟩
        have Nown : News h₀ L h₄ (PyProof.Rows.ownOf h₀ fp h₄) := news_ownOf hLf
        have N₄ : News h₀ L h₄ ((H2.objs.size, oC) :: (s₂.heap.objs.size, LCg.lst ys) :: (g ++ (news ++ (PyProof.Rows.ownOf h₀ fp h₄).filter fun p => news.all fun q => !decide (q.1 = p.1)))) := fun q hq => by
          rcases List.mem_cons.mp hq with rfl | hq
          · exact ⟨heC, hCL, hC₀⟩
          · rcases List.mem_cons.mp hq with rfl | hq
            · exact ⟨hs₄ _ _ (Nat.ne_of_lt hDC) (N₃ _ (.head _)).1, (N₃ _ (.head _)).2⟩
            · have old3 : ∀ p ∈ g ++ news, h₄.get? p.1 = some p.2 ∧ p.1 ≠ L ∧ h₀.get? p.1 = none := fun p hp => ⟨hs₄ _ _ (gLt p hp).1 (N₃ p (.tail _ hp)).1, (N₃ p (.tail _ hp)).2⟩
              rcases List.mem_append.mp hq with hq | hq
              · exact old3 q (List.mem_append_left _ hq)
              · rcases List.mem_append.mp hq with hq | hq
                · exact old3 q (List.mem_append_right _ hq)
                · exact Nown q (List.mem_filter.mp hq).1
        have apart : ∀ p ∈ g ++ (news ++ (PyProof.Rows.ownOf h₀ fp h₄).filter fun p => news.all fun q => !decide (q.1 = p.1)), p.1 ≠ H2.objs.size ∧ p.1 ≠ s₂.heap.objs.size := fun p hp => by
          rcases List.mem_append.mp hp with hp | hp
          · exact ⟨(gLt p (List.mem_append_left _ hp)).1, (gLt p (List.mem_append_left _ hp)).2.1⟩
          · rcases List.mem_append.mp hp with hp | hp
            · exact ⟨(gLt p (List.mem_append_right _ hp)).1, (gLt p (List.mem_append_right _ hp)).2.1⟩
            · exact below _ (hfp _ (ownOf_sub p (List.mem_filter.mp hp).1))
        have stAfter : ∀ (h₅ : Heap) (g' : List (Addr × Obj)) (oC' : Obj) (oD' : Obj), Fr h₀ L h₅ m → News h₀ L h₅ ((H2.objs.size, oC') :: (s₂.heap.objs.size, oD') :: (g' ++ (news ++ (PyProof.Rows.ownOf h₀ fp h₄).filter fun p => news.all fun q => !decide (q.1 = p.1)))) → St (i + 1) h₅ := fun h₅ g' oC' oD' F₅ N₅ => by
          refine W.frame _ _ _ hst₄ fun b hb o e => ?_
          cases hn : h₀.get? b with
          | some o₀ =>
            have : o₀ = o := by have q := F₄.keep b o₀ hn; rw [e] at q; exact (Option.some.inj q).symm
            exact this ▸ F₅.keep b o₀ hn
          | none =>
            have hm := mem_ownOf hb hn e
            cases hc : (news.all fun q => !decide (q.1 = b)) with
            | true => exact (N₅ (b, o) (.tail _ (.tail _ (List.mem_append_right _ (List.mem_append_right _ (List.mem_filter.mpr ⟨hm, hc⟩)))))).1
            | false =>
              obtain ⟨q, hq, hq'⟩ := List.all_eq_false.mp hc
              have e1 : q.1 = b := by simpa using hq'
              have h4 := (N₄ q (.tail _ (.tail _ (List.mem_append_right _ (List.mem_append_left _ hq))))).1
              have h5 := (N₅ q (.tail _ (.tail _ (List.mem_append_right _ (List.mem_append_left _ hq))))).1
              rw [e1] at h4 h5
              rw [h5, ← h4]
              exact e
        refine compBody_mono (turn i x y g ys _ H2.objs.size oC s₂.heap.objs.size _ h₄ _ _ hlt hP2 hJ hoC (by simp [hab]) (by simp) F₄ N₄ hDC apart hg) (fun y' s₅ h₅ => ?_) (fun s₅ h₅ => ?_)
        · obtain ⟨h₅, tk₅, g', rfl, F₅, N₅, hg', hJ'⟩ := h₅
          have hst₅ := stAfter _ _ _ _ F₅ N₅
          have zC := (N₅ (H2.objs.size, oC) (.head _)).1
          have zD := (N₅ (s₂.heap.objs.size, LCg.lst ys) (.tail _ (.head _))).1
          refine append_at (hsz := by show ys.toArray.size ≤ sizeLine; rw [List.size_toArray]; exact Nat.le_trans hyl (Nat.le_trans hi hsz)) zD fun h₆ hs₆ hD₆ => ?_
          refine ⟨n + 1 - (i + 1), by omega, h₆, tk₅, i + 1, ys ++ [y'], _, g', rfl, hlt, rfl, by rw [List.length_append, List.length_singleton]; omega, W.frame _ _ _ hst₅ fun b hb o e => hs₆.extBut b o (fun q => hDf (q ▸ hb)) e, F₅.change hs₆ hDL hD₀,
            (hoC.ns zC).sameBut hs₆ (Nat.ne_of_gt hDC), fun q hq => ?_, hg', hJ'⟩
          rcases List.mem_cons.mp hq with rfl | hq
          · exact ⟨hD₆.trans (congrArg some (LCg.lst_snoc ys y')), hDL, hD₀⟩
          · have hq' : q ∈ (H2.objs.size, oC) :: (s₂.heap.objs.size, LCg.lst ys) :: (g' ++ (news ++ (PyProof.Rows.ownOf h₀ fp h₄).filter fun p => news.all fun q => !decide (q.1 = p.1))) := by
              rcases List.mem_append.mp hq with hq | hq
              · exact .tail _ (.tail _ (List.mem_append_left _ hq))
              · exact .tail _ (.tail _ (List.mem_append_right _ (List.mem_append_left _ hq)))
            refine ⟨hs₆.extBut _ _ ?_ (N₅ q hq').1, (N₅ q hq').2⟩
            rcases List.mem_append.mp hq with hq | hq
            · exact Nat.ne_of_gt (Nat.lt_trans hDC (hg' q hq))
            · exact (below _ (newsLt q hq)).2
        · obtain ⟨h₅, tk₅, g', rfl, F₅, N₅, hg', hJ'⟩ := h₅
          have hst₅ := stAfter _ _ _ _ F₅ N₅
          have zC := (N₅ (H2.objs.size, oC) (.head _)).1
          refine ⟨n + 1 - (i + 1), by omega, h₅, tk₅, i + 1, ys, _, g', rfl, hlt, rfl, by omega, hst₅, F₅, hoC.ns zC, fun q hq => ?_, hg', hJ'⟩
          rcases List.mem_cons.mp hq with rfl | hq
          · exact N₅ _ (.tail _ (.head _))
          · rcases List.mem_append.mp hq with hq | hq
            · exact N₅ _ (.tail _ (.tail _ (List.mem_append_left _ hq)))
            · exact N₅ _ (.tail _ (.tail _ (List.mem_append_right _ (List.mem_append_left _ hq))))
      · have hin : i = n := Nat.le_antisymm hi (Nat.not_lt.mp hlt)
        subst hin
        refine W.done _ _ _ hst' fun h₂ tk₂ hk₂ => ?_
        exact hRR _ _ h₂ tk₂ _ ys g ⟨F'.ns.at' fun o e => hk₂ _ o hLw e, fun c o e => hk₂ c o (old₀ c o e) (F'.keep c o e), F'.above⟩ (fun p hp => by
          refine ⟨hk₂ _ _ ?_ (N' p hp).1, (N' p hp).2⟩
          rcases List.mem_cons.mp hp with rfl | hp
          · exact hDw
          · exact (gLt p hp).2.2) (hn'.at' fun o e => hk₂ _ o hCw e) hC₀ hD₀ hCL hDL (Nat.ne_of_gt hDC) (fun p hp => ⟨(gLt p hp).1, (gLt p hp).2.1⟩) (fun p hp => Nat.lt_trans hDC (hg p hp)) newsLt hJ
    · rcases List.mem_cons.mp hp with rfl | hp
      · exact ⟨hacc, hDL, hD₀⟩
      · exact ⟨old _ _ (N p hp).1, (N p hp).2⟩
  exact codeAny_compStart_list (loop _ rfl) (hself _ _ _ hst₁ (loop _ rfl))
end
end Mine
-- ML7
namespace Mine
/-- what a comprehension over pairs asks of its iterator and of its turns -/
noncomputable def ZAt (prog : Program) (w : World) (A : Around) (h₀ : Heap) (L : Addr) (m : Str → Option Value) (env : Env) (cs : List Expr) (elt target : Expr) (a b : Str) (scope : Scope) (cl : List (Str × Addr)) (E : Value → Shared → Prop)
    (K : Addr → List Value → List (Addr × Obj) → List (Addr × Obj) → Heap → Nat → Shared → Prop) (it : Value) (s₂ : Shared) : Prop :=
  ∃ (I : Addr) (fp wr : List Addr) (n : Nat) (P Md : Nat → Value → Heap → Prop) (St : Nat → Heap → Prop) (P2 : Nat → Value → Value → Prop) (news : List (Addr × Obj)) (J : Nat → List Value → List (Addr × Obj) → Prop),
    it = .ref I ∧ KTurns prog w A target I fp wr n P Md St ∧ (∀ (s : Shared) (Q : Value → Shared → Prop) (E : Value → Shared → Prop), St 0 s.heap → Q (.ref I) s → wpAny (model prog w) A (pyIter (.ref I)) Q E s) ∧
    A.handled = none ∧ (cs = [] ∨ ∃ c, cs = [c]) ∧ n ≤ sizeLine ∧ (∀ i v h, P i v h → News h₀ L h news → ∃ T x y, v = .ref T ∧ h.IsTuple T #[x, y] ∧ P2 i x y) ∧
    St 0 s₂.heap ∧ (∀ b ∈ fp, @LT.lt Nat _ b s₂.heap.objs.size) ∧ L ∉ fp ∧ (∀ b ∈ wr, h₀.get? b = none) ∧ (∀ p ∈ news, p.1 ∉ wr) ∧ Fr h₀ L s₂.heap m ∧ News h₀ L s₂.heap news ∧ J 0 [] [] ∧
    (∀ i x y g ys own C oC D m₂ h tk (E' : Value → Shared → Prop), i < n → P2 i x y → J i ys g → LCg.NsObj oC m₂ → m₂ a = some x → m₂ b = some y → Fr h₀ L h m → News h₀ L h ((C, oC) :: (D, LCg.lst ys) :: (g ++ (news ++ own))) →
      @LT.lt Nat _ D C → (∀ p ∈ g ++ (news ++ own), p.1 ≠ C ∧ p.1 ≠ D) → (∀ p ∈ g, @LT.lt Nat _ C p.1) →
      compBody prog w A cs elt (compEnvC scope cl C env) (CEnd h₀ L m { s₂ with heap := h, toks := tk } C oC D (LCg.lst ys) (news ++ own) (fun y' g' => J (i + 1) (ys ++ [y']) g'))
        (CEnd h₀ L m { s₂ with heap := h, toks := tk } C oC D (LCg.lst ys) (news ++ own) (fun _ g' => J (i + 1) ys g') Value.none) E' { s₂ with heap := h, toks := tk }) ∧
    (∀ D h tk ys g, (∀ p ∈ g, @LT.lt Nat _ D p.1) → (∀ p ∈ news, @LT.lt Nat _ p.1 D) → J n ys g → K D ys g news h tk s₂)
noncomputable def ZFinE (h₀ : Heap) (L : Addr) (m : Str → Option Value) (Q : Value → Shared → Prop) (D : Addr) (ys : List Value) (g news : List (Addr × Obj)) (h : Heap) (tk : Nat) (s₂ : Shared) : Prop :=
  Fr h₀ L h m → News h₀ L h ((D, LCg.lst ys) :: (g ++ news)) → Q (.ref D) { s₂ with heap := h, toks := tk }
noncomputable def ZFinA (h₀ : Heap) (L : Addr) (m : Str → Option Value) (y : Str) (Q : Flow → Shared → Prop) (D : Addr) (ys : List Value) (g news : List (Addr × Obj)) (h : Heap) (tk : Nat) (s₂ : Shared) : Prop :=
  Fr h₀ L h (fun z => if z = y then some (.ref D) else m z) → News h₀ L h ((D, LCg.lst ys) :: (g ++ news)) → Q .next { s₂ with heap := h, toks := tk }
section
variable {prog : Program} {w : World} {A : Around} {E : Value → Shared → Prop} {s : Shared} {h₀ : Heap} {L : Addr} {m : Str → Option Value} {env : Env}
theorem ListComp_Z {elt iter : Expr} {cs : List Expr} {a b : Str} {pa pb tp : Pos} {kk : Nat} {scope : Scope} {cl : List (Str × Addr)} {pos : Pos} {Q : Value → Shared → Prop} (_F : Fr h₀ L s.heap m)
    (hclos : closureFor scope env = pure cl) (hcell : ∀ y ∈ scope.names, y.2 ≠ .cell) (hkind : scope.kind = .function)
    (hnames : ∀ y ∈ scope.names, y.2 = .local → scope.names.lookup y.1 = some .local) (hxa : scope.names.lookup a = some .local) (hxb : scope.names.lookup b = some .local) (hab : ¬ a = b)
    (h : wpAny (model prog w) A (eval iter env) (fun xv s₁ => wpAny (model prog w) A (pyIter xv) (fun it s₂ => ZAt prog w A h₀ L m env cs elt (.Tuple [.Name a pa, .Name b pb] kk tp) a b scope cl E (ZFinE h₀ L m Q) it s₂) E s₁) E s)
    (hs : ∀ x, foldedSetIterable iter env x = pure x := by intro _; rfl) :
    wpAny (model prog w) A (eval (.ListComp elt [⟨.Tuple [.Name a pa, .Name b pb] kk tp, iter, cs, 0⟩] scope pos) env) Q E s := by
  rw [eval_ListComp]
  refine wpAny_comprehension_free (use := none) rfl hs hclos hkind hnames (wpAny_mono h (fun xv s₁ h₁ => wpAny_mono h₁ (fun it s₂ h₂ => ?_) fun _ _ e => e) fun _ _ e => e)
  obtain ⟨I, fp, wr, n, P, Md, St, P2, news, J, rfl, W, hself, hh, hcs, hsz, hP, hst, hfp, hLf, hwr, hnw, F, N, h0, turn, fin⟩ := h₂
  refine comp_blockZ W hself hh hcs hsz hP hcell hkind hxa hxb hab hst hfp hLf hwr hnw F N h0 turn ?_
  intro D C h tk m' ys g F' N' hn hC₀ hD₀ hCL hDL hCD offC hgD hnD hJ
  refine ⟨m', hn, fun h'' hs'' => fin D h'' tk ys g hgD hnD hJ (F'.change hs'' hCL hC₀) (fun p hp => ?_)⟩
  refine ⟨hs''.extBut _ _ ?_ (N' p hp).1, (N' p hp).2⟩
  rcases List.mem_cons.mp hp with rfl | hp
  · exact Ne.symm hCD
  · exact (offC p hp).1
theorem Assign_ListComp_Z {elt iter : Expr} {cs : List Expr} {a b y : Str} {pa pb tp py : Pos} {kk : Nat} {scope : Scope} {cl : List (Str × Addr)} {pos spos : Pos} {Q : Flow → Shared → Prop} (_F : Fr h₀ L s.heap m) (hLe : env.locals = L)
    (hsw : swapsWith (.ListComp elt [⟨.Tuple [.Name a pa, .Name b pb] kk tp, iter, cs, 0⟩] scope pos) (some (.Name y py)) spos.line env = pure true)
    (hclos : closureFor scope env = pure cl) (hcell : ∀ y ∈ scope.names, y.2 ≠ .cell) (hkind : scope.kind = .function)
    (hnames : ∀ y ∈ scope.names, y.2 = .local → scope.names.lookup y.1 = some .local) (hxa : scope.names.lookup a = some .local) (hxb : scope.names.lookup b = some .local) (hab : ¬ a = b)
    (hy : env.kindOf y = some .local) (hp : (env.scope.kind == .class || (env.scope.kind == .module && env.locals != env.globals)) = false)
    (h : wpAny (model prog w) A (eval iter env) (fun xv s₁ => wpAny (model prog w) A (pyIter xv) (fun it s₂ => ZAt prog w A h₀ L m env cs elt (.Tuple [.Name a pa, .Name b pb] kk tp) a b scope cl E (ZFinA h₀ L m y Q) it s₂) E s₁) E s)
    (hs : ∀ x, foldedSetIterable iter env x = pure x := by intro _; rfl) :
    wpAny (model prog w) A (exec (.Assign [.Name y py] (.ListComp elt [⟨.Tuple [.Name a pa, .Name b pb] kk tp, iter, cs, 0⟩] scope pos) spos) env) Q E s := by
  subst hLe
  rw [exec_Assign_Name_used _ _ _ _ hsw]
  refine wpAny_bind (wpAny_standAt (wpAny_bind ?_))
  show wpAny _ A (do let _ ← comprehension (.ListComp elt [⟨.Tuple [.Name a pa, .Name b pb] kk tp, iter, cs, 0⟩] scope pos) scope env _ (newList []) false (eval iter env) (some (assign (.Name y py) env))) _ _ s
  refine wpAny_bind (wpAny_mono (wpAny_comprehension_free (use := some (assign (.Name y py) env)) (Q := fun _ s' => Q .next s') rfl hs hclos hkind hnames
    (wpAny_mono h (fun xv s₁ h₁ => wpAny_mono h₁ (fun it s₂ h₂ => ?_) fun _ _ e => e) fun _ _ e => e)) (fun _ s' hq => wpAny_pure (wpAny_pure hq)) fun _ _ e => e)
  obtain ⟨I, fp, wr, n, P, Md, St, P2, news, J, rfl, W, hself, hh, hcs, hsz, hP, hst, hfp, hLf, hwr, hnw, F, N, h0, turn, fin⟩ := h₂
  refine comp_blockZ W hself hh hcs hsz hP hcell hkind hxa hxb hab hst hfp hLf hwr hnw F N h0 turn ?_
  intro D C h tk m' ys g F' N' hn hC₀ hD₀ hCL hDL hCD offC hgD hnD hJ
  show wpAny _ A (assign (.Name y py) env (.ref D)) _ _ _
  refine wpAny_assign_Name (wpAny_storeName_local hy F'.ns (fun h₂ hn₂ hs₂ => ?_) hp)
  have hL₀ : h₀.get? env.locals = none := Heap.get?_none_of_le F'.above
  have F₂ : Fr h₀ env.locals h₂ (fun z => if z = y then some (.ref D) else m z) := ⟨hn₂, fun b o e => hs₂.extBut b o (fun q => by rw [q, hL₀] at e; cases e) (F'.keep b o e), F'.above⟩
  refine ⟨m', hn.sameBut hs₂ hCL, fun h'' hs'' => fin D h'' _ ys g hgD hnD hJ (F₂.change hs'' hCL hC₀) (fun p hp => ?_)⟩
  have z : h₂.get? p.1 = some p.2 := hs₂.extBut _ _ (N' p hp).2.1 (N' p hp).1
  refine ⟨hs''.extBut _ _ ?_ z, (N' p hp).2⟩
  rcases List.mem_cons.mp hp with rfl | hp
  · exact Ne.symm hCD
  · exact (offC p hp).1
end
section
variable {prog : Program} {w : World} {A : Around} {E : Value → Shared → Prop} {s : Shared} {h₀ : Heap} {L : Addr} {m : Str → Option Value} {env : Env} {cs : List Expr} {elt : Expr} {a b : Str} {pa pb tp : Pos} {kk : Nat} {scope : Scope} {cl : List (Str × Addr)}
  {K : Addr → List Value → List (Addr × Obj) → List (Addr × Obj) → Heap → Nat → Shared → Prop} {news : List (Addr × Obj)}
/-- over zip(l1, l2) -/
theorem zipZ {l1 l2 : Addr} {vs1 vs2 : List Value} {n1 n2 : Nat} (J : Nat → List Value → List (Addr × Obj) → Prop)
    (hh : A.handled = none) (hcs : cs = [] ∨ ∃ c, cs = [c]) (hl1 : (l1, listOf vs1.toArray n1) ∈ news) (hl2 : (l2, listOf vs2.toArray n2) ∈ news) (hsz : vs1.length < 1000) (F : Fr h₀ L s.heap m) (N : News h₀ L s.heap news) (h0 : J 0 [] [])
    (turn : ∀ i x y g ys own C oC D m₂ (s₂ : Shared) h tk (E' : Value → Shared → Prop), vs1[i]? = some x → vs2[i]? = some y → J i ys g → LCg.NsObj oC m₂ → m₂ a = some x → m₂ b = some y → Fr h₀ L h m → News h₀ L h ((C, oC) :: (D, LCg.lst ys) :: (g ++ (news ++ own))) →
      @LT.lt Nat _ D C → (∀ p ∈ g ++ (news ++ own), p.1 ≠ C ∧ p.1 ≠ D) → (∀ p ∈ g, @LT.lt Nat _ C p.1) →
      compBody prog w A cs elt (compEnvC scope cl C env) (CEnd h₀ L m { s₂ with heap := h, toks := tk } C oC D (LCg.lst ys) (news ++ own) (fun y' g' => J (i + 1) (ys ++ [y']) g'))
        (CEnd h₀ L m { s₂ with heap := h, toks := tk } C oC D (LCg.lst ys) (news ++ own) (fun _ g' => J (i + 1) ys g') Value.none) E' { s₂ with heap := h, toks := tk })
    (fin : ∀ D (h : Heap) tk ys g hp, (∀ p ∈ g, @LT.lt Nat _ D p.1) → (∀ p ∈ news, @LT.lt Nat _ p.1 D) → J (min vs1.length vs2.length) ys g → K D ys g news h tk { s with heap := hp }) :
    wpAny (model prog w) A (call (.type "zip") [.ref l1, .ref l2]) (fun xv s₁ => wpAny (model prog w) A (pyIter xv) (fun it s₂ => ZAt prog w A h₀ L m env cs elt (.Tuple [.Name a pa, .Name b pb] kk tp) a b scope cl E K it s₂) E s₁) E s := by
  have g1 := (N _ hl1).1
  have g2 := (N _ hl2).1
  have hls1 : s.heap.IsList l1 vs1.toArray := ⟨_, g1, rfl, n1, rfl⟩
  have hls2 : s.heap.IsList l2 vs2.toArray := ⟨_, g2, rfl, n2, rfl⟩
  have a1 : @LT.lt Nat _ l1 s.heap.objs.size := Heap.lt_size g1
  have a2 : @LT.lt Nat _ l2 s.heap.objs.size := Heap.lt_size g2
  have hLs : @LT.lt Nat _ L s.heap.objs.size := F.ns.lt
  have hab : @LE.le Nat _ h₀.objs.size L := F.above
  have up : ∀ k : Nat, L ≠ s.heap.objs.size + k := fun k e => absurd hLs (by rw [e]; lia)
  have hsz0 : ∀ k : Nat, @LE.le Nat _ h₀.objs.size (s.heap.objs.size + k) := fun k => by lia
  refine call_zip_2 hls1 hls2 fun h' hz hTI hTO hit1 hit2 hsz' hkp => ?_
  have W := WalksT.zip2 (prog := prog) (w := w) hh (s.heap.objs.size + 4) (s.heap.objs.size + 2) (s.heap.objs.size + 3) s.heap.objs.size (s.heap.objs.size + 1) l1 l2 (zipApart_new a1 a2) vs1.toArray vs2.toArray
  have hst : IsZip h' (s.heap.objs.size + 4) (s.heap.objs.size + 2) (s.heap.objs.size + 3) .none ∧ IsPair h' (s.heap.objs.size + 2) (.ref s.heap.objs.size) (.ref (s.heap.objs.size + 1)) ∧ (∃ a b, IsPair h' (s.heap.objs.size + 3) a b) ∧ h'.IsListIter s.heap.objs.size l1 0 ∧ h'.IsListIter (s.heap.objs.size + 1) l2 0 ∧ h'.IsList l1 vs1.toArray ∧ h'.IsList l2 vs2.toArray :=
    ⟨hz, hTI, ⟨_, _, hTO⟩, hit1, hit2, hls1.at fun o e => hkp l1 o e, hls2.at fun o e => hkp l2 o e⟩
  refine W.self 0 _ _ _ hst ?_
  have hmin : min vs1.toArray.size vs2.toArray.size = min vs1.length vs2.length := by simp
  rw [hmin] at W
  have hself := W.self
  refine ⟨s.heap.objs.size + 4, _, _, _, _, _, _, fun i x y => vs1[i]? = some x ∧ vs2[i]? = some y, news, J, rfl, KTurns.ofWalksU W.toU, fun s Q E st q => hself 0 s Q E st q, hh, hcs, ?_, ?_, hst, ?_, ?_, ?_, ?_,
    ⟨F.ns.keeps hkp, fun b o e => hkp b o (F.keep b o e), F.above⟩, fun p hp => ⟨hkp _ _ (N p hp).1, (N p hp).2⟩, h0, ?_, fun D h tk ys g hg hn hJ => fin D h tk ys g h' hg hn hJ⟩
  · rw [sizeLine_eq]; lia
  · rintro i v h ⟨T, vals, rfl, ⟨x, y, hx, hy, rfl⟩, hT⟩ _
    exact ⟨T, x, y, rfl, hT, by simpa using hx, by simpa using hy⟩
  · intro b hb
    show @LT.lt Nat _ b h'.objs.size
    rw [hsz']
    simp only [List.mem_cons, List.not_mem_nil, or_false] at hb
    rcases hb with rfl | rfl | rfl | rfl | rfl | rfl | rfl
    · exact Nat.lt_succ_self _
    · exact Nat.add_lt_add_left (by decide) _
    · exact Nat.add_lt_add_left (by decide) _
    · exact Nat.lt_add_of_pos_right (by decide)
    · exact Nat.add_lt_add_left (by decide) _
    · exact Nat.lt_of_lt_of_le a1 (Nat.le_add_right _ _)
    · exact Nat.lt_of_lt_of_le a2 (Nat.le_add_right _ _)
  · intro hm
    simp only [List.mem_cons, List.not_mem_nil, or_false] at hm
    rcases hm with e | e | e | e | e | e | e
    · exact up 4 e
    · exact up 2 e
    · exact up 3 e
    · exact up 0 e
    · exact up 1 e
    · exact (N _ hl1).2.1 e.symm
    · exact (N _ hl2).2.1 e.symm
  · intro b hb
    have nw : ∀ k, h₀.get? (s.heap.objs.size + k) = none := fun k => Heap.get?_none_of_le (hsz0 k)
    simp only [List.mem_cons, List.not_mem_nil, or_false] at hb
    rcases hb with rfl | rfl | rfl | rfl
    · exact nw 4
    · exact nw 3
    · exact nw 0
    · exact nw 1
  · intro p hp hm
    have h9 : @LT.lt Nat _ p.1 s.heap.objs.size := Heap.lt_size (N p hp).1
    have ne : ∀ k : Nat, p.1 ≠ s.heap.objs.size + k := fun k e => absurd h9 (by rw [e]; lia)
    simp only [List.mem_cons, List.not_mem_nil, or_false] at hm
    rcases hm with e | e | e | e
    · exact ne 4 e
    · exact ne 3 e
    · exact ne 0 e
    · exact ne 1 e
  · rintro i x y g ys own C oC D m₂ h tk E' _ ⟨hx, hy⟩ hJ hC ha hb F₁ N₁ hDC off hg
    exact turn i x y g ys own C oC D m₂ _ h tk E' hx hy hJ hC ha hb F₁ N₁ hDC off hg
/-- over enumerate(l) -/
theorem enumZ {l : Addr} {vs : List Value} {n1 : Nat} (J : Nat → List Value → List (Addr × Obj) → Prop)
    (hh : A.handled = none) (hcs : cs = [] ∨ ∃ c, cs = [c]) (hl : (l, listOf vs.toArray n1) ∈ news) (hsz : vs.length < 1000) (F : Fr h₀ L s.heap m) (N : News h₀ L s.heap news) (h0 : J 0 [] [])
    (turn : ∀ i t y g ys own C oC D m₂ (s₂ : Shared) h tk (E' : Value → Shared → Prop), vs[i]? = some y → J i ys g → LCg.NsObj oC m₂ → m₂ a = some (.int (i : Nat) t) → m₂ b = some y → Fr h₀ L h m → News h₀ L h ((C, oC) :: (D, LCg.lst ys) :: (g ++ (news ++ own))) →
      @LT.lt Nat _ D C → (∀ p ∈ g ++ (news ++ own), p.1 ≠ C ∧ p.1 ≠ D) → (∀ p ∈ g, @LT.lt Nat _ C p.1) →
      compBody prog w A cs elt (compEnvC scope cl C env) (CEnd h₀ L m { s₂ with heap := h, toks := tk } C oC D (LCg.lst ys) (news ++ own) (fun y' g' => J (i + 1) (ys ++ [y']) g'))
        (CEnd h₀ L m { s₂ with heap := h, toks := tk } C oC D (LCg.lst ys) (news ++ own) (fun _ g' => J (i + 1) ys g') Value.none) E' { s₂ with heap := h, toks := tk })
    (fin : ∀ D (h : Heap) tk ys g hp, (∀ p ∈ g, @LT.lt Nat _ D p.1) → (∀ p ∈ news, @LT.lt Nat _ p.1 D) → J vs.length ys g → K D ys g news h tk { s with heap := hp }) :
    wpAny (model prog w) A (call (.type "enumerate") [.ref l]) (fun xv s₁ => wpAny (model prog w) A (pyIter xv) (fun it s₂ => ZAt prog w A h₀ L m env cs elt (.Tuple [.Name a pa, .Name b pb] kk tp) a b scope cl E K it s₂) E s₁) E s := by
  have g1 := (N _ hl).1
  have hls : s.heap.IsList l vs.toArray := ⟨_, g1, rfl, n1, rfl⟩
  have a1 : @LT.lt Nat _ l s.heap.objs.size := Heap.lt_size g1
  have hLs : @LT.lt Nat _ L s.heap.objs.size := F.ns.lt
  have hab : @LE.le Nat _ h₀.objs.size L := F.above
  have up : ∀ k : Nat, L ≠ s.heap.objs.size + k := fun k e => absurd hLs (by rw [e]; lia)
  have hsz0 : ∀ k : Nat, @LE.le Nat _ h₀.objs.size (s.heap.objs.size + k) := fun k => by lia
  refine call_enumerate_list hls fun h' he hit hsz' hkp => ?_
  have W := WalksT.enumerate (prog := prog) (w := w) hh (s.heap.objs.size + 1) s.heap.objs.size l (Nat.ne_of_gt (Nat.lt_succ_self _)) (Nat.ne_of_lt (Nat.lt_succ_of_lt a1)) (Nat.ne_of_lt a1) vs.toArray
  have hst : (∃ old, IsEnum h' (s.heap.objs.size + 1) s.heap.objs.size (0 : Nat) old) ∧ h'.IsListIter s.heap.objs.size l 0 ∧ h'.IsList l vs.toArray := ⟨⟨_, he⟩, hit, hls.at fun o e => hkp l o e⟩
  refine W.self 0 _ _ _ hst ?_
  have hself := W.self
  have hn : vs.toArray.size = vs.length := by simp
  rw [hn] at W
  refine ⟨s.heap.objs.size + 1, _, _, _, _, _, _, fun i x y => ∃ t, x = .int (i : Nat) t ∧ vs[i]? = some y, news, J, rfl, KTurns.ofWalksU W.toU, fun s Q E st q => hself 0 s Q E st q, hh, hcs, ?_, ?_, hst, ?_, ?_, ?_, ?_,
    ⟨F.ns.keeps hkp, fun b o e => hkp b o (F.keep b o e), F.above⟩, fun p hp => ⟨hkp _ _ (N p hp).1, (N p hp).2⟩, h0, ?_, fun D h tk ys g hg hn hJ => fin D h tk ys g h' hg hn hJ⟩
  · rw [sizeLine_eq]; lia
  · rintro i v h ⟨T, vals, rfl, ⟨t, x, hx, rfl⟩, hT⟩ _
    exact ⟨T, _, x, rfl, hT, t, rfl, by simpa using hx⟩
  · intro b hb
    show @LT.lt Nat _ b h'.objs.size
    rw [hsz']
    simp only [List.mem_cons, List.not_mem_nil, or_false] at hb
    rcases hb with rfl | rfl | rfl
    · exact Nat.lt_succ_self _
    · exact Nat.lt_add_of_pos_right (by decide)
    · exact Nat.lt_of_lt_of_le a1 (Nat.le_add_right _ _)
  · intro hm
    simp only [List.mem_cons, List.not_mem_nil, or_false] at hm
    rcases hm with e | e | e
    · exact up 1 e
    · exact up 0 e
    · exact (N _ hl).2.1 e.symm
  · intro b hb
    have nw : ∀ k, h₀.get? (s.heap.objs.size + k) = none := fun k => Heap.get?_none_of_le (hsz0 k)
    simp only [List.mem_cons, List.not_mem_nil, or_false] at hb
    rcases hb with rfl | rfl
    · exact nw 1
    · exact nw 0
  · intro p hp hm
    have h9 : @LT.lt Nat _ p.1 s.heap.objs.size := Heap.lt_size (N p hp).1
    have ne : ∀ k : Nat, p.1 ≠ s.heap.objs.size + k := fun k e => absurd h9 (by rw [e]; lia)
    simp only [List.mem_cons, List.not_mem_nil, or_false] at hm
    rcases hm with e | e
    · exact ne 1 e
    · exact ne 0 e
  · rintro i x y g ys own C oC D m₂ h tk E' _ ⟨t, rfl, hy⟩ hJ hC ha hb F₁ N₁ hDC off hg
    exact turn i t y g ys own C oC D m₂ _ h tk E' hy hJ hC ha hb F₁ N₁ hDC off hg
/-- over a list of pairs of the ledger -/
theorem tupsZ {l : Addr} {vs : List Value} {n1 : Nat} (P2 : Nat → Value → Value → Prop) (J : Nat → List Value → List (Addr × Obj) → Prop)
    (hh : A.handled = none) (hcs : cs = [] ∨ ∃ c, cs = [c]) (hl : (l, listOf vs.toArray n1) ∈ news) (htup : ∀ i v, vs[i]? = some v → ∃ T x y k, v = .ref T ∧ (T, ({ cls := .type "tuple", data := .seq #[x, y] k } : Obj)) ∈ news ∧ P2 i x y)
    (hsz : vs.length < 1000) (F : Fr h₀ L s.heap m) (N : News h₀ L s.heap news) (h0 : J 0 [] [])
    (turn : ∀ i x y g ys own C oC D m₂ (s₂ : Shared) h tk (E' : Value → Shared → Prop), i < vs.length → P2 i x y → J i ys g → LCg.NsObj oC m₂ → m₂ a = some x → m₂ b = some y → Fr h₀ L h m → News h₀ L h ((C, oC) :: (D, LCg.lst ys) :: (g ++ (news ++ own))) →
      @LT.lt Nat _ D C → (∀ p ∈ g ++ (news ++ own), p.1 ≠ C ∧ p.1 ≠ D) → (∀ p ∈ g, @LT.lt Nat _ C p.1) →
      compBody prog w A cs elt (compEnvC scope cl C env) (CEnd h₀ L m { s₂ with heap := h, toks := tk } C oC D (LCg.lst ys) (news ++ own) (fun y' g' => J (i + 1) (ys ++ [y']) g'))
        (CEnd h₀ L m { s₂ with heap := h, toks := tk } C oC D (LCg.lst ys) (news ++ own) (fun _ g' => J (i + 1) ys g') Value.none) E' { s₂ with heap := h, toks := tk })
    (fin : ∀ D (h : Heap) tk ys g hp, (∀ p ∈ g, @LT.lt Nat _ D p.1) → (∀ p ∈ news, @LT.lt Nat _ p.1 D) → J vs.length ys g → K D ys g news h tk { s with heap := hp }) :
    wpAny (model prog w) A (pyIter (.ref l)) (fun it s₂ => ZAt prog w A h₀ L m env cs elt (.Tuple [.Name a pa, .Name b pb] kk tp) a b scope cl E K it s₂) E s := by
  have g1 := (N _ hl).1
  have hls : s.heap.IsList l vs.toArray := ⟨_, g1, rfl, n1, rfl⟩
  have a1 : @LT.lt Nat _ l s.heap.objs.size := Heap.lt_size g1
  have hLs : @LT.lt Nat _ L s.heap.objs.size := F.ns.lt
  have hab : @LE.le Nat _ h₀.objs.size L := F.above
  refine wpAny_pyIter_list hls ?_
  have W := Walks.list (prog := prog) (w := w) hh s.heap.objs.size l (Nat.ne_of_lt a1) vs.toArray
  have hn : vs.toArray.size = vs.length := by simp
  rw [hn] at W
  have hW : KTurns prog w A (.Tuple [.Name a pa, .Name b pb] kk tp) s.heap.objs.size _ _ vs.length (fun i v _ => vs.toArray[i]? = some v) (fun i v h => vs.toArray[i]? = some v ∧ (h.IsListIter s.heap.objs.size l (i + 1) ∧ h.IsList l vs.toArray)) _ :=
    { sub := W.sub
      frame := W.frame
      item := fun i s Q E hi st hQ => W.item i s Q E hi st fun v h' tk hP st' hk => hQ v h' tk ⟨hP, st'⟩ hk
      go := fun i v s Q E hm hQ => by
        obtain ⟨hv, st⟩ := hm
        obtain ⟨T, x, y, k, rfl, _⟩ := htup i v (by simpa using hv)
        exact wpAny_letOwnedTupleGo_listiter st.1 (hQ s.heap hv st fun _ _ _ e => e)
      done := W.done }
  have hkp : ∀ b o, s.heap.get? b = some o → (s.heap.push { cls := .type "list_iterator", data := .fields #[.ref l, .int 0 0] }).get? b = some o := fun b o e => Heap.get?_push_of_some _ e
  refine ⟨s.heap.objs.size, _, _, _, _, _, _, P2, news, J, rfl, hW, ?_, hh, hcs, ?_, ?_, ⟨⟨_, Heap.get?_push_size _ rfl, rfl, rfl⟩, hls.at fun o e => hkp _ o e⟩, ?_, ?_, ?_, ?_,
    F.push _, fun p hp => ⟨hkp _ _ (N p hp).1, (N p hp).2⟩, h0, ?_, fun D h tk ys g hg hn hJ => fin D h tk ys g _ hg hn hJ⟩
  · intro s Q E st q
    exact wpAny_pyIter_listiter st.1 q
  · rw [sizeLine_eq]; lia
  · intro i v h hv N'
    obtain ⟨T, x, y, k, rfl, hm, hp⟩ := htup i v (by simpa using hv)
    exact ⟨T, x, y, rfl, ⟨_, (N' _ hm).1, rfl, k, rfl⟩, hp⟩
  · intro b hb
    show @LT.lt Nat _ b (s.heap.push _).objs.size
    rw [Heap.size_push]
    rcases List.mem_cons.mp hb with rfl | hb
    · exact Nat.lt_succ_self _
    · rw [List.mem_singleton.mp hb]; exact Nat.lt_succ_of_lt a1
  · intro hm
    rcases List.mem_cons.mp hm with e | e
    · exact absurd hLs (by rw [e]; exact Nat.lt_irrefl _)
    · exact (N _ hl).2.1 (List.mem_singleton.mp e).symm
  · intro b hb
    rw [List.mem_singleton.mp hb]
    exact Heap.get?_none_of_le (Nat.le_trans hab (Nat.le_of_lt hLs))
  · intro p hp hm
    exact absurd (Heap.lt_size (N p hp).1) (by rw [List.mem_singleton.mp hm]; exact Nat.lt_irrefl _)
  · rintro i x y g ys own C oC D m₂ h tk E' hi hp hJ hC ha hb F₁ N₁ hDC off hg
    exact turn i x y g ys own C oC D m₂ _ h tk E' hi hp hJ hC ha hb F₁ N₁ hDC off hg
end
end Mine
-- ML8
namespace Mine
theorem rows1_ML8 : True := by
  k_with_none
  k_with "k_ne" => first | exact ne_l1 (by with_reducible assumption) | exact ne_r1 (by with_reducible assumption) | exact ne_l2 (by with_reducible assumption) | exact ne_r2 (by with_reducible assumption) | exact ne_l3 (by with_reducible assumption) | exact ne_r3 (by with_reducible assumption) | exact ne_l0 (by with_reducible assumption) | exact ne_r0 (by with_reducible assumption) | exact ne_l4 (by with_reducible assumption) | exact ne_r4 (by with_reducible assumption) | exact ne_l5 (by with_reducible assumption) | exact ne_r5 (by with_reducible assumption)
  k_with "ktr_room" => first | exact room_c 0 hd rfl | exact room_c 1 hd rfl | exact room_c 6 hd rfl | exact room_c 9 hd rfl | exact room_c 21 hd rfl | exact Nat.le_of_ble_eq_true rfl
  k_with "ktr_units" => first | exact room_c 43 hu rfl | exact room_c 63 hu rfl | exact room_c 203 hu rfl | exact Nat.le_of_ble_eq_true rfl
  k_with "call builtin:str.find" => (k_dflt (k_here; (with_reducible show wpAny _ _ (call (Value.builtin "str.find") [Value.str _ _, Value.str _ _, Value.int _ _, Value.int _ _]) _ _ _); refine call_find4 ?_))
  k_with "call builtin:str.rfind" => (k_dflt (k_here; (with_reducible show wpAny _ _ (call (Value.builtin "str.rfind") [Value.str _ _, Value.str _ _, Value.int _ _, Value.int _ _]) _ _ _); refine call_rfind4 ?_))
  k_with "call ref" => (k_here; refine wpAny_call ?_; k_dflt (refine' code_def ?k1z6 ?k2z6 ?k3z6 ?k4z6 ?k5z6 ?kAz6 ?kFz6 ?kKz6 ?k6z6 ?k7z6 ?k8z6 ?k9z6 ?kBz6 ?_ ?c2z6 ?c3z6 ?c4z6 ?c5z6; (case kAz6 => exact rfl); (case kFz6 => exact rfl); (case kKz6 => first | exact rfl | assumption); (case k1z6 => k_asm); (case k2z6 => k_asm); (case k3z6 => k_asm); (case k4z6 => k_asm); (case k5z6 => k_asm); (case k6z6 => k_is); (case k7z6 => k_is); (case k8z6 => ktr_room); (case k9z6 => exact BindsTo.of_eq rfl); (case c5z6 => decide); (case kBz6 => exact locs rfl); (case c2z6 => exact rfl); (case c3z6 => exact rfl); (case c4z6 => exact rfl); k_whole; intro g' L' h' FG' F' N' B' X' T'; (try dsimp only); (try k_lift B'); (try k_fold)))
  k_with "call ref" => (k_here; (with_reducible show wpAny _ _ (call (Value.ref 67) [Value.str _ _, Value.str _ _]) _ _ _); k_dflt (refine' strcoll _ _ _ _ _ _ _ _ _ _ _ _ _ _ _ _ _ _ _ _ _ _ _ _ _ _ ?k1z7 ?k2z7 ?k3z7 ?k4z7 ?k5z7 ?kKz7 ?kdz7 ?kuz7  ?_; (case k1z7 => k_asm); (case k2z7 => k_asm); (case k3z7 => k_in); (case k4z7 => k_asm); (case k5z7 => k_asm); (case kKz7 => first | exact rfl | assumption); (case kdz7 => ktr_room); (case kuz7 => ktr_units); intro t9 h9 tk9 F9 N9; (try dsimp only); (try k_fold)))
  k_with "call ref" => (k_here; (with_reducible show wpAny _ _ (call (Value.ref 84) [Value.int _ _]) _ _ _); k_dflt (refine' isterm _ _ _ _ _ _ _ _ _ _ _ _ _ _ _ _ _ _ _ _ _ _ _ _ ?k1z8 ?k2z8 ?k3z8 ?k4z8 ?k5z8 ?kKz8 ?kdz8 ?kuz8  ?_; (case k1z8 => k_asm); (case k2z8 => k_asm); (case k3z8 => k_in); (case k4z8 => k_asm); (case k5z8 => k_asm); (case kKz8 => first | exact rfl | assumption); (case kdz8 => ktr_room); (case kuz8 => ktr_units); intro t9 h9 tk9 F9 N9; (try dsimp only); (try k_fold)))
  k_with "call ref" => (k_here; (with_reducible show wpAny _ _ (call (Value.ref 91) [Value.int _ _]) _ _ _); k_dflt (refine' iseof _ _ _ _ _ _ _ _ _ _ _ _ _ _ _ _ _ _ _ _ _ _ _ _ ?k1z9 ?k2z9 ?k3z9 ?k4z9 ?k5z9 ?kKz9 ?kdz9 ?kuz9  ?_; (case k1z9 => k_asm); (case k2z9 => k_asm); (case k3z9 => k_in); (case k4z9 => k_asm); (case k5z9 => k_asm); (case kKz9 => first | exact rfl | assumption); (case kdz9 => ktr_room); (case kuz9 => ktr_units); intro t9 h9 tk9 F9 N9; (try dsimp only); (try k_fold)))
  k_with "call ref" => (k_here; (with_reducible show wpAny _ _ (call (Value.ref 28) [Value.str _ _]) _ _ _); k_dflt (refine' stripd _ _ _ ?hxz10 _ _ _ _ _ _ _ _ _ _ _ _ _ _ _ _ _ _ _ _ _ ?k1z10 ?k2z10 ?k3z10 ?k4z10 ?k5z10 ?kKz10 ?kdz10 ?kuz10  ?_; (case k1z10 => k_asm); (case k2z10 => k_asm); (case k3z10 => k_in); (case k4z10 => k_asm); (case k5z10 => k_asm); (case kKz10 => first | exact rfl | assumption); (case kdz10 => ktr_room); (case kuz10 => ktr_units); (case hxz10 => first | assumption | omega | size_fits); intro t9 h9 tk9 F9 N9; (try dsimp only); (try k_fold)))
  k_with "CompEnd" => (k_dflt (k_here; refine LCg.CompEnd.intro (by assumption) (by assumption) _ ?csubz11 (by assumption) (by assumption) ⟨rfl, ?_⟩; (case csubz11 => kcf_all)))
  trivial
noncomputable def kRun {α : Type} (b : Nat → Nat → Bool) : KasT α → α
  | .ret a => a
  | .ask i j k => kRun b (k (b i j))
noncomputable def kLt (rk : List Nat) (i j : Nat) : Bool := Nat.blt (rk.getD i 0) (rk.getD j 0)
noncomputable def kIdx (rk : List Nat) : List Nat := (kRun (kLt rk) (kas_sort 6)).toList
noncomputable def kOk {α : Type} (b : Nat → Nat → Bool) : KasT α → Bool
  | .ret _ => true
  | .ask i j k => Nat.blt i 6 && Nat.blt j 6 && kOk b (k (b i j))
noncomputable def kChk (rk : List Nat) : Bool := ((kIdx rk).map fun i => rk.getD i 0) == [0, 1, 2, 3, 4, 5] && (kIdx rk).all (fun i => Nat.blt i 6) && kOk (kLt rk) (kas_sort 6)
noncomputable def kIns (x : Nat) : List Nat → List (List Nat)
  | [] => [[x]]
  | y :: l => (x :: y :: l) :: (kIns x l).map (y :: ·)
noncomputable def kPerms : List Nat → List (List Nat)
  | [] => [[]]
  | x :: l => (kPerms l).flatMap (kIns x)
theorem kChk_all : ((kPerms [0, 1, 2, 3, 4, 5]).all kChk) = true := by decide +kernel
theorem mem_kIns {x : Nat} : ∀ {l m : List Nat}, m.Perm (x :: l) → (∃ a b, m = a ++ x :: b ∧ a ++ b = l) → m ∈ kIns x l
  | [], m, hp, _ => by
    have := hp.length_eq
    have h1 := List.perm_singleton.mp hp
    subst h1
    exact .head _
  | y :: l, m, _, ⟨a, b, e, e2⟩ => by
    cases a with
    | nil =>
      have : b = y :: l := e2
      subst this
      rw [e]
      exact .head _
    | cons z a =>
      have h1 : z = y := by have := congrArg List.head? e2; simpa using this
      have h2 : a ++ b = l := by have := congrArg List.tail e2; simpa using this
      subst h1 h2 e
      refine .tail _ (List.mem_map.mpr ⟨a ++ x :: b, mem_kIns (List.perm_middle) ⟨a, b, rfl, rfl⟩, rfl⟩)
theorem mem_kPerms : ∀ {l m : List Nat}, m.Perm l → m ∈ kPerms l
  | [], m, h => by rw [List.perm_nil.mp h]; exact .head _
  | x :: l, m, h => by
    have hx : x ∈ m := h.mem_iff.mpr (.head _)
    obtain ⟨a, b, e⟩ := List.append_of_mem hx
    subst e
    have h2 : (a ++ b).Perm l := List.Perm.cons_inv (List.perm_middle.symm.trans h)
    exact List.mem_flatMap.mpr ⟨a ++ b, mem_kPerms h2, mem_kIns (List.perm_middle) ⟨a, b, rfl, rfl⟩⟩
theorem kIdx_ok {rk : List Nat} (h : rk.Perm [0, 1, 2, 3, 4, 5]) : ((kIdx rk).map fun i => rk.getD i 0) = [0, 1, 2, 3, 4, 5] ∧ (∀ i ∈ kIdx rk, i < 6) ∧ kOk (kLt rk) (kas_sort 6) = true := by
  have h1 := List.all_eq_true.mp kChk_all rk (mem_kPerms h)
  unfold kChk at h1
  rw [Bool.and_eq_true, Bool.and_eq_true, beq_iff_eq] at h1
  refine ⟨h1.1.1, fun i hi => ?_, h1.2⟩
  have := List.all_eq_true.mp h1.1.2 i hi
  simpa using this
theorem kRun_wp {α : Type} {b : Nat → Nat → Bool} {cmp : Nat → Nat → (Bool → Shared → Prop) → Shared → Prop} (h : ∀ i j C s, i < 6 → j < 6 → C (b i j) s → cmp i j C s) : ∀ (t : KasT α) (Q : α → Shared → Prop) (s : Shared), kOk b t = true → Q (kRun b t) s → t.kasWp cmp Q s
  | .ret _, _, _, _, q => q
  | .ask i j k, Q, s, ho, q => by
    unfold kOk at ho
    rw [Bool.and_eq_true, Bool.and_eq_true] at ho
    exact h i j _ s (by simpa using ho.1.1) (by simpa using ho.1.2) (kRun_wp h (k (b i j)) Q s ho.2 q)
section
variable {prog : Program} {w : World} {A : Around} {E : Value → Shared → Prop} {s : Shared} {h₀ : Heap} {L l : Addr} {m : Str → Option Value} {news : List (Addr × Obj)} {vs : List Value}
noncomputable def orderOf (rk : List Nat) (vs : List Value) : List Value := (kIdx rk).map fun i => vs.getD i Value.none
noncomputable def KeyEnd (h₀ : Heap) (L : Addr) (m : Str → Option Value) (need : List (Addr × Obj)) (Kf : Value → Prop) (s₁ : Shared) (k : Value) (s₂ : Shared) : Prop :=
  ∃ h' tk, s₂ = { s₁ with heap := h', toks := tk } ∧ Kf k ∧ Fr h₀ L h' m ∧ News h₀ L h' need
theorem keyEnd {h' : Heap} {need news' : List (Addr × Obj)} {Kf : Value → Prop} {s₁ : Shared} {k : Value} {tk : Nat} (F : Fr h₀ L h' m) (N : News h₀ L h' news') (hn : ∀ p ∈ need, p ∈ news') (hk : Kf k) : KeyEnd h₀ L m need Kf s₁ k { s₁ with heap := h', toks := tk } :=
  ⟨h', tk, rfl, hk, F, fun p hp => N p (hn p hp)⟩
theorem sort_key {rk : List Nat} {q : Addr} {Kf : Nat → Value → Prop} {T : Value} {Q : Value → Shared → Prop} (F : Fr h₀ L s.heap m) (N : News h₀ L s.heap news) (hl : s.heap.IsList l vs.toArray) (h6 : vs.length = 6) (hrk : rk.Perm [0, 1, 2, 3, 4, 5])
    (turn : ∀ (i : Nat) (v : Value), vs[i]? = some v → ∀ (h : Heap) (tk : Nat) (own : List (Addr × Obj)), Fr h₀ L h m → News h₀ L h (news ++ own) →
      wpAny (model prog w) A.in1.in1 (call (.ref q) [v]) (KeyEnd h₀ L m (news ++ own) (Kf i) { s with heap := h, toks := tk }) (fun _ _ => False) { s with heap := h, toks := tk })
    (hT : ∀ i k h, i < 6 → Kf i k → Looks (model prog w) h (typeOf k) T) (hT1 : (T != Value.type "tuple") = true) (hT2 : (T == T) = true)
    (hcmp : ∀ i j ki kj s C, i < 6 → j < 6 → Kf i ki → Kf j kj → C (kLt rk i j) s → wpAny (model prog w) A.in1.in1 (keyLt' oneType' ki kj) C (fun _ _ => False) s)
    (h : ∀ D c h' tk, Fr h₀ L h' m → News h₀ L h' ((D, listOf (orderOf rk vs).toArray c) :: news) → (∀ q ∈ news, q.1 < D) → Q (.ref D) { s with heap := h', toks := tk }) :
    wpAny (model prog w) A (call (.builtin "sorted") [.ref l] [(Str.ofString "key", .ref q)]) Q E s := by
  refine kat_sortedK (b := false) (f := .ref q) F N hl (by lia) (by lia) (ksk_s1 _ _) (fun x => ksk_l1 _ _) (fun x => ksk_t1 _ _) fun D kS e1 h' F' N' hDk hD => ?_
  have key : ∀ (r ks : List Value) (e : Nat) (h : Heap) (tk : Nat), (∃ i, r = vs.drop i ∧ ks.length = i ∧ i ≤ 6) → (∀ (j : Nat) (k : Value), ks[j]? = some k → Kf j k) → Fr h₀ L h m → News h₀ L h ((kS, seqObj "list" ks.toArray e) :: (D, seqObj "list" #[] e1) :: news) →
      KatKeys prog w A.in1.in1 h₀ L m kS (.ref q) (fun ks e s' => wpAny (model prog w) A.in1.in1 (keyKind' (List.toArray ks)) (fun κ s'' => (kas_sort vs.length).kasWp (kas_ask prog w A.in1.in1 κ (katRev false ks)) (fun p s3 => KatFin h₀ L m kS D ks e e1 (katRev false (p.toList.map fun i => (katRev false vs).getD i Value.none)) (fun s4 => Q (.ref D) s4) s3) s'') (fun _ _ => False) s') r ks e { s with heap := h, toks := tk } := by
    intro r
    induction r with
    | nil =>
      rintro ks e hz tk ⟨i, hr, hi, hi6⟩ hk F₁ N₁
      have hlen : ks.length = 6 := by
        have := congrArg List.length hr
        rw [List.length_nil, List.length_drop, h6] at this
        lia
      refine KatKeys.nil ?_
      refine kas_kind (T := T) (by lia) (fun v hv => ?_) hT1 hT2 ?_
      · obtain ⟨j, hj⟩ := List.getElem?_of_mem hv
        exact hT j v _ (by have := (List.getElem?_eq_some_iff.mp hj).1; lia) (hk j v hj)
      show (kas_sort vs.length).kasWp (kas_ask prog w A.in1.in1 oneType' ks) (fun p s3 => KatFin h₀ L m kS D ks e e1 (p.toList.map fun i => vs.getD i Value.none) (fun s4 => Q (.ref D) s4) s3) _
      rw [h6]
      have asks : ∀ i j C s, i < 6 → j < 6 → C (kLt rk i j) s → kas_ask prog w A.in1.in1 oneType' ks i j C s := by
        intro i j C s hi hj hC
        unfold kas_ask
        have gi : ks[i]? = some (ks.getD i Value.none) := by simp [List.getD, List.getElem?_eq_getElem (show i < ks.length by lia)]
        have gj : ks[j]? = some (ks.getD j Value.none) := by simp [List.getD, List.getElem?_eq_getElem (show j < ks.length by lia)]
        exact hcmp i j _ _ s C hi hj (hk i _ gi) (hk j _ gj) hC
      refine kRun_wp asks _ _ _ (kIdx_ok hrk).2.2 ?_
      refine KatFin.intro F₁ N₁ (UpdF.head fun p hp => ?_) fun h2 c F2 N2 => KasFin.intro F2 N2 (UpdF.tail (Nat.ne_of_gt hDk) (UpdF.head fun p hp => Nat.ne_of_lt (hD p hp))) fun h3 c3 F3 N3 => ?_
      · rcases List.mem_cons.mp hp with rfl | hp
        · exact Nat.ne_of_lt hDk
        · exact Nat.ne_of_lt (Nat.lt_trans (hD p hp) hDk)
      · exact h D c3 h3 _ F3 (fun p hp => N3 p (.tail _ hp)) hD
    | cons v r ih =>
      rintro ks e hz tk ⟨i, hr, hi, hi6⟩ hk F₁ N₁
      have hlt : i < vs.length := by
        have := congrArg List.length hr
        rw [List.length_cons, List.length_drop] at this
        lia
      rw [List.drop_eq_getElem_cons hlt] at hr
      have hv : vs[i]? = some v := by rw [List.getElem?_eq_getElem hlt]; exact congrArg some (List.cons.inj hr).1.symm
      refine KatKeys.cons (wpAny_mono (turn i v hv hz tk [(kS, seqObj "list" ks.toArray e), (D, seqObj "list" #[] e1)] F₁ fun p hp => ?_) (fun k s2 hk2 => ?_) fun _ _ e => e)
      · rcases List.mem_append.mp hp with hp | hp
        · exact N₁ p (.tail _ (.tail _ hp))
        · rcases List.mem_cons.mp hp with rfl | hp
          · exact N₁ _ (.head _)
          · rw [List.mem_singleton.mp hp]
            exact N₁ _ (.tail _ (.head _))
      · obtain ⟨h2, tk2, rfl, hkk, F2, N2⟩ := hk2
        have N2' : News h₀ L h2 ((kS, seqObj "list" ks.toArray e) :: (D, seqObj "list" #[] e1) :: news) := fun p hp => by
          rcases List.mem_cons.mp hp with rfl | hp
          · exact N2 _ (List.mem_append_right _ (.head _))
          · rcases List.mem_cons.mp hp with rfl | hp
            · exact N2 _ (List.mem_append_right _ (.tail _ (.head _)))
            · exact N2 p (List.mem_append_left _ hp)
        refine KatBack.intro F2 N2' (UpdF.head fun p hp => ?_) fun h3 c F3 N3 => ?_
        · rcases List.mem_cons.mp hp with rfl | hp
          · exact Nat.ne_of_lt hDk
          · exact Nat.ne_of_lt (Nat.lt_trans (hD p hp) hDk)
        · refine ih (ks ++ [k]) c h3 _ ⟨i + 1, (List.cons.inj hr).2, by rw [List.length_append, List.length_singleton, hi], by lia⟩ (fun j k' hj => ?_) F3 N3
          by_cases hji : j < ks.length
          · rw [List.getElem?_append_left hji] at hj
            exact hk j k' hj
          · have : j = ks.length := by
              have := (List.getElem?_eq_some_iff.mp hj).1
              rw [List.length_append, List.length_singleton] at this
              lia
            subst this
            rw [List.getElem?_concat_length] at hj
            rw [hi]
            exact Option.some.inj hj ▸ hkk
  exact key vs [] 0 h' s.toks ⟨0, rfl, rfl, by lia⟩ (fun j k h => by simp at h) F' N'
end
end Mine
-- ML9
namespace Mine
noncomputable def ETT : List (Str × Int) := [(Str.ofString "!", 54), (Str.ofString "!=", 28), (Str.ofString "%", 24), (Str.ofString "%=", 40), (Str.ofString "&", 19), (Str.ofString "&=", 41), (Str.ofString "(", 7), (Str.ofString ")", 8), (Str.ofString "*", 16), (Str.ofString "**", 35), (Str.ofString "**=", 46), (Str.ofString "*=", 38), (Str.ofString "+", 14), (Str.ofString "+=", 36), (Str.ofString ",", 12), (Str.ofString "-", 15), (Str.ofString "-=", 37), (Str.ofString "->", 51), (Str.ofString ".", 23), (Str.ofString "...", 52), (Str.ofString "/", 17), (Str.ofString "//", 47), (Str.ofString "//=", 48), (Str.ofString "/=", 39), (Str.ofString ":", 11), (Str.ofString ":=", 53), (Str.ofString ";", 13), (Str.ofString "<", 20), (Str.ofString "<<", 33), (Str.ofString "<<=", 44), (Str.ofString "<=", 29), (Str.ofString "=", 22), (Str.ofString "==", 27), (Str.ofString ">", 21), (Str.ofString ">=", 30), (Str.ofString ">>", 34), (Str.ofString ">>=", 45), (Str.ofString "@", 49), (Str.ofString "@=", 50), (Str.ofString "[", 9), (Str.ofString "]", 10), (Str.ofString "^", 32), (Str.ofString "^=", 43), (Str.ofString "{", 25), (Str.ofString "|", 18), (Str.ofString "|=", 42), (Str.ofString "}", 26), (Str.ofString "~", 31)]
theorem ett_tab (prog : Program) (w : World) {h : Heap} (X : (Mine.hd.heap_1 w.params).In h) : StrTab prog w h 75 (kdpD ETT) := by
  have := KTD.strTab_of_look prog w (get := fun a => List.lookup a (Mine.hd.heap_1 w.params)) X (a := 75) (D := ETT.map fun p => (p.1, PyData.int p.2)) (by kernel_rfl) (by decide +kernel) (by kernel_rfl)
  rw [List.map_map] at this
  exact this
noncomputable def tokN (x : Str) : Int := kdpLook ETT x 0
noncomputable def numT (x : Str) : Str := Str.ofString (toString (tokN x))
section
variable {prog : Program} {w : World} {A : Around} {E : Value → Shared → Prop} {s : Shared}
theorem ett_item {value slice : Expr} {x : Str} {tk : Tok} {Q : Value → Shared → Prop} (X : (Mine.hd.heap_1 w.params).In s.heap) (hk : kdpHas ETT x = true) (h : ∀ t, Q (.int (tokN x) t) { s with toks := s.toks + 1 })
    (hs : subscripted slice false (.ref 75) (.str x tk) = operate [.ref 75, .str x tk] (getItem (.ref 75) (.str x tk)) := by with_unfolding_all rfl) (hg : ∀ r, letTemporaryGo value (.ref 75) r = pure () := by intro _; with_unfolding_all rfl) :
    wpAny (model prog w) A (subscriptTail value slice (.ref 75) (.str x tk)) Q E s := kdp_item (ett_tab prog w X) hk h hs hg
end
theorem allLt_memA {B : Nat} : ∀ {l : List (Addr × Obj)}, AllLt B l → ∀ p ∈ l, @LT.lt Nat _ p.1 B
  | [], _, _, h => nomatch h
  | _ :: _, x, p, h => by
    rcases List.mem_cons.mp h with rfl | h
    · exact x.1
    · exact allLt_memA x.2 p h
theorem off_tail {B c : Addr} {news : List (Addr × Obj)} (h : AllLt B news) (hc : @LE.le Nat _ B c) : ∀ p ∈ news, p.1 ≠ c := fun p hp => by
  have key : ∀ {l : List (Addr × Obj)}, AllLt B l → ∀ p ∈ l, @LT.lt Nat _ p.1 B := fun {l} => by
    induction l with
    | nil => exact fun _ _ h => nomatch h
    | cons q l ih =>
      intro x p hp
      rcases List.mem_cons.mp hp with rfl | hp
      · exact x.1
      · exact ih x.2 p hp
  exact Nat.ne_of_lt (Nat.lt_of_lt_of_le (key h p hp) hc)
end Mine
-- ML10
namespace Mine
section
variable {prog : Program} {w : World} {A : Around} {E : Value → Shared → Prop} {s : Shared} {env : Env} {h₀ : Heap} {target : Expr} {body : List Stmt} {Q : Flow → Shared → Prop}
/-- a for over a list of the ledger, whatever its target is -/
theorem turnsJ {l : Addr} {vs : List Value} {nn : Nat} {m₀ : Str → Option Value} {news : List (Addr × Obj)} (J : Nat → (Str → Option Value) → List (Addr × Obj) → Prop) (hJl : ∀ i m nx, J i m nx → (l, listOf vs.toArray nn) ∈ nx)
    (hh : A.handled = none) (F : Fr h₀ env.locals s.heap m₀) (N : News h₀ env.locals s.heap news) (hj : J 0 m₀ news)
    (turn : ∀ i v m₁ nx h tk own, vs[i]? = some v → nx.map (·.1) = news.map (·.1) → OwnOff own (news.map (·.1)) → J i m₁ nx → Fr h₀ env.locals h m₁ → News h₀ env.locals h (nx ++ own) →
      wpAny (model prog w) A (assign target env v) (fun _ s₂ => wpAny (model prog w) A (execs body env) (InvPostN h₀ env.locals (J (i + 1)) own (news.map (·.1)) { s with heap := h, toks := tk } Q) E s₂) E { s with heap := h, toks := tk })
    (done : ∀ m₁ nx h tk, J vs.length m₁ nx → Fr h₀ env.locals h m₁ → News h₀ env.locals h nx → Q .next { s with heap := h, toks := tk }) :
    wpAny (model prog w) A (pyIter (.ref l)) (fun it s₂ => TurnsAt prog w A h₀ env target body Q E it s₂) E s := by
  have hl := hJl _ _ _ hj
  have hol : s.heap.get? l = some (listOf vs.toArray nn) := (N _ hl).1
  have hls : s.heap.IsList l vs.toArray := ⟨_, hol, rfl, nn, rfl⟩
  have hlt : @LT.lt Nat _ l s.heap.objs.size := Heap.lt_size hol
  refine wpAny_pyIter_list hls ?_
  have W := Walks.list (prog := prog) (w := w) hh s.heap.objs.size l (Nat.ne_of_lt hlt) vs.toArray
  have hn : vs.toArray.size = vs.length := by simp
  rw [hn] at W
  have hnx : ∀ nx : List (Addr × Obj), nx.map (·.1) = news.map (·.1) → ∀ p ∈ nx, p.1 ∉ [s.heap.objs.size] := fun nx ha p hp hm => by
    have h1 : p.1 ∈ news.map (·.1) := ha ▸ List.mem_map.mpr ⟨p, hp, rfl⟩
    obtain ⟨q, hq, hq'⟩ := List.mem_map.mp h1
    have := Heap.lt_size (N q hq).1
    rw [hq', List.mem_singleton.mp hm] at this
    exact Nat.lt_irrefl _ this
  refine ⟨s.heap.objs.size, [s.heap.objs.size, l], [s.heap.objs.size], vs.length, _, _, _, m₀, news, fun i m nx => nx.map (·.1) = news.map (·.1) ∧ J i m nx, rfl, KTurns.ofWalks W (fun i v s' Q' E' st q => letGo_listiter st.1 q), ?_, ?_, hnx _ rfl, ⟨⟨_, Heap.get?_push_size _ rfl, rfl, rfl⟩, hls.at fun o e => Heap.get?_push_of_some _ e⟩, F.push _,
    fun p hp => ⟨Heap.get?_push_of_some _ (N p hp).1, (N p hp).2⟩, ⟨rfl, hj⟩, ?_, ?_⟩
  · intro hm
    rcases List.mem_cons.mp hm with e | e
    · exact absurd F.ns.lt (by rw [e]; exact Nat.lt_irrefl _)
    · exact (N _ hl).2.1 (List.mem_singleton.mp e).symm
  · intro b hb
    rw [List.mem_singleton.mp hb]
    exact next_is_new F
  · rintro i v m₁ nx h₁ tk₁ own hi hv ⟨ha, hJ⟩ hw hown hget _ _ F₁ N₁
    have offW : OwnOff (own.filter fun p => decide (p.1 = s.heap.objs.size)) (news.map (·.1)) := fun p hp b hb e => by
      obtain ⟨q, hq, hq'⟩ := List.mem_map.mp hb
      have h1 : p.1 = s.heap.objs.size := by simpa using (List.mem_filter.mp hp).2
      have := Heap.lt_size (N q hq).1
      rw [hq', ← e, h1] at this
      exact Nat.lt_irrefl _ this
    have N₂ : News h₀ env.locals h₁ (nx ++ own.filter fun p => decide (p.1 = s.heap.objs.size)) := fun p hp => by
      rcases List.mem_append.mp hp with h | h
      · exact N₁ p (List.mem_append_right _ h)
      · exact N₁ p (List.mem_append_left _ (List.mem_filter.mp h).1)
    refine wpAny_mono (turn i v m₁ nx h₁ tk₁ _ (by simpa using hv) ha offW hJ F₁ N₂) (fun _ s₂ g => wpAny_mono g (fun f s₃ g => ?_) fun _ _ e => e) fun _ _ e => e
    have step : InvEndN h₀ env.locals (J (i + 1)) (own.filter fun p => decide (p.1 = s.heap.objs.size)) (news.map (·.1)) { s with heap := h₁, toks := tk₁ } s₃ →
        LoopStepU h₀ env.locals [s.heap.objs.size] own (fun m nx' => nx'.map (·.1) = news.map (·.1) ∧ J (i + 1) m nx') { s with heap := h₁, toks := tk₁ } .next s₃ := by
      rintro ⟨h', tk', m', news', nx', e, F', N', hn, ho, ha', hJ'⟩
      refine ⟨rfl, h', tk', m', nx', e, F', fun p hpm => ?_, hnx _ ha', ha', hJ'⟩
      rcases List.mem_append.mp hpm with h | h
      · rcases List.mem_cons.mp (hown p h) with h1 | h1
        · exact N' p (ho p (List.mem_filter.mpr ⟨h, by simpa using h1⟩))
        · have e1 : p.1 = l := List.mem_singleton.mp h1
          have h2 := (N₁ _ (List.mem_append_right _ (hJl _ _ _ hJ))).1
          have h3 := hget p h
          rw [e1, h2] at h3
          have h4 : p = (l, listOf vs.toArray nn) := Prod.ext e1 (Option.some.inj h3).symm
          rw [h4]
          exact N' _ (hn _ (hJl _ _ _ hJ'))
      · exact N' p (hn p h)
    cases f with
    | ret r => exact g
    | brk => exact g
    | next => exact step g
    | cont => exact step g
  · rintro h' tk m' nx F' N' _ ⟨_, hJ⟩
    exact done m' nx h' tk hJ F' N'
end
end Mine
-- ML11
namespace Mine
theorem strsAre_sv : ∀ ps : List (Str × Tok), StrsAre (strValues ps) (ps.map (·.1))
  | [] => .nil
  | p :: ps => .cons p.1 p.2 (strsAre_sv ps)
theorem intsAre_iv : ∀ ps : List (Int × Tok), IntsAre (intValues ps) (ps.map (·.1))
  | [] => .nil
  | p :: ps => .cons p.1 p.2 (intsAre_iv ps)
theorem intsAre_ps {vs : List Value} {ns : List Int} (h : IntsAre vs ns) : ∃ ps : List (Int × Tok), vs = intValues ps ∧ ps.map (·.1) = ns := by
  induction h with
  | nil => exact ⟨[], rfl, rfl⟩
  | cons n t h ih =>
    obtain ⟨ps, e1, e2⟩ := ih
    exact ⟨(n, t) :: ps, by rw [e1]; rfl, by rw [← e2]; rfl⟩
theorem sum_small {ys : List Str} {b : Nat} (h : ∀ y ∈ ys, y.length ≤ b) : (ys.map (·.length)).sum ≤ ys.length * b := by
  induction ys with
  | nil => exact Nat.zero_le _
  | cons y ys ih =>
    rw [List.map_cons, List.sum_cons, List.length_cons, Nat.succ_mul, Nat.add_comm]
    exact Nat.add_le_add (ih fun z hz => h z (.tail _ hz)) (h y (.head _))
theorem readsAll_sv {h : Heap} : ∀ ps : List (Str × Tok), ReadsAll h (strValues ps) (ps.map fun p => PyData.str p.1) []
  | [] => .nil
  | p :: ps => readsAll_cons_val (Reads.str p.1 p.2) (readsAll_sv ps)
theorem readsAll_bv {h : Heap} : ∀ bs : List Bool, ReadsAll h (boolVals bs) (bs.map PyData.bool) []
  | [] => .nil
  | b :: bs => readsAll_cons_val (Reads.bool b) (readsAll_bv bs)
theorem eqvAll_strs : ∀ xs ys : List Str, PyData.eqvAll (xs.map PyData.str) (ys.map PyData.str) = decide (xs = ys)
  | [], [] => by simp [PyData.eqvAll]
  | [], _ :: _ => by simp [PyData.eqvAll]
  | _ :: _, [] => by simp [PyData.eqvAll]
  | x :: xs, y :: ys => by
    have ih := eqvAll_strs xs ys
    rw [List.map_cons, List.map_cons, PyData.eqvAll, ih, PyData.eqv]
    by_cases h1 : x = y <;> by_cases h2 : xs = ys <;> simp [h1, h2]
theorem eqvAll_bools : ∀ xs ys : List Bool, PyData.eqvAll (xs.map PyData.bool) (ys.map PyData.bool) = decide (xs = ys)
  | [], [] => by simp [PyData.eqvAll]
  | [], _ :: _ => by simp [PyData.eqvAll]
  | _ :: _, [] => by simp [PyData.eqvAll]
  | x :: xs, y :: ys => by
    have ih := eqvAll_bools xs ys
    rw [List.map_cons, List.map_cons, PyData.eqvAll, ih, PyData.eqv]
    by_cases h1 : x = y <;> by_cases h2 : xs = ys <;> simp [h1, h2]
theorem shaped_strs {xs : List Str} (h : ∀ x ∈ xs, PyData.strOk x = true) : SeqAt.shaped (.list (xs.map PyData.str)) = true := by
  have e := kqd_lay 9 (.list (xs.map Dat.str)) (by simp [kqdOk]; exact h)
  rw [kqdP, show kqdPs (xs.map Dat.str) = xs.map PyData.str from by
    clear e h
    induction xs with
    | nil => rfl
    | cons x xs ih => rw [List.map_cons, List.map_cons, kqdPs, kqdP, ih]] at e
  unfold SeqAt.shaped
  rw [e.1, Bool.true_and]
  exact decide_eq_true (Nat.le_trans e.2 (by decide))
theorem shaped_bools (xs : List Bool) : SeqAt.shaped (.list (xs.map PyData.bool)) = true := by
  have h1 : ∀ xs : List Bool, PyData.canLayAll0 (xs.map PyData.bool) = true := fun xs => by
    induction xs with
    | nil => rfl
    | cons x xs ih => rw [List.map_cons, PyData.canLayAll0, ih]; rfl
  have h2 : ∀ xs : List Bool, PyData.depthAll (xs.map PyData.bool) = 0 := fun xs => by
    induction xs with
    | nil => rfl
    | cons x xs ih => rw [List.map_cons, PyData.depthAll, ih]; rfl
  unfold SeqAt.shaped
  rw [PyData.canLay0, PyData.depth, h1, h2]
  rfl
section
variable {prog : Program} {w : World} {A : Around} {E : Value → Shared → Prop} {s : Shared} {h₀ : Heap} {L a b D : Addr} {m : Str → Option Value} {news : List (Addr × Obj)} {na nb n : Nat} {Q : Value → Shared → Prop}
theorem ne_strs {ps qs : List (Str × Tok)} (N : News h₀ L s.heap news) (ma : (a, listOf (strValues ps).toArray na) ∈ news) (mb : (b, listOf (strValues qs).toArray nb) ∈ news) (ha : ∀ x ∈ ps.map (·.1), PyData.strOk x = true) (hb : ∀ x ∈ qs.map (·.1), PyData.strOk x = true)
    (hu : A.units + 64 < cLine) (h : Q (.bool (!decide (ps.map (·.1) = qs.map (·.1)))) s) : wpAny (model prog w) A (compareOp .NotEq (.ref a) (.ref b)) Q E s := by
  have ra := reads_list_at (N.get ma) rfl rfl (readsAll_sv ps)
  have rb := reads_list_at (N.get mb) rfl rfl (readsAll_sv qs)
  have e : ∀ l : List (Str × Tok), (l.map fun p => PyData.str p.1) = (l.map (·.1)).map PyData.str := fun l => by rw [List.map_map]; rfl
  rw [e] at ra rb
  exact ne_dataH ra rb (shaped_strs ha) (shaped_strs hb) hu (by rw [PyData.eqv, eqvAll_strs]; exact h)
theorem ne_bools {ps qs : List Bool} (N : News h₀ L s.heap news) (ma : (a, listOf (boolVals ps).toArray na) ∈ news) (mb : (b, listOf (boolVals qs).toArray nb) ∈ news)
    (hu : A.units + 64 < cLine) (h : Q (.bool (!decide (ps = qs))) s) : wpAny (model prog w) A (compareOp .NotEq (.ref a) (.ref b)) Q E s :=
  ne_dataH (reads_list_at (N.get ma) rfl rfl (readsAll_bv ps)) (reads_list_at (N.get mb) rfl rfl (readsAll_bv qs)) (shaped_bools ps) (shaped_bools qs) hu (by rw [PyData.eqv, eqvAll_bools]; exact h)
theorem eq_bools {ps qs : List Bool} (N : News h₀ L s.heap news) (ma : (a, listOf (boolVals ps).toArray na) ∈ news) (mb : (b, listOf (boolVals qs).toArray nb) ∈ news)
    (hu : A.units + 64 < cLine) (h : Q (.bool (decide (ps = qs))) s) : wpAny (model prog w) A (compareOp .Eq (.ref a) (.ref b)) Q E s :=
  eq_dataH (reads_list_at (N.get ma) rfl rfl (readsAll_bv ps)) (reads_list_at (N.get mb) rfl rfl (readsAll_bv qs)) (shaped_bools ps) (shaped_bools qs) hu (by rw [PyData.eqv, eqvAll_bools]; exact h)
theorem eq_ints2 {ps qs : List (Int × Tok)} (N : News h₀ L s.heap news) (ma : (a, listOf (intValues ps).toArray na) ∈ news) (mb : (b, listOf (intValues qs).toArray nb) ∈ news)
    (hu : A.units + 64 < cLine) (h : Q (.bool (decide (ps.map (·.1) = qs.map (·.1)))) s) : wpAny (model prog w) A (compareOp .Eq (.ref a) (.ref b)) Q E s :=
  ke_eq_ints (News.isList N ma) (News.isList N mb) (intsAre_iv ps) (intsAre_iv qs) hu h
theorem join_sv {ps : List (Str × Tok)} {x : Str} {t : Tok} {ys : List Str} (N : News h₀ L s.heap news) (hm : (D, listOf (strValues ps).toArray n) ∈ news) (hy : ps.map (·.1) = ys) (hx : x.length ≤ 100) (hb : ∀ y ∈ ys, y.length ≤ 1000) (hl : ys.length ≤ 100)
    (h : ∀ t' k, Q (.str (Txt.join x ys) t') { s with toks := k }) : wpAny (model prog w) A (call (.builtin "str.join") [.str x t, .ref D]) Q E s := by
  subst hy
  refine join_list (News.isList N hm) (by simpa using strsAre_sv ps) ?_ h
  have h1 := sum_small hb
  have h2 : (ps.map (·.1)).length * x.length ≤ 100 * 100 := Nat.mul_le_mul hl hx
  have h3 : (ps.map (·.1)).length * 1000 ≤ 100 * 1000 := Nat.mul_le_mul hl (Nat.le_refl _)
  lia
theorem count_iv {ps : List (Int × Tok)} {k : Int} {t : Tok} {ns : List Int} (N : News h₀ L s.heap news) (hm : (D, listOf (intValues ps).toArray n) ∈ news) (hn : ps.map (·.1) = ns)
    (h : Q (.int (ns.count k : Nat) s.toks) { s with toks := s.toks + 1 }) : wpAny (model prog w) A (call (.builtin "list.count") [.ref D, .int k t]) Q E s := by
  subst hn
  exact count_list_ints (News.isList N hm) (intsAre_iv ps) h
theorem sorted_iv {ps : List (Int × Tok)} {ns : List Int} (F : Fr h₀ L s.heap m) (N : News h₀ L s.heap news) (hm : (D, listOf (intValues ps).toArray n) ∈ news) (hn : ps.map (·.1) = ns) (h64 : ns.length < 64)
    (h : ∀ D' qs c h', Fr h₀ L h' m → News h₀ L h' ((D', listOf (intValues qs).toArray c) :: news) → (∀ q ∈ news, q.1 < D') → (qs.map (·.1)).Perm ns → (qs.map (·.1)).Pairwise (· ≤ ·) → Q (.ref D') { s with heap := h' }) :
    wpAny (model prog w) A (call (.builtin "sorted") [.ref D]) Q E s := by
  subst hn
  refine kso_sorted F N (News.isList N hm) (intsAre_iv ps) h64 fun D' vs' ns' c h' F' N' hD hi _ hp ho _ => ?_
  obtain ⟨qs, e1, e2⟩ := intsAre_ps hi
  subst e1 e2
  exact h D' qs c h' F' N' hD hp ho
end
end Mine
-- MK
namespace Mine
theorem rows1_MK : True := by
  k_with_none
  k_with "k_ne" => first | exact ne_l1 (by with_reducible assumption) | exact ne_r1 (by with_reducible assumption) | exact ne_l2 (by with_reducible assumption) | exact ne_r2 (by with_reducible assumption) | exact ne_l3 (by with_reducible assumption) | exact ne_r3 (by with_reducible assumption) | exact ne_l0 (by with_reducible assumption) | exact ne_r0 (by with_reducible assumption) | exact ne_l4 (by with_reducible assumption) | exact ne_r4 (by with_reducible assumption) | exact ne_l5 (by with_reducible assumption) | exact ne_r5 (by with_reducible assumption)
  k_with "ktr_room" => first | exact room_c 0 hd rfl | exact room_c 1 hd rfl | exact room_c 6 hd rfl | exact room_c 9 hd rfl | exact room_c 21 hd rfl | exact Nat.le_of_ble_eq_true rfl
  k_with "ktr_units" => first | exact room_c 43 hu rfl | exact room_c 63 hu rfl | exact room_c 203 hu rfl | exact Nat.le_of_ble_eq_true rfl
  k_with "call builtin:str.find" => (k_dflt (k_here; (with_reducible show wpAny _ _ (call (Value.builtin "str.find") [Value.str _ _, Value.str _ _, Value.int _ _, Value.int _ _]) _ _ _); refine call_find4 ?_))
  k_with "call builtin:str.rfind" => (k_dflt (k_here; (with_reducible show wpAny _ _ (call (Value.builtin "str.rfind") [Value.str _ _, Value.str _ _, Value.int _ _, Value.int _ _]) _ _ _); refine call_rfind4 ?_))
  k_with "call ref" => (k_here; refine wpAny_call ?_; k_dflt (refine' code_def ?k1z6 ?k2z6 ?k3z6 ?k4z6 ?k5z6 ?kAz6 ?kFz6 ?kKz6 ?k6z6 ?k7z6 ?k8z6 ?k9z6 ?kBz6 ?_ ?c2z6 ?c3z6 ?c4z6 ?c5z6; (case kAz6 => exact rfl); (case kFz6 => exact rfl); (case kKz6 => first | exact rfl | assumption); (case k1z6 => k_asm); (case k2z6 => k_asm); (case k3z6 => k_asm); (case k4z6 => k_asm); (case k5z6 => k_asm); (case k6z6 => k_is); (case k7z6 => k_is); (case k8z6 => ktr_room); (case k9z6 => exact BindsTo.of_eq rfl); (case c5z6 => decide); (case kBz6 => exact locs rfl); (case c2z6 => exact rfl); (case c3z6 => exact rfl); (case c4z6 => exact rfl); k_whole; intro g' L' h' FG' F' N' B' X' T'; (try dsimp only); (try k_lift B'); (try k_fold)))
  k_with "call ref" => (k_here; (with_reducible show wpAny _ _ (call (Value.ref 67) [Value.str _ _, Value.str _ _]) _ _ _); k_dflt (refine' strcoll _ _ _ _ _ _ _ _ _ _ _ _ _ _ _ _ _ _ _ _ _ _ _ _ _ _ ?k1z7 ?k2z7 ?k3z7 ?k4z7 ?k5z7 ?kKz7 ?kdz7 ?kuz7  ?_; (case k1z7 => k_asm); (case k2z7 => k_asm); (case k3z7 => k_in); (case k4z7 => k_asm); (case k5z7 => k_asm); (case kKz7 => first | exact rfl | assumption); (case kdz7 => ktr_room); (case kuz7 => ktr_units); intro t9 h9 tk9 F9 N9; (try dsimp only); (try k_fold)))
  k_with "call ref" => (k_here; (with_reducible show wpAny _ _ (call (Value.ref 84) [Value.int _ _]) _ _ _); k_dflt (refine' isterm _ _ _ _ _ _ _ _ _ _ _ _ _ _ _ _ _ _ _ _ _ _ _ _ ?k1z8 ?k2z8 ?k3z8 ?k4z8 ?k5z8 ?kKz8 ?kdz8 ?kuz8  ?_; (case k1z8 => k_asm); (case k2z8 => k_asm); (case k3z8 => k_in); (case k4z8 => k_asm); (case k5z8 => k_asm); (case kKz8 => first | exact rfl | assumption); (case kdz8 => ktr_room); (case kuz8 => ktr_units); intro t9 h9 tk9 F9 N9; (try dsimp only); (try k_fold)))
  k_with "call ref" => (k_here; (with_reducible show wpAny _ _ (call (Value.ref 91) [Value.int _ _]) _ _ _); k_dflt (refine' iseof _ _ _ _ _ _ _ _ _ _ _ _ _ _ _ _ _ _ _ _ _ _ _ _ ?k1z9 ?k2z9 ?k3z9 ?k4z9 ?k5z9 ?kKz9 ?kdz9 ?kuz9  ?_; (case k1z9 => k_asm); (case k2z9 => k_asm); (case k3z9 => k_in); (case k4z9 => k_asm); (case k5z9 => k_asm); (case kKz9 => first | exact rfl | assumption); (case kdz9 => ktr_room); (case kuz9 => ktr_units); intro t9 h9 tk9 F9 N9; (try dsimp only); (try k_fold)))
  k_with "call ref" => (k_here; (with_reducible show wpAny _ _ (call (Value.ref 28) [Value.str _ _]) _ _ _); k_dflt (refine' stripd _ _ _ ?hxz10 _ _ _ _ _ _ _ _ _ _ _ _ _ _ _ _ _ _ _ _ _ ?k1z10 ?k2z10 ?k3z10 ?k4z10 ?k5z10 ?kKz10 ?kdz10 ?kuz10  ?_; (case k1z10 => k_asm); (case k2z10 => k_asm); (case k3z10 => k_in); (case k4z10 => k_asm); (case k5z10 => k_asm); (case kKz10 => first | exact rfl | assumption); (case kdz10 => ktr_room); (case kuz10 => ktr_units); (case hxz10 => first | assumption | omega | size_fits); intro t9 h9 tk9 F9 N9; (try dsimp only); (try k_fold)))
  k_with "CompEnd" => (k_dflt (k_here; refine LCg.CompEnd.intro (by assumption) (by assumption) _ ?csubz11 (by assumption) (by assumption) ⟨rfl, ?_⟩; (case csubz11 => kcf_all)))
  k_with "k_all" => exact off_tail (by with_reducible assumption) (by omega)
  k_with "subscriptTail" => (k_dflt (k_here; (with_reducible show wpAny _ _ (subscriptTail _ _ (Value.ref 75) (Value.str _ _)) _ _ _); (refine' ett_item ?kXz13 ?khz13 ?_; (case kXz13 => k_in); (case khz13 => with_reducible assumption))); intro t')
  trivial
structure RankOk (row : List Str) (g : Str → Nat) : Prop where
  six : row.length = 6
  has : ∀ x ∈ row, kdpHas ETT x = true
  bnd : ∀ x ∈ row, 0 ≤ tokN x ∧ tokN x < 100
  perm : (row.map g).Perm [0, 1, 2, 3, 4, 5]
  coll : ∀ x ∈ row, ∀ y ∈ row, collP (numT x) (numT y) = if g y < g x then 1 else if g x < g y then -1 else 0
  nodup : row.Nodup
noncomputable def rkD (g : Str → Nat) (row : List (Str × Tok)) : List (Str × Int) := row.map fun p => (p.1, (g p.1 : Int))
noncomputable def RankJ (prog : Program) (w : World) (row : List (Str × Tok)) (g : Str → Nat) (D Cr Cs : Addr) (oR : Obj) (news₀ : List (Addr × Obj)) (m₀ : Str → Option Value) (i : Nat) (m : Str → Option Value) (nx : List (Addr × Obj)) : Prop :=
  ∃ od kvs oS v, nx = (D, od) :: (Cs, oS) :: (Cr, oR) :: news₀ ∧ od.IsDictOf (PySem.strKind prog w) kvs ∧ PyProof.V.FlatPairs PyData.str kvs (kdpD (rkD g (row.take i))) ∧ oS.data = .cell v ∧ ∀ z, z ≠ Str.ofString "told" → m z = m₀ z
theorem kdpHas_map {g : Str → Nat} {x : Str} {l : List (Str × Tok)} : kdpHas (rkD g l) x = decide (x ∈ l.map (·.1)) := by
  unfold kdpHas rkD
  induction l with
  | nil => simp
  | cons p l ih =>
    simp only [List.map_cons, List.any_cons] at ih ⊢
    rw [ih]
    by_cases h : p.1 = x
    · simp [h]
    · have h' : ¬ x = p.1 := fun e => h e.symm
      simp [h, h']
theorem kdpLook_map {g : Str → Nat} {x : Str} : ∀ {l : List (Str × Tok)}, x ∈ l.map (·.1) → kdpLook (rkD g l) x 0 = (g x : Int)
  | p :: l, h => by
    unfold kdpLook rkD
    rw [List.map_cons, List.find?_cons]
    by_cases hp : p.1 = x
    · simp [hp]
    · have h2 : x ∈ l.map (·.1) := by
        rcases List.mem_cons.mp h with h | h
        · exact absurd h.symm hp
        · exact h
      have ih := kdpLook_map (g := g) h2
      unfold kdpLook rkD at ih
      simpa [hp] using ih
theorem kdpPut_next {g : Str → Nat} {row : List (Str × Tok)} {i : Nat} {x : Str} {t : Tok} (hn : (row.map (·.1)).Nodup) (hi : row[i]? = some (x, t)) : kdpPut (rkD g (row.take i)) x (g x : Int) = rkD g (row.take (i + 1)) := by
  have hx : x ∉ (row.take i).map (·.1) := by
    intro hm
    obtain ⟨hlt, he⟩ := List.getElem?_eq_some_iff.mp hi
    rw [List.map_take] at hm
    obtain ⟨j, hj, hjx⟩ := List.mem_take_iff_getElem.mp hm
    have hj' : j < i := by lia
    have h2 := List.pairwise_iff_getElem.mp hn j i (by lia) (by simpa using hlt) hj'
    apply h2
    rw [hjx]
    simp [he]
  unfold kdpPut
  rw [show ((rkD g (row.take i)).any fun p => decide (p.1 = x)) = false from by
    have := kdpHas_map (g := g) (x := x) (l := row.take i)
    unfold kdpHas at this
    rw [this]
    exact decide_eq_false hx]
  rw [if_neg Bool.false_ne_true, List.take_add_one, hi]
  simp [rkD]
section
variable {prog : Program} {w : World} {A : Around} {E : Value → Shared → Prop} {s : Shared} {env : Env} {h₀ : Heap} {target : Expr} {body : List Stmt} {Q : Flow → Shared → Prop} {row : List (Str × Tok)} {g : Str → Nat} {D Cr Cs q : Addr} {kq : Nat} {oR : Obj} {news₀ : List (Addr × Obj)} {m₀ : Str → Option Value}
theorem rank_loop {od oS : Obj} {v : Option Value} (_hr : RankOk (row.map (·.1)) g) (hh : A.handled = none) (hrow : (q, listOf (strValues row).toArray kq) ∈ news₀) (F : Fr h₀ env.locals s.heap m₀) (N : News h₀ env.locals s.heap ((D, od) :: (Cs, oS) :: (Cr, oR) :: news₀)) (hd : od.IsDictOf (PySem.strKind prog w) []) (hS : oS.data = .cell v)
    (turn : ∀ i x t od kvs oS v (u : Str → Option Value) h tk own, row[i]? = some (x, t) → od.IsDictOf (PySem.strKind prog w) kvs → PyProof.V.FlatPairs PyData.str kvs (kdpD (rkD g (row.take i))) → oS.data = .cell v → OwnOff own (((D, od) :: (Cs, oS) :: (Cr, oR) :: news₀).map (·.1)) →
      Fr h₀ env.locals h (fun y => if y = Str.ofString "told" then u y else m₀ y) → News h₀ env.locals h ((D, od) :: (Cs, oS) :: (Cr, oR) :: (news₀ ++ own)) →
      wpAny (model prog w) A (assign target env (.str x t)) (fun _ s₂ => wpAny (model prog w) A (execs body env) (InvPostN h₀ env.locals (RankJ prog w row g D Cr Cs oR news₀ m₀ (i + 1)) own (((D, od) :: (Cs, oS) :: (Cr, oR) :: news₀).map (·.1)) { s with heap := h, toks := tk } Q) E s₂) E { s with heap := h, toks := tk })
    (done : ∀ od kvs oS v (u : Str → Option Value) h tk, od.IsDictOf (PySem.strKind prog w) kvs → PyProof.V.FlatPairs PyData.str kvs (kdpD (rkD g row)) → oS.data = .cell v →
      Fr h₀ env.locals h (fun y => if y = Str.ofString "told" then u y else m₀ y) → News h₀ env.locals h ((D, od) :: (Cs, oS) :: (Cr, oR) :: news₀) → Q .next { s with heap := h, toks := tk }) :
    wpAny (model prog w) A (pyIter (.ref q)) (fun it s₂ => TurnsAt prog w A h₀ env target body Q E it s₂) E s := by
  have fr : ∀ {h : Heap} {m₁ : Str → Option Value}, (∀ z, z ≠ Str.ofString "told" → m₁ z = m₀ z) → Fr h₀ env.locals h m₁ → Fr h₀ env.locals h (fun y => if y = Str.ofString "told" then m₁ y else m₀ y) := fun {h m₁} hm F₁ => by
    have e : (fun y => if y = Str.ofString "told" then m₁ y else m₀ y) = m₁ := by
      funext y
      by_cases hy : y = Str.ofString "told"
      · rw [if_pos hy]
      · rw [if_neg hy, hm y hy]
    rw [e]; exact F₁
  refine turnsJ (RankJ prog w row g D Cr Cs oR news₀ m₀) (nn := kq) (vs := strValues row) ?_ hh F N ⟨od, [], oS, v, rfl, hd, by simpa [rkD, kdpD] using PyProof.V.FlatPairs.nil, hS, fun _ _ => rfl⟩ ?_ ?_
  · rintro i m nx ⟨od, kvs, oS, v, rfl, _⟩
    exact .tail _ (.tail _ (.tail _ hrow))
  · rintro i v m₁ nx h tk own hv ha hoff ⟨od', kvs, oS', v', rfl, h1, h2, h3, h4⟩ F₁ N₁
    unfold strValues at hv
    rw [List.getElem?_map] at hv
    obtain ⟨⟨x, t⟩, hp, rfl⟩ := Option.map_eq_some_iff.mp hv
    exact turn i x t od' kvs oS' v' m₁ h tk own hp h1 h2 h3 hoff (fr h4 F₁) N₁
  · rintro m₁ nx h tk ⟨od', kvs, oS', v', rfl, h1, h2, h3, h4⟩ F₁ N₁
    rw [show (strValues row).length = row.length from by simp [strValues], List.take_length] at h2
    exact done od' kvs oS' v' m₁ h tk h1 h2 h3 (fr h4 F₁) N₁
theorem rank_end {od oS : Obj} {kvs : List (Str × Value)} {v : Option Value} {m' : Str → Option Value} {h' : Heap} {tk i : Nat} {L : Addr} {own news' : List (Addr × Obj)} {adr : List Addr} (F : Fr h₀ L h' m') (N : News h₀ L h' news') (h1 : od.IsDictOf (PySem.strKind prog w) kvs) (h2 : PyProof.V.FlatPairs PyData.str kvs (kdpD (rkD g (row.take (i + 1))))) (h3 : oS.data = .cell v)
    (hn : ∀ p ∈ (D, od) :: (Cs, oS) :: (Cr, oR) :: news₀, p ∈ news') (ho : ∀ p ∈ own, p ∈ news') (ha : ((D, od) :: (Cs, oS) :: (Cr, oR) :: news₀).map (·.1) = adr) (hm : ∀ z, z ≠ Str.ofString "told" → m' z = m₀ z) :
    InvEndN h₀ L (RankJ prog w row g D Cr Cs oR news₀ m₀ (i + 1)) own adr s { s with heap := h', toks := tk } := InvEndN.intro F N ⟨od, kvs, oS, v, rfl, h1, h2, h3, hm⟩ ha hn ho
end
theorem rank_end3 {prog : Program} {w : World} {s : Shared} {h₀ : Heap} {row : List (Str × Tok)} {g : Str → Nat} {D Cr Cs : Addr} {oR : Obj} {x1 x2 x3 x4 : Addr × Obj} {news₀ : List (Addr × Obj)} {m₀ : Str → Option Value} {od oS : Obj} {kvs : List (Str × Value)} {v : Option Value} {m' : Str → Option Value} {h' : Heap} {tk i : Nat} {L : Addr} {own : List (Addr × Obj)} {adr : List Addr} (F : Fr h₀ L h' m') (N : News h₀ L h' (x1 :: x2 :: x3 :: (D, od) :: (Cs, oS) :: (Cr, oR) :: x4 :: (news₀ ++ own))) (h1 : od.IsDictOf (PySem.strKind prog w) kvs) (h2 : PyProof.V.FlatPairs PyData.str kvs (kdpD (rkD g (row.take (i + 1))))) (h3 : oS.data = .cell v)
    (ha : ((D, od) :: (Cs, oS) :: (Cr, oR) :: x4 :: news₀).map (·.1) = adr) (hm : ∀ z, z ≠ Str.ofString "told" → m' z = m₀ z) :
    InvEndN h₀ L (RankJ prog w row g D Cr Cs oR (x4 :: news₀) m₀ (i + 1)) own adr s { s with heap := h', toks := tk } := by
  refine rank_end F N h1 h2 h3 (fun p hp => ?_) (fun p hp => ?_) ha hm
  · rcases List.mem_cons.mp hp with rfl | hp
    · exact .tail _ (.tail _ (.tail _ (.head _)))
    · rcases List.mem_cons.mp hp with rfl | hp
      · exact .tail _ (.tail _ (.tail _ (.tail _ (.head _))))
      · rcases List.mem_cons.mp hp with rfl | hp
        · exact .tail _ (.tail _ (.tail _ (.tail _ (.tail _ (.head _)))))
        · rcases List.mem_cons.mp hp with rfl | hp
          · exact .tail _ (.tail _ (.tail _ (.tail _ (.tail _ (.tail _ (.head _))))))
          · exact .tail _ (.tail _ (.tail _ (.tail _ (.tail _ (.tail _ (.tail _ (List.mem_append_left _ hp)))))))
  · exact .tail _ (.tail _ (.tail _ (.tail _ (.tail _ (.tail _ (.tail _ (List.mem_append_right _ hp)))))))
section
variable {prog : Program} {w : World} {A : Around} {E : Value → Shared → Prop} {s : Shared} {h₀ : Heap} {L D : Addr} {m : Str → Option Value} {news : List (Addr × Obj)} {row : List (Str × Tok)} {g : Str → Nat} {u : Obj → List (Addr × Obj)} {od : Obj} {kvs : List (Str × Value)}
theorem rank_set {i : Nat} {x : Str} {t tn : Tok} {n : Int} {Q : Unit → Shared → Prop} (F : Fr h₀ L s.heap m) (N : News h₀ L s.heap news) (U : UpdF D od news u) (hd : od.IsDictOf (PySem.strKind prog w) kvs) (hf : PyProof.V.FlatPairs PyData.str kvs (kdpD (rkD g (row.take i)))) (hi : row[i]? = some (x, t)) (hr : RankOk (row.map (·.1)) g) (hn : n = (g x : Int))
    (h : ∀ h' o' kvs', Fr h₀ L h' m → News h₀ L h' (u o') → o'.IsDictOf (PySem.strKind prog w) kvs' → PyProof.V.FlatPairs PyData.str kvs' (kdpD (rkD g (row.take (i + 1)))) → Q () { s with heap := h', toks := s.toks + 1 }) :
    wpAny (model prog w) A (setItem (.ref D) (.str x t) (.int n tn)) Q E s := by
  subst hn
  refine kdp_setItem F N U hd hf ?_ fun h' o' kvs' F' N' h1 h2 => h h' o' kvs' F' N' h1 (by rw [← kdpPut_next hr.nodup hi]; exact h2)
  have := hr.six
  rw [List.length_map] at this
  simp [rkD]
  lia
theorem rank_item {value slice : Expr} {x : Str} {tk : Tok} {Q : Value → Shared → Prop} (N : News h₀ L s.heap news) (hm : (D, od) ∈ news) (hlo : (D == sysModules) = false) (hd : od.IsDictOf (PySem.strKind prog w) kvs) (hf : PyProof.V.FlatPairs PyData.str kvs (kdpD (rkD g row))) (hx : x ∈ row.map (·.1)) (h : ∀ t, Q (.int (g x : Int) t) { s with toks := s.toks + 1 })
    (hs : subscripted slice false (.ref D) (.str x tk) = operate [.ref D, .str x tk] (getItem (.ref D) (.str x tk)) := by with_unfolding_all rfl) (hg : ∀ r, letTemporaryGo value (.ref D) r = pure () := by intro _; with_unfolding_all rfl) :
    wpAny (model prog w) A (subscriptTail value slice (.ref D) (.str x tk)) Q E s := by
  refine kdp_item (c := rkD g row) (TabAt.ofObj hlo (N.get hm) hd hf) (by rw [kdpHas_map]; exact decide_eq_true hx) (fun t => ?_) hs hg
  rw [kdpLook_map hx]
  exact h t
end
noncomputable def IntR {α : Type} (g : α → Int) (a : α) (y : Value) : Prop := ∃ t, y = .int (g a) t
noncomputable def StrR {α : Type} (g : α → Str) (a : α) (y : Value) : Prop := ∃ t, y = .str (g a) t
theorem tok_ok {row : List (Str × Tok)} {g : Str → Nat} (hr : RankOk (row.map (·.1)) g) {p : Str × Tok} (hp : p ∈ row) : kdpHas ETT p.1 = true ∧ 0 ≤ tokN p.1 ∧ tokN p.1 < 100 :=
  ⟨hr.has _ (List.mem_map.mpr ⟨p, hp, rfl⟩), hr.bnd _ (List.mem_map.mpr ⟨p, hp, rfl⟩)⟩
theorem rows2_MK : True := by
  k_with "k_all" => with_reducible assumption
  k_with "k_all" => (refine List.forall_mem_append.mpr ⟨?_, ?_⟩ <;> k_all)
  k_with "k_mem" => (refine List.mem_append_left _ ?_; with_reducible first | assumption | exact .head _ | exact .tail _ (.head _) | exact .tail _ (.tail _ (.head _)) | exact .tail _ (.tail _ (.tail _ (.head _))) | exact .tail _ (.tail _ (.tail _ (.tail _ (.head _)))) | exact .tail _ (.tail _ (.tail _ (.tail _ (.tail _ (.head _))))) | exact .tail _ (.tail _ (.tail _ (.tail _ (.tail _ (.tail _ (.head _)))))) | exact .tail _ (by assumption) | exact .tail _ (.tail _ (.tail _ (.tail _ (by assumption)))) | exact .tail _ (.tail _ (.tail _ (.tail _ (.tail _ (.tail _ (by assumption)))))) )
  k_with "k_mem" => assumption
  trivial
theorem g_bnd {row : List (Str × Tok)} {g : Str → Nat} {i : Nat} {x : Str} {t : Tok} (hr : RankOk (row.map (·.1)) g) (h : row[i]? = some (x, t)) : 0 ≤ (g x : Int) ∧ (g x : Int) ≤ 5 := by
  have := hr.perm.mem_iff.mp (List.mem_map.mpr ⟨x, List.mem_map.mpr ⟨_, List.mem_of_getElem? h, rfl⟩, rfl⟩)
  simp only [List.mem_cons, List.not_mem_nil, or_false] at this
  lia
theorem rows3_MK : True := by
  k_with "exec For" => (k_dflt (k_here; (rename Fr _ _ _ _ => lF'); refine' For_turns lF' ?_; k_whole))
  k_with "pyIter ref!" => (k_dflt (k_here; (rename Fr _ _ _ _ => lF'); (rename News _ _ _ _ => lN'); (rename RankOk _ _ => hRO'); (refine' rank_loop hRO' rfl ?hrowz19 lF' lN' ?hdz19 ?hSz19 ?_ ?_; (case hrowz19 => k_mem); (case hdz19 => assumption); (case hSz19 => assumption))); (all_goals first | (intro i x t od kvs oS v u h' tk own hi' h1' h2' h3' ho' F' N'; have hx9 := tok_ok hRO' (List.mem_of_getElem? hi'); obtain ⟨hx8, hx7, hx6⟩ := hx9; dsimp only at hx8 hx7 hx6; obtain ⟨hg9, hg8⟩ := g_bnd hRO' hi'; clear lF' lN') | (intro od kvs oS v u h' tk h1' h2' h3' F' N'; clear lF' lN')))
  k_with "exec Assign cons ListComp" => (k_here; k_dflt (refine LCg.Assign_ListComp_U (F₀ := by k_asm) (by rfl) (by with_unfolding_all rfl) (by with_unfolding_all rfl) (by decide) (by rfl) (by decide) (by rfl) (by rfl) (by rfl) ?_))
  k_with "eval ListComp" => (k_here; k_dflt (refine LCg.ListComp_U (F₀ := by k_asm) (by with_unfolding_all rfl) (by decide) (by rfl) (by decide) (by rfl) ?_))
  trivial
theorem IntR.intro {α : Type} {g : α → Int} {a : α} {t : Tok} {n : Int} (e : n = g a) : IntR g a (.int n t) := ⟨t, by rw [e]⟩
theorem StrR.intro {α : Type} {g : α → Str} {a : α} {t : Tok} {n : Str} (e : n = g a) : StrR g a (.str n t) := ⟨t, by rw [e]⟩
theorem lcg_inK {h₀ : Heap} {ax : Addr} {its : Array Value} {news : List (Addr × Obj)} {n : Nat} (h : (ax, listOf its n) ∈ news) : LCg.SrcAt h₀ ax its news := Or.inr ⟨_, h, rfl, _, rfl⟩
section
variable {prog : Program} {w : World} {A : Around} {h₀ : Heap} {L : Addr} {m : Str → Option Value} {env : Env} {elt : Expr} {y : Str} {scope : Scope} {cl : List (Str × Addr)} {s : Shared} {S : List (Addr × Obj) → Prop} {Fin : List Value → List (Addr × Obj) → Prop} {news : List (Addr × Obj)} {row : List (Str × Tok)} {g : Str → Nat}
/-- a list of ints told of the row -/
theorem row_ints (hr : RankOk (row.map (·.1)) g) (f : Str → Int) (hS : S news)
    (turn : ∀ z tz I oI C oC D m₂ ys h tk (E' : Value → Shared → Prop), (z, tz) ∈ row → kdpHas ETT z = true → 0 ≤ tokN z → tokN z < 100 → LCg.NsObj oC m₂ → m₂ y = some (.str z tz) → Fr h₀ L h m → News h₀ L h ((I, oI) :: (C, oC) :: (D, LCg.lst ys) :: news) → LCg.Off3 I C D news → ((@Ne Nat I C) ∧ (@Ne Nat I D) ∧ (@Ne Nat C D)) → S news →
      wpAny (model prog w) A (eval elt (compEnvC scope cl C env)) (LCg.CompEnd h₀ L m { s with heap := h, toks := tk } I oI C oC D (LCg.lst ys) S (fun v news' => KEl news (IntR fun p : Str × Tok => f p.1) (z, tz) v news')) E' { s with heap := h, toks := tk })
    (fin : ∀ ps : List (Int × Tok), ps.map (·.1) = row.map (fun p => f p.1) → Fin (intValues ps) news) : LCg.CompRest prog w A h₀ L m env elt y scope cl s S (fun i v => (strValues row).toArray[i]? = some v) Fin (strValues row).toArray.size 0 [] news := by
  refine cr_map row (fun p => .str p.1 p.2) (IntR fun p : Str × Tok => f p.1) (by simp [strValues]) (fun i v _ h => strs_at h) ?_ hS ?_
  · intro a I oI C oC D m₂ ys h tk E' ha hC hx F N off ne hS
    have := tok_ok hr ha
    exact turn a.1 a.2 I oI C oC D m₂ ys h tk E' ha this.1 this.2.1 this.2.2 hC hx F N off ne hS
  · intro ys hy
    obtain ⟨ps, rfl, hps⟩ := Rel.ints hy
    exact fin ps hps
/-- the writings of a list of small ints -/
theorem ints_strs {qs : List (Int × Tok)} (hb : ∀ a ∈ qs, -1 ≤ a.1 ∧ a.1 ≤ 1) (hS : S news)
    (turn : ∀ z tz I oI C oC D m₂ ys h tk (E' : Value → Shared → Prop), -1 ≤ z → z ≤ 1 → LCg.NsObj oC m₂ → m₂ y = some (.int z tz) → Fr h₀ L h m → News h₀ L h ((I, oI) :: (C, oC) :: (D, LCg.lst ys) :: news) → LCg.Off3 I C D news → ((@Ne Nat I C) ∧ (@Ne Nat I D) ∧ (@Ne Nat C D)) → S news →
      wpAny (model prog w) A (eval elt (compEnvC scope cl C env)) (LCg.CompEnd h₀ L m { s with heap := h, toks := tk } I oI C oC D (LCg.lst ys) S (fun v news' => KEl news (StrR fun p : Int × Tok => Str.ofString (toString p.1)) (z, tz) v news')) E' { s with heap := h, toks := tk })
    (fin : ∀ ps : List (Str × Tok), ps.map (·.1) = qs.map (fun p => Str.ofString (toString p.1)) → Fin (strValues ps) news) : LCg.CompRest prog w A h₀ L m env elt y scope cl s S (fun i v => (intValues qs).toArray[i]? = some v) Fin (intValues qs).toArray.size 0 [] news := by
  refine cr_map qs (fun p => .int p.1 p.2) (StrR fun p : Int × Tok => Str.ofString (toString p.1)) (by simp [intValues]) (fun i v _ h => ints_at h) ?_ hS ?_
  · intro a I oI C oC D m₂ ys h tk E' ha hC hx F N off ne hS
    exact turn a.1 a.2 I oI C oC D m₂ ys h tk E' (hb a ha).1 (hb a ha).2 hC hx F N off ne hS
  · intro ys hy
    obtain ⟨ps, rfl, hps⟩ := Rel.strs hy
    exact fin ps hps
end
noncomputable def ordP (rk : List Nat) (row : List (Str × Tok)) : List (Str × Tok) := (kIdx rk).map fun i => row.getD i (Str.ofString "", 0)
theorem order_sv {rk : List Nat} {row : List (Str × Tok)} (hrk : rk.Perm [0, 1, 2, 3, 4, 5]) (h6 : row.length = 6) : orderOf rk (strValues row) = strValues (ordP rk row) := by
  unfold orderOf ordP strValues
  rw [List.map_map]
  refine List.map_congr_left fun i hi => ?_
  have := (kIdx_ok hrk).2.1 i hi
  simp [List.getD, List.getElem?_eq_getElem (show i < row.length by lia)]
theorem mem_ordP {rk : List Nat} {row : List (Str × Tok)} (hrk : rk.Perm [0, 1, 2, 3, 4, 5]) (h6 : row.length = 6) {p : Str × Tok} (hp : p ∈ ordP rk row) : p ∈ row := by
  obtain ⟨i, hi, rfl⟩ := List.mem_map.mp hp
  have := (kIdx_ok hrk).2.1 i hi
  simp [List.getD, List.getElem?_eq_getElem (show i < row.length by lia)]
noncomputable def rkL (g : Str → Nat) (row : List (Str × Tok)) : List Nat := row.map fun p => g p.1
theorem rkL_perm {row : List (Str × Tok)} {g : Str → Nat} (hr : RankOk (row.map (·.1)) g) : (rkL g row).Perm [0, 1, 2, 3, 4, 5] := by
  have := hr.perm
  rw [List.map_map] at this
  exact this
theorem rank_len {row : List (Str × Tok)} {g : Str → Nat} (hr : RankOk (row.map (·.1)) g) : row.length = 6 := by
  have := hr.six
  rw [List.length_map] at this
  exact this
theorem ordP_ranks {row : List (Str × Tok)} {g : Str → Nat} (hr : RankOk (row.map (·.1)) g) : (ordP (rkL g row) row).map (fun p => (g p.1 : Int)) = [0, 1, 2, 3, 4, 5] := by
  have h1 := (kIdx_ok (rkL_perm hr)).1
  have h6 := rank_len hr
  have h2 : (ordP (rkL g row) row).map (fun p => (g p.1 : Int)) = ((kIdx (rkL g row)).map fun i => (rkL g row).getD i 0).map (fun n : Nat => (n : Int)) := by
    unfold ordP
    rw [List.map_map, List.map_map]
    refine List.map_congr_left fun i hi => ?_
    have := (kIdx_ok (rkL_perm hr)).2.1 i hi
    simp [rkL, List.getD, List.getElem?_eq_getElem (show i < row.length by lia)]
  rw [h2, h1]
  rfl
/-- what is told of x, one answer for each sign of the row -/
noncomputable def toldL (row : List (Str × Tok)) (x : Str) : List Int := row.map fun p => collP (numT x) (numT p.1)
theorem told_len {row : List (Str × Tok)} {g : Str → Nat} {x : Str} (hr : RankOk (row.map (·.1)) g) : (toldL row x).length < 64 := by
  have := rank_len hr
  unfold toldL
  rw [List.length_map]
  lia
theorem told_g {row : List (Str × Tok)} {g : Str → Nat} {x : Str} (hr : RankOk (row.map (·.1)) g) (hx : x ∈ row.map (·.1)) : toldL row x = ((row.map (·.1)).map g).map fun n => if n < g x then (1 : Int) else if g x < n then -1 else 0 := by
  unfold toldL
  rw [List.map_map, List.map_map]
  refine List.map_congr_left fun p hp => ?_
  exact hr.coll x hx p.1 (List.mem_map.mpr ⟨p, hp, rfl⟩)
theorem told_perm {row : List (Str × Tok)} {g : Str → Nat} {x : Str} (hr : RankOk (row.map (·.1)) g) (hx : x ∈ row.map (·.1)) : (toldL row x).Perm ([0, 1, 2, 3, 4, 5].map fun n => if n < g x then (1 : Int) else if g x < n then -1 else 0) := by
  rw [told_g hr hx]
  exact hr.perm.map _
theorem g_lt {row : List (Str × Tok)} {g : Str → Nat} {x : Str} (hr : RankOk (row.map (·.1)) g) (hx : x ∈ row.map (·.1)) : g x < 6 := by
  have := hr.perm.mem_iff.mp (List.mem_map.mpr ⟨x, hx, rfl⟩)
  simp only [List.mem_cons, List.not_mem_nil, or_false] at this
  lia
theorem told_count {row : List (Str × Tok)} {g : Str → Nat} {x : Str} (hr : RankOk (row.map (·.1)) g) (hx : x ∈ row.map (·.1)) : (toldL row x).count 1 = g x := by
  rw [(told_perm hr hx).count_eq]
  have := g_lt hr hx
  generalize g x = n at this
  revert n
  decide
theorem told_small {row : List (Str × Tok)} {g : Str → Nat} {x : Str} (hr : RankOk (row.map (·.1)) g) (hx : x ∈ row.map (·.1)) {qs : List (Int × Tok)} (hp : (qs.map (·.1)).Perm (toldL row x)) : ∀ a ∈ qs, -1 ≤ a.1 ∧ a.1 ≤ 1 := fun a ha => by
  have h1 := hp.mem_iff.mp (List.mem_map.mpr ⟨a, ha, rfl⟩)
  rw [told_g hr hx] at h1
  obtain ⟨n, _, hn⟩ := List.mem_map.mp h1
  rw [← hn]
  split
  · lia
  · split <;> lia
theorem told_sorted {row : List (Str × Tok)} {g : Str → Nat} {x : Str} (hr : RankOk (row.map (·.1)) g) (hx : x ∈ row.map (·.1)) {ns : List Int} (hp : ns.Perm (toldL row x)) (ho : ns.Pairwise (· ≤ ·)) : ns = List.replicate (5 - g x) (-1) ++ 0 :: List.replicate (g x) 1 := by
  refine lks_uniq (hp.trans ((told_perm hr hx).trans ?_)) ho ?_
  · have := g_lt hr hx
    generalize g x = n at this
    match n, this with
    | 0, _ | 1, _ | 2, _ | 3, _ | 4, _ | 5, _ => decide
  · have := g_lt hr hx
    generalize g x = n at this
    match n, this with
    | 0, _ | 1, _ | 2, _ | 3, _ | 4, _ | 5, _ => decide
theorem told_len6 {row : List (Str × Tok)} {g : Str → Nat} {x : Str} (hr : RankOk (row.map (·.1)) g) {qs : List (Int × Tok)} (hp : (qs.map (·.1)).Perm (toldL row x)) : qs.length = 6 := by
  have h1 := hp.length_eq
  have h2 := rank_len hr
  unfold toldL at h1
  rw [List.length_map, List.length_map] at h1
  lia
theorem blt_no {a b : Nat} (h : ¬ a < b) : Nat.blt a b = false := by
  cases hb : Nat.blt a b with
  | false => rfl
  | true => exact absurd (by simpa using hb) h
theorem small_strs {qs : List (Int × Tok)} (h : ∀ a ∈ qs, -1 ≤ a.1 ∧ a.1 ≤ 1) : ∀ y ∈ qs.map (fun p => Str.ofString (toString p.1)), y.length ≤ 1000 := fun y hy => by
  obtain ⟨a, ha, rfl⟩ := List.mem_map.mp hy
  have h1 := h a ha
  have h2 : a.1 = -1 ∨ a.1 = 0 ∨ a.1 = 1 := by lia
  show (Str.ofString (toString a.1)).length ≤ 1000
  rcases h2 with e | e | e <;> rw [e] <;> decide
theorem len_empty : (Str.ofString "").length ≤ 100 := by decide
theorem len_six {qs : List (Int × Tok)} (h : qs.length = 6) : (qs.map (fun p => Str.ofString (toString p.1))).length ≤ 100 := by rw [List.length_map]; lia
theorem ordP_len {row : List (Str × Tok)} {g : Str → Nat} (hr : RankOk (row.map (·.1)) g) : (ordP (rkL g row) row).length = 6 := by
  have := congrArg List.length (ordP_ranks hr)
  simpa using this
theorem sz_row {row : List (Str × Tok)} {g : Str → Nat} (hr : RankOk (row.map (·.1)) g) : (strValues row).toArray.size ≤ sizeLine := by
  have := rank_len hr
  simp [strValues, PySem.sizeLine_eq]; lia
theorem sz_ord {row : List (Str × Tok)} {g : Str → Nat} (hr : RankOk (row.map (·.1)) g) : (strValues (ordP (rkL g row) row)).toArray.size ≤ sizeLine := by
  have := ordP_len hr
  simp [strValues, PySem.sizeLine_eq]; lia
theorem sz_qs {qs : List (Int × Tok)} (h : qs.length = 6) : (intValues qs).toArray.size ≤ sizeLine := by
  simp [intValues, PySem.sizeLine_eq]; lia
theorem lt_coll {row : List Str} {g : Str → Nat} {x y : Str} (hr : RankOk row g) (hx : x ∈ row) (hy : y ∈ row) : decide ((numT x).cps.toList < (numT y).cps.toList) = Nat.blt (g x) (g y) := by
  have h := hr.coll x hx y hy
  unfold collP at h
  have asym : ¬ ((numT x).cps.toList < (numT y).cps.toList ∧ (numT y).cps.toList < (numT x).cps.toList) := fun ⟨a, b⟩ => List.lt_asymm a b
  by_cases h1 : (numT x).cps.toList < (numT y).cps.toList <;> by_cases h2 : (numT y).cps.toList < (numT x).cps.toList
  · exact absurd ⟨h1, h2⟩ asym
  · rw [decide_eq_true h1, decide_eq_false h2] at h
    rw [decide_eq_true h1]
    split at h
    · cases h
    · split at h
      · rename_i h3
        exact (by simpa using h3 : Nat.blt (g x) (g y) = true).symm
      · cases h
  · rw [decide_eq_false h1, decide_eq_true h2] at h
    rw [decide_eq_false h1]
    split at h
    · rename_i h3
      exact (blt_no (by lia)).symm
    · split at h <;> cases h
  · rw [decide_eq_false h1, decide_eq_false h2] at h
    rw [decide_eq_false h1]
    split at h
    · cases h
    · split at h
      · cases h
      · exact (blt_no (by lia)).symm
noncomputable def StrV (y : Str) (k : Value) : Prop := ∃ t, k = .str y t
theorem StrV.intro {y z : Str} {t : Tok} (e : z = y) : StrV y (.str z t) := ⟨t, by rw [e]⟩
section
variable {prog : Program} {w : World} {A : Around} {E : Value → Shared → Prop} {s : Shared} {h₀ : Heap} {L q : Addr} {m : Str → Option Value} {news : List (Addr × Obj)} {row : List (Str × Tok)} {g : Str → Nat}
theorem sort_num {f : Addr} {kq : Nat} {Q : Value → Shared → Prop} (hr : RankOk (row.map (·.1)) g) (F : Fr h₀ L s.heap m) (N : News h₀ L s.heap news) (hm : (q, listOf (strValues row).toArray kq) ∈ news)
    (turn : ∀ (x : Str) (t : Tok), kdpHas ETT x = true → 0 ≤ tokN x → tokN x < 100 → ∀ (h : Heap) (tk : Nat) (own : List (Addr × Obj)), Fr h₀ L h m → News h₀ L h (news ++ own) →
      wpAny (model prog w) A.in1.in1 (call (.ref f) [.str x t]) (KeyEnd h₀ L m (news ++ own) (StrV (numT x)) { s with heap := h, toks := tk }) (fun _ _ => False) { s with heap := h, toks := tk })
    (h : ∀ D c h' tk, Fr h₀ L h' m → News h₀ L h' ((D, listOf (strValues (ordP (rkL g row) row)).toArray c) :: news) → (∀ q ∈ news, q.1 < D) → Q (.ref D) { s with heap := h', toks := tk }) :
    wpAny (model prog w) A (call (.builtin "sorted") [.ref q] [(Str.ofString "key", .ref f)]) Q E s := by
  have h6 := rank_len hr
  refine sort_key (rk := rkL g row) (Kf := fun i k => ∀ p, row[i]? = some p → StrV (numT p.1) k) (T := .type "str") F N (News.isList N hm) (by simpa [strValues] using h6) (rkL_perm hr) ?_ ?_ (by decide) (by decide) ?_ ?_
  · intro i v hv hh tk own F' N'
    unfold strValues at hv
    rw [List.getElem?_map] at hv
    obtain ⟨⟨x, t⟩, hp, rfl⟩ := Option.map_eq_some_iff.mp hv
    have ho := tok_ok hr (List.mem_of_getElem? hp)
    refine wpAny_mono (turn x t ho.1 ho.2.1 ho.2.2 hh tk own F' N') (fun k s' hk => ?_) fun _ _ e => e
    obtain ⟨h', tk', e, h1, h2, h3⟩ := hk
    refine ⟨h', tk', e, fun p hp' => ?_, h2, h3⟩
    rw [hp] at hp'
    cases hp'
    exact h1
  · intro i k hh hi hk
    obtain ⟨t, rfl⟩ := hk _ (List.getElem?_eq_getElem (show i < row.length by lia))
    exact Looks.of_pure rfl
  · intro i j ki kj s' C hi hj hki hkj hC
    have gi := List.getElem?_eq_getElem (show i < row.length by lia)
    have gj := List.getElem?_eq_getElem (show j < row.length by lia)
    obtain ⟨t, rfl⟩ := hki _ gi
    obtain ⟨u, rfl⟩ := hkj _ gj
    refine kas_lt_str ?_
    rw [lt_coll hr (List.mem_map.mpr ⟨_, List.getElem_mem _, rfl⟩) (List.mem_map.mpr ⟨_, List.getElem_mem _, rfl⟩)]
    have e : Nat.blt (g (row[i]'(by lia)).1) (g (row[j]'(by lia)).1) = kLt (rkL g row) i j := by
      unfold kLt rkL
      simp [List.getD, gi, gj]
    rw [e]
    exact hC
  · intro D c h' tk F' N' hD
    rw [order_sv (rkL_perm hr) h6] at N'
    exact h D c h' tk F' N' hD
end
theorem told_text {row : List (Str × Tok)} {g : Str → Nat} {x : Str} (hr : RankOk (row.map (·.1)) g) (hx : x ∈ row.map (·.1)) {qs : List (Int × Tok)} (hp : (qs.map (·.1)).Perm (toldL row x)) (ho : (qs.map (·.1)).Pairwise (· ≤ ·)) :
    (Txt.join (Str.ofString "") (qs.map fun p => Str.ofString (toString p.1)) != Txt.mul (Str.ofString "-1") (5 - (g x : Int)) ++ Str.ofString "0" ++ Txt.mul (Str.ofString "1") (g x : Int)) = false := by
  have h1 := told_sorted hr hx hp ho
  have e : (qs.map fun p => Str.ofString (toString p.1)) = (qs.map (·.1)).map fun n => Str.ofString (toString n) := by rw [List.map_map]; rfl
  rw [e, h1]
  have := g_lt hr hx
  generalize g x = n at this
  match n, this with
  | 0, _ | 1, _ | 2, _ | 3, _ | 4, _ | 5, _ => decide +kernel
section
variable {prog : Program} {w : World} {A : Around} {h₀ : Heap} {L : Addr} {m : Str → Option Value} {env : Env} {elt : Expr} {y : Str} {scope : Scope} {cl : List (Str × Addr)} {s : Shared} {S : List (Addr × Obj) → Prop} {Fin : List Value → List (Addr × Obj) → Prop} {news : List (Addr × Obj)} {row : List (Str × Tok)} {g : Str → Nat}
theorem row_told {x : Str} (hr : RankOk (row.map (·.1)) g) (_hx : kdpHas ETT x = true) (hS : S news)
    (turn : ∀ z tz I oI C oC D m₂ ys h tk (E' : Value → Shared → Prop), (z, tz) ∈ row → kdpHas ETT z = true → 0 ≤ tokN z → tokN z < 100 → LCg.NsObj oC m₂ → m₂ y = some (.str z tz) → Fr h₀ L h m → News h₀ L h ((I, oI) :: (C, oC) :: (D, LCg.lst ys) :: news) → LCg.Off3 I C D news → ((@Ne Nat I C) ∧ (@Ne Nat I D) ∧ (@Ne Nat C D)) → S news →
      wpAny (model prog w) A (eval elt (compEnvC scope cl C env)) (LCg.CompEnd h₀ L m { s with heap := h, toks := tk } I oI C oC D (LCg.lst ys) S (fun v news' => KEl news (IntR fun p : Str × Tok => collP (numT x) (numT p.1)) (z, tz) v news')) E' { s with heap := h, toks := tk })
    (fin : ∀ ps : List (Int × Tok), ps.map (·.1) = toldL row x → Fin (intValues ps) news) : LCg.CompRest prog w A h₀ L m env elt y scope cl s S (fun i v => (strValues row).toArray[i]? = some v) Fin (strValues row).toArray.size 0 [] news :=
  row_ints hr (fun z => collP (numT x) (numT z)) hS turn fin
theorem row_ranks (hr : RankOk (row.map (·.1)) g) (hS : S news)
    (turn : ∀ z tz I oI C oC D m₂ ys h tk (E' : Value → Shared → Prop), z ∈ row.map (·.1) → LCg.NsObj oC m₂ → m₂ y = some (.str z tz) → Fr h₀ L h m → News h₀ L h ((I, oI) :: (C, oC) :: (D, LCg.lst ys) :: news) → LCg.Off3 I C D news → ((@Ne Nat I C) ∧ (@Ne Nat I D) ∧ (@Ne Nat C D)) → S news →
      wpAny (model prog w) A (eval elt (compEnvC scope cl C env)) (LCg.CompEnd h₀ L m { s with heap := h, toks := tk } I oI C oC D (LCg.lst ys) S (fun v news' => KEl news (IntR fun p : Str × Tok => (g p.1 : Int)) (z, tz) v news')) E' { s with heap := h, toks := tk })
    (fin : ∀ ps : List (Int × Tok), ps.map (·.1) = [0, 1, 2, 3, 4, 5] → Fin (intValues ps) news) : LCg.CompRest prog w A h₀ L m env elt y scope cl s S (fun i v => (strValues (ordP (rkL g row) row)).toArray[i]? = some v) Fin (strValues (ordP (rkL g row) row)).toArray.size 0 [] news := by
  refine cr_map (ordP (rkL g row) row) (fun p => .str p.1 p.2) (IntR fun p : Str × Tok => (g p.1 : Int)) (by simp [strValues]) (fun i v _ h => strs_at h) ?_ hS ?_
  · intro a I oI C oC D m₂ ys h tk E' ha hC hx F N off ne hS
    exact turn a.1 a.2 I oI C oC D m₂ ys h tk E' (List.mem_map.mpr ⟨a, mem_ordP (rkL_perm hr) (rank_len hr) ha, rfl⟩) hC hx F N off ne hS
  · intro ys hy
    obtain ⟨ps, rfl, hps⟩ := Rel.ints hy
    exact fin ps (hps.trans (ordP_ranks hr))
end
theorem mem_at {row : List (Str × Tok)} {i : Nat} {x : Str} {t : Tok} (h : row[i]? = some (x, t)) : x ∈ row.map (·.1) := List.mem_map.mpr ⟨_, List.mem_of_getElem? h, rfl⟩
theorem mem_take {row : List (Str × Tok)} {i : Nat} {x : Str} {t : Tok} (h : row[i]? = some (x, t)) : x ∈ (row.take (i + 1)).map (·.1) := by
  rw [List.take_add_one, h]
  simp
theorem told_cnt {row : List (Str × Tok)} {g : Str → Nat} {x : Str} (hr : RankOk (row.map (·.1)) g) (hx : x ∈ row.map (·.1)) : (((toldL row x).count 1 : Nat) : Int) = (g x : Int) := by rw [told_count hr hx]
theorem rows4_MK : True := by
  k_with "setItem ref str" => (k_dflt (k_here; (rename RankOk _ _ => hRO'); (refine' rank_set ?kFz22 ?kNz22 ?kUz22 ?kdz22 ?kfz22 ?kiz22 hRO' ?knz22 ?_; (case kFz22 => k_asm); (case kNz22 => k_asm); (case kUz22 => k_updF); (case kdz22 => with_reducible assumption); (case kfz22 => with_reducible assumption); (case kiz22 => with_reducible assumption); (case knz22 => exact told_cnt hRO' (mem_at (by with_reducible assumption))))); intro h' o' kvs' F' N' h1' h2')
  k_with "subscriptTail" => (k_here; (with_reducible show wpAny _ _ (subscriptTail _ _ (Value.ref _) (Value.str _ _)) _ _ _); k_dflt (refine' rank_item ?kNz23 ?kmz23 ?klz23 ?kdz23 ?kfz23 ?kxz23 ?_; (case kNz23 => k_asm); (case kmz23 => k_mem); (case klz23 => assumption); (case kdz23 => with_reducible assumption); (case kfz23 => with_reducible assumption); (case kxz23 => first | with_reducible assumption | exact mem_take (by with_reducible assumption))); intro t')
  k_with "call builtin:str.join" => (k_dflt (k_here; (with_reducible show wpAny _ _ (call (Value.builtin "str.join") [Value.str _ _, Value.ref _]) _ _ _); (rename RankOk _ _ => hRO'); refine' join_sv ?kNz24 ?kmz24 ?kyz24 ?kxz24 ?kbz24 ?klz24 ?_; (case kNz24 => k_asm); (case kmz24 => k_mem); (case kyz24 => with_reducible assumption); (case kxz24 => exact len_empty); (case kbz24 => exact small_strs (told_small hRO' (mem_at (by with_reducible assumption)) (by with_reducible assumption))); (case klz24 => exact len_six (by with_reducible assumption))); intro t' tk')
  trivial
theorem eq_six {prog : Program} {w : World} {A : Around} {E : Value → Shared → Prop} {s : Shared} {h₀ : Heap} {L a b : Addr} {news : List (Addr × Obj)} {na nb : Nat} {Q : Value → Shared → Prop} {ps : List (Int × Tok)} {t0 t1 t2 t3 t4 t5 : Tok} (N : News h₀ L s.heap news) (ma : (a, listOf (intValues ps).toArray na) ∈ news) (mb : (b, listOf #[.int 0 t0, .int 1 t1, .int 2 t2, .int 3 t3, .int 4 t4, .int 5 t5] nb) ∈ news) (hp : ps.map (·.1) = [0, 1, 2, 3, 4, 5])
    (hu : A.units + 64 < cLine) (h : Q (.bool true) s) : wpAny (model prog w) A (compareOp .Eq (.ref a) (.ref b)) Q E s :=
  eq_ints2 (qs := [(0, t0), (1, t1), (2, t2), (3, t3), (4, t4), (5, t5)]) N ma mb hu (by rw [hp]; exact h)
theorem rows5_MK : True := by
  k_with "compareOp Eq ref ref" => (k_here; k_dflt (refine' eq_six ?Nz25 ?az25 ?bz25 ?pz25 ?uz25 ?_; (case Nz25 => k_asm); (case az25 => k_mem); (case bz25 => k_mem); (case pz25 => with_reducible assumption); (case uz25 => ke_room)))
  k_with "call ref" => (k_here; kn_here; k_dflt (refine wpAny_call ?_; refine' kla_code ?k1z26 ?k2z26 ?k3z26 ?k4z26 ?k5z26 ?kAz26 ?kFz26 ?kKz26 ?k6z26 ?k7z26 ?k8z26 ?k9z26 ?kBz26 ?_ ?c2z26 ?c3z26 ?c4z26 ?c5z26; (case kAz26 => exact rfl); (case kFz26 => exact rfl); (case kKz26 => exact rfl); (case k1z26 => k_asm); (case k2z26 => k_asm); (case k3z26 => k_asm); (case k4z26 => k_asm); (case k5z26 => k_asm); (case k6z26 => k_mem); (case k7z26 => exact codeRec_news (by k_asm) (by k_mem) (by assumption) (by assumption)); (case k8z26 => ktr_room); (case k9z26 => exact rfl); (case c5z26 => decide); (case kBz26 => exact locs rfl); (case c2z26 => exact rfl); (case c3z26 => exact rfl); (case c4z26 => exact rfl); k_whole; intro g' L' h' FG' F' N' B' X' T'; (try dsimp only); (try k_lift B'); (try k_fold)))
  k_with "StrV" => k_dflt (exact StrV.intro rfl)
  k_with "IntR" => k_dflt (exact IntR.intro rfl)
  k_with "StrR" => k_dflt (exact StrR.intro rfl)
  k_with "call builtin:list.count" => (k_dflt (k_here; (refine' count_iv ?kNz30 ?kmz30 ?khz30 ?_; (case kNz30 => k_asm); (case kmz30 => k_mem); (case khz30 => with_reducible assumption))))
  k_with "call builtin:sorted" => (k_dflt (k_here; (with_reducible show wpAny _ _ (call (Value.builtin "sorted") [Value.ref _]) _ _ _); (rename RankOk _ _ => hRO'); (refine' sorted_iv ?kFz31 ?kNz31 ?kmz31 ?khz31 (told_len hRO') ?_; (case kFz31 => k_asm); (case kNz31 => k_asm); (case kmz31 => k_mem); (case khz31 => with_reducible assumption))); intro D' qs c h' F' N' hD' hp9' ho9'; have hl9' := told_len6 hRO' hp9')
  k_with "call builtin:sorted" => (k_dflt (k_here; (rename RankOk _ _ => hRO'); (with_unfolding_all refine' sort_num hRO' ?kFz32 ?kNz32 ?kmz32 ?_ ?_; (case kFz32 => k_asm); (case kNz32 => k_asm); (case kmz32 => k_mem))); (all_goals first | (intro x t hx8 hx7 hx6 h' tk own F' N') | (intro D' c h' tk' F' N' hD')))
  k_with "CompSrc" => (k_here; k_dflt ((rename RankOk _ _ => hRO'); refine LCg.CompSrc.ledger (by rfl) (by k_asm) (by k_asm) (by k_mem) (by first | exact sz_row hRO' | exact sz_ord hRO' | exact sz_qs (by assumption)) ?_; intro g'; (first | ((rename (kdpHas ETT _ = true) => hk9); (refine' row_told hRO' hk9 ?hSz33 ?_ ?_; (case hSz33 => exact lcg_inK (by k_mem)));  (all_goals first | (intro z tz I' oI' C' oC' D' m' ys' h' tk' E' hz9' hz1' hz2' hz3' hC' hx' F' N' off' ne' hS') | (intro ps' hps'))) | ((refine' row_ranks hRO' ?hSz33 ?_ ?_; (case hSz33 => exact lcg_inK (by k_mem)));  (all_goals first | (intro z tz I' oI' C' oC' D' m' ys' h' tk' E' hz9' hC' hx' F' N' off' ne' hS') | (intro ps' hps'))) | ((refine' ints_strs (told_small hRO' (mem_at (by with_reducible assumption)) (by with_reducible assumption)) ?hSz33 ?_ ?_; (case hSz33 => exact lcg_inK (by k_mem)));  (all_goals first | (intro z tz I' oI' C' oC' D' m' ys' h' tk' E' hz2' hz3' hC' hx' F' N' off' ne' hS') | (intro ps' hps'))))))
  trivial
theorem sub_ranks {α : Type} {a0 a1 a2 a3 a4 a5 a6 a7 a8 : α} {l : List α} : ∀ p ∈ a5 :: a8 :: l, p ∈ a0 :: a1 :: a2 :: a3 :: a4 :: a5 :: a6 :: a7 :: a8 :: l := fun p hp => by
  rcases List.mem_cons.mp hp with rfl | hp
  · exact .tail _ (.tail _ (.tail _ (.tail _ (.tail _ (.head _)))))
  · exact .tail _ (.tail _ (.tail _ (.tail _ (.tail _ (.tail _ (.tail _ (.tail _ hp)))))))
set_option maxHeartbeats 3000000 in
theorem ranks (w : World) (row : List (Str × Tok)) (q : Addr) (kq : Nat) (g : Str → Nat) (RO : RankOk (row.map (·.1)) g)
    {pT : Program} {lT : List Str} (mean : ExcName → Option Value) (mg mb : Str → Option Value) (dp un : Nat) (gd : Option (List Code)) (cn : Str) (cs : Scope) (a : Addr) (ccd : Value) (cl' : List (Str × Addr)) (outer : List Env) (A₀ : Around) (base h₀ : Heap) (L : Addr) (m : Str → Option Value) (news : List (Addr × Obj)) (s : Shared) (Q E : Value → Shared → Prop) :
    Below A₀ base outer h₀ → Fr h₀ L s.heap m → (Mine.hd.heap_1 w.params).In h₀ → News h₀ L s.heap ((93, tabObj #[]) :: news) → (∀ p ∈ news, p.1 ≠ 93) → Top pT lT mean mg mb h₀ → cs.kind = .function →
    dp + 20 < recursionLimit → un + 200 < cLine → (q, listOf (strValues row).toArray kq) ∈ news →
    (∀ D o ps h' tk' kvs, o.IsDictOf (PySem.strKind PySem.Challenge.rw_wr0036_01.row.prog w) kvs → PyProof.V.FlatPairs PyData.str kvs (kdpD (rkD g row)) → Fr h₀ L h' m → News h₀ L h' ((D, o) :: (93, tabObj ps) :: news) → (D == sysModules) = false → (∀ p ∈ news, p.1 < D) → Q (.ref D) { s with heap := h', toks := tk' }) →
    wpAny (model PySem.Challenge.rw_wr0036_01.row.prog w) (ktrTop dp un gd cn cs L a ccd cl' outer) (call (.ref 96) [.ref q]) Q E s := by
  k_fill
  intro B F X N hoff T hk hd hu hq hret
  refine wpAny_call ?_
  k_dflt (refine' code_defC (binds := [(Str.ofString "row", Value.ref q)]) ?k1 ?k2 ?k3 ?k4 ?k5 ?kA ?kF ?kK ?k6 ?k7 ?k8 ?k9 ?kB ?kD ?_ ?c2 ?c3 ?c4; (case kA => exact rfl); (case kF => exact rfl); (case kK => assumption); (case k1 => k_asm); (case k2 => k_asm); (case k3 => k_asm); (case k4 => k_asm); (case k5 => k_asm); (case k6 => k_is); (case k7 => k_is); (case k8 => ktr_room); (case k9 => exact BindsTo.of_eq rfl); (case kB => exact rfl); (case kD => decide +kernel); (case c2 => exact rfl); (case c3 => exact rfl); (case c4 => exact rfl); k_whole; intro g' L' h' tk' cells' FG' F' N' Y' B' X' T' l1; (try k_lt l1); k_cells Y'; (try simp only [List.cons_append, List.nil_append] at N'); (try dsimp only); (try k_lift B'); (try k_fold))
  have hAl := l1.2
  have CH : CodeHd g' 95 93 := codeHd_of_K X' (by kernel_rfl)
  have X9 := X
  have h6 := RO.six
  rw [List.length_map] at h6
  k_steps
  all_goals (with_reducible rename Fr _ _ _ _ => kF'; with_reducible rename News _ _ _ _ => kN')
  all_goals first
    | exact keyEnd kF' kN' (fun _ h => h) (StrV.intro rfl)
    | (refine rank_end3 kF' kN' (by with_reducible assumption) (by with_reducible assumption) (by with_reducible assumption) rfl ?_
       intro z hz
       simp [hz])
    | (with_reducible rename ((_ != _) = true) => h9
       with_reducible rename RankOk _ _ => hRO9
       rw [told_text hRO9 (mem_at (by with_reducible assumption)) (by with_reducible assumption) (by with_reducible assumption)] at h9
       cases h9)
    | (with_reducible rename (_ ∧ _ ∧ _ ∧ AllLt _ news) => hl9
       exact hret _ _ _ _ _ _ (by with_reducible assumption) (by with_reducible assumption) kF' (cb_drop kN' sub_ranks) (by with_reducible assumption) (allLt_memA hl9.2.2.2))
end Mine
-- MZ
namespace Mine
theorem mz_getattr_none : typeLookup (.type "zip") "__getattr__" = pure none := by rw [typeLookup_type, builtinLookup_eq_fast]; kernel_rfl
theorem mz_keys_none : typeLookup (.type "zip") "keys" = pure none := by rw [typeLookup_type, builtinLookup_eq_fast]; kernel_rfl
theorem mz_entry : entryFor table "zip.__getattribute__" = some Builtin.«object.__getattribute__» :=
  entryFor_alias (id' := "object.__getattribute__") (by kernel_rfl) (by decide +kernel) (by decide +kernel) (by kernel_rfl)
theorem mz_meets (a : Addr) (vs : Array Value) (sl : Array (Option Value)) (name : Str) (u : Tok) (hmiss : typeLookup (.type "zip") name = pure none) (hname : (["__module__", "__name__", "__qualname__", "__doc__", "__annotations__"] : List Str).contains name = false) (hsz : name.length + 100 ≤ sizeLine) :
    Meets (Builtin.«object.__getattribute__» ⟨[.ref a, .str name u], []⟩) (fun A R s => s.heap.get? a = some { cls := .type "zip", dict := none, data := .fields vs, slots := sl } ∧ raisesAttr (.ref a) name A R s) :=
  Meets.of_wp fun prog w A R s hs => by
    obtain ⟨hp, g, d, tk, os⟩ := s
    obtain ⟨hx, hs⟩ := hs
    have hT : (⟨hp, g, d, tk, os⟩ : Shared).TypeIs (.ref a) "zip" := ⟨_, hx, rfl⟩
    unfold Builtin.«object.__getattribute__»
    repeat (any_goals (first | assumption | wp_step))
    simp only [hname, Bool.false_eq_true, if_false]
    repeat (any_goals (first | assumption | wp_step))
    exact wpAny_raiseAttrError hs.1 hs.2 (attrMsg_fits (by decide +kernel) hsz)
theorem mz_getAttr {prog : Program} {w : World} {A : Around} {E : Value → Shared → Prop} {s : Shared} {a : Addr} {vs : Array Value} {sl : Array (Option Value)} {Q : Option Value → Shared → Prop}
    (hx : s.heap.get? a = some { cls := .type "zip", dict := none, data := .fields vs, slots := sl }) (hA : A.handled = none)
    (h : ∀ h' tk, (∀ b o, s.heap.get? b = some o → h'.get? b = some o) → Q none { s with heap := h', toks := tk }) :
    wpAny (model prog w) A (getAttr? (.ref a) "keys") Q E s := by
  obtain ⟨hp, g, d, tk, os⟩ := s
  have hT : ∀ tk', (⟨hp, g, d, tk', os⟩ : Shared).TypeIs (.ref a) "zip" := fun _ => ⟨_, hx, rfl⟩
  have f1 := sub_AttributeError
  have f3 := F.slot_zip_getattribute.lookup
  have f4 := F.slot_zip_getattribute.bind (.ref a)
  have f5 := mz_getattr_none
  unfold getAttr? getAttrBy? getAttrBy
  repeat (any_goals (first | assumption | exact hT _ | ((with_reducible show wpAny _ _ (call (Value.builtin "zip.__getattribute__") _ _) _ _ _); refine call_meets F.slot_zip_getattribute (hT _) mz_entry (F.args_zip_getattribute_2 _ _) (mz_meets a vs sl _ _ mz_keys_none (by decide) (by rw [sizeLine_eq]; decide)) ⟨hx, hA, fun h' tk' e hx' => ?_⟩) | wp_step))
  obtain ⟨t', u', he⟩ := hx'.there
  show wpAny _ _ (getattributeRaised _ _ _ _ _ _ _) _ _ _
  unfold getattributeRaised
  repeat (any_goals (first | assumption | wp_step))
  exact h _ _ hx'.keeps
end Mine
-- MZ2
namespace Mine
theorem wpAny_loadIfAliveM {M : Model} {A : Around} {E : Value → Shared → Prop} {s : Shared} {a : Addr} {Q : Option Obj → Shared → Prop} (h : Q (s.heap.get? a) s) : wpAny M A (loadIfAlive a) Q E s := fun _ _ _ => h
/-- a zip whose handed out pair is still held -/
noncomputable abbrev IsZipA (h : Heap) (z TI TO T : Addr) (f1 : Bool) : Prop :=
  h.get? z = some { cls := .type "zip", dict := none, data := .fields #[rawInt T, .bool f1, .bool false, .ref TI, .ref TO], slots := #[] }
section
variable {prog : Program} {w : World} {A : Around} {E : Value → Shared → Prop} {s : Shared}
theorem zipA_free {z TI TO T : Addr} {f1 : Bool} {oT : Obj} {Q : Bool → Shared → Prop} (hz : IsZipA s.heap z TI TO T f1) (hT : s.heap.get? T = some oT)
    (hQ : ∀ h', IsZipA h' z TI TO T true → Heap.SameBut z s.heap h' → Q false { s with heap := h' }) : wpAny (model prog w) A (Builtin.SmallTypes.ownedTupleIsFree (.ref z)) Q E s := by
  unfold Builtin.SmallTypes.ownedTupleIsFree
  refine wpAny_bind (wpAny_field hz rfl (x := rawInt T) rfl ?_)
  show wpAny _ _ (loadIfAlive ((T : Int)).toNat >>= _) _ _ _
  rw [Int.toNat_natCast]
  refine wpAny_bind (wpAny_loadIfAliveM ?_)
  rw [hT]
  simp only [Option.isNone_some, Bool.false_eq_true, if_false]
  refine wpAny_bind (wpAny_field hz rfl (x := .bool f1) rfl ?_)
  cases f1 with
  | true =>
    rw [if_neg (by decide)]
    exact wpAny_pure (hQ s.heap hz ⟨rfl, fun _ _ => rfl⟩)
  | false =>
    rw [if_pos (by decide)]
    refine wpAny_bind (wpAny_setField_rec hz (by simp) fun h₁ hz₁ hs₁ => wpAny_pure (hQ h₁ hz₁ hs₁))
theorem zipA_next {z TI TO i1 i2 l1 l2 T : Addr} {f1 : Bool} {oT : Obj} {k1 k2 : Nat} {xs ys : Array Value} {x y : Value} {Q : Value → Shared → Prop} (D : ZipApart z TI TO i1 i2 l1 l2)
    (hz : IsZipA s.heap z TI TO T f1) (hT : s.heap.get? T = some oT) (hTI : IsPair s.heap TI (.ref i1) (.ref i2))
    (h1 : s.heap.IsListIter i1 l1 k1) (h2 : s.heap.IsListIter i2 l2 k2) (hl1 : s.heap.IsList l1 xs) (hl2 : s.heap.IsList l2 ys) (hx : xs[k1]? = some x) (hy : ys[k2]? = some y)
    (hQ : ∀ h', IsZipA h' z TI TO T true → h'.IsListIter i1 l1 (k1 + 1) → h'.IsListIter i2 l2 (k2 + 1) → IsPair h' s.heap.objs.size x y → h'.objs.size = s.heap.objs.size + 1 →
      (∀ c o, c ≠ z → c ≠ i1 → c ≠ i2 → s.heap.get? c = some o → h'.get? c = some o) → Q (.ref s.heap.objs.size) { s with heap := h' }) :
    wpAny (model prog w) A (Builtin.«zip.__next__» ⟨[.ref z], []⟩) (fun fin s' => ∃ v, fin = .done (.ret v) ∧ Q v s') E s := by
  show wpAny _ _ (field (.ref z) 2 >>= _) _ _ _
  refine wpAny_bind (wpAny_field hz rfl (x := .bool false) rfl ?_)
  show wpAny _ _ (field (.ref z) 3 >>= _) _ _ _
  refine wpAny_bind (wpAny_field hz rfl (x := .ref TI) rfl ?_)
  refine wpAny_bind (wpAny_seqItems hTI rfl ?_)
  show wpAny _ _ (Builtin.SmallTypes.ownedTupleIsFree (.ref z) >>= _) _ _ _
  refine wpAny_bind (zipA_free hz hT fun h₁ hz₁ hs₁ => ?_)
  simp only [Bool.false_eq_true, if_false]
  refine wpAny_bind ?_
  simp only [← Array.forIn_toList, List.forIn_cons, List.forIn_nil]
  refine wpAny_bind ?_
  refine wpAny_bind (wpAny_holding ?_)
  show wpAny _ _ (Builtin.SmallTypes.nextOf (.ref i1) >>= _) _ _ _
  refine wpAny_bind (wpAny_nextOf_list_item (h1.extBut hs₁.extBut D.i1z) (hl1.extBut hs₁.extBut D.l1z) hx fun h₂ h1₂ hs₂ => wpAny_pure (wpAny_pure ?_))
  dsimp only
  refine wpAny_bind ?_
  refine wpAny_bind (wpAny_holding ?_)
  show wpAny _ _ (Builtin.SmallTypes.nextOf (.ref i2) >>= _) _ _ _
  refine wpAny_bind (wpAny_nextOf_list_item ((h2.extBut hs₁.extBut D.i2z).extBut hs₂.extBut D.i12.symm) ((hl2.extBut hs₁.extBut D.l2z).extBut hs₂.extBut D.l2i1) hy fun h₃ h2₃ hs₃ => wpAny_pure (wpAny_pure (wpAny_pure ?_)))
  dsimp only
  refine wpAny_bind (wpAny_newTuple (hsz := by show 2 ≤ sizeLine; rw [sizeLine_eq]; decide) ?_)
  have hsz : h₃.objs.size = s.heap.objs.size := by rw [hs₃.1, hs₂.1, hs₁.1]
  have hk₃ : ∀ c o, c ≠ z → c ≠ i1 → c ≠ i2 → s.heap.get? c = some o → h₃.get? c = some o := fun c o c1 c3 c4 e => hs₃.extBut _ _ c4 (hs₂.extBut _ _ c3 (hs₁.extBut _ _ c1 e))
  have hz₃ : IsZipA h₃ z TI TO T true := hs₃.extBut _ _ D.i2z.symm (hs₂.extBut _ _ D.i1z.symm hz₁)
  have h1₃ : h₃.IsListIter i1 l1 (k1 + 1) := h1₂.extBut hs₃.extBut D.i12
  refine wpAny_pure ⟨_, rfl, ?_⟩
  show Q (.ref h₃.objs.size) _
  rw [hsz]
  have p : IsPair (h₃.push { cls := .type "tuple", data := .seq #[x, y] }) s.heap.objs.size x y := by
    have := Heap.get?_push_size h₃ (o := { cls := .type "tuple", data := .seq #[x, y] }) rfl
    rw [hsz] at this
    exact this
  exact hQ _ (Heap.get?_push_of_some _ hz₃) (h1₃.at fun o e => Heap.get?_push_of_some _ e) (h2₃.at fun o e => Heap.get?_push_of_some _ e) p (by rw [Heap.size_push, hsz]) fun c o c1 c3 c4 e => Heap.get?_push_of_some _ (hk₃ c o c1 c3 c4 e)
theorem zipA_end {z TI TO i1 i2 l1 l2 T : Addr} {f1 : Bool} {oT : Obj} {k1 : Nat} {xs : Array Value} {Q : Fin → Shared → Prop} (hh : A.handled = none) (D : ZipApart z TI TO i1 i2 l1 l2)
    (hz : IsZipA s.heap z TI TO T f1) (hT : s.heap.get? T = some oT) (hTI : IsPair s.heap TI (.ref i1) (.ref i2))
    (h1 : s.heap.IsListIter i1 l1 k1) (hl1 : s.heap.IsList l1 xs) (hend : xs[k1]? = none)
    (hE : ∀ h' e, (∀ c o, c ≠ z → c ≠ i1 → c ≠ i2 → s.heap.get? c = some o → h'.get? c = some o) → (∃ o, h'.get? e = some o ∧ o.cls = .type "StopIteration") → E (.ref e) { s with heap := h' }) :
    wpAny (model prog w) A (Builtin.«zip.__next__» ⟨[.ref z], []⟩) Q E s := by
  show wpAny _ _ (field (.ref z) 2 >>= _) _ _ _
  refine wpAny_bind (wpAny_field hz rfl (x := .bool false) rfl ?_)
  show wpAny _ _ (field (.ref z) 3 >>= _) _ _ _
  refine wpAny_bind (wpAny_field hz rfl (x := .ref TI) rfl ?_)
  refine wpAny_bind (wpAny_seqItems hTI rfl ?_)
  show wpAny _ _ (Builtin.SmallTypes.ownedTupleIsFree (.ref z) >>= _) _ _ _
  refine wpAny_bind (zipA_free hz hT fun h₁ hz₁ hs₁ => ?_)
  simp only [Bool.false_eq_true, if_false]
  refine wpAny_bind ?_
  simp only [← Array.forIn_toList, List.forIn_cons, List.forIn_nil]
  refine wpAny_bind ?_
  refine wpAny_bind (wpAny_holding ?_)
  show wpAny _ _ (Builtin.SmallTypes.nextOf (.ref i1) >>= _) _ _ _
  exact wpAny_bind (wpAny_nextOf_list_end hh (h1.extBut hs₁.extBut D.i1z) (hl1.extBut hs₁.extBut D.l1z) hend fun h₂ e hs₂ he => hE h₂ e (fun c o c1 c3 _ x => hs₂ _ _ c3 (hs₁.extBut _ _ c1 x)) he)
theorem pyNext_zipA {z TI TO i1 i2 l1 l2 T : Addr} {f1 : Bool} {oT : Obj} {k1 k2 : Nat} {xs ys : Array Value} {x y : Value} {Q : Option Value → Shared → Prop} (D : ZipApart z TI TO i1 i2 l1 l2)
    (hz : IsZipA s.heap z TI TO T f1) (hT : s.heap.get? T = some oT) (hTI : IsPair s.heap TI (.ref i1) (.ref i2))
    (h1 : s.heap.IsListIter i1 l1 k1) (h2 : s.heap.IsListIter i2 l2 k2) (hl1 : s.heap.IsList l1 xs) (hl2 : s.heap.IsList l2 ys) (hx : xs[k1]? = some x) (hy : ys[k2]? = some y)
    (hQ : ∀ h', IsZipA h' z TI TO T true → h'.IsListIter i1 l1 (k1 + 1) → h'.IsListIter i2 l2 (k2 + 1) → IsPair h' s.heap.objs.size x y → h'.objs.size = s.heap.objs.size + 1 →
      (∀ c o, c ≠ z → c ≠ i1 → c ≠ i2 → s.heap.get? c = some o → h'.get? c = some o) → Q (some (.ref s.heap.objs.size)) { s with heap := h' }) :
    wpAny (model prog w) A (pyNext (.ref z)) Q E s := by
  have hTy : s.TypeIs (.ref z) "zip" := ⟨_, hz, rfl⟩
  unfold pyNext
  exact wpAny_bind (wpAny_attempt (wpAny_callSpecial?_slot (name := Str.ofString "__next__") hTy F.slot_zip_next
    (wpAny_call_entry F.slot_zip_next hTy F.entry_zip_next
      (zipA_next D hz hT hTI h1 h2 hl1 hl2 hx hy fun h' a1 a2 a3 a4 a5 a6 => wpAny_pure (hQ h' a1 a2 a3 a4 a5 a6)) (F.args_zip_next_1 _))))
theorem pyNext_zipA_end {z TI TO i1 i2 l1 l2 T : Addr} {f1 : Bool} {oT : Obj} {k1 : Nat} {xs : Array Value} {Q : Option Value → Shared → Prop} (hh : A.handled = none) (D : ZipApart z TI TO i1 i2 l1 l2)
    (hz : IsZipA s.heap z TI TO T f1) (hT : s.heap.get? T = some oT) (hTI : IsPair s.heap TI (.ref i1) (.ref i2))
    (h1 : s.heap.IsListIter i1 l1 k1) (hl1 : s.heap.IsList l1 xs) (hend : xs[k1]? = none)
    (hQ : ∀ h', (∀ c o, c ≠ z → c ≠ i1 → c ≠ i2 → s.heap.get? c = some o → h'.get? c = some o) → Q none { s with heap := h' }) : wpAny (model prog w) A (pyNext (.ref z)) Q E s := by
  have hTy : s.TypeIs (.ref z) "zip" := ⟨_, hz, rfl⟩
  unfold pyNext
  refine wpAny_bind (wpAny_attempt (wpAny_callSpecial?_slot (name := Str.ofString "__next__") hTy F.slot_zip_next
    (wpAny_call_entry F.slot_zip_next hTy F.entry_zip_next (zipA_end hh D hz hT hTI h1 hl1 hend fun h' e hk he => ?_) (F.args_zip_next_1 _))))
  obtain ⟨o, ho, hc⟩ := he
  refine wpAny_bind (wpAny_isInstance (T := "StopIteration") (b := true) ⟨o, ho, hc⟩ isSubtype_stop ?_)
  exact wpAny_pure (hQ _ hk)
end
end Mine
-- MZ3
namespace Mine
theorem dz_entry : entryFor table "dict.update.loop" = some Builtin.«dict.update.loop» := entryFor_of_tree (by kernel_rfl)
theorem dz_plain : plainId "dict.update.loop" = true := by decide +kernel
noncomputable def ZS (i : Nat) (h : Heap) (z TI TO : Addr) : Prop := (i = 0 ∧ IsZip h z TI TO .none ∧ ∃ a b, IsPair h TO a b) ∨ ∃ T f1 oT, IsZipA h z TI TO T f1 ∧ h.get? T = some oT ∧ T ≠ z
section
variable {prog : Program} {w : World} {A : Around} {E : Value → Shared → Prop} {s : Shared}
theorem pyNext_ZS {z TI TO i1 i2 l1 l2 : Addr} {k : Nat} {xs ys : Array Value} {x y : Value} {Q : Option Value → Shared → Prop} (D : ZipApart z TI TO i1 i2 l1 l2)
    (hz : ZS k s.heap z TI TO) (hTI : IsPair s.heap TI (.ref i1) (.ref i2))
    (h1 : s.heap.IsListIter i1 l1 k) (h2 : s.heap.IsListIter i2 l2 k) (hl1 : s.heap.IsList l1 xs) (hl2 : s.heap.IsList l2 ys) (hx : xs[k]? = some x) (hy : ys[k]? = some y)
    (hQ : ∀ h', ZS (k + 1) h' z TI TO → h'.IsListIter i1 l1 (k + 1) → h'.IsListIter i2 l2 (k + 1) → IsPair h' s.heap.objs.size x y → h'.objs.size = s.heap.objs.size + 1 →
      (∀ c o, c ≠ z → c ≠ TO → c ≠ i1 → c ≠ i2 → s.heap.get? c = some o → h'.get? c = some o) → Q (some (.ref s.heap.objs.size)) { s with heap := h' }) :
    wpAny (model prog w) A (pyNext (.ref z)) Q E s := by
  rcases hz with ⟨rfl, hz, a, b, hTO⟩ | ⟨T, f1, oT, hz, hT, hTz⟩
  · have hlt : z < s.heap.objs.size := Heap.lt_size hz
    refine wpAny_pyNext_zip_item D hz hTI hTO h1 h2 hl1 hl2 hx hy fun h' a1 a2 a3 a4 a5 a6 hk => hQ h' (.inr ⟨_, false, _, a1, a5, Nat.ne_of_gt hlt⟩) a3 a4 a5 a6 hk
  · refine pyNext_zipA D hz hT hTI h1 h2 hl1 hl2 hx hy fun h' a1 a2 a3 a4 a5 hk => ?_
    have keepT : ∃ oT', h'.get? T = some oT' := by
      by_cases e1 : T = i1
      · obtain ⟨o, ho, _⟩ := a2; exact ⟨o, e1 ▸ ho⟩
      · by_cases e2 : T = i2
        · obtain ⟨o, ho, _⟩ := a3; exact ⟨o, e2 ▸ ho⟩
        · exact ⟨oT, hk T oT hTz e1 e2 hT⟩
    obtain ⟨oT', hT'⟩ := keepT
    exact hQ h' (.inr ⟨T, true, oT', a1, hT', hTz⟩) a2 a3 a4 a5 fun c o c1 _ c3 c4 e => hk c o c1 c3 c4 e
theorem pyNext_ZS_end {z TI TO i1 i2 l1 l2 : Addr} {k : Nat} {xs ys : Array Value} {Q : Option Value → Shared → Prop} (hh : A.handled = none) (D : ZipApart z TI TO i1 i2 l1 l2)
    (hz : ZS k s.heap z TI TO) (hTI : IsPair s.heap TI (.ref i1) (.ref i2))
    (h1 : s.heap.IsListIter i1 l1 k) (h2 : s.heap.IsListIter i2 l2 k) (hl1 : s.heap.IsList l1 xs) (hl2 : s.heap.IsList l2 ys) (hend : xs[k]? = none)
    (hQ : ∀ h', (∀ c o, c ≠ z → c ≠ TO → c ≠ i1 → c ≠ i2 → s.heap.get? c = some o → h'.get? c = some o) → Q none { s with heap := h' }) : wpAny (model prog w) A (pyNext (.ref z)) Q E s := by
  rcases hz with ⟨rfl, hz, a, b, hTO⟩ | ⟨T, f1, oT, hz, hT, hTz⟩
  · exact wpAny_pyNext_zip_end hh D hz hTI hTO h1 h2 hl1 hl2 (.inl hend) hQ
  · exact pyNext_zipA_end hh D hz hT hTI h1 hl1 hend fun h' hk => hQ h' fun c o c1 _ c3 c4 e => hk c o c1 c3 c4 e
theorem pairItems_pair {T : Addr} {x y : Value} {Q : List Value → Shared → Prop} (hT : IsPair s.heap T x y) (h : Q [x, y] s) : wpAny (model prog w) A (Builtin.Dict.pairItems (.ref T)) Q E s := by
  have hTy : s.TypeIs (.ref T) "tuple" := ⟨_, hT, rfl⟩
  unfold Builtin.Dict.pairItems
  refine wpAny_bind (wpAny_typeOf hTy ?_)
  rw [if_pos (by decide)]
  refine wpAny_bind (wpAny_seqItems hT rfl (wpAny_pure ?_))
  simpa using h
theorem stored_new {kvs : List (Str × Value)} {k : Str} {v : Value} (h : k ∉ kvs.map (·.1)) : stored kvs k v = kvs ++ [(k, v)] := by
  unfold stored
  rw [if_neg]
  intro hc
  obtain ⟨p, hp, e⟩ := List.any_eq_true.mp hc
  exact h (List.mem_map.mpr ⟨p, hp, by simpa using e⟩)
/-- the loop that takes a zip's pairs into a dict -/
theorem dz_loop {z TI TO i1 i2 l1 l2 d : Addr} {ps : List (Str × Tok)} {vs2 : List Value} (hh : A.handled = none) (D : ZipApart z TI TO i1 i2 l1 l2) (hlen : ps.length = vs2.length) (hnd : (ps.map (·.1)).Nodup) (hsz : ps.length < 1000)
    (dz : d ≠ z) (dTI : d ≠ TI) (dTO : d ≠ TO) (d1 : d ≠ i1) (d2 : d ≠ i2) (dl1 : d ≠ l1) (dl2 : d ≠ l2) :
    ∀ (k i : Nat) (s : Shared) (c : Int) (R : Result → Shared → Prop), i + k = ps.length → ZS i s.heap z TI TO → IsPair s.heap TI (.ref i1) (.ref i2) → s.heap.IsListIter i1 l1 i → s.heap.IsListIter i2 l2 i → s.heap.IsList l1 (strValues ps).toArray → s.heap.IsList l2 vs2.toArray →
      s.heap.DictOf (PySem.strKind prog w) d (((ps.map (·.1)).zip vs2).take i) →
      (∀ h' tk, h'.DictOf (PySem.strKind prog w) d ((ps.map (·.1)).zip vs2) → (∀ b o, b ≠ d → b ≠ z → b ≠ TO → b ≠ i1 → b ≠ i2 → s.heap.get? b = some o → h'.get? b = some o) → R (.ok (.ret .none)) { s with heap := h', toks := tk }) →
      codeAny (model prog w) A (.builtin "dict.update.loop" ⟨[.ref d, .ref z, .int c 0, .none], []⟩) R s := by
  intro k
  induction k with
  | zero =>
    intro i s c R hi hz hTI h1 h2 hl1 hl2 hd fin
    have e : i = ps.length := by lia
    subst e
    refine codeAny_builtin dz_entry ?_
    rw [Around.under_plainId dz_plain]
    unfold Builtin.«dict.update.loop»
    dsimp only
    refine wpAny_bind (pyNext_ZS_end (A := A.in1) hh D hz hTI h1 h2 hl1 hl2 (by simp [strValues]) fun h' hk => ?_)
    dsimp only
    show wpAny _ _ (Builtin.Dict.addKeywords d [] >>= _) _ _ _
    refine wpAny_bind (wpAny_pure (wpAny_pure ?_))
    have hfull : ((ps.map (·.1)).zip vs2).take ps.length = (ps.map (·.1)).zip vs2 := List.take_of_length_le (by simp [hlen])
    rw [hfull] at hd
    obtain ⟨o, hod, hr⟩ := Heap.dictOf_iff.mp hd
    exact fin h' _ (Heap.dictOf_iff.mpr ⟨o, hk d o dz dTO d1 d2 hod, hr⟩) fun b o hb bz bTO b1 b2 e => hk b o bz bTO b1 b2 e
  | succ k ih =>
    intro i s c R hi hz hTI h1 h2 hl1 hl2 hd fin
    have hlt : i < ps.length := by lia
    have hlt2 : i < vs2.length := by lia
    refine codeAny_builtin dz_entry ?_
    rw [Around.under_plainId dz_plain]
    unfold Builtin.«dict.update.loop»
    dsimp only
    refine wpAny_bind (pyNext_ZS (A := A.in1) (x := .str ps[i].1 ps[i].2) (y := vs2[i]) D hz hTI h1 h2 hl1 hl2 (by simp [strValues, hlt]) (by simp [hlt2]) fun h' hz' h1' h2' hT' hs' hk => ?_)
    dsimp only
    refine wpAny_bind (wpAny_holding ?_)
    refine wpAny_bind (wpAny_tryCatch (pairItems_pair hT' ?_))
    dsimp only
    obtain ⟨o, hod, hr⟩ := Heap.dictOf_iff.mp hd
    have hdlt : @LT.lt Nat _ d s.heap.objs.size := Heap.lt_size hod
    have hd' : h'.DictOf (PySem.strKind prog w) d (((ps.map (·.1)).zip vs2).take i) := Heap.dictOf_iff.mpr ⟨o, hk d o dz dTO d1 d2 hod, hr⟩
    have hz9 : (((ps.map (·.1)).zip vs2).take i).length ≤ sizeLine := by
      rw [sizeLine_eq, List.length_take]
      lia
    refine wpAny_holding (wpAny_dictSet_pairs (k := ps[i].1) (strKind_is _ _ _ _) hd' (hsz := hz9) fun h₂ hd₂ hs₂ => ?_)
    refine wpAny_pure ⟨Code.quiet_builtin _ (by decide +kernel), ?_⟩
    have hzip : ((ps.map (·.1)).zip vs2)[i]? = some (ps[i].1, vs2[i]) := by simp [List.getElem?_zip_eq_some, hlt, hlt2]
    have hst : stored (((ps.map (·.1)).zip vs2).take i) ps[i].1 vs2[i] = ((ps.map (·.1)).zip vs2).take (i + 1) := by
      rw [stored_new, List.take_add_one, hzip]
      · rfl
      · rw [List.map_take, List.map_fst_zip (by simp [hlen])]
        intro hm
        obtain ⟨j, hj, hje⟩ := List.mem_take_iff_getElem.mp hm
        have := List.pairwise_iff_getElem.mp hnd j i (by lia) (by simpa using hlt) (by lia)
        apply this
        rw [hje]
        simp
    rw [hst] at hd₂
    have up : ∀ b o, b ≠ d → b ≠ z → b ≠ TO → b ≠ i1 → b ≠ i2 → s.heap.get? b = some o → h₂.get? b = some o := fun b o hb bz bTO b1 b2 e => hs₂.extBut _ _ hb (hk b o bz bTO b1 b2 e)
    refine ih (i + 1) _ (c + 1) R (by lia) ?_ (hs₂.extBut _ _ dTI.symm (hk TI _ D.TIz D.TITO D.TIi1 D.TIi2 hTI)) (h1'.extBut hs₂.extBut d1.symm) (h2'.extBut hs₂.extBut d2.symm)
      ((hl1.at fun o e => hk l1 o D.l1z D.l1TO D.l1i1 D.l1i2 e).extBut hs₂.extBut dl1.symm) ((hl2.at fun o e => hk l2 o D.l2z D.l2TO D.l2i1 D.l2i2 e).extBut hs₂.extBut dl2.symm) hd₂ fun h₃ tk hd₃ hk₃ => fin h₃ tk hd₃ fun b o hb bz bTO b1 b2 e => hk₃ b o hb bz bTO b1 b2 (up b o hb bz bTO b1 b2 e)
    rcases hz' with ⟨h0, _⟩ | ⟨T, f1, oT, a1, a2, a3⟩
    · lia
    · have keepT : ∃ oT', h₂.get? T = some oT' := by
        by_cases e1 : T = d
        · obtain ⟨o', ho', _⟩ := Heap.dictOf_iff.mp hd₂
          exact ⟨o', e1 ▸ ho'⟩
        · exact ⟨oT, hs₂.extBut _ _ e1 a2⟩
      obtain ⟨oT', hT2⟩ := keepT
      exact .inr ⟨T, f1, oT', hs₂.extBut _ _ dz.symm a1, hT2, a3⟩
end
end Mine
-- MZ4
namespace Mine
noncomputable def ZipNew (h₀ : Heap) (L : Addr) (news : List (Addr × Obj)) (h : Heap) (z l1 l2 : Addr) : Prop :=
  ∃ TI TO i1 i2, ZipApart z TI TO i1 i2 l1 l2 ∧ IsZip h z TI TO .none ∧ IsPair h TI (.ref i1) (.ref i2) ∧ (∃ a b, IsPair h TO a b) ∧ h.IsListIter i1 l1 0 ∧ h.IsListIter i2 l2 0 ∧
    ∀ b, (b = z ∨ b = TO ∨ b = i1 ∨ b = i2) → h₀.get? b = none ∧ b ≠ L ∧ ∀ p ∈ news, p.1 ≠ b
section
variable {prog : Program} {w : World} {A : Around} {E : Value → Shared → Prop} {s : Shared} {h₀ : Heap} {L : Addr} {m : Str → Option Value} {news : List (Addr × Obj)}
theorem call_zip_K {l1 l2 : Addr} {vs1 vs2 : List Value} {n1 n2 : Nat} {Q : Value → Shared → Prop} (F : Fr h₀ L s.heap m) (N : News h₀ L s.heap news) (hl1 : (l1, listOf vs1.toArray n1) ∈ news) (hl2 : (l2, listOf vs2.toArray n2) ∈ news)
    (h : ∀ z h', Fr h₀ L h' m → News h₀ L h' news → ZipNew h₀ L news h' z l1 l2 → Q (.ref z) { s with heap := h' }) : wpAny (model prog w) A (call (.type "zip") [.ref l1, .ref l2]) Q E s := by
  have g1 := (N _ hl1).1
  have g2 := (N _ hl2).1
  have a1 : @LT.lt Nat _ l1 s.heap.objs.size := Heap.lt_size g1
  have a2 : @LT.lt Nat _ l2 s.heap.objs.size := Heap.lt_size g2
  have hLs : @LT.lt Nat _ L s.heap.objs.size := F.ns.lt
  have hab : @LE.le Nat _ h₀.objs.size L := F.above
  refine call_zip_2 ⟨_, g1, rfl, n1, rfl⟩ ⟨_, g2, rfl, n2, rfl⟩ fun h' hz hTI hTO hit1 hit2 hsz hkp => ?_
  refine h _ h' ⟨F.ns.keeps hkp, fun b o e => hkp b o (F.keep b o e), F.above⟩ (fun p hp => ⟨hkp _ _ (N p hp).1, (N p hp).2⟩) ⟨_, _, _, _, zipApart_new a1 a2, hz, hTI, ⟨_, _, hTO⟩, hit1, hit2, fun b hb => ?_⟩
  have nw : ∀ k : Nat, h₀.get? (s.heap.objs.size + k) = none ∧ s.heap.objs.size + k ≠ L ∧ ∀ p ∈ news, p.1 ≠ s.heap.objs.size + k := fun k => by
    refine ⟨Heap.get?_none_of_le (show @LE.le Nat _ _ _ by lia), fun e => ?_, fun p hp e => ?_⟩
    · exact absurd hLs (by rw [← e]; lia)
    · have h9 : @LT.lt Nat _ p.1 s.heap.objs.size := Heap.lt_size (N p hp).1
      exact absurd h9 (by rw [e]; lia)
  rcases hb with rfl | rfl | rfl | rfl
  · exact nw 4
  · exact nw 3
  · exact nw 0
  · exact nw 1
theorem call_dict_zip {z l1 l2 : Addr} {ps : List (Str × Tok)} {vs2 : List Value} {n1 n2 : Nat} {Q : Value → Shared → Prop} (hh : A.handled = none) (F : Fr h₀ L s.heap m) (N : News h₀ L s.heap news) (hbig : h₀.NoLimit) (hz : ZipNew h₀ L news s.heap z l1 l2)
    (hl1 : (l1, listOf (strValues ps).toArray n1) ∈ news) (hl2 : (l2, listOf vs2.toArray n2) ∈ news) (hlen : ps.length = vs2.length) (hnd : (ps.map (·.1)).Nodup) (hsz : ps.length < 1000)
    (h : ∀ D o h' tk, Fr h₀ L h' m → News h₀ L h' ((D, o) :: news) → o.IsDictOf (PySem.strKind prog w) ((ps.map (·.1)).zip vs2) → (D == sysModules) = false → (∀ p ∈ news, p.1 < D) → Q (.ref D) { s with heap := h', toks := tk }) :
    wpAny (model prog w) A (call (.type "dict") [.ref z]) Q E s := by
  obtain ⟨TI, TO, i1, i2, D, hZ, hTI, ⟨ta, tb, hTO⟩, hi1, hi2, hoff⟩ := hz
  refine callType_codes (Q₁ := fun obj s₁ => obj = .ref s.heap.objs.size ∧ s₁ = { s with heap := s.heap.push { cls := .type "dict", data := .dict #[] } }) PySem.F.kt_called_dict (PySem.F.kt_typeCall_dict_1 _) PySem.F.entry_dict_init (kt_code_dict_new _ ⟨rfl, rfl⟩) ?_
  rintro obj s₁ ⟨rfl, rfl⟩
  have hnew : (s.heap.push { cls := .type "dict", data := .dict #[] }).DictOf (PySem.strKind prog w) s.heap.objs.size [] := Heap.DictOf.new s.heap
  have zT : ∀ tk h', h'.get? z = some { cls := .type "zip", dict := none, data := .fields #[.none, .bool false, .bool false, .ref TI, .ref TO], slots := #[] } → (({ s with heap := h', toks := tk } : Shared)).TypeIs (.ref z) "zip" := fun _ _ e => ⟨_, e, rfl⟩
  have hZ' := Heap.get?_push_of_some { cls := .type "dict", data := .dict #[] } hZ
  refine ⟨hnew.typeIs, PySem.F.args_dict_init_2 _ _, ?_⟩
  unfold Builtin.«dict.__init__»
  refine wpAny_bind ?_
  unfold Builtin.Dict.selfAndRest
  refine wpAny_bind (wpAny_notOrdered_dict hnew.typeIs ?_)
  show wpAny _ _ (pure (s.heap.objs.size, [Value.ref z])) _ _ _
  refine wpAny_pure ?_
  show wpAny _ _ (Builtin.Dict.updateFrom "dict.__init__" s.heap.objs.size (.ref z) [] .none) _ _ _
  unfold Builtin.Dict.updateFrom
  refine wpAny_bind (wpAny_typeOf (T := "zip") ⟨_, hZ', rfl⟩ ?_)
  rw [if_pos (by decide)]
  refine wpAny_bind (mz_getAttr hZ' hh fun h₁ tk₁ hk₁ => ?_)
  simp only [Option.isNone_none, if_true]
  refine wpAny_bind (wpAny_rule ?_)
  refine wpAny_bind (wpAny_pyIter_zip (TI := TI) (TO := TO) (f0 := .none) (hk₁ _ _ hZ') ?_)
  have up : ∀ b o, s.heap.get? b = some o → h₁.get? b = some o := fun b o e => hk₁ b o (Heap.get?_push_of_some _ e)
  have lt : ∀ b o, s.heap.get? b = some o → s.heap.objs.size ≠ b := fun b o e => Nat.ne_of_gt (Heap.lt_size e)
  have ho1 : ∃ o, s.heap.get? i1 = some o := by obtain ⟨o, e, _⟩ := hi1; exact ⟨o, e⟩
  have ho2 : ∃ o, s.heap.get? i2 = some o := by obtain ⟨o, e, _⟩ := hi2; exact ⟨o, e⟩
  obtain ⟨o1, e1⟩ := ho1
  obtain ⟨o2, e2⟩ := ho2
  have hd₁ : h₁.DictOf (PySem.strKind prog w) s.heap.objs.size (((ps.map (·.1)).zip vs2).take 0) := by
    obtain ⟨o, ho, hr⟩ := Heap.dictOf_iff.mp hnew
    exact Heap.dictOf_iff.mpr ⟨o, hk₁ _ _ ho, hr⟩
  refine wpAny_pure ⟨Code.quiet_builtin _ (by decide +kernel), ?_⟩
  refine dz_loop (A := A.in1) hh D hlen hnd hsz (lt _ _ hZ) (lt _ _ hTI) (lt _ _ hTO) (lt _ _ e1) (lt _ _ e2) (lt _ _ (N _ hl1).1) (lt _ _ (N _ hl2).1) ps.length 0 _ 0 _ (by lia) (.inl ⟨rfl, up _ _ hZ, ta, tb, up _ _ hTO⟩) (up _ _ hTI) (hi1.at fun o e => up _ _ e) (hi2.at fun o e => up _ _ e)
    ⟨_, up _ _ (N _ hl1).1, rfl, n1, rfl⟩ ⟨_, up _ _ (N _ hl2).1, rfl, n2, rfl⟩ hd₁ fun h' tk hd' hk' => ?_
  obtain ⟨o, hod, hr⟩ := Heap.dictOf_iff.mp hd'
  have keep : ∀ b ob, s.heap.get? b = some ob → (b ≠ z ∧ b ≠ TO ∧ b ≠ i1 ∧ b ≠ i2) → h'.get? b = some ob := fun b ob e ⟨c1, c2, c3, c4⟩ => hk' b ob (lt b ob e).symm c1 c2 c3 c4 (up _ _ e)
  have offs : ∀ b, (∀ c, (c = z ∨ c = TO ∨ c = i1 ∨ c = i2) → b ≠ c) → b ≠ z ∧ b ≠ TO ∧ b ≠ i1 ∧ b ≠ i2 := fun b k => ⟨k z (.inl rfl), k TO (.inr (.inl rfl)), k i1 (.inr (.inr (.inl rfl))), k i2 (.inr (.inr (.inr rfl)))⟩
  have hLlt : L < s.heap.objs.size := F.ns.lt
  refine ⟨rfl, h _ o h' tk ⟨F.ns.at' fun o e => keep L o e (offs L fun c hc => ((hoff c hc).2.1).symm), fun b ob e => keep b ob (F.keep b ob e) (offs b fun c hc q => ?_), F.above⟩ (fun p hp => ?_) hr (F.notModules (modules_low hbig)) fun p hp => Heap.lt_size (N p hp).1⟩
  · rw [q, (hoff c hc).1] at e
    cases e
  · rcases List.mem_cons.mp hp with rfl | hp
    · exact ⟨hod, Nat.ne_of_gt hLlt, Heap.get?_none_of_le (Nat.le_trans F.above (Nat.le_of_lt hLlt))⟩
    · exact ⟨keep _ _ (N p hp).1 (offs p.1 fun c hc => (hoff c hc).2.2 p hp), (N p hp).2⟩
end
end Mine
-- ML12
namespace Mine
theorem kms_lo_nat (i n : Nat) : kms_lo (some (i : Int)) n = min i n := by
  show (if (i : Int) < 0 then n - (-(i : Int)).toNat else min (i : Int).toNat n) = _
  rw [if_neg (by omega), Int.toNat_natCast]
theorem kms_hi_nat (i n : Nat) : kms_hi (some (i : Int)) n = min i n := by
  show (if (i : Int) < 0 then n - (-(i : Int)).toNat else min (i : Int).toNat n) = _
  rw [if_neg (by omega), Int.toNat_natCast]
theorem kms_drop (os : List (Str × Tok)) (i : Nat) : kms_pick (strValues os).toArray.toList (some (i : Int)) none = strValues (os.drop i) := by
  unfold kms_pick
  rw [kms_lo_nat, List.toList_toArray, kmk_drop_min, show kms_hi none (strValues os).length = (strValues os).length from rfl, List.take_of_length_le (by rw [List.length_drop]; omega)]
  unfold strValues
  rw [List.map_drop]
theorem kms_take (os : List (Str × Tok)) (i : Nat) : kms_pick (strValues os).toArray.toList none (some (i : Int)) = strValues (os.take i) := by
  unfold kms_pick
  rw [kms_hi_nat, List.toList_toArray, show kms_lo none (strValues os).length = 0 from rfl, List.drop_zero, Nat.sub_zero, kmk_take_min]
  unfold strValues
  rw [List.map_take]
section
variable {prog : Program} {w : World} {A : Around} {E : Value → Shared → Prop} {s : Shared} {env : Env} {h₀ : Heap} {xi xc x : Str} {body : List Stmt} {Q : Flow → Shared → Prop}
/-- a search over enumerate of a list of texts: nothing is kept but what P says -/
theorem enum_search {l : Addr} {os : List (Str × Tok)} {n1 : Nat} {m₀ : Str → Option Value} {news : List (Addr × Obj)} (stored : List Str) (P : Nat → Prop)
    (hh : A.handled = none) (hl : (l, listOf (strValues os).toArray n1) ∈ news) (F : Fr h₀ env.locals s.heap m₀) (N : News h₀ env.locals s.heap news) (hp : P 0)
    (turn : ∀ i y t ti (u : Str → Option Value) h tk own, os[i]? = some (y, t) → OwnOff own (news.map (·.1)) → P i →
      Fr h₀ env.locals h (fun z => if z = xc then some (.str y t) else if z = xi then some (.int (i : Nat) ti) else if stored.contains z then u z else m₀ z) → News h₀ env.locals h (news ++ own) →
      wpAny (model prog w) A (execs body env) (InvPostN h₀ env.locals (TurnP (fun _ : Unit => news) (fun _ => []) stored xi xc m₀ (fun _ => P (i + 1))) own (news.map (·.1)) { s with heap := h, toks := tk } Q) E { s with heap := h, toks := tk })
    (done : ∀ (u : Str → Option Value) h tk, P os.length → Fr h₀ env.locals h (fun z => if z = xc then u z else if z = xi then u z else if stored.contains z then u z else m₀ z) → News h₀ env.locals h news → Q .next { s with heap := h, toks := tk }) :
    wpAny (model prog w) A (call (.type "enumerate") [.ref l]) (fun xv s₁ => wpAny (model prog w) A (pyIter xv) (fun it s₂ => PairAt3 prog w A h₀ env xi xc body Q E it s₂) E s₁) E s := by
  have g1 := (N _ hl).1
  have hls : s.heap.IsList l (strValues os).toArray := ⟨_, g1, rfl, n1, rfl⟩
  have a1 : @LT.lt Nat _ l s.heap.objs.size := Heap.lt_size g1
  have hLs : @LT.lt Nat _ env.locals s.heap.objs.size := F.ns.lt
  have hab : @LE.le Nat _ h₀.objs.size env.locals := F.above
  have up : ∀ k : Nat, env.locals ≠ s.heap.objs.size + k := fun k e => absurd hLs (by rw [e]; omega)
  refine call_enumerate_list hls fun h' he hit hsz' hkp => ?_
  have W := WalksT.enumerate (prog := prog) (w := w) hh (s.heap.objs.size + 1) s.heap.objs.size l (Nat.ne_of_gt (Nat.lt_succ_self _)) (Nat.ne_of_lt (Nat.lt_succ_of_lt a1)) (Nat.ne_of_lt a1) (strValues os).toArray
  have hst : (∃ old, IsEnum h' (s.heap.objs.size + 1) s.heap.objs.size (0 : Nat) old) ∧ h'.IsListIter s.heap.objs.size l 0 ∧ h'.IsList l (strValues os).toArray := ⟨⟨_, he⟩, hit, hls.at fun o e => hkp l o e⟩
  refine W.self 0 _ _ _ hst ?_
  have hn : (strValues os).toArray.size = os.length := by simp [strValues]
  rw [hn] at W
  have hnew : ∀ k : Nat, ∀ q ∈ news, s.heap.objs.size + k ≠ q.1 := fun k q hq e => by
    have h9 : @LT.lt Nat _ q.1 s.heap.objs.size := Heap.lt_size (N q hq).1
    rw [← e] at h9
    exact absurd h9 (by omega)
  refine loopP [(l, listOf (strValues os).toArray n1)] (fun i => TurnP (fun _ : Unit => news) (fun _ => []) stored xi xc m₀ (fun _ => P i)) W (P2 := fun i v0 v1 => (∃ t, v0 = .int (i : Nat) t) ∧ ∃ y t, os[i]? = some (y, t) ∧ v1 = .str y t) (fun i vals h => ?_) (fun hm => ?_) (fun b hb => ?_) (fun p hp hm => ?_) (fun b hb => ?_) hst
    ⟨F.ns.keeps hkp, fun b o e => hkp b o (F.keep b o e), F.above⟩ (fun p hp => ⟨hkp _ _ (N p hp).1, (N p hp).2⟩) (fun p hp => ?_) ⟨(), rfl, fun _ h => (nomatch h), fun _ _ _ _ _ => rfl, hp⟩ ?_ ?_
  · obtain ⟨t, y, hy, rfl⟩ := h
    obtain ⟨a, ha, e⟩ := strs_at hy
    exact ⟨_, y, rfl, ⟨t, rfl⟩, a.1, a.2, ha, e⟩
  · simp only [List.mem_cons, List.not_mem_nil, or_false] at hm
    rcases hm with e | e | e
    · exact up 1 e
    · exact up 0 e
    · exact (N _ hl).2.1 e.symm
  · have nw : ∀ k : Nat, h₀.get? (s.heap.objs.size + k) = none := fun k => Heap.get?_none_of_le (show @LE.le Nat _ _ _ by omega)
    simp only [List.mem_cons, List.not_mem_nil, or_false] at hb
    rcases hb with rfl | rfl
    · exact nw 1
    · exact nw 0
  · simp only [List.mem_cons, List.not_mem_nil, or_false] at hm
    rcases hm with e | e
    · exact hnew 1 p hp e.symm
    · exact hnew 0 p hp e.symm
  · simp only [List.mem_cons, List.not_mem_nil, or_false] at hb
    rcases hb with rfl | rfl | rfl
    · exact .inl (hnew 1)
    · exact .inl (hnew 0)
    · exact .inr ⟨_, .head _⟩
  · rw [List.mem_singleton.mp hp]
    exact hl
  · rintro i v0 v1 m₁ nx h tk own _ ⟨⟨t, rfl⟩, y, ty, hy, rfl⟩ _ _ hoff ⟨_, rfl, h1, h2, hP⟩ F₁ N₁
    refine wpAny_mono (turn i y ty t m₁ h tk own hy hoff hP (pr_map h1 h2 F₁) N₁) (fun f s₂ g => ?_) fun _ _ e => e
    refine invPost_mono (fun m nx hT => ⟨fun p hp => ?_, hT⟩) g
    obtain ⟨_, rfl, _⟩ := hT
    rw [List.mem_singleton.mp hp]
    exact hl
  · rintro m₁ nx h tk _ ⟨_, rfl, h1, h2, hP⟩ F₁ N₁
    exact done m₁ h tk hP (pr_out h1 h2 F₁) N₁
/-- a search over a list of texts -/
theorem strs_search {l : Addr} {os : List (Str × Tok)} {n1 : Nat} {m₀ : Str → Option Value} {news : List (Addr × Obj)} (stored : List Str) (P : Nat → Prop)
    (hh : A.handled = none) (hl : (l, listOf (strValues os).toArray n1) ∈ news) (F : Fr h₀ env.locals s.heap m₀) (N : News h₀ env.locals s.heap news) (hp : P 0)
    (turn : ∀ i y t (u : Str → Option Value) h tk own, os[i]? = some (y, t) → OwnOff own (news.map (·.1)) → P i →
      Fr h₀ env.locals h (fun z => if z = x then some (.str y t) else if stored.contains z then u z else m₀ z) → News h₀ env.locals h (news ++ own) →
      wpAny (model prog w) A (execs body env) (InvPostN h₀ env.locals (TurnS (fun _ : Unit => news) (fun _ => []) stored x m₀ (fun _ => P (i + 1))) own (news.map (·.1)) { s with heap := h, toks := tk } Q) E { s with heap := h, toks := tk })
    (done : ∀ (u : Str → Option Value) h tk, P os.length → Fr h₀ env.locals h (fun z => if z = x then u z else if stored.contains z then u z else m₀ z) → News h₀ env.locals h news → Q .next { s with heap := h, toks := tk }) :
    wpAny (model prog w) A (pyIter (.ref l)) (fun it s₂ => LoopAtV prog w A h₀ env x body Q E it s₂) E s := by
  refine iterS (σ := Unit) (fun _ => news) (fun _ => []) stored (fun i _ => P i) () hh (fun _ => hl) F N (fun _ h => (nomatch h)) hp ?_ ?_
  · rintro _ i v u h tk own hv hoff hP F₁ N₁
    unfold strValues at hv
    rw [List.getElem?_map] at hv
    obtain ⟨⟨y, t⟩, hy, rfl⟩ := Option.map_eq_some_iff.mp hv
    exact turn i y t u h tk own hy hoff hP F₁ N₁
  · rintro _ u h tk hP F₁ N₁
    rw [show (strValues os).length = os.length from by simp [strValues]] at hP
    exact done u h tk hP F₁ N₁
end
end Mine
-- MQ
namespace Mine
theorem rows1_MQ : True := by
  k_with_none
  k_with "k_ne" => first | exact ne_l1 (by with_reducible assumption) | exact ne_r1 (by with_reducible assumption) | exact ne_l2 (by with_reducible assumption) | exact ne_r2 (by with_reducible assumption) | exact ne_l3 (by with_reducible assumption) | exact ne_r3 (by with_reducible assumption) | exact ne_l0 (by with_reducible assumption) | exact ne_r0 (by with_reducible assumption) | exact ne_l4 (by with_reducible assumption) | exact ne_r4 (by with_reducible assumption) | exact ne_l5 (by with_reducible assumption) | exact ne_r5 (by with_reducible assumption)
  k_with "ktr_room" => first | exact room_c 0 hd rfl | exact room_c 1 hd rfl | exact room_c 6 hd rfl | exact room_c 9 hd rfl | exact room_c 21 hd rfl | exact Nat.le_of_ble_eq_true rfl
  k_with "ktr_units" => first | exact room_c 43 hu rfl | exact room_c 63 hu rfl | exact room_c 203 hu rfl | exact Nat.le_of_ble_eq_true rfl
  k_with "call builtin:str.find" => (k_dflt (k_here; (with_reducible show wpAny _ _ (call (Value.builtin "str.find") [Value.str _ _, Value.str _ _, Value.int _ _, Value.int _ _]) _ _ _); refine call_find4 ?_))
  k_with "call builtin:str.rfind" => (k_dflt (k_here; (with_reducible show wpAny _ _ (call (Value.builtin "str.rfind") [Value.str _ _, Value.str _ _, Value.int _ _, Value.int _ _]) _ _ _); refine call_rfind4 ?_))
  k_with "call ref" => (k_here; refine wpAny_call ?_; k_dflt (refine' code_def ?k1z6 ?k2z6 ?k3z6 ?k4z6 ?k5z6 ?kAz6 ?kFz6 ?kKz6 ?k6z6 ?k7z6 ?k8z6 ?k9z6 ?kBz6 ?_ ?c2z6 ?c3z6 ?c4z6 ?c5z6; (case kAz6 => exact rfl); (case kFz6 => exact rfl); (case kKz6 => first | exact rfl | assumption); (case k1z6 => k_asm); (case k2z6 => k_asm); (case k3z6 => k_asm); (case k4z6 => k_asm); (case k5z6 => k_asm); (case k6z6 => k_is); (case k7z6 => k_is); (case k8z6 => ktr_room); (case k9z6 => exact BindsTo.of_eq rfl); (case c5z6 => decide); (case kBz6 => exact locs rfl); (case c2z6 => exact rfl); (case c3z6 => exact rfl); (case c4z6 => exact rfl); k_whole; intro g' L' h' FG' F' N' B' X' T'; (try dsimp only); (try k_lift B'); (try k_fold)))
  k_with "call ref" => (k_here; (with_reducible show wpAny _ _ (call (Value.ref 67) [Value.str _ _, Value.str _ _]) _ _ _); k_dflt (refine' strcoll _ _ _ _ _ _ _ _ _ _ _ _ _ _ _ _ _ _ _ _ _ _ _ _ _ _ ?k1z7 ?k2z7 ?k3z7 ?k4z7 ?k5z7 ?kKz7 ?kdz7 ?kuz7  ?_; (case k1z7 => k_asm); (case k2z7 => k_asm); (case k3z7 => k_in); (case k4z7 => k_asm); (case k5z7 => k_asm); (case kKz7 => first | exact rfl | assumption); (case kdz7 => ktr_room); (case kuz7 => ktr_units); intro t9 h9 tk9 F9 N9; (try dsimp only); (try k_fold)))
  k_with "call ref" => (k_here; (with_reducible show wpAny _ _ (call (Value.ref 84) [Value.int _ _]) _ _ _); k_dflt (refine' isterm _ _ _ _ _ _ _ _ _ _ _ _ _ _ _ _ _ _ _ _ _ _ _ _ ?k1z8 ?k2z8 ?k3z8 ?k4z8 ?k5z8 ?kKz8 ?kdz8 ?kuz8  ?_; (case k1z8 => k_asm); (case k2z8 => k_asm); (case k3z8 => k_in); (case k4z8 => k_asm); (case k5z8 => k_asm); (case kKz8 => first | exact rfl | assumption); (case kdz8 => ktr_room); (case kuz8 => ktr_units); intro t9 h9 tk9 F9 N9; (try dsimp only); (try k_fold)))
  k_with "call ref" => (k_here; (with_reducible show wpAny _ _ (call (Value.ref 91) [Value.int _ _]) _ _ _); k_dflt (refine' iseof _ _ _ _ _ _ _ _ _ _ _ _ _ _ _ _ _ _ _ _ _ _ _ _ ?k1z9 ?k2z9 ?k3z9 ?k4z9 ?k5z9 ?kKz9 ?kdz9 ?kuz9  ?_; (case k1z9 => k_asm); (case k2z9 => k_asm); (case k3z9 => k_in); (case k4z9 => k_asm); (case k5z9 => k_asm); (case kKz9 => first | exact rfl | assumption); (case kdz9 => ktr_room); (case kuz9 => ktr_units); intro t9 h9 tk9 F9 N9; (try dsimp only); (try k_fold)))
  k_with "call ref" => (k_here; (with_reducible show wpAny _ _ (call (Value.ref 28) [Value.str _ _]) _ _ _); k_dflt (refine' stripd _ _ _ ?hxz10 _ _ _ _ _ _ _ _ _ _ _ _ _ _ _ _ _ _ _ _ _ ?k1z10 ?k2z10 ?k3z10 ?k4z10 ?k5z10 ?kKz10 ?kdz10 ?kuz10  ?_; (case k1z10 => k_asm); (case k2z10 => k_asm); (case k3z10 => k_in); (case k4z10 => k_asm); (case k5z10 => k_asm); (case kKz10 => first | exact rfl | assumption); (case kdz10 => ktr_room); (case kuz10 => ktr_units); (case hxz10 => first | assumption | omega | size_fits); intro t9 h9 tk9 F9 N9; (try dsimp only); (try k_fold)))
  k_with "CompEnd" => (k_dflt (k_here; refine LCg.CompEnd.intro (by assumption) (by assumption) _ ?csubz11 (by assumption) (by assumption) ⟨rfl, ?_⟩; (case csubz11 => kcf_all)))
  k_with "k_all" => exact off_tail (by with_reducible assumption) (by omega)
  k_with "subscriptTail" => (k_dflt (k_here; (with_reducible show wpAny _ _ (subscriptTail _ _ (Value.ref 75) (Value.str _ _)) _ _ _); (refine' ett_item ?kXz13 ?khz13 ?_; (case kXz13 => k_in); (case khz13 => with_reducible assumption))); intro t')
  k_with "call ref" => (k_here; (with_reducible show wpAny _ _ (call (Value.ref 21) [Value.str _ _, Value.str _ _]) _ _ _); k_dflt (refine' ell _ _ _ _ _ ?hxz14 ?hyz14 _ _ _ _ _ _ _ _ _ _ _ _ _ _ _ _ _ _ _ _ _ ?k1z14 ?k2z14 ?k3z14 ?k4z14 ?k5z14 ?kKz14 ?kdz14 ?kuz14  ?_; (case k1z14 => k_asm); (case k2z14 => k_asm); (case k3z14 => k_in); (case k4z14 => k_asm); (case k5z14 => k_asm); (case kKz14 => first | exact rfl | assumption); (case kdz14 => ktr_room); (case kuz14 => ktr_units); (case hxz14 => first | assumption | omega); (case hyz14 => first | assumption | omega); intro t9 h9 tk9 F9 N9; (try dsimp only); (try k_fold)))
  k_with "call type:zip" => (k_here; (with_reducible show wpAny _ _ (call (Value.type "zip") [Value.ref _, Value.ref _]) _ _ _); k_dflt (refine' call_zip_K ?Fz15 ?Nz15 ?az15 ?bz15 ?_; (case Fz15 => k_asm); (case Nz15 => k_asm); (case az15 => k_mem); (case bz15 => k_mem)); intro z' h' F' N' hZ')
  trivial
noncomputable def badP (low high least : Str) : Str := Str.ofString "..." ++ low ++ Str.ofString "..." ++ high ++ Str.ofString "..." ++ least ++ Str.ofString "..."
noncomputable def NoBad (os : List (Str × Tok)) (ff : Str → Bool) (text : Str) (p : Nat) : Prop := ∀ low, os[p]? = some low → ∀ high ∈ os.drop p, ff high.1 = ff low.1 → ∀ least ∈ os.take p, ellP (badP low.1 high.1 least.1) text = false
structure FreeOk (row os : List (Str × Tok)) (fl : List Bool) (ff : Str → Bool) (f : Nat) : Prop where
  len : os.length = 6
  rlen : row.length = 6
  flen : row.length = fl.length
  nodup : (row.map (·.1)).Nodup
  short : ∀ p ∈ os, p.1.length ≤ 1
  rshort : ∀ y ∈ row.map (·.1), y.length ≤ 1000
  tlen : (Txt.join (Str.ofString "") (row.map (·.1))).length ≤ 6
  first : ∀ p ∈ os, valueAt ((row.map (·.1)).zip (boolVals fl)) p.1 = some (.bool (ff p.1))
  le : f ≤ os.length
  good : ∀ p, p < f → NoBad os ff (Txt.join (Str.ofString "") (row.map (·.1))) p
  bad : f < os.length → ¬ NoBad os ff (Txt.join (Str.ofString "") (row.map (·.1))) f
section
variable {prog : Program} {w : World} {A : Around} {E : Value → Shared → Prop} {s : Shared} {env : Env} {h₀ : Heap} {xi xc x : Str} {body : List Stmt} {Q : Flow → Shared → Prop} {row os : List (Str × Tok)} {fl : List Bool} {ff : Str → Bool} {f : Nat}
theorem free_outer {l : Addr} {n1 : Nat} {m₀ : Str → Option Value} {news : List (Addr × Obj)} (fo : FreeOk row os fl ff f)
    (hh : A.handled = none) (hl : (l, listOf (strValues os).toArray n1) ∈ news) (F : Fr h₀ env.locals s.heap m₀) (N : News h₀ env.locals s.heap news)
    (turn : ∀ i y t ti (u : Str → Option Value) h tk own, os[i]? = some (y, t) → i < 6 → y.length ≤ 1 → valueAt ((row.map (·.1)).zip (boolVals fl)) y = some (.bool (ff y)) → OwnOff own (news.map (·.1)) → i ≤ f →
      Fr h₀ env.locals h (fun z => if z = xc then some (.str y t) else if z = xi then some (.int (i : Nat) ti) else if [Str.ofString "high", Str.ofString "least"].contains z then u z else m₀ z) → News h₀ env.locals h (news ++ own) →
      wpAny (model prog w) A (execs body env) (InvPostN h₀ env.locals (TurnP (fun _ : Unit => news) (fun _ => []) [Str.ofString "high", Str.ofString "least"] xi xc m₀ (fun _ => i + 1 ≤ f)) own (news.map (·.1)) { s with heap := h, toks := tk } Q) E { s with heap := h, toks := tk })
    (done : ∀ (u : Str → Option Value) h tk, f = 6 → Fr h₀ env.locals h (fun z => if z = xc then u z else if z = xi then u z else if [Str.ofString "high", Str.ofString "least"].contains z then u z else m₀ z) → News h₀ env.locals h news → Q .next { s with heap := h, toks := tk }) :
    wpAny (model prog w) A (call (.type "enumerate") [.ref l]) (fun xv s₁ => wpAny (model prog w) A (pyIter xv) (fun it s₂ => PairAt3 prog w A h₀ env xi xc body Q E it s₂) E s₁) E s := by
  refine enum_search [Str.ofString "high", Str.ofString "least"] (fun i => i ≤ f) hh hl F N (Nat.zero_le _) ?_ ?_
  · intro i y t ti u h tk own hi hoff hP F₁ N₁
    have hm := List.mem_of_getElem? hi
    have hlt := (List.getElem?_eq_some_iff.mp hi).1
    have h6 := fo.len
    exact turn i y t ti u h tk own hi (by lia) (fo.short _ hm) (fo.first _ hm) hoff hP F₁ N₁
  · intro u h tk hP F₁ N₁
    have h6 := fo.len
    have hle := fo.le
    exact done u h tk (by lia) F₁ N₁
noncomputable def HighOk (os : List (Str × Tok)) (ff : Str → Bool) (text : Str) (i : Nat) (low high : Str) : Prop := ff high = ff low → ∀ least ∈ os.take i, ellP (badP low high least.1) text = false
noncomputable def MidOk (os : List (Str × Tok)) (ff : Str → Bool) (text : Str) (i : Nat) (low : Str) (j : Nat) : Prop := ∀ high ∈ (os.drop i).take j, HighOk os ff text i low high.1
noncomputable def InOk (os : List (Str × Tok)) (text : Str) (i : Nat) (low high : Str) (k : Nat) : Prop := ∀ least ∈ (os.take i).take k, ellP (badP low high least.1) text = false
theorem free_mid {l : Addr} {n1 i : Nat} {low : Str} {tl : Tok} {m₀ : Str → Option Value} {news : List (Addr × Obj)} (fo : FreeOk row os fl ff f) (_hi : os[i]? = some (low, tl))
    (hh : A.handled = none) (hl : (l, listOf (strValues (os.drop i)).toArray n1) ∈ news) (F : Fr h₀ env.locals s.heap m₀) (N : News h₀ env.locals s.heap news)
    (turn : ∀ j y t (u : Str → Option Value) h tk own, (os.drop i)[j]? = some (y, t) → y.length ≤ 1 → valueAt ((row.map (·.1)).zip (boolVals fl)) y = some (.bool (ff y)) → OwnOff own (news.map (·.1)) → MidOk os ff (Txt.join (Str.ofString "") (row.map (·.1))) i low j →
      Fr h₀ env.locals h (fun z => if z = x then some (.str y t) else if [Str.ofString "least"].contains z then u z else m₀ z) → News h₀ env.locals h (news ++ own) →
      wpAny (model prog w) A (execs body env) (InvPostN h₀ env.locals (TurnS (fun _ : Unit => news) (fun _ => []) [Str.ofString "least"] x m₀ (fun _ => MidOk os ff (Txt.join (Str.ofString "") (row.map (·.1))) i low (j + 1))) own (news.map (·.1)) { s with heap := h, toks := tk } Q) E { s with heap := h, toks := tk })
    (done : ∀ (u : Str → Option Value) h tk, NoBad os ff (Txt.join (Str.ofString "") (row.map (·.1))) i → Fr h₀ env.locals h (fun z => if z = x then u z else if [Str.ofString "least"].contains z then u z else m₀ z) → News h₀ env.locals h news → Q .next { s with heap := h, toks := tk }) :
    wpAny (model prog w) A (pyIter (.ref l)) (fun it s₂ => LoopAtV prog w A h₀ env x body Q E it s₂) E s := by
  refine strs_search [Str.ofString "least"] (MidOk os ff (Txt.join (Str.ofString "") (row.map (·.1))) i low) hh hl F N (fun high hm => nomatch (show high ∈ [] from hm)) ?_ ?_
  · intro j y t u h tk own hj hoff hP F₁ N₁
    have hm := List.mem_of_mem_drop (List.mem_of_getElem? hj)
    exact turn j y t u h tk own hj (fo.short _ hm) (fo.first _ hm) hoff hP F₁ N₁
  · intro u h tk hP F₁ N₁
    refine done u h tk (fun low' hlow high hh' hff least hl' => ?_) F₁ N₁
    rw [_hi] at hlow
    cases hlow
    exact hP high (by rw [List.take_of_length_le (Nat.le_refl _)]; exact hh') hff least hl'
theorem free_in {l : Addr} {n1 i j : Nat} {low high : Str} {tl : Tok} {th : Tok} {m₀ : Str → Option Value} {news : List (Addr × Obj)} (fo : FreeOk row os fl ff f) (_hi : os[i]? = some (low, tl)) (_hj : (os.drop i)[j]? = some (high, th))
    (hh : A.handled = none) (hl : (l, listOf (strValues (os.take i)).toArray n1) ∈ news) (F : Fr h₀ env.locals s.heap m₀) (N : News h₀ env.locals s.heap news)
    (turn : ∀ k y t (u : Str → Option Value) h tk own, (os.take i)[k]? = some (y, t) → y.length ≤ 1 → OwnOff own (news.map (·.1)) → InOk os (Txt.join (Str.ofString "") (row.map (·.1))) i low high k →
      Fr h₀ env.locals h (fun z => if z = x then some (.str y t) else m₀ z) → News h₀ env.locals h (news ++ own) →
      wpAny (model prog w) A (execs body env) (InvPostN h₀ env.locals (TurnS (fun _ : Unit => news) (fun _ => []) [] x m₀ (fun _ => InOk os (Txt.join (Str.ofString "") (row.map (·.1))) i low high (k + 1))) own (news.map (·.1)) { s with heap := h, toks := tk } Q) E { s with heap := h, toks := tk })
    (done : ∀ (u : Str → Option Value) h tk, HighOk os ff (Txt.join (Str.ofString "") (row.map (·.1))) i low high → Fr h₀ env.locals h (fun z => if z = x then u z else m₀ z) → News h₀ env.locals h news → Q .next { s with heap := h, toks := tk }) :
    wpAny (model prog w) A (pyIter (.ref l)) (fun it s₂ => LoopAtV prog w A h₀ env x body Q E it s₂) E s := by
  refine strs_search [] (InOk os (Txt.join (Str.ofString "") (row.map (·.1))) i low high) hh hl F N (fun high hm => nomatch (show high ∈ [] from hm)) ?_ ?_
  · intro k y t u h tk own hk hoff hP F₁ N₁
    exact turn k y t u h tk own hk (fo.short _ (List.mem_of_mem_take (List.mem_of_getElem? hk))) hoff hP F₁ N₁
  · intro u h tk hP F₁ N₁
    refine done u h tk (fun _ least hl' => hP least ?_) F₁ N₁
    rw [List.take_of_length_le (Nat.le_refl _)]
    exact hl'
theorem free_none {l : Addr} {n1 i j : Nat} {low high : Str} {tl : Tok} {th : Tok} {m₀ : Str → Option Value} {news : List (Addr × Obj)} (_fo : FreeOk row os fl ff f) (_hi : os[i]? = some (low, tl)) (_hj : (os.drop i)[j]? = some (high, th)) (hne : (ff high == ff low) = false)
    (hh : A.handled = none) (hl : (l, listOf #[] n1) ∈ news) (F : Fr h₀ env.locals s.heap m₀) (N : News h₀ env.locals s.heap news)
    (done : ∀ (u : Str → Option Value) h tk, HighOk os ff (Txt.join (Str.ofString "") (row.map (·.1))) i low high → Fr h₀ env.locals h (fun z => if z = x then u z else m₀ z) → News h₀ env.locals h news → Q .next { s with heap := h, toks := tk }) :
    wpAny (model prog w) A (pyIter (.ref l)) (fun it s₂ => LoopAtV prog w A h₀ env x body Q E it s₂) E s := by
  refine strs_search [] (fun _ => True) (os := []) hh hl F N trivial ?_ ?_
  · intro k y t u h tk own hk hoff hP F₁ N₁
    simp at hk
  · intro u h tk hP F₁ N₁
    refine done u h tk (fun e => ?_) F₁ N₁
    rw [e] at hne
    simp at hne
end
section
variable {prog : Program} {w : World} {A : Around} {E : Value → Shared → Prop} {s : Shared} {h₀ : Heap} {L D : Addr} {m : Str → Option Value} {news : List (Addr × Obj)}
theorem first_item {value slice : Expr} {kvs : List (Str × Value)} {b : Bool} {od : Obj} {x : Str} {tk : Tok} {Q : Value → Shared → Prop} (N : News h₀ L s.heap news) (hm : (D, od) ∈ news) (hd : od.IsDictOf (PySem.strKind prog w) kvs) (hv : valueAt kvs x = some (.bool b)) (h : Q (.bool b) { s with toks := s.toks + 1 })
    (hs : subscripted slice false (.ref D) (.str x tk) = operate [.ref D, .str x tk] (getItem (.ref D) (.str x tk)) := by with_unfolding_all rfl) (hg : ∀ r, letTemporaryGo value (.ref D) r = pure () := by intro _; with_unfolding_all rfl) :
    wpAny (model prog w) A (subscriptTail value slice (.ref D) (.str x tk)) Q E s := kda_item N hm hd (strKind_is _ _ _ _) hv h hs hg
theorem slice_drop {value slice : Expr} {l : Addr} {os : List (Str × Tok)} {n1 i : Nat} {ti : Tok} {Q : Value → Shared → Prop} (F : Fr h₀ L s.heap m) (N : News h₀ L s.heap news) (hl : (l, listOf (strValues os).toArray n1) ∈ news) (hsz : os.length < 1000)
    (h : ∀ D h', Fr h₀ L h' m → News h₀ L h' ((D, listOf (strValues (os.drop i)).toArray 0) :: news) → (∀ p ∈ news, p.1 < D) → Q (.ref D) { s with heap := h' })
    (hs : subscripted slice false (.ref l) (.ref s.heap.objs.size) = operate [.ref s.heap.objs.size, .ref l] (getItem (.ref l) (.ref s.heap.objs.size))) (ht : ∀ r, letTemporaryGo value (.ref l) r = pure ()) :
    wpAny (model prog w) A (subscriptTail value slice (.ref l) (.ref s.heap.objs.size)) Q E { s with heap := s.heap.push { cls := .type "slice", data := .fields #[.int (i : Nat) ti, .none, .none] } } :=
  kms_slice_lit F N (News.isList N hl) (.int _ _) .none (kms_drop os i) h hs ht (by simp [strValues, PySem.sizeLine_eq]; lia)
theorem slice_take {value slice : Expr} {l : Addr} {os : List (Str × Tok)} {n1 i : Nat} {ti : Tok} {Q : Value → Shared → Prop} (F : Fr h₀ L s.heap m) (N : News h₀ L s.heap news) (hl : (l, listOf (strValues os).toArray n1) ∈ news) (hsz : os.length < 1000)
    (h : ∀ D h', Fr h₀ L h' m → News h₀ L h' ((D, listOf (strValues (os.take i)).toArray 0) :: news) → (∀ p ∈ news, p.1 < D) → Q (.ref D) { s with heap := h' })
    (hs : subscripted slice false (.ref l) (.ref s.heap.objs.size) = operate [.ref s.heap.objs.size, .ref l] (getItem (.ref l) (.ref s.heap.objs.size))) (ht : ∀ r, letTemporaryGo value (.ref l) r = pure ()) :
    wpAny (model prog w) A (subscriptTail value slice (.ref l) (.ref s.heap.objs.size)) Q E { s with heap := s.heap.push { cls := .type "slice", data := .fields #[.none, .int (i : Nat) ti, .none] } } :=
  kms_slice_lit F N (News.isList N hl) .none (.int _ _) (kms_take os i) h hs ht (by simp [strValues, PySem.sizeLine_eq]; lia)
end
theorem len_empty0 : (Str.ofString "").length ≤ 100 := by decide
theorem free_len {row os : List (Str × Tok)} {fl : List Bool} {ff : Str → Bool} {f : Nat} (fo : FreeOk row os fl ff f) : row.length = (boolVals fl).length := by
  rw [boolVals, List.length_map]
  exact fo.flen
theorem free_sz {row os : List (Str × Tok)} {fl : List Bool} {ff : Str → Bool} {f : Nat} (fo : FreeOk row os fl ff f) : row.length < 1000 := by
  rw [fo.rlen]; lia
theorem free_rl {row os : List (Str × Tok)} {fl : List Bool} {ff : Str → Bool} {f : Nat} (fo : FreeOk row os fl ff f) : (row.map (·.1)).length ≤ 100 := by
  rw [List.length_map, fo.rlen]; lia
theorem rows2_MQ : True := by
  k_with "k_all" => with_reducible assumption
  k_with "k_all" => (refine List.forall_mem_append.mpr ⟨?_, ?_⟩ <;> k_all)
  k_with "k_mem" => (refine List.mem_append_left _ ?_; assumption)
  k_with "k_mem" => assumption
  k_with "call type:dict" => (k_here; (with_reducible show wpAny _ _ (call (Value.type "dict") [Value.ref _]) _ _ _); (rename FreeOk _ _ _ _ _ => hFO'); k_dflt (refine' call_dict_zip rfl ?Fz20 ?Nz20 (TopRead.nolimit (by k_asm)) ?zz20 ?az20 ?bz20 ?lz20 hFO'.nodup ?sz20 ?_; (case Fz20 => k_asm); (case Nz20 => k_asm); (case zz20 => assumption); (case az20 => k_mem); (case bz20 => k_mem); (case lz20 => exact free_len hFO'); (case sz20 => exact free_sz hFO')); intro D' o' h' tk' F' N' hd' lo' l1)
  k_with "call type:enumerate" => (k_dflt (k_here; (rename Fr _ _ _ _ => lF'); (rename News _ _ _ _ => lN'); (rename FreeOk _ _ _ _ _ => hFO'); (refine' free_outer hFO' rfl ?hlz21 lF' lN' ?_ ?_; (case hlz21 => k_mem))); (all_goals first | (intro i y t ti u h' tk own hi' hi6' hy' hv' ho' hP' F' N'; clear lF' lN') | (intro u h' tk hf' F' N'; clear lF' lN')))
  k_with "call builtin:str.join" => (k_here; (with_reducible show wpAny _ _ (call (Value.builtin "str.join") [Value.str _ _, Value.ref _]) _ _ _); (rename FreeOk _ _ _ _ _ => hFO'); k_dflt (refine' join_sv ?kNz22 ?kmz22 rfl ?kxz22 hFO'.rshort ?klz22 ?_; (case kNz22 => k_asm); (case kmz22 => k_mem); (case kxz22 => exact len_empty0); (case klz22 => exact free_rl hFO')); intro t' tk')
  trivial
theorem dots_len : (Str.ofString "...").length = 3 := by decide
section
variable {prog : Program} {w : World} {A : Around} {E : Value → Shared → Prop} {s : Shared} {h₀ : Heap} {L D : Addr} {m : Str → Option Value} {news : List (Addr × Obj)}
theorem len_sv {l : List (Str × Tok)} {n : Nat} {Q : Value → Shared → Prop} (N : News h₀ L s.heap news) (hm : (D, listOf (strValues l).toArray n) ∈ news) (hfit : l.length < 1000)
    (h : Q (.int (l.length : Nat) (s.toks + 1)) { s with toks := s.toks + 1 + 1 }) : wpAny (model prog w) A (call (.builtin "len") [.ref D]) Q E s :=
  len_led N hm (by simp [strValues]; lia) (by rw [show (strValues l).length = l.length from by simp [strValues]]; exact h)
end
theorem rows3_MQ : True := by
  k_with "call builtin:len" => (k_here; (with_reducible show wpAny _ _ (call (Value.builtin "len") [Value.ref _]) _ _ _); k_dflt (refine' len_sv ?kNz23 ?kmz23 ?k1z23 ?_; (case kNz23 => k_asm); (case kmz23 => k_mem); (case k1z23 => omega)))
  k_with "subscriptTail" => (k_here; (with_reducible show wpAny _ _ (subscriptTail _ _ (Value.ref _) (Value.str _ _)) _ _ _); k_dflt (refine' first_item ?kNz24 ?kmz24 ?kdz24 ?kvz24 ?_; (case kNz24 => k_asm); (case kmz24 => k_mem); (case kdz24 => with_reducible assumption); (case kvz24 => with_reducible assumption)))
  k_with "subscriptTail Name Slice ref ref" => (k_here; k_dflt (first | (refine' slice_drop ?Fz25 ?Nz25 ?lz25 ?zz25 ?_ ?sz25 ?tz25; (case Fz25 => k_asm); (case Nz25 => k_asm); (case lz25 => k_mem); (case zz25 => omega); (case sz25 => with_unfolding_all rfl); (case tz25 => kmk_pure)) | (refine' slice_take ?Fz25 ?Nz25 ?lz25 ?zz25 ?_ ?sz25 ?tz25; (case Fz25 => k_asm); (case Nz25 => k_asm); (case lz25 => k_mem); (case zz25 => omega); (case sz25 => with_unfolding_all rfl); (case tz25 => kmk_pure))); intro D' h' F' N' l1)
  k_with "pyIter ref!" => (k_here; (with_reducible show wpAny _ _ (pyIter (Value.ref _)) (fun it s₂ => LoopAtV _ _ _ _ _ _ _ _ _ it s₂) _ _); (rename Fr _ _ _ _ => lF'); (rename News _ _ _ _ => lN'); (rename FreeOk _ _ _ _ _ => hFO'); (rename (_[_]? = some _) => hi9); k_dflt (refine' free_mid hFO' hi9 rfl ?hlz26 lF' lN' ?_ ?_; (case hlz26 => k_mem)); (all_goals first | (intro j y t u h' tk own hj' hy' hv' ho' hP' F' N'; clear lF' lN') | (intro u h' tk hP' F' N'; clear lF' lN')))
  k_with "pyIter ref!" => (k_here; (with_reducible show wpAny _ _ (pyIter (Value.ref _)) (fun it s₂ => LoopAtV _ _ _ _ _ _ _ _ _ it s₂) _ _); (rename Fr _ _ _ _ => lF'); (rename News _ _ _ _ => lN'); (rename FreeOk _ _ _ _ _ => hFO'); (rename ((List.drop _ _)[_]? = some _) => hj9); (rename MidOk _ _ _ _ _ _ => hM9); k_dflt (first | (refine' free_in hFO' (by with_reducible assumption) hj9 rfl ?hlz27 lF' lN' ?_ ?_; (case hlz27 => k_mem)) | (refine' free_none hFO' (by with_reducible assumption) hj9 (by with_reducible assumption) rfl ?hlz27 lF' lN' ?_; (case hlz27 => k_mem))); (all_goals first | (intro k y t u h' tk own hk' hy' ho' hP' F' N'; clear lF' lN') | (intro u h' tk hP' F' N'; clear lF' lN')))
  k_with "exec For" => (k_dflt (k_here; (rename Fr _ _ _ _ => lF'); (with_unfolding_all refine' For_invVF lF' ?k1z28 ?k2z28 ?_; (case k1z28 => exact rfl); (case k2z28 => exact rfl); k_whole)))
  trivial
theorem free_step {row os : List (Str × Tok)} {fl : List Bool} {ff : Str → Bool} {f i : Nat} (fo : FreeOk row os fl ff f) (hi : i < 6) (hle : i ≤ f) (hN : NoBad os ff (Txt.join (Str.ofString "") (row.map (·.1))) i) : i + 1 ≤ f := by
  have h6 := fo.len
  rcases Nat.lt_or_ge i f with h | h
  · exact h
  · have e : i = f := Nat.le_antisymm hle h
    subst e
    exact absurd hN (fo.bad (by lia))
theorem mid_step {os : List (Str × Tok)} {ff : Str → Bool} {text low y : Str} {t : Tok} {i j : Nat} (hM : MidOk os ff text i low j) (hj : (os.drop i)[j]? = some (y, t)) (hH : HighOk os ff text i low y) : MidOk os ff text i low (j + 1) := by
  intro high hh
  rw [List.take_add_one, hj] at hh
  rcases List.mem_append.mp hh with h | h
  · exact hM high h
  · have e : high = (y, t) := by simpa using h
    subst e
    exact hH
theorem in_step {os : List (Str × Tok)} {text low high y : Str} {t : Tok} {i k : Nat} (hM : InOk os text i low high k) (hj : (os.take i)[k]? = some (y, t)) (hH : (ellP (badP low high y) text != false) = false) : InOk os text i low high (k + 1) := by
  intro least hh
  rw [List.take_add_one, hj] at hh
  rcases List.mem_append.mp hh with h | h
  · exact hM least h
  · have e : least = (y, t) := by simpa using h
    subst e
    simpa using hH
theorem free_hit {row os : List (Str × Tok)} {fl : List Bool} {ff : Str → Bool} {f i j k : Nat} {low high y : Str} {tl th t : Tok} (fo : FreeOk row os fl ff f) (hi : os[i]? = some (low, tl)) (hle : i ≤ f) (hj : (os.drop i)[j]? = some (high, th)) (hk : (os.take i)[k]? = some (y, t)) (he : (ff high == ff low) = true)
    (hH : (ellP (badP low high y) (Txt.join (Str.ofString "") (row.map (·.1))) != false) = true) : i = f := by
  rcases Nat.lt_or_ge i f with h | h
  · have := fo.good i h _ hi _ (List.mem_of_getElem? hj) (by simpa using he) _ (List.mem_of_getElem? hk)
    rw [this] at hH
    cases hH
  · exact Nat.le_antisymm hle h
theorem nin1 {a z : Str} (h : [a].contains z = false) : z ≠ a := by simpa using h
theorem nin2 {a b z : Str} (h : [a, b].contains z = false) : z ≠ a ∧ z ≠ b := by simpa using h
theorem lawfree (w : World) (row os : List (Str × Tok)) (fl : List Bool) (ff : Str → Bool) (f : Nat) (FO : FreeOk row os fl ff f) (q1 q2 q3 : Addr) (k1 k2 k3 : Nat)
    {pT : Program} {lT : List Str} (mean : ExcName → Option Value) (mg mb : Str → Option Value) (dp un : Nat) (gd : Option (List Code)) (cn : Str) (cs : Scope) (a : Addr) (ccd : Value) (cl' : List (Str × Addr)) (outer : List Env) (A₀ : Around) (base h₀ : Heap) (L : Addr) (m : Str → Option Value) (news : List (Addr × Obj)) (s : Shared) (Q E : Value → Shared → Prop) :
    Below A₀ base outer h₀ → Fr h₀ L s.heap m → (Mine.hd.heap_1 w.params).In h₀ → News h₀ L s.heap news → Top pT lT mean mg mb h₀ → cs.kind = .function →
    dp + 20 < recursionLimit → un + 200 < cLine → (q1, listOf (strValues row).toArray k1) ∈ news → (q2, listOf (boolVals fl).toArray k2) ∈ news → (q3, listOf (strValues os).toArray k3) ∈ news →
    CbRet h₀ L m news s Q (fun t => .int (f : Nat) t) →
    wpAny (model PySem.Challenge.rw_wr0036_01.row.prog w) (ktrTop dp un gd cn cs L a ccd cl' outer) (call (.ref 122) [.ref q1, .ref q2, .ref q3]) Q E s := by
  k_fill
  intro B F X N T hk hd hu hq1 hq2 hq3 hret
  refine wpAny_call ?_
  k_dflt (refine' code_def (binds := [(Str.ofString "row", Value.ref q1), (Str.ofString "firsts", Value.ref q2), (Str.ofString "order", Value.ref q3)]) ?k1 ?k2 ?k3 ?k4 ?k5 ?kA ?kF ?kK ?k6 ?k7 ?k8 ?k9 ?kB ?_ ?c2 ?c3 ?c4 ?c5; (case kA => exact rfl); (case kF => exact rfl); (case kK => assumption); (case k1 => k_asm); (case k2 => k_asm); (case k3 => k_asm); (case k4 => k_asm); (case k5 => k_asm); (case k6 => k_is); (case k7 => k_is); (case k8 => ktr_room); (case k9 => exact BindsTo.of_eq rfl); (case c5 => decide); (case kB => exact locs rfl); (case c2 => exact rfl); (case c3 => exact rfl); (case c4 => exact rfl); k_whole; intro g' L' h' FG' F' N' B' X' T'; (try dsimp only); (try k_lift B'); (try k_fold))
  have h6 := FO.len
  have h7 := FO.rlen
  have h8 := dots_len
  have h9 := FO.tlen
  k_steps
  all_goals rename FreeOk _ _ _ _ _ => hFO9
  · rename (_ == _) = true => he9
    rename (ellP _ _ != false) = true => hb9
    rename (_[_]? = some _) => hk9
    rename ((List.drop _ _)[_]? = some _) => hj9
    rename (_ ≤ f) => hle9
    have e := free_hit hFO9 (by with_reducible assumption) hle9 hj9 (by with_reducible assumption) he9 hb9
    subst e
    rename Fr _ L _ m => kF
    rename News _ L _ _ => kN
    exact cb_retI hret rfl kF (cb_drop kN fun p hp => List.mem_append_left _ (.tail _ (List.mem_append_left _ (.tail _ (List.mem_append_left _ (.tail _ hp))))))
  · rename (ellP _ _ != false) = false => hb9
    rename InOk _ _ _ _ _ _ => hI9
    rename (_[_]? = some _) => hk9
    rename Fr _ _ _ _ => F9
    rename News _ _ _ _ => N9
    exact endS () F9 N9 (fun p hp => List.mem_append_left _ hp) (fun p hp => List.mem_append_right _ hp) rfl (fun _ h => nomatch h) (fun z h1 _ _ => if_neg h1) (in_step hI9 (by with_reducible assumption) hb9)
  · rename HighOk _ _ _ _ _ _ => hH9
    rename MidOk _ _ _ _ _ _ => hM9
    rename ((List.drop _ _)[_]? = some _) => hj9
    rename Fr _ _ _ _ => F9
    rename News _ _ _ _ => N9
    exact endS () F9 N9 (fun p hp => .tail _ (List.mem_append_left _ hp)) (fun p hp => .tail _ (List.mem_append_right _ hp)) rfl (fun _ h => nomatch h) (fun z h1 _ h2 => (if_neg (nin1 h2)).trans ((if_neg h1).trans (if_neg (by rw [h2]; exact Bool.false_ne_true)))) (mid_step hM9 hj9 hH9)
  · rename HighOk _ _ _ _ _ _ => hH9
    rename MidOk _ _ _ _ _ _ => hM9
    rename ((List.drop _ _)[_]? = some _) => hj9
    rename Fr _ _ _ _ => F9
    rename News _ _ _ _ => N9
    exact endS () F9 N9 (fun p hp => .tail _ (List.mem_append_left _ hp)) (fun p hp => .tail _ (List.mem_append_right _ hp)) rfl (fun _ h => nomatch h) (fun z h1 _ h2 => (if_neg (nin1 h2)).trans ((if_neg h1).trans (if_neg (by rw [h2]; exact Bool.false_ne_true)))) (mid_step hM9 hj9 hH9)
  · rename NoBad _ _ _ _ => hN9
    rename (_ ≤ f) => hle9
    rename (_ < 6) => h69
    rename Fr _ _ _ _ => F9
    rename News _ _ _ _ => N9
    exact endP () F9 N9 (fun p hp => .tail _ (List.mem_append_left _ hp)) (fun p hp => .tail _ (List.mem_append_right _ hp)) rfl (fun _ h => nomatch h) (fun z h1 h2 _ h3 => (if_neg (nin2 h3).1).trans ((if_neg (by rw [show [Str.ofString "least"].contains z = false from by simpa using (nin2 h3).2]; exact Bool.false_ne_true)).trans ((if_neg h2).trans ((if_neg h1).trans (if_neg (by rw [h3]; exact Bool.false_ne_true)))))) (free_step hFO9 h69 hle9 hN9)
  · rename (f = 6) => hf9
    rename Fr _ L _ m => kF
    rename News _ L _ _ => kN
    exact cb_retI hret (by rw [h6, hf9]) kF (cb_drop kN fun p hp => .tail _ hp)
end Mine
-- ML13
namespace Mine
theorem any_strs (x : Str) : ∀ ps : List (Str × Tok), ((ps.map fun p => PyData.str p.1).any fun y => PyData.eqv y (.str x)) = (ps.map (·.1)).contains x
  | [] => rfl
  | p :: ps => by
    have ih := any_strs x ps
    rw [List.map_cons, List.any_cons, ih, List.map_cons, List.contains_cons, PyData.eqv]
    rw [BEq.comm (a := p.1)]
theorem depth_strs : ∀ xs : List Str, PyData.depthAll (xs.map PyData.str) = 0
  | [] => rfl
  | x :: xs => by rw [List.map_cons, PyData.depthAll, depth_strs xs]; rfl
theorem lay_strs : ∀ {xs : List Str}, (∀ x ∈ xs, PyData.strOk x = true) → PyData.canLayAll0 (xs.map PyData.str) = true
  | [], _ => rfl
  | x :: xs, h => by
    rw [List.map_cons, PyData.canLayAll0, lay_strs fun y hy => h y (.tail _ hy), Bool.and_true]
    exact h x (.head _)
section
variable {prog : Program} {w : World} {A : Around} {E : Value → Shared → Prop} {s : Shared} {h₀ : Heap} {L a : Addr} {news : List (Addr × Obj)} {na : Nat} {Q : Value → Shared → Prop}
theorem in_strs {ps : List (Str × Tok)} {x : Str} {t : Tok} (N : News h₀ L s.heap news) (ma : (a, listOf (strValues ps).toArray na) ∈ news) (ha : ∀ x ∈ ps.map (·.1), PyData.strOk x = true) (hx : PyData.strOk x = true)
    (hu : A.units + 64 < cLine) (h : Q (.bool ((ps.map (·.1)).contains x)) s) : wpAny (model prog w) A (compareOp .In (.str x t) (.ref a)) Q E s := by
  have e : (ps.map fun p => PyData.str p.1) = (ps.map (·.1)).map PyData.str := by rw [List.map_map]; rfl
  refine SeqAt.in_list_reads (d := .str x) (reads_list_at (N.get ma) rfl rfl (readsAll_sv ps)) (Reads.str x t) (by rw [e]; exact lay_strs ha) hx ?_ (by rw [any_strs]; exact h)
  rw [e, depth_strs]
  lia
end
/-- the tuples of a list of pairs lie in the ledger -/
noncomputable def Tups (g : List (Addr × Obj)) : List Value → List ((Str × Tok) × Bool) → Prop
  | [], [] => True
  | v :: vs, p :: ps => (∃ T k, v = .ref T ∧ (T, ({ cls := .type "tuple", data := .seq #[.str p.1.1 p.1.2, .bool p.2] k } : Obj)) ∈ g) ∧ Tups g vs ps
  | _, _ => False
theorem Tups.mono {g g' : List (Addr × Obj)} (hg : ∀ p ∈ g, p ∈ g') {vs : List Value} {ps : List ((Str × Tok) × Bool)} (h : Tups g vs ps) : Tups g' vs ps := by
  induction vs generalizing ps with
  | nil => cases ps with
    | nil => trivial
    | cons _ _ => exact h.elim
  | cons v vs ih => cases ps with
    | nil => exact h.elim
    | cons p ps => exact ⟨h.1.elim fun T h1 => h1.elim fun k h2 => ⟨T, k, h2.1, hg _ h2.2⟩, ih h.2⟩
theorem Tups.app {g : List (Addr × Obj)} {vs ws : List Value} {ps qs : List ((Str × Tok) × Bool)} (h : Tups g vs ps) (h2 : Tups g ws qs) : Tups g (vs ++ ws) (ps ++ qs) := by
  induction vs generalizing ps with
  | nil => cases ps with
    | nil => exact h2
    | cons _ _ => exact h.elim
  | cons v vs ih => cases ps with
    | nil => exact h.elim
    | cons p ps => exact ⟨h.1, ih h.2⟩
theorem Tups.rev {g : List (Addr × Obj)} {vs : List Value} {ps : List ((Str × Tok) × Bool)} (h : Tups g vs ps) : Tups g vs.reverse ps.reverse := by
  induction vs generalizing ps with
  | nil => cases ps with
    | nil => trivial
    | cons _ _ => exact h.elim
  | cons v vs ih => cases ps with
    | nil => exact h.elim
    | cons p ps => rw [List.reverse_cons, List.reverse_cons]; exact Tups.app (ih h.2) ⟨h.1, trivial⟩
theorem Tups.len {g : List (Addr × Obj)} {vs : List Value} {ps : List ((Str × Tok) × Bool)} (h : Tups g vs ps) : vs.length = ps.length := by
  induction vs generalizing ps with
  | nil => cases ps with
    | nil => rfl
    | cons _ _ => exact h.elim
  | cons v vs ih => cases ps with
    | nil => exact h.elim
    | cons p ps => exact congrArg Nat.succ (ih h.2)
theorem Tups.at {g : List (Addr × Obj)} {vs : List Value} {ps : List ((Str × Tok) × Bool)} {i : Nat} {v : Value} (h : Tups g vs ps) (hi : vs[i]? = some v) : ∃ T k p, v = .ref T ∧ ps[i]? = some p ∧ (T, ({ cls := .type "tuple", data := .seq #[.str p.1.1 p.1.2, .bool p.2] k } : Obj)) ∈ g := by
  induction vs generalizing ps i with
  | nil => cases hi
  | cons u vs ih => cases ps with
    | nil => exact h.elim
    | cons p ps => cases i with
      | zero =>
        obtain ⟨⟨T, k, e, h⟩, _⟩ := h
        cases hi
        exact ⟨T, k, p, e, rfl, h⟩
      | succ i => exact ih (ps := ps) (i := i) h.2 hi
/-- who stays -/
noncomputable def stayP (cl : List (Str × Tok)) (fl : List Bool) (rest : List Str) : List ((Str × Tok) × Bool) := (cl.zip fl).filter fun p => rest.contains p.1.1
noncomputable def StayJ (cl : List (Str × Tok)) (fl : List Bool) (rest : List Str) (i : Nat) (ys : List Value) (g : List (Addr × Obj)) : Prop := Tups g ys (((cl.zip fl).take i).filter fun p => rest.contains p.1.1)
theorem stay_at {cl : List (Str × Tok)} {fl : List Bool} {i : Nat} {y : Str} {t : Tok} {b : Bool} (h1 : cl[i]? = some (y, t)) (h2 : fl[i]? = some b) : (cl.zip fl)[i]? = some ((y, t), b) := by
  rw [List.getElem?_zip_eq_some]
  exact ⟨h1, h2⟩
theorem StayJ.yes {cl : List (Str × Tok)} {fl : List Bool} {rest : List Str} {i k : Nat} {ys : List Value} {g : List (Addr × Obj)} {y : Str} {t : Tok} {b : Bool} {T : Addr} (h : StayJ cl fl rest i ys g) (h1 : cl[i]? = some (y, t)) (h2 : fl[i]? = some b) (hc : rest.contains y = true) :
    StayJ cl fl rest (i + 1) (ys ++ [.ref T]) ((T, { cls := .type "tuple", data := .seq #[.str y t, .bool b] k }) :: g) := by
  unfold StayJ at h ⊢
  rw [List.take_add_one, stay_at h1 h2, List.filter_append]
  refine Tups.app (h.mono fun p hp => .tail _ hp) ?_
  have e : List.filter (fun p : (Str × Tok) × Bool => rest.contains p.1.1) (some ((y, t), b)).toList = [((y, t), b)] := by
    show List.filter _ [((y, t), b)] = _
    rw [List.filter_cons_of_pos (p := fun p : (Str × Tok) × Bool => rest.contains p.1.1) (a := ((y, t), b)) hc, List.filter_nil]
  rw [e]
  exact ⟨⟨T, k, rfl, .head _⟩, trivial⟩
theorem StayJ.no {cl : List (Str × Tok)} {fl : List Bool} {rest : List Str} {i : Nat} {ys : List Value} {g : List (Addr × Obj)} {y : Str} {t : Tok} {b : Bool} (h : StayJ cl fl rest i ys g) (h1 : cl[i]? = some (y, t)) (h2 : fl[i]? = some b) (hc : rest.contains y = false) : StayJ cl fl rest (i + 1) ys g := by
  unfold StayJ at h ⊢
  rw [List.take_add_one, stay_at h1 h2, List.filter_append]
  have e : List.filter (fun p : (Str × Tok) × Bool => rest.contains p.1.1) (some ((y, t), b)).toList = [] := by
    show List.filter _ [((y, t), b)] = _
    rw [List.filter_cons_of_neg (p := fun p : (Str × Tok) × Bool => rest.contains p.1.1) (a := ((y, t), b)) (by show ¬ rest.contains y = true; rw [hc]; exact Bool.false_ne_true), List.filter_nil]
  rw [e, List.append_nil]
  exact h
theorem StayJ.all {cl : List (Str × Tok)} {fl : List Bool} {rest : List Str} {ys : List Value} {g : List (Addr × Obj)} {n : Nat} (h : StayJ cl fl rest n ys g) (hn : (cl.zip fl).length ≤ n) : Tups g ys (stayP cl fl rest) := by
  unfold StayJ at h
  rw [List.take_of_length_le hn] at h
  exact h
/-- texts made of those that stay, each that passes a test -/
noncomputable def PartJ (st : List ((Str × Tok) × Bool)) (b : Bool) (F : Str → Str) (i : Nat) (ys : List Value) (g : List (Addr × Obj)) : Prop := g = [] ∧ ∃ ts : List (Str × Tok), ys = strValues ts ∧ ts.map (·.1) = ((st.take i).filter fun p => p.2 == b).map fun p => F p.1.1
theorem PartJ.yes {st : List ((Str × Tok) × Bool)} {b : Bool} {F : Str → Str} {i : Nat} {ys : List Value} {g : List (Addr × Obj)} {y z : Str} {t tz : Tok} (h : PartJ st b F i ys g) (hi : st[i]? = some ((y, t), b)) (hz : z = F y) : g = [] ∧ PartJ st b F (i + 1) (ys ++ [.str z tz]) [] := by
  obtain ⟨rfl, ts, rfl, e⟩ := h
  refine ⟨rfl, rfl, ts ++ [(z, tz)], by simp [strValues], ?_⟩
  rw [List.take_add_one, hi, List.filter_append, List.map_append, List.map_append, e, hz]
  simp
theorem PartJ.no {st : List ((Str × Tok) × Bool)} {b c : Bool} {F : Str → Str} {i : Nat} {ys : List Value} {g : List (Addr × Obj)} {y : Str} {t : Tok} (h : PartJ st b F i ys g) (hi : st[i]? = some ((y, t), c)) (hz : (c == b) = false) : g = [] ∧ PartJ st b F (i + 1) ys [] := by
  obtain ⟨rfl, ts, rfl, e⟩ := h
  refine ⟨rfl, rfl, ts, rfl, ?_⟩
  rw [List.take_add_one, hi, List.filter_append, List.map_append, e]
  simp [hz]
theorem PartJ.all {st : List ((Str × Tok) × Bool)} {b : Bool} {F : Str → Str} {ys : List Value} {g : List (Addr × Obj)} {n : Nat} (h : PartJ st b F n ys g) (hn : st.length ≤ n) : g = [] ∧ ∃ ts : List (Str × Tok), ys = strValues ts ∧ ts.map (·.1) = (st.filter fun p => p.2 == b).map fun p => F p.1.1 := by
  obtain ⟨e, ts, e1, e2⟩ := h
  rw [List.take_of_length_le hn] at e2
  exact ⟨e, ts, e1, e2⟩
end Mine
-- ML14
namespace Mine
theorem cendI {h₀ : Heap} {L : Addr} {m : Str → Option Value} {s₁ : Shared} {C : Addr} {oC : Obj} {D : Addr} {oD : Obj} {post L1 g' : List (Addr × Obj)} {rest : Value → List (Addr × Obj) → Prop} {y : Value} {h' : Heap} {tk : Nat} (F : Fr h₀ L h' m) (N : News h₀ L h' L1)
    (sub : ∀ p ∈ (C, oC) :: (D, oD) :: (g' ++ post), p ∈ L1) (hg : ∀ p ∈ g', @LT.lt Nat _ C p.1) (r : rest y g') : CEnd h₀ L m s₁ C oC D oD post rest y { s₁ with heap := h', toks := tk } :=
  ⟨h', tk, g', rfl, F, fun p hp => N p (sub p hp), hg, r⟩
section
variable {prog : Program} {w : World} {A : Around} {E : Value → Shared → Prop} {s : Shared} {h₀ : Heap} {L : Addr} {m : Str → Option Value} {env : Env} {c : Expr} {elt : Expr} {a b : Str} {pa pb tp : Pos} {kk : Nat} {scope : Scope} {cl : List (Str × Addr)}
  {K : Addr → List Value → List (Addr × Obj) → List (Addr × Obj) → Heap → Nat → Shared → Prop} {news : List (Addr × Obj)}
theorem due_stay {l1 l2 : Addr} {cs : List (Str × Tok)} {fl : List Bool} {n1 n2 : Nat} {rest : List Str} (hlen : cs.length = fl.length) (hh : A.handled = none) (hl1 : (l1, listOf (strValues cs).toArray n1) ∈ news) (hl2 : (l2, listOf (boolVals fl).toArray n2) ∈ news) (hsz : cs.length < 1000) (F : Fr h₀ L s.heap m) (N : News h₀ L s.heap news)
    (turn : ∀ i y t k g ys own C oC D m₂ (s₂ : Shared) h tk (E' : Value → Shared → Prop), cs[i]? = some (y, t) → fl[i]? = some k → StayJ cs fl rest i ys g → LCg.NsObj oC m₂ → m₂ a = some (.str y t) → m₂ b = some (.bool k) → Fr h₀ L h m → News h₀ L h ((C, oC) :: (D, LCg.lst ys) :: (g ++ (news ++ own))) →
      @LT.lt Nat _ D C → (∀ p ∈ g ++ (news ++ own), p.1 ≠ C ∧ p.1 ≠ D) → (∀ p ∈ g, @LT.lt Nat _ C p.1) →
      wpAny (model prog w) A (isTrue c (compEnvC scope cl C env) (eval c (compEnvC scope cl C env))) (fun ok s' => if ok = true then wpAny (model prog w) A (eval elt (compEnvC scope cl C env)) (CEnd h₀ L m { s₂ with heap := h, toks := tk } C oC D (LCg.lst ys) (news ++ own) (fun y' g' => StayJ cs fl rest (i + 1) (ys ++ [y']) g')) E' s'
        else CEnd h₀ L m { s₂ with heap := h, toks := tk } C oC D (LCg.lst ys) (news ++ own) (fun _ g' => StayJ cs fl rest (i + 1) ys g') Value.none s') E' { s₂ with heap := h, toks := tk })
    (fin : ∀ D (h : Heap) tk ys g hp, (∀ p ∈ g, @LT.lt Nat _ D p.1) → (∀ p ∈ news, @LT.lt Nat _ p.1 D) → Tups g ys (stayP cs fl rest) → K D ys g news h tk { s with heap := hp }) :
    wpAny (model prog w) A (call (.type "zip") [.ref l1, .ref l2]) (fun xv s₁ => wpAny (model prog w) A (pyIter xv) (fun it s₂ => ZAt prog w A h₀ L m env [c] elt (.Tuple [.Name a pa, .Name b pb] kk tp) a b scope cl E K it s₂) E s₁) E s := by
  refine zipZ (StayJ cs fl rest) hh (.inr ⟨_, rfl⟩) hl1 hl2 (by simpa [strValues] using hsz) F N trivial ?_ ?_
  · intro i x y g ys own C oC D m₂ s₂ h tk E' hx hy hJ hC ha hb F₁ N₁ hDC off hg
    obtain ⟨z, hz, rfl⟩ := strs_at (i := i) (by simpa using hx)
    obtain ⟨k, hk, rfl⟩ := bools_at (i := i) (by simpa using hy)
    exact turn i z.1 z.2 k g ys own C oC D m₂ s₂ h tk E' hz hk hJ hC ha hb F₁ N₁ hDC off hg
  · intro D h tk ys g hp hg hn hJ
    exact fin D h tk ys g hp hg hn (hJ.all (by simp [strValues, boolVals]))
theorem due_part {l : Addr} {vs : List Value} {n1 : Nat} {st : List ((Str × Tok) × Bool)} (bb : Bool) (G : Str → Str) (ht : Tups news vs st) (hlen : st.length < 1000) (hh : A.handled = none) (hl : (l, listOf vs.toArray n1) ∈ news) (F : Fr h₀ L s.heap m) (N : News h₀ L s.heap news)
    (turn : ∀ i y t k g ys own C oC D m₂ (s₂ : Shared) h tk (E' : Value → Shared → Prop), st[i]? = some ((y, t), k) → PartJ st bb G i ys g → LCg.NsObj oC m₂ → m₂ a = some (.str y t) → m₂ b = some (.bool k) → Fr h₀ L h m → News h₀ L h ((C, oC) :: (D, LCg.lst ys) :: (g ++ (news ++ own))) →
      @LT.lt Nat _ D C → (∀ p ∈ g ++ (news ++ own), p.1 ≠ C ∧ p.1 ≠ D) → (∀ p ∈ g, @LT.lt Nat _ C p.1) →
      wpAny (model prog w) A (isTrue c (compEnvC scope cl C env) (eval c (compEnvC scope cl C env))) (fun ok s' => if ok = true then wpAny (model prog w) A (eval elt (compEnvC scope cl C env)) (CEnd h₀ L m { s₂ with heap := h, toks := tk } C oC D (LCg.lst ys) (news ++ own) (fun y' g' => PartJ st bb G (i + 1) (ys ++ [y']) g')) E' s'
        else CEnd h₀ L m { s₂ with heap := h, toks := tk } C oC D (LCg.lst ys) (news ++ own) (fun _ g' => PartJ st bb G (i + 1) ys g') Value.none s') E' { s₂ with heap := h, toks := tk })
    (fin : ∀ D (h : Heap) tk (ts : List (Str × Tok)) hp, (∀ p ∈ news, @LT.lt Nat _ p.1 D) → ts.map (·.1) = (st.filter fun p => p.2 == bb).map (fun p => G p.1.1) → K D (strValues ts) [] news h tk { s with heap := hp }) :
    wpAny (model prog w) A (pyIter (.ref l)) (fun it s₂ => ZAt prog w A h₀ L m env [c] elt (.Tuple [.Name a pa, .Name b pb] kk tp) a b scope cl E K it s₂) E s := by
  refine tupsZ (fun i x y => ∃ p : (Str × Tok) × Bool, st[i]? = some p ∧ x = .str p.1.1 p.1.2 ∧ y = .bool p.2) (PartJ st bb G) hh (.inr ⟨_, rfl⟩) hl ?_ (by rw [ht.len]; exact hlen) F N ⟨rfl, [], rfl, rfl⟩ ?_ ?_
  · intro i v hv
    obtain ⟨T, k, p, e, h1, h2⟩ := ht.at hv
    exact ⟨T, _, _, k, e, h2, p, h1, rfl, rfl⟩
  · rintro i _ _ g ys own C oC D m₂ s₂ h tk E' _ ⟨⟨⟨y, t⟩, k⟩, hp, rfl, rfl⟩ hJ hC ha hb F₁ N₁ hDC off hg
    exact turn i y t k g ys own C oC D m₂ s₂ h tk E' hp hJ hC ha hb F₁ N₁ hDC off hg
  · intro D h tk ys g hp hg hn hJ
    obtain ⟨rfl, ts, rfl, e⟩ := hJ.all (by rw [ht.len]; exact Nat.le_refl _)
    exact fin D h tk ts hp hn e
end
end Mine
-- ML15
namespace Mine
structure DueOk (cs : List (Str × Tok)) (fl : List Bool) (nl : List (Str × Tok)) (f : Nat) : Prop where
  six : cs.length = 6
  fsix : fl.length = 6
  nsix : nl.length = 6
  short : ∀ p ∈ cs, p.1.length ≤ 3
  nok : ∀ p ∈ nl, PyData.strOk p.1 = true
  sok : ∀ p ∈ cs, PyData.strOk p.1 = true
theorem DueOk.rok {cs : List (Str × Tok)} {fl : List Bool} {nl : List (Str × Tok)} {f : Nat} (d : DueOk cs fl nl f) : ∀ x ∈ ((nl.drop f).map (·.1)), PyData.strOk x = true := fun x hx => by
  obtain ⟨p, hp, rfl⟩ := List.mem_map.mp hx
  exact d.nok p (List.mem_of_mem_drop hp)
theorem DueOk.stay_len {cs : List (Str × Tok)} {fl : List Bool} {nl : List (Str × Tok)} {f : Nat} {rest : List Str} (d : DueOk cs fl nl f) : (stayP cs fl rest).length ≤ 6 := by
  refine Nat.le_trans (List.length_filter_le _ _) ?_
  rw [List.length_zip, d.six]
  exact Nat.min_le_left _ _
theorem DueOk.stay_short {cs : List (Str × Tok)} {fl : List Bool} {nl : List (Str × Tok)} {f : Nat} {rest : List Str} (d : DueOk cs fl nl f) : ∀ p ∈ stayP cs fl rest, p.1.1.length ≤ 3 := fun p hp => by
  have h := (List.mem_filter.mp hp).1
  exact d.short _ (List.of_mem_zip (a := p.1) (b := p.2) h).1
noncomputable def dotP (x : Str) : Str := Str.ofString "." ++ x
noncomputable def lineP (x : Str) : Str := Str.ofString "257 \"\"\"" ++ x ++ Str.ofString "\"\"\""
theorem dot_len : (Str.ofString ".").length = 1 := by decide
theorem line_len1 : (Str.ofString "257 \"\"\"").length = 7 := by decide
theorem line_len2 : (Str.ofString "\"\"\"").length = 3 := by decide
noncomputable def duePile (cs : List (Str × Tok)) (fl : List Bool) (rest : List Str) : List Str := ((stayP cs fl rest).filter fun p => p.2 == true).map fun p => dotP p.1.1
noncomputable def dueReps (cs : List (Str × Tok)) (fl : List Bool) (rest : List Str) : List Str := ((stayP cs fl rest).reverse.filter fun p => p.2 == false).map fun p => lineP p.1.1
section
variable {cs : List (Str × Tok)} {fl : List Bool} {nl : List (Str × Tok)} {f : Nat} {rest : List Str}
theorem due_fst_len (d : DueOk cs fl nl f) : (duePile cs fl rest).length ≤ 100 := by
  have h := d.stay_len (rest := rest)
  unfold duePile
  rw [List.length_map]
  exact Nat.le_trans (List.length_filter_le _ _) (Nat.le_trans h (by decide))
theorem due_snd_len (d : DueOk cs fl nl f) : (dueReps cs fl rest).length ≤ 100 := by
  have h := d.stay_len (rest := rest)
  unfold dueReps
  rw [List.length_map]
  refine Nat.le_trans (List.length_filter_le _ _) ?_
  rw [List.length_reverse]
  exact Nat.le_trans h (by decide)
theorem due_fst_short (d : DueOk cs fl nl f) : ∀ y ∈ duePile cs fl rest, y.length ≤ 1000 := fun y hy => by
  obtain ⟨p, hp, rfl⟩ := List.mem_map.mp hy
  have h := d.stay_short p (List.mem_filter.mp hp).1
  rw [dotP, Str.length_append, dot_len]
  lia
theorem due_snd_short (d : DueOk cs fl nl f) : ∀ y ∈ dueReps cs fl rest, y.length ≤ 1000 := fun y hy => by
  obtain ⟨p, hp, rfl⟩ := List.mem_map.mp hy
  have h := d.stay_short p (List.mem_reverse.mp (List.mem_filter.mp hp).1)
  rw [lineP, Str.length_append, Str.length_append, line_len1, line_len2]
  lia
end
section
variable {prog : Program} {w : World} {A : Around} {E : Value → Shared → Prop} {s : Shared} {h₀ : Heap} {L : Addr} {m : Str → Option Value} {env : Env} {c : Expr} {elt : Expr} {a b : Str} {pa pb tp : Pos} {kk : Nat} {scope : Scope} {cl : List (Str × Addr)}
  {K : Addr → List Value → List (Addr × Obj) → List (Addr × Obj) → Heap → Nat → Shared → Prop} {news : List (Addr × Obj)} {cs : List (Str × Tok)} {fl : List Bool} {nl : List (Str × Tok)} {f : Nat}
theorem due_zip {l1 l2 : Addr} {n1 n2 : Nat} (DO : DueOk cs fl nl f) (hh : A.handled = none) (hl1 : (l1, listOf (strValues cs).toArray n1) ∈ news) (hl2 : (l2, listOf (boolVals fl).toArray n2) ∈ news) (F : Fr h₀ L s.heap m) (N : News h₀ L s.heap news)
    (turn : ∀ i y t k g ys own C oC D m₂ (s₂ : Shared) h tk (E' : Value → Shared → Prop), cs[i]? = some (y, t) → fl[i]? = some k → y.length ≤ 3 → PyData.strOk y = true → StayJ cs fl ((nl.drop f).map (·.1)) i ys g → LCg.NsObj oC m₂ → m₂ a = some (.str y t) → m₂ b = some (.bool k) → Fr h₀ L h m → News h₀ L h ((C, oC) :: (D, LCg.lst ys) :: (g ++ (news ++ own))) →
      @LT.lt Nat _ D C → (∀ p ∈ g ++ (news ++ own), p.1 ≠ C ∧ p.1 ≠ D) → (∀ p ∈ g, @LT.lt Nat _ C p.1) →
      wpAny (model prog w) A (isTrue c (compEnvC scope cl C env) (eval c (compEnvC scope cl C env))) (fun ok s' => if ok = true then wpAny (model prog w) A (eval elt (compEnvC scope cl C env)) (CEnd h₀ L m { s₂ with heap := h, toks := tk } C oC D (LCg.lst ys) (news ++ own) (fun y' g' => StayJ cs fl ((nl.drop f).map (·.1)) (i + 1) (ys ++ [y']) g')) E' s'
        else CEnd h₀ L m { s₂ with heap := h, toks := tk } C oC D (LCg.lst ys) (news ++ own) (fun _ g' => StayJ cs fl ((nl.drop f).map (·.1)) (i + 1) ys g') Value.none s') E' { s₂ with heap := h, toks := tk })
    (fin : ∀ D (h : Heap) tk ys g hp, (∀ p ∈ g, @LT.lt Nat _ D p.1) → (∀ p ∈ news, @LT.lt Nat _ p.1 D) → Tups g ys (stayP cs fl ((nl.drop f).map (·.1))) → ys.length ≤ 6 → K D ys g news h tk { s with heap := hp }) :
    wpAny (model prog w) A (call (.type "zip") [.ref l1, .ref l2]) (fun xv s₁ => wpAny (model prog w) A (pyIter xv) (fun it s₂ => ZAt prog w A h₀ L m env [c] elt (.Tuple [.Name a pa, .Name b pb] kk tp) a b scope cl E K it s₂) E s₁) E s := by
  refine due_stay (rest := ((nl.drop f).map (·.1))) (by rw [DO.six, DO.fsix]) hh hl1 hl2 (by rw [DO.six]; decide) F N ?_ ?_
  · intro i y t k g ys own C oC D m₂ s₂ h tk E' hi
    exact fun hk => turn i y t k g ys own C oC D m₂ s₂ h tk E' hi hk (DO.short _ (List.mem_of_getElem? hi)) (DO.sok _ (List.mem_of_getElem? hi))
  · intro D h tk ys g hp hg hn ht
    exact fin D h tk ys g hp hg hn ht (by rw [ht.len]; exact DO.stay_len)
theorem due_fst {l : Addr} {vs : List Value} {n1 : Nat} {g₀ : List (Addr × Obj)} (DO : DueOk cs fl nl f) (hh : A.handled = none) (hl : (l, listOf vs.toArray n1) ∈ news) (ht : Tups g₀ vs (stayP cs fl ((nl.drop f).map (·.1)))) (hg : ∀ p ∈ g₀, p ∈ news) (F : Fr h₀ L s.heap m) (N : News h₀ L s.heap news)
    (turn : ∀ i y t k g ys own C oC D m₂ (s₂ : Shared) h tk (E' : Value → Shared → Prop), (stayP cs fl ((nl.drop f).map (·.1)))[i]? = some ((y, t), k) → y.length ≤ 3 → PartJ (stayP cs fl ((nl.drop f).map (·.1))) true dotP i ys g → LCg.NsObj oC m₂ → m₂ a = some (.str y t) → m₂ b = some (.bool k) → Fr h₀ L h m → News h₀ L h ((C, oC) :: (D, LCg.lst ys) :: (g ++ (news ++ own))) →
      @LT.lt Nat _ D C → (∀ p ∈ g ++ (news ++ own), p.1 ≠ C ∧ p.1 ≠ D) → (∀ p ∈ g, @LT.lt Nat _ C p.1) →
      wpAny (model prog w) A (isTrue c (compEnvC scope cl C env) (eval c (compEnvC scope cl C env))) (fun ok s' => if ok = true then wpAny (model prog w) A (eval elt (compEnvC scope cl C env)) (CEnd h₀ L m { s₂ with heap := h, toks := tk } C oC D (LCg.lst ys) (news ++ own) (fun y' g' => PartJ (stayP cs fl ((nl.drop f).map (·.1))) true dotP (i + 1) (ys ++ [y']) g')) E' s'
        else CEnd h₀ L m { s₂ with heap := h, toks := tk } C oC D (LCg.lst ys) (news ++ own) (fun _ g' => PartJ (stayP cs fl ((nl.drop f).map (·.1))) true dotP (i + 1) ys g') Value.none s') E' { s₂ with heap := h, toks := tk })
    (fin : ∀ D (h : Heap) tk (ts : List (Str × Tok)) hp, (∀ p ∈ news, @LT.lt Nat _ p.1 D) → ts.map (·.1) = duePile cs fl ((nl.drop f).map (·.1)) → (∀ y ∈ duePile cs fl ((nl.drop f).map (·.1)), y.length ≤ 1000) → (duePile cs fl ((nl.drop f).map (·.1))).length ≤ 100 → K D (strValues ts) [] news h tk { s with heap := hp }) :
    wpAny (model prog w) A (pyIter (.ref l)) (fun it s₂ => ZAt prog w A h₀ L m env [c] elt (.Tuple [.Name a pa, .Name b pb] kk tp) a b scope cl E K it s₂) E s := by
  refine due_part true dotP (ht.mono hg) (Nat.lt_of_le_of_lt DO.stay_len (by decide)) hh hl F N ?_ ?_
  · intro i y t k g ys own C oC D m₂ s₂ h tk E' hi
    exact turn i y t k g ys own C oC D m₂ s₂ h tk E' hi (DO.stay_short _ (List.mem_of_getElem? hi))
  · intro D h tk ts hp hn e
    exact fin D h tk ts hp hn e (due_fst_short DO) (due_fst_len DO)
theorem due_snd {l : Addr} {vs : List Value} {n1 : Nat} {g₀ : List (Addr × Obj)} (DO : DueOk cs fl nl f) (hh : A.handled = none) (hl : (l, listOf vs.toArray n1) ∈ news) (ht : Tups g₀ vs ((stayP cs fl ((nl.drop f).map (·.1))).reverse)) (hg : ∀ p ∈ g₀, p ∈ news) (F : Fr h₀ L s.heap m) (N : News h₀ L s.heap news)
    (turn : ∀ i y t k g ys own C oC D m₂ (s₂ : Shared) h tk (E' : Value → Shared → Prop), ((stayP cs fl ((nl.drop f).map (·.1))).reverse)[i]? = some ((y, t), k) → y.length ≤ 3 → PartJ ((stayP cs fl ((nl.drop f).map (·.1))).reverse) false lineP i ys g → LCg.NsObj oC m₂ → m₂ a = some (.str y t) → m₂ b = some (.bool k) → Fr h₀ L h m → News h₀ L h ((C, oC) :: (D, LCg.lst ys) :: (g ++ (news ++ own))) →
      @LT.lt Nat _ D C → (∀ p ∈ g ++ (news ++ own), p.1 ≠ C ∧ p.1 ≠ D) → (∀ p ∈ g, @LT.lt Nat _ C p.1) →
      wpAny (model prog w) A (isTrue c (compEnvC scope cl C env) (eval c (compEnvC scope cl C env))) (fun ok s' => if ok = true then wpAny (model prog w) A (eval elt (compEnvC scope cl C env)) (CEnd h₀ L m { s₂ with heap := h, toks := tk } C oC D (LCg.lst ys) (news ++ own) (fun y' g' => PartJ ((stayP cs fl ((nl.drop f).map (·.1))).reverse) false lineP (i + 1) (ys ++ [y']) g')) E' s'
        else CEnd h₀ L m { s₂ with heap := h, toks := tk } C oC D (LCg.lst ys) (news ++ own) (fun _ g' => PartJ ((stayP cs fl ((nl.drop f).map (·.1))).reverse) false lineP (i + 1) ys g') Value.none s') E' { s₂ with heap := h, toks := tk })
    (fin : ∀ D (h : Heap) tk (ts : List (Str × Tok)) hp, (∀ p ∈ news, @LT.lt Nat _ p.1 D) → ts.map (·.1) = dueReps cs fl ((nl.drop f).map (·.1)) → (∀ y ∈ dueReps cs fl ((nl.drop f).map (·.1)), y.length ≤ 1000) → (dueReps cs fl ((nl.drop f).map (·.1))).length ≤ 100 → K D (strValues ts) [] news h tk { s with heap := hp }) :
    wpAny (model prog w) A (pyIter (.ref l)) (fun it s₂ => ZAt prog w A h₀ L m env [c] elt (.Tuple [.Name a pa, .Name b pb] kk tp) a b scope cl E K it s₂) E s := by
  refine due_part false lineP (ht.mono hg) (by simp only [List.length_reverse]; exact Nat.lt_of_le_of_lt DO.stay_len (by decide)) hh hl F N ?_ ?_
  · intro i y t k g ys own C oC D m₂ s₂ h tk E' hi
    exact turn i y t k g ys own C oC D m₂ s₂ h tk E' hi (DO.stay_short _ (List.mem_reverse.mp (List.mem_of_getElem? hi)))
  · intro D h tk ts hp hn e
    exact fin D h tk ts hp hn e (due_snd_short DO) (due_snd_len DO)
end
end Mine
-- MD
namespace Mine
theorem rows1_MD : True := by
  k_with_none
  k_with "k_ne" => first | exact ne_l1 (by with_reducible assumption) | exact ne_r1 (by with_reducible assumption) | exact ne_l2 (by with_reducible assumption) | exact ne_r2 (by with_reducible assumption) | exact ne_l3 (by with_reducible assumption) | exact ne_r3 (by with_reducible assumption) | exact ne_l0 (by with_reducible assumption) | exact ne_r0 (by with_reducible assumption) | exact ne_l4 (by with_reducible assumption) | exact ne_r4 (by with_reducible assumption) | exact ne_l5 (by with_reducible assumption) | exact ne_r5 (by with_reducible assumption)
  k_with "ktr_room" => first | exact room_c 0 hd rfl | exact room_c 1 hd rfl | exact room_c 6 hd rfl | exact room_c 9 hd rfl | exact room_c 21 hd rfl | exact Nat.le_of_ble_eq_true rfl
  k_with "ktr_units" => first | exact room_c 43 hu rfl | exact room_c 63 hu rfl | exact room_c 203 hu rfl | exact Nat.le_of_ble_eq_true rfl
  k_with "call builtin:str.find" => (k_dflt (k_here; (with_reducible show wpAny _ _ (call (Value.builtin "str.find") [Value.str _ _, Value.str _ _, Value.int _ _, Value.int _ _]) _ _ _); refine call_find4 ?_))
  k_with "call builtin:str.rfind" => (k_dflt (k_here; (with_reducible show wpAny _ _ (call (Value.builtin "str.rfind") [Value.str _ _, Value.str _ _, Value.int _ _, Value.int _ _]) _ _ _); refine call_rfind4 ?_))
  k_with "call ref" => (k_here; refine wpAny_call ?_; k_dflt (refine' code_def ?k1z6 ?k2z6 ?k3z6 ?k4z6 ?k5z6 ?kAz6 ?kFz6 ?kKz6 ?k6z6 ?k7z6 ?k8z6 ?k9z6 ?kBz6 ?_ ?c2z6 ?c3z6 ?c4z6 ?c5z6; (case kAz6 => exact rfl); (case kFz6 => exact rfl); (case kKz6 => first | exact rfl | assumption); (case k1z6 => k_asm); (case k2z6 => k_asm); (case k3z6 => k_asm); (case k4z6 => k_asm); (case k5z6 => k_asm); (case k6z6 => k_is); (case k7z6 => k_is); (case k8z6 => ktr_room); (case k9z6 => exact BindsTo.of_eq rfl); (case c5z6 => decide); (case kBz6 => exact locs rfl); (case c2z6 => exact rfl); (case c3z6 => exact rfl); (case c4z6 => exact rfl); k_whole; intro g' L' h' FG' F' N' B' X' T'; (try dsimp only); (try k_lift B'); (try k_fold)))
  k_with "call ref" => (k_here; (with_reducible show wpAny _ _ (call (Value.ref 67) [Value.str _ _, Value.str _ _]) _ _ _); k_dflt (refine' strcoll _ _ _ _ _ _ _ _ _ _ _ _ _ _ _ _ _ _ _ _ _ _ _ _ _ _ ?k1z7 ?k2z7 ?k3z7 ?k4z7 ?k5z7 ?kKz7 ?kdz7 ?kuz7  ?_; (case k1z7 => k_asm); (case k2z7 => k_asm); (case k3z7 => k_in); (case k4z7 => k_asm); (case k5z7 => k_asm); (case kKz7 => first | exact rfl | assumption); (case kdz7 => ktr_room); (case kuz7 => ktr_units); intro t9 h9 tk9 F9 N9; (try dsimp only); (try k_fold)))
  k_with "call ref" => (k_here; (with_reducible show wpAny _ _ (call (Value.ref 84) [Value.int _ _]) _ _ _); k_dflt (refine' isterm _ _ _ _ _ _ _ _ _ _ _ _ _ _ _ _ _ _ _ _ _ _ _ _ ?k1z8 ?k2z8 ?k3z8 ?k4z8 ?k5z8 ?kKz8 ?kdz8 ?kuz8  ?_; (case k1z8 => k_asm); (case k2z8 => k_asm); (case k3z8 => k_in); (case k4z8 => k_asm); (case k5z8 => k_asm); (case kKz8 => first | exact rfl | assumption); (case kdz8 => ktr_room); (case kuz8 => ktr_units); intro t9 h9 tk9 F9 N9; (try dsimp only); (try k_fold)))
  k_with "call ref" => (k_here; (with_reducible show wpAny _ _ (call (Value.ref 91) [Value.int _ _]) _ _ _); k_dflt (refine' iseof _ _ _ _ _ _ _ _ _ _ _ _ _ _ _ _ _ _ _ _ _ _ _ _ ?k1z9 ?k2z9 ?k3z9 ?k4z9 ?k5z9 ?kKz9 ?kdz9 ?kuz9  ?_; (case k1z9 => k_asm); (case k2z9 => k_asm); (case k3z9 => k_in); (case k4z9 => k_asm); (case k5z9 => k_asm); (case kKz9 => first | exact rfl | assumption); (case kdz9 => ktr_room); (case kuz9 => ktr_units); intro t9 h9 tk9 F9 N9; (try dsimp only); (try k_fold)))
  k_with "call ref" => (k_here; (with_reducible show wpAny _ _ (call (Value.ref 28) [Value.str _ _]) _ _ _); k_dflt (refine' stripd _ _ _ ?hxz10 _ _ _ _ _ _ _ _ _ _ _ _ _ _ _ _ _ _ _ _ _ ?k1z10 ?k2z10 ?k3z10 ?k4z10 ?k5z10 ?kKz10 ?kdz10 ?kuz10  ?_; (case k1z10 => k_asm); (case k2z10 => k_asm); (case k3z10 => k_in); (case k4z10 => k_asm); (case k5z10 => k_asm); (case kKz10 => first | exact rfl | assumption); (case kdz10 => ktr_room); (case kuz10 => ktr_units); (case hxz10 => first | assumption | omega | size_fits); intro t9 h9 tk9 F9 N9; (try dsimp only); (try k_fold)))
  k_with "CompEnd" => (k_dflt (k_here; refine LCg.CompEnd.intro (by assumption) (by assumption) _ ?csubz11 (by assumption) (by assumption) ⟨rfl, ?_⟩; (case csubz11 => kcf_all)))
  trivial
theorem join_le {ys : List Str} (hb : ∀ y ∈ ys, y.length ≤ 1000) (hl : ys.length ≤ 100) : (Txt.join (Str.ofString "") ys).length ≤ 100000 := by
  rw [eq_of_beq (join_plain_closes (Str.ofString "") ys)]
  have h1 := StrLaws.join_length_le (Str.ofString "") ys
  have h2 := sum_small hb
  have h3 : ys.length * (Str.ofString "").length = 0 := by rw [show (Str.ofString "").length = 0 from rfl]; rfl
  have h4 : ys.length * 1000 ≤ 100 * 1000 := Nat.mul_le_mul hl (Nat.le_refl _)
  lia
theorem due_rev {prog : Program} {w : World} {A : Around} {E : Value → Shared → Prop} {s : Shared} {h₀ : Heap} {L l : Addr} {m : Str → Option Value} {news : List (Addr × Obj)} {value slice : PySem.Expr} {vs : List Value} {n : Nat} {t1 : Tok} {ops : List Value} {Q : Value → Shared → Prop} {g₀ : List (Addr × Obj)} {st : List ((Str × Tok) × Bool)}
    (F : Fr h₀ L s.heap m) (N : News h₀ L s.heap news) (hl : (l, listOf vs.toArray n) ∈ news) (ht : Tups g₀ vs st) (hz : vs.length ≤ 6)
    (h : ∀ D h', Fr h₀ L h' m → News h₀ L h' ((D, listOf vs.reverse.toArray 0) :: news) → (∀ p ∈ news, p.1 < D) → Tups g₀ vs.reverse st.reverse → Q (.ref D) { s with heap := h' })
    (hs : subscripted slice false (.ref l) (.ref s.heap.objs.size) = operate ops (getItem (.ref l) (.ref s.heap.objs.size))) (hp : ∀ r, letTemporaryGo value (.ref l) r = pure ()) :
    wpAny (model prog w) A (subscriptTail value slice (.ref l) (.ref s.heap.objs.size)) Q E { s with heap := s.heap.push { cls := .type "slice", data := .fields #[.none, .none, .int (-1) t1] } } :=
  krv_lit (its := vs.toArray) (zs := vs.reverse) F N (News.isList N hl) (IsPart.int _ _) rfl (fun D h' F' N' l1 => h D h' F' N' l1 ht.rev) hs hp (by rw [List.size_toArray, sizeLine_eq]; lia)
theorem sub_yes {α : Type} {t s c d : α} {g post : List α} : ∀ p ∈ c :: d :: ((t :: g) ++ post), p ∈ t :: s :: c :: d :: (g ++ post) := fun p hp => by
  simp only [List.cons_append, List.mem_cons] at hp ⊢
  rcases hp with h | h | h | h
  · exact .inr (.inr (.inl h))
  · exact .inr (.inr (.inr (.inl h)))
  · exact .inl h
  · exact .inr (.inr (.inr (.inr h)))
theorem sub_end {α : Type} {a b c d e f x y : α} {g l : List α} : ∀ p ∈ a :: b :: l, p ∈ a :: b :: c :: d :: e :: f :: (g ++ x :: y :: l) := fun p hp => by
  rcases List.mem_cons.mp hp with rfl | hp
  · exact .head _
  · rcases List.mem_cons.mp hp with rfl | hp
    · exact .tail _ (.head _)
    · exact .tail _ (.tail _ (.tail _ (.tail _ (.tail _ (.tail _ (List.mem_append_right _ (.tail _ (.tail _ hp))))))))
theorem lt_yes {C T : Addr} {o : Obj} {g : List (Addr × Obj)} (h : @LT.lt Nat _ C T) (hg : ∀ p ∈ g, @LT.lt Nat _ C p.1) : ∀ p ∈ (T, o) :: g, @LT.lt Nat _ C p.1 := fun p hp => by
  rcases List.mem_cons.mp hp with rfl | hp
  · exact h
  · exact hg p hp
theorem len_empty1 : (Str.ofString "").length ≤ 100 := by decide
theorem rows2_MD : True := by
  k_with "sub_in" => (refine List.Mem.tail _ ?_; k_extra "sub_in")
  k_with "sub_in" => (refine List.mem_append_right _ ?_; k_extra "sub_in")
  k_with "sub_in" => (refine List.mem_append_left _ ?_; k_extra "sub_in")
  k_with "sub_in" => assumption
  k_with "k_all" => with_reducible assumption
  k_with "k_all" => (refine List.forall_mem_append.mpr ⟨?_, ?_⟩ <;> k_all)
  k_with "k_mem" => (refine List.mem_append_right _ ?_; k_mem)
  k_with "k_mem" => (refine List.mem_append_left _ ?_; k_mem)
  k_with "k_mem" => assumption
  k_with "exec Assign cons ListComp" => (k_here; k_dflt (refine Assign_ListComp_Z (by k_asm) rfl (by with_unfolding_all rfl) (by with_unfolding_all rfl) (by decide) (by rfl) (by decide) (by rfl) (by rfl) (by decide) (by rfl) (by rfl) ?_))
  k_with "eval ListComp" => (k_here; k_dflt (refine ListComp_Z (by k_asm) (by with_unfolding_all rfl) (by decide) (by rfl) (by decide) (by rfl) (by rfl) (by decide) ?_))
  k_with "call type:zip" => (k_here; (rename Fr _ _ _ _ => lF'); (rename News _ _ _ _ => lN'); (rename DueOk _ _ _ _ => hDO'); k_dflt (refine' due_zip hDO' rfl ?az23 ?bz23 lF' lN' ?_ ?_; (case az23 => k_mem); (case bz23 => k_mem)); (all_goals first | (intro i y t k g ys own C oC D m₂ s₂ h' tk' E' hi' hk' hy' hs' hJ' hC' ha' hb' F' N' hDC' off' hg'; clear lF' lN') | (intro D' h' tk' ys' g hp' hg' hn' ht' hl'; intro F' N'; clear lF' lN')))
  k_with "subscriptTail Name Slice ref ref" => (k_here; k_dflt (first | (refine' slice_drop ?Fz24 ?Nz24 ?lz24 ?zz24 ?_ ?sz24 ?tz24; (case Fz24 => k_asm); (case Nz24 => k_asm); (case lz24 => k_mem); (case zz24 => omega); (case sz24 => with_unfolding_all rfl); (case tz24 => kmk_pure)) | (refine' slice_take ?Fz24 ?Nz24 ?lz24 ?zz24 ?_ ?sz24 ?tz24; (case Fz24 => k_asm); (case Nz24 => k_asm); (case lz24 => k_mem); (case zz24 => omega); (case sz24 => with_unfolding_all rfl); (case tz24 => kmk_pure))); intro D' h' F' N' l1)
  k_with "compareOp In str ref" => (k_here; (rename DueOk _ _ _ _ => hDO'); k_dflt (refine' in_strs ?Nz25 ?az25 ?cz25 ?dz25 ?uz25 ?_; (case Nz25 => k_asm); (case az25 => k_mem); (case cz25 => exact DueOk.rok hDO'); (case dz25 => with_reducible assumption); (case uz25 => ke_room)))
  k_with "CEnd" => k_dflt (fail)
  k_with "pyIter ref!" => (k_here; (with_reducible show wpAny _ _ (pyIter (Value.ref _)) (fun it s₂ => ZAt _ _ _ _ _ _ _ _ _ _ _ _ _ _ _ _ it s₂) _ _); (rename Fr _ _ _ _ => lF'); (rename News _ _ _ _ => lN'); (rename Tups _ _ _ => lT'); (rename DueOk _ _ _ _ => hDO'); k_dflt (first | (refine' due_fst hDO' rfl ?hlz27 lT' ?hgz27 lF' lN' ?_ ?_; (case hlz27 => k_mem); (case hgz27 => (intro p hp; k_extra "sub_in"))) | (refine' due_snd hDO' rfl ?hlz27 lT' ?hgz27 lF' lN' ?_ ?_; (case hlz27 => k_mem); (case hgz27 => (intro p hp; k_extra "sub_in")))); (all_goals first | (intro i y t k g ys own C oC D m₂ s₂ h' tk' E' hi' hy' hJ' hC' ha' hb' F' N' hDC' off' hg'; clear lF' lN') | (intro D' h' tk' ts' hp' hn' he' hb' hl'; intro F' N'; clear lF' lN' hn'; (with_reducible rw [List.nil_append] at N'))))
  k_with "subscriptTail Name Slice ref ref" => (k_here; (with_reducible show wpAny _ _ (subscriptTail _ (PySem.Expr.Slice none none (some _) _) (Value.ref _) (Value.ref _)) _ _ _); (rename Tups _ _ _ => lT'); k_dflt (refine' due_rev ?Fz28 ?Nz28 ?lz28 lT' ?zz28 ?_ ?sz28 ?tz28; (case Fz28 => k_asm); (case Nz28 => k_asm); (case lz28 => k_mem); (case zz28 => with_reducible assumption); (case sz28 => with_unfolding_all rfl); (case tz28 => kmk_pure)); intro D' h' F' N' l1 hT'; clear l1 lT')
  k_with "call builtin:str.join" => (k_here; (with_reducible show wpAny _ _ (call (Value.builtin "str.join") [Value.str _ _, Value.ref _]) _ _ _); k_dflt (refine' join_sv ?kNz29 ?kmz29 ?kyz29 ?kxz29 ?kbz29 ?klz29 ?_; (case kNz29 => k_asm); (case kmz29 => k_mem); (case kyz29 => with_reducible assumption); (case kxz29 => exact len_empty1); (case kbz29 => with_reducible assumption); (case klz29 => with_reducible assumption)); intro t' tk'; (have hj9' := join_le (by with_reducible assumption) (by with_reducible assumption)))
  trivial
set_option maxHeartbeats 800000 in
theorem due (w : World) (cl nl : List (Str × Tok)) (fl : List Bool) (f : Nat) (DO : DueOk cl fl nl f) (qc qf qn : Addr) (kc kf kn : Nat) (tf : Tok)
    {pT : Program} {lT : List Str} (mean : ExcName → Option Value) (mg mb : Str → Option Value) (dp un : Nat) (gd : Option (List Code)) (cn : Str) (cs : Scope) (a : Addr) (ccd : Value) (cl' : List (Str × Addr)) (outer : List Env) (A₀ : Around) (base h₀ : Heap) (L : Addr) (m : Str → Option Value) (news : List (Addr × Obj)) (s : Shared) (Q E : Value → Shared → Prop) :
    Below A₀ base outer h₀ → Fr h₀ L s.heap m → (Mine.hd.heap_1 w.params).In h₀ → News h₀ L s.heap news → Top pT lT mean mg mb h₀ → cs.kind = .function →
    dp + 20 < recursionLimit → un + 200 < cLine → (qc, listOf (strValues cl).toArray kc) ∈ news → (qf, listOf (boolVals fl).toArray kf) ∈ news → (qn, listOf (strValues nl).toArray kn) ∈ news →
    (∀ T o e tp tr h' tk', Fr h₀ L h' m → News h₀ L h' ((T, tupOf [.str (Str.ofString "C" ++ Txt.join (Str.ofString "") (duePile cl fl ((nl.drop f).map (·.1)))) tp, .str (Txt.join (Str.ofString "") (dueReps cl fl ((nl.drop f).map (·.1))) ++ Str.ofString "257") tr, .ref o]) :: (o, listOf (strValues (nl.take f)).toArray e) :: news) → Q (.ref T) { s with heap := h', toks := tk' }) →
    wpAny (model PySem.Challenge.rw_wr0036_01.row.prog w) (ktrTop dp un gd cn cs L a ccd cl' outer) (call (.ref 127) [.ref qc, .ref qf, .ref qn, .int (f : Nat) tf]) Q E s := by
  k_fill
  intro B F X N T hk hd hu hc hf hn hret
  refine wpAny_call ?_
  k_dflt (refine' code_defC (binds := [(Str.ofString "called", Value.ref qc), (Str.ofString "firsts", Value.ref qf), (Str.ofString "names", Value.ref qn), (Str.ofString "free", Value.int (f : Nat) tf)]) ?k1 ?k2 ?k3 ?k4 ?k5 ?kA ?kF ?kK ?k6 ?k7 ?k8 ?k9 ?kB ?kD ?_ ?c2 ?c3 ?c4; (case kA => exact rfl); (case kF => exact rfl); (case kK => assumption); (case k1 => k_asm); (case k2 => k_asm); (case k3 => k_asm); (case k4 => k_asm); (case k5 => k_asm); (case k6 => k_is); (case k7 => k_is); (case k8 => ktr_room); (case k9 => exact BindsTo.of_eq rfl); (case kB => exact rfl); (case kD => decide +kernel); (case c2 => exact rfl); (case c3 => exact rfl); (case c4 => exact rfl); k_whole; intro g' L' h' tk' cells' FG' F' N' Y' B' X' T' l1; (try k_lt l1); k_cells Y'; (try simp only [List.cons_append, List.nil_append] at N'); (try dsimp only); (try k_lift B'); (try k_fold))
  have h6 := DO.nsix
  have hd1 := dot_len
  have hd2 := line_len1
  have hd3 := line_len2
  k_steps
  all_goals (rename Fr _ _ _ _ => F9; rename News _ _ _ _ => N9)
  · rename StayJ _ _ _ _ _ _ => hJ9
    rename (_ ∧ _ ∧ _ ∧ AllLt _ _) => hl9
    exact cendI F9 N9 sub_yes (lt_yes hl9.2.1 (by with_reducible assumption)) (StayJ.yes hJ9 (by with_reducible assumption) (by with_reducible assumption) (by with_reducible assumption))
  · rename StayJ _ _ _ _ _ _ => hJ9
    exact cendI F9 N9 (fun p hp => .tail _ hp) (by with_reducible assumption) (StayJ.no hJ9 (by with_reducible assumption) (by with_reducible assumption) (by with_reducible assumption))
  · rename PartJ _ _ _ _ _ _ => hJ9
    rename (_ = true) => hk9
    subst hk9
    obtain ⟨rfl, hJ8⟩ := PartJ.yes hJ9 (by with_reducible assumption) rfl
    exact cendI (g' := []) F9 N9 (fun p hp => hp) (fun _ h => nomatch h) hJ8
  · rename PartJ _ _ _ _ _ _ => hJ9
    rename (_ = false) => hk9
    subst hk9
    obtain ⟨rfl, hJ8⟩ := PartJ.no hJ9 (by with_reducible assumption) rfl
    exact cendI (g' := []) F9 N9 (fun p hp => hp) (fun _ h => nomatch h) hJ8
  · rename PartJ _ _ _ _ _ _ => hJ9
    rename (_ = true) => hk9
    subst hk9
    obtain ⟨rfl, hJ8⟩ := PartJ.no hJ9 (by with_reducible assumption) rfl
    exact cendI (g' := []) F9 N9 (fun p hp => hp) (fun _ h => nomatch h) hJ8
  · rename PartJ _ _ _ _ _ _ => hJ9
    rename (_ = false) => hk9
    subst hk9
    obtain ⟨rfl, hJ8⟩ := PartJ.yes hJ9 (by with_reducible assumption) rfl
    exact cendI (g' := []) F9 N9 (fun p hp => hp) (fun _ h => nomatch h) hJ8
  · rename Fr _ L _ m => kF
    rename News _ L _ _ => kN
    exact hret _ _ _ _ _ _ _ kF (cb_drop kN sub_end)
end Mine
-- ML16
namespace Mine
noncomputable def NumJ (F : Int → Int → Int) (ns1 ns2 : List Int) (i : Nat) (ys : List Value) (g : List (Addr × Obj)) : Prop := g = [] ∧ ∃ ts : List (Int × Tok), ys = intValues ts ∧ ts.map (·.1) = (List.zipWith F ns1 ns2).take i
theorem NumJ.next {F : Int → Int → Int} {ns1 ns2 : List Int} {i : Nat} {ys : List Value} {g : List (Addr × Obj)} {x y z : Int} {tz : Tok} (h : NumJ F ns1 ns2 i ys g) (h1 : ns1[i]? = some x) (h2 : ns2[i]? = some y) (hz : z = F x y) : g = [] ∧ NumJ F ns1 ns2 (i + 1) (ys ++ [.int z tz]) [] := by
  obtain ⟨rfl, ts, rfl, e⟩ := h
  refine ⟨rfl, rfl, ts ++ [(z, tz)], by simp [intValues], ?_⟩
  have e2 : (List.zipWith F ns1 ns2)[i]? = some z := by
    rw [List.getElem?_zipWith, h1, h2, hz]
  rw [List.take_add_one, e2, List.map_append, e]
  rfl
section
variable {prog : Program} {w : World} {A : Around} {E : Value → Shared → Prop} {s : Shared} {h₀ : Heap} {L : Addr} {m : Str → Option Value} {env : Env} {elt : Expr} {a b : Str} {pa pb tp : Pos} {kk : Nat} {scope : Scope} {cl : List (Str × Addr)}
  {K : Addr → List Value → List (Addr × Obj) → List (Addr × Obj) → Heap → Nat → Shared → Prop} {news : List (Addr × Obj)}
theorem zip_nums (F : Int → Int → Int) {l1 l2 : Addr} {vs1 vs2 : List Value} {n1 n2 : Nat} {ns1 ns2 : List Int} (hI1 : IntsAre vs1 ns1) (hI2 : IntsAre vs2 ns2) (hh : A.handled = none) (hl1 : (l1, listOf vs1.toArray n1) ∈ news) (hl2 : (l2, listOf vs2.toArray n2) ∈ news) (hsz : vs1.length < 1000) (F₀ : Fr h₀ L s.heap m) (N : News h₀ L s.heap news)
    (turn : ∀ i x y t u ys own C oC D m₂ (s₂ : Shared) h tk (E' : Value → Shared → Prop), ns1[i]? = some x → ns2[i]? = some y → NumJ F ns1 ns2 i ys [] → LCg.NsObj oC m₂ → m₂ a = some (.int x t) → m₂ b = some (.int y u) → Fr h₀ L h m → News h₀ L h ((C, oC) :: (D, LCg.lst ys) :: (news ++ own)) →
      @LT.lt Nat _ D C → (∀ p ∈ news ++ own, p.1 ≠ C ∧ p.1 ≠ D) →
      wpAny (model prog w) A (eval elt (compEnvC scope cl C env)) (CEnd h₀ L m { s₂ with heap := h, toks := tk } C oC D (LCg.lst ys) (news ++ own) (fun y' g' => NumJ F ns1 ns2 (i + 1) (ys ++ [y']) g')) E' { s₂ with heap := h, toks := tk })
    (fin : ∀ D (h : Heap) tk (ts : List (Int × Tok)) hp, (∀ p ∈ news, @LT.lt Nat _ p.1 D) → ts.map (·.1) = List.zipWith F ns1 ns2 → K D (intValues ts) [] news h tk { s with heap := hp }) :
    wpAny (model prog w) A (call (.type "zip") [.ref l1, .ref l2]) (fun xv s₁ => wpAny (model prog w) A (pyIter xv) (fun it s₂ => ZAt prog w A h₀ L m env [] elt (.Tuple [.Name a pa, .Name b pb] kk tp) a b scope cl E K it s₂) E s₁) E s := by
  obtain ⟨p1, rfl, rfl⟩ := intsAre_ps hI1
  obtain ⟨p2, rfl, rfl⟩ := intsAre_ps hI2
  refine zipZ (NumJ F (p1.map (·.1)) (p2.map (·.1))) hh (.inl rfl) hl1 hl2 hsz F₀ N ⟨rfl, [], rfl, by simp⟩ ?_ ?_
  · intro i x y g ys own C oC D m₂ s₂ h tk E' hx hy hJ hC ha hb F₁ N₁ hDC off hg
    unfold intValues at hx hy
    rw [List.getElem?_map] at hx hy
    obtain ⟨x, hx1, rfl⟩ := Option.map_eq_some_iff.mp hx
    obtain ⟨y, hy1, rfl⟩ := Option.map_eq_some_iff.mp hy
    have hJ' := hJ
    obtain ⟨rfl, _⟩ := hJ'
    exact turn i x.1 y.1 x.2 y.2 ys own C oC D m₂ s₂ h tk E' (by rw [List.getElem?_map, hx1]; rfl) (by rw [List.getElem?_map, hy1]; rfl) hJ hC ha hb F₁ N₁ hDC off
  · intro D h tk ys g hp hg hn hJ
    obtain ⟨rfl, ts, rfl, e⟩ := hJ
    refine fin D h tk ts hp hn ?_
    rw [e, List.take_of_length_le]
    simp [intValues]
end
end Mine
-- ML17
namespace Mine
section
variable {prog : Program} {w : World} {A : Around} {E : Value → Shared → Prop} {s : Shared} {h₀ : Heap} {L : Addr} {m : Str → Option Value} {env : Env}
theorem comp_blockN {elt iter : Expr} {cs : List Expr} {a : Str} {pa : Pos} {scope : Scope} {cl : List (Str × Addr)} {pos : Pos} {s₂ : Shared} {I : Addr} {fp wr : List Addr} {n : Nat} {P Md : Nat → Value → Heap → Prop} {St : Nat → Heap → Prop} {P2 : Nat → Value → Prop} {news : List (Addr × Obj)}
    {J : Nat → List Value → List (Addr × Obj) → Prop} {RR : Value → Addr → Result → Shared → Prop}
    (W : KTurns prog w A (.Name a pa) I fp wr n P Md St) (hself : ∀ (s : Shared) (Q : Value → Shared → Prop) (E : Value → Shared → Prop), St 0 s.heap → Q (.ref I) s → wpAny (model prog w) A (pyIter (.ref I)) Q E s)
    (hh : A.handled = none) (hcs : cs = [] ∨ ∃ c, cs = [c]) (hsz : n ≤ sizeLine)
    (hP : ∀ i v h, P i v h → P2 i v)
    (hcell : ∀ y ∈ scope.names, y.2 ≠ .cell) (hkind : scope.kind = .function) (hxa : scope.names.lookup a = some .local)
    (hst : St 0 s₂.heap) (hfp : ∀ b ∈ fp, @LT.lt Nat _ b s₂.heap.objs.size) (hLf : L ∉ fp) (hwr : ∀ b ∈ wr, h₀.get? b = none) (hnw : ∀ p ∈ news, p.1 ∉ wr)
    (F : Fr h₀ L s₂.heap m) (N : News h₀ L s₂.heap news) (h0 : J 0 [] [])
    (turn : ∀ i x g ys own C oC D m₂ h tk (E' : Value → Shared → Prop), i < n → P2 i x → J i ys g → LCg.NsObj oC m₂ → m₂ a = some x → Fr h₀ L h m → News h₀ L h ((C, oC) :: (D, LCg.lst ys) :: (g ++ (news ++ own))) →
      @LT.lt Nat _ D C → (∀ p ∈ g ++ (news ++ own), p.1 ≠ C ∧ p.1 ≠ D) → (∀ p ∈ g, @LT.lt Nat _ C p.1) →
      compBody prog w A cs elt (compEnvC scope cl C env) (CEnd h₀ L m { s₂ with heap := h, toks := tk } C oC D (LCg.lst ys) (news ++ own) (fun y' g' => J (i + 1) (ys ++ [y']) g'))
        (CEnd h₀ L m { s₂ with heap := h, toks := tk } C oC D (LCg.lst ys) (news ++ own) (fun _ g' => J (i + 1) ys g') Value.none) E' { s₂ with heap := h, toks := tk })
    (hRR : ∀ D C h tk m' ys g, Fr h₀ L h m → News h₀ L h ((D, LCg.lst ys) :: (g ++ news)) → h.Ns C m' → h₀.get? C = none → h₀.get? D = none → C ≠ L → D ≠ L → C ≠ D → (∀ p ∈ g ++ news, p.1 ≠ C ∧ p.1 ≠ D) → (∀ p ∈ g, @LT.lt Nat _ D p.1) → (∀ p ∈ news, @LT.lt Nat _ p.1 D) → J n ys g → RR (.ref D) C (.ok .next) { s₂ with heap := h, toks := tk }) :
    wpAny (model prog w) A (newList []) (fun acc s₃ => wpAny (model prog w) A (newFunctionEnv scope env.globals cl [] env.qual none .none (some env)) (fun cenv s₄ =>
      codeAny (model prog w) A (.compStart (.ListComp elt [⟨.Name a pa, iter, cs, 0⟩] scope pos) 0 (.ref I) acc { cenv with scope := relabel scope env }) (RR acc cenv.locals) s₄) E s₃) E s₂ := by
  refine wpAny_newObj_type (wpAny_newFunctionEnv hcell (by intro y hy; simp at hy) (fun h₁ hns₁ hsb₁ => ?_) hkind)
  dsimp only at hns₁ hsb₁ ⊢
  generalize hH2 : s₂.heap.push { cls := .type "list", dict := none, data := .seq ([] : List Value).toArray } = H2 at hns₁ hsb₁ ⊢
  have hC : @Eq Nat H2.objs.size (s₂.heap.objs.size + 1) := by rw [← hH2, Heap.size_push]
  have hDC : @LT.lt Nat _ s₂.heap.objs.size H2.objs.size := by rw [hC]; exact Nat.lt_succ_self _
  have below : ∀ b, @LT.lt Nat _ b s₂.heap.objs.size → b ≠ H2.objs.size ∧ b ≠ s₂.heap.objs.size := fun b hb => ⟨Nat.ne_of_lt (Nat.lt_trans hb hDC), Nat.ne_of_lt hb⟩
  have hDf : s₂.heap.objs.size ∉ fp := fun hm => Nat.lt_irrefl _ (hfp _ hm)
  have hCf : H2.objs.size ∉ fp := fun hm => Nat.lt_irrefl _ (Nat.lt_trans (hfp _ hm) hDC)
  have old : ∀ b o, s₂.heap.get? b = some o → h₁.get? b = some o := fun b o e => hsb₁.extBut b o (below b (Heap.lt_size e)).1 (Heap.get?_push_of_some _ (hH2 ▸ Heap.get?_push_of_some _ e))
  have hacc : h₁.get? s₂.heap.objs.size = some (LCg.lst []) := hsb₁.extBut _ _ (Nat.ne_of_lt hDC) (Heap.get?_push_of_some _ (hH2 ▸ Heap.get?_push_size _ rfl))
  have hst₁ : St 0 h₁ := W.frame _ _ _ hst fun b _ o e => old b o e
  have fresh : ∀ a, @LE.le Nat _ s₂.heap.objs.size a → s₂.heap.get? a = none := fun a ha => by
    cases e : s₂.heap.get? a with
    | none => rfl
    | some o' => exact absurd (Heap.lt_size e) (Nat.not_lt.mpr ha)
  have fresh₀ : ∀ a, @LE.le Nat _ s₂.heap.objs.size a → h₀.get? a = none := fun a ha => by
    cases e : h₀.get? a with
    | none => rfl
    | some o' => have := F.keep a o' e; rw [fresh a ha] at this; cases this
  have hD₀ : h₀.get? s₂.heap.objs.size = none := fresh₀ _ (Nat.le_refl _)
  have hC₀ : h₀.get? H2.objs.size = none := fresh₀ _ (Nat.le_of_lt hDC)
  have hLlt : @LT.lt Nat _ L s₂.heap.objs.size := F.ns.lt
  have hDL : s₂.heap.objs.size ≠ L := Ne.symm (below L hLlt).2
  have hCL : H2.objs.size ≠ L := Ne.symm (below L hLlt).1
  have hLw : L ∉ wr := fun h => hLf (W.sub _ h)
  have hCw : H2.objs.size ∉ wr := fun h => hCf (W.sub _ h)
  have hDw : s₂.heap.objs.size ∉ wr := fun h => hDf (W.sub _ h)
  have old₀ : ∀ b o, h₀.get? b = some o → b ∉ wr := fun b o e hb => by rw [hwr b hb] at e; cases e
  have newsLt : ∀ p ∈ news, @LT.lt Nat _ p.1 s₂.heap.objs.size := fun p hp => Heap.lt_size (N p hp).1
  have loop : ∀ s₃ : Shared, s₃ = { s₂ with heap := h₁, toks := s₂.toks + ([] : List (Str × Value)).length } →
      codeAny (model prog w) A (.compLoop (.ListComp elt [⟨.Name a pa, iter, cs, 0⟩] scope pos) 0 (.ref I) (.ref s₂.heap.objs.size) (compEnvC scope cl H2.objs.size env))
        (RR (.ref s₂.heap.objs.size) H2.objs.size) s₃ := by
    rintro s₃ rfl
    refine comp_loop hcs
      (fun k s' => ∃ h' tk i ys m' g, s' = { s₂ with heap := h', toks := tk } ∧ i ≤ n ∧ k = n + 1 - i ∧ ys.length ≤ i ∧ St i h' ∧ Fr h₀ L h' m ∧ h'.Ns H2.objs.size m' ∧
        News h₀ L h' ((s₂.heap.objs.size, LCg.lst ys) :: (g ++ news)) ∧ (∀ p ∈ g, @LT.lt Nat _ H2.objs.size p.1) ∧ J i ys g) ?_ (n + 1)
      ⟨h₁, _, 0, [], _, [], rfl, Nat.zero_le _, rfl, Nat.le_refl _, hst₁, F.keeps old, hns₁, fun p hp => ?_, (fun _ h => nomatch h), h0⟩
    · rintro k s' ⟨h', tk, i, ys, m', g, rfl, hi, rfl, hyl, hst', F', hn', N', hg, hJ⟩
      have gLt : ∀ p ∈ g ++ news, p.1 ≠ H2.objs.size ∧ p.1 ≠ s₂.heap.objs.size ∧ p.1 ∉ wr := fun p hp => by
        rcases List.mem_append.mp hp with hp | hp
        · have h1 := hg p hp
          exact ⟨Nat.ne_of_gt h1, Nat.ne_of_gt (Nat.lt_trans hDC h1), fun hw => Nat.lt_irrefl _ (Nat.lt_trans (Nat.lt_trans h1 (hfp _ (W.sub _ hw))) hDC)⟩
        · exact ⟨(below _ (newsLt p hp)).1, (below _ (newsLt p hp)).2, hnw p hp⟩
      by_cases hlt : i < n
      · refine W.item i _ _ _ hlt hst' fun v h₂ tk₂ hMd hk₂ => ?_
        refine W.go i v _ _ _ hMd fun h₃ hPv hst₃ hk₃ => ?_
        have up₃ : ∀ c o, c ∉ wr → h'.get? c = some o → h₃.get? c = some o := fun c o hc e => hk₃ c o hc (hk₂ c o hc e)
        have F₃ : Fr h₀ L h₃ m := ⟨F'.ns.at' fun o e => up₃ L o hLw e, fun c o e => up₃ c o (old₀ c o e) (F'.keep c o e), F'.above⟩
        have N₃ : News h₀ L h₃ ((s₂.heap.objs.size, LCg.lst ys) :: (g ++ news)) := fun p hp => by
          refine ⟨up₃ _ _ ?_ (N' p hp).1, (N' p hp).2⟩
          rcases List.mem_cons.mp hp with rfl | hp
          · exact hDw
          · exact (gLt p hp).2.2
        have hP2 := hP i v h₃ hPv
        refine wpAny_assign_Name (wpAny_storeName_local (env := compEnvC scope cl H2.objs.size env) (lookup_relabel_local hxa) (hn'.at' fun o e => up₃ _ o hCw e) (fun h₄ hn₄ hs₄' => ?_) (by simp [compEnvC, relabel, hkind]))
        have hs₄ : ∀ c o, c ≠ H2.objs.size → h₃.get? c = some o → h₄.get? c = some o := fun c o hc e => hs₄'.extBut c o hc e
        have hst₄ : St (i + 1) h₄ := W.frame _ _ _ hst₃ fun b hb o e => hs₄ b o (fun q => hCf (by have q' : b = H2.objs.size := q; rw [← q']; exact hb)) e
        obtain ⟨oC, heC, hoC⟩ := LCg.ns_obj hn₄
        have F₄ : Fr h₀ L h₄ m := ⟨F₃.ns.at' fun o e => hs₄ L o (Ne.symm hCL) e, fun c o e => hs₄ c o (fun q => by have q' : c = H2.objs.size := q; rw [q', hC₀] at e; cases e) (F₃.keep c o e), F₃.above⟩
        have Nown : News h₀ L h₄ (PyProof.Rows.ownOf h₀ fp h₄) := news_ownOf hLf
        have N₄ : News h₀ L h₄ ((H2.objs.size, oC) :: (s₂.heap.objs.size, LCg.lst ys) :: (g ++ (news ++ (PyProof.Rows.ownOf h₀ fp h₄).filter fun p => news.all fun q => !decide (q.1 = p.1)))) := fun q hq => by
          rcases List.mem_cons.mp hq with rfl | hq
          · exact ⟨heC, hCL, hC₀⟩
          · rcases List.mem_cons.mp hq with rfl | hq
            · exact ⟨hs₄ _ _ (Nat.ne_of_lt hDC) (N₃ _ (.head _)).1, (N₃ _ (.head _)).2⟩
            · have old3 : ∀ p ∈ g ++ news, h₄.get? p.1 = some p.2 ∧ p.1 ≠ L ∧ h₀.get? p.1 = none := fun p hp => ⟨hs₄ _ _ (gLt p hp).1 (N₃ p (.tail _ hp)).1, (N₃ p (.tail _ hp)).2⟩
              rcases List.mem_append.mp hq with hq | hq
              · exact old3 q (List.mem_append_left _ hq)
              · rcases List.mem_append.mp hq with hq | hq
                · exact old3 q (List.mem_append_right _ hq)
                · exact Nown q (List.mem_filter.mp hq).1
        have apart : ∀ p ∈ g ++ (news ++ (PyProof.Rows.ownOf h₀ fp h₄).filter fun p => news.all fun q => !decide (q.1 = p.1)), p.1 ≠ H2.objs.size ∧ p.1 ≠ s₂.heap.objs.size := fun p hp => by
          rcases List.mem_append.mp hp with hp | hp
          · exact ⟨(gLt p (List.mem_append_left _ hp)).1, (gLt p (List.mem_append_left _ hp)).2.1⟩
          · rcases List.mem_append.mp hp with hp | hp
            · exact ⟨(gLt p (List.mem_append_right _ hp)).1, (gLt p (List.mem_append_right _ hp)).2.1⟩
            · exact below _ (hfp _ (ownOf_sub p (List.mem_filter.mp hp).1))
        have stAfter : ∀ (h₅ : Heap) (g' : List (Addr × Obj)) (oC' : Obj) (oD' : Obj), Fr h₀ L h₅ m → News h₀ L h₅ ((H2.objs.size, oC') :: (s₂.heap.objs.size, oD') :: (g' ++ (news ++ (PyProof.Rows.ownOf h₀ fp h₄).filter fun p => news.all fun q => !decide (q.1 = p.1)))) → St (i + 1) h₅ := fun h₅ g' oC' oD' F₅ N₅ => by
          refine W.frame _ _ _ hst₄ fun b hb o e => ?_
          cases hn : h₀.get? b with
          | some o₀ =>
            have : o₀ = o := by have q := F₄.keep b o₀ hn; rw [e] at q; exact (Option.some.inj q).symm
            exact this ▸ F₅.keep b o₀ hn
          | none =>
            have hm := mem_ownOf hb hn e
            cases hc : (news.all fun q => !decide (q.1 = b)) with
            | true => exact (N₅ (b, o) (.tail _ (.tail _ (List.mem_append_right _ (List.mem_append_right _ (List.mem_filter.mpr ⟨hm, hc⟩)))))).1
            | false =>
              obtain ⟨q, hq, hq'⟩ := List.all_eq_false.mp hc
              have e1 : q.1 = b := by simpa using hq'
              have h4 := (N₄ q (.tail _ (.tail _ (List.mem_append_right _ (List.mem_append_left _ hq))))).1
              have h5 := (N₅ q (.tail _ (.tail _ (List.mem_append_right _ (List.mem_append_left _ hq))))).1
              rw [e1] at h4 h5
              rw [h5, ← h4]
              exact e
        refine compBody_mono (turn i v g ys _ H2.objs.size oC s₂.heap.objs.size _ h₄ _ _ hlt hP2 hJ hoC (by simp) F₄ N₄ hDC apart hg) (fun y' s₅ h₅ => ?_) (fun s₅ h₅ => ?_)
        · obtain ⟨h₅, tk₅, g', rfl, F₅, N₅, hg', hJ'⟩ := h₅
          have hst₅ := stAfter _ _ _ _ F₅ N₅
          have zC := (N₅ (H2.objs.size, oC) (.head _)).1
          have zD := (N₅ (s₂.heap.objs.size, LCg.lst ys) (.tail _ (.head _))).1
          refine append_at (hsz := by show ys.toArray.size ≤ sizeLine; rw [List.size_toArray]; exact Nat.le_trans hyl (Nat.le_trans hi hsz)) zD fun h₆ hs₆ hD₆ => ?_
          refine ⟨n + 1 - (i + 1), by omega, h₆, tk₅, i + 1, ys ++ [y'], _, g', rfl, hlt, rfl, by rw [List.length_append, List.length_singleton]; omega, W.frame _ _ _ hst₅ fun b hb o e => hs₆.extBut b o (fun q => hDf (q ▸ hb)) e, F₅.change hs₆ hDL hD₀,
            (hoC.ns zC).sameBut hs₆ (Nat.ne_of_gt hDC), fun q hq => ?_, hg', hJ'⟩
          rcases List.mem_cons.mp hq with rfl | hq
          · exact ⟨hD₆.trans (congrArg some (LCg.lst_snoc ys y')), hDL, hD₀⟩
          · have hq' : q ∈ (H2.objs.size, oC) :: (s₂.heap.objs.size, LCg.lst ys) :: (g' ++ (news ++ (PyProof.Rows.ownOf h₀ fp h₄).filter fun p => news.all fun q => !decide (q.1 = p.1))) := by
              rcases List.mem_append.mp hq with hq | hq
              · exact .tail _ (.tail _ (List.mem_append_left _ hq))
              · exact .tail _ (.tail _ (List.mem_append_right _ (List.mem_append_left _ hq)))
            refine ⟨hs₆.extBut _ _ ?_ (N₅ q hq').1, (N₅ q hq').2⟩
            rcases List.mem_append.mp hq with hq | hq
            · exact Nat.ne_of_gt (Nat.lt_trans hDC (hg' q hq))
            · exact (below _ (newsLt q hq)).2
        · obtain ⟨h₅, tk₅, g', rfl, F₅, N₅, hg', hJ'⟩ := h₅
          have hst₅ := stAfter _ _ _ _ F₅ N₅
          have zC := (N₅ (H2.objs.size, oC) (.head _)).1
          refine ⟨n + 1 - (i + 1), by omega, h₅, tk₅, i + 1, ys, _, g', rfl, hlt, rfl, by omega, hst₅, F₅, hoC.ns zC, fun q hq => ?_, hg', hJ'⟩
          rcases List.mem_cons.mp hq with rfl | hq
          · exact N₅ _ (.tail _ (.head _))
          · rcases List.mem_append.mp hq with hq | hq
            · exact N₅ _ (.tail _ (.tail _ (List.mem_append_left _ hq)))
            · exact N₅ _ (.tail _ (.tail _ (List.mem_append_right _ (List.mem_append_left _ hq))))
      · have hin : i = n := Nat.le_antisymm hi (Nat.not_lt.mp hlt)
        subst hin
        refine W.done _ _ _ hst' fun h₂ tk₂ hk₂ => ?_
        exact hRR _ _ h₂ tk₂ _ ys g ⟨F'.ns.at' fun o e => hk₂ _ o hLw e, fun c o e => hk₂ c o (old₀ c o e) (F'.keep c o e), F'.above⟩ (fun p hp => by
          refine ⟨hk₂ _ _ ?_ (N' p hp).1, (N' p hp).2⟩
          rcases List.mem_cons.mp hp with rfl | hp
          · exact hDw
          · exact (gLt p hp).2.2) (hn'.at' fun o e => hk₂ _ o hCw e) hC₀ hD₀ hCL hDL (Nat.ne_of_gt hDC) (fun p hp => ⟨(gLt p hp).1, (gLt p hp).2.1⟩) (fun p hp => Nat.lt_trans hDC (hg p hp)) newsLt hJ
    · rcases List.mem_cons.mp hp with rfl | hp
      · exact ⟨hacc, hDL, hD₀⟩
      · exact ⟨old _ _ (N p hp).1, (N p hp).2⟩
  exact codeAny_compStart_list (loop _ rfl) (hself _ _ _ hst₁ (loop _ rfl))
end
end Mine
-- ML18
namespace Mine
/-- what a comprehension over pairs asks of its iterator and of its turns -/
noncomputable def NAt (prog : Program) (w : World) (A : Around) (h₀ : Heap) (L : Addr) (m : Str → Option Value) (env : Env) (cs : List Expr) (elt target : Expr) (a : Str) (scope : Scope) (cl : List (Str × Addr)) (E : Value → Shared → Prop)
    (K : Addr → List Value → List (Addr × Obj) → List (Addr × Obj) → Heap → Nat → Shared → Prop) (it : Value) (s₂ : Shared) : Prop :=
  ∃ (I : Addr) (fp wr : List Addr) (n : Nat) (P Md : Nat → Value → Heap → Prop) (St : Nat → Heap → Prop) (P2 : Nat → Value → Prop) (news : List (Addr × Obj)) (J : Nat → List Value → List (Addr × Obj) → Prop),
    it = .ref I ∧ KTurns prog w A target I fp wr n P Md St ∧ (∀ (s : Shared) (Q : Value → Shared → Prop) (E : Value → Shared → Prop), St 0 s.heap → Q (.ref I) s → wpAny (model prog w) A (pyIter (.ref I)) Q E s) ∧
    A.handled = none ∧ (cs = [] ∨ ∃ c, cs = [c]) ∧ n ≤ sizeLine ∧ (∀ i v h, P i v h → P2 i v) ∧
    St 0 s₂.heap ∧ (∀ b ∈ fp, @LT.lt Nat _ b s₂.heap.objs.size) ∧ L ∉ fp ∧ (∀ b ∈ wr, h₀.get? b = none) ∧ (∀ p ∈ news, p.1 ∉ wr) ∧ Fr h₀ L s₂.heap m ∧ News h₀ L s₂.heap news ∧ J 0 [] [] ∧
    (∀ i x g ys own C oC D m₂ h tk (E' : Value → Shared → Prop), i < n → P2 i x → J i ys g → LCg.NsObj oC m₂ → m₂ a = some x → Fr h₀ L h m → News h₀ L h ((C, oC) :: (D, LCg.lst ys) :: (g ++ (news ++ own))) →
      @LT.lt Nat _ D C → (∀ p ∈ g ++ (news ++ own), p.1 ≠ C ∧ p.1 ≠ D) → (∀ p ∈ g, @LT.lt Nat _ C p.1) →
      compBody prog w A cs elt (compEnvC scope cl C env) (CEnd h₀ L m { s₂ with heap := h, toks := tk } C oC D (LCg.lst ys) (news ++ own) (fun y' g' => J (i + 1) (ys ++ [y']) g'))
        (CEnd h₀ L m { s₂ with heap := h, toks := tk } C oC D (LCg.lst ys) (news ++ own) (fun _ g' => J (i + 1) ys g') Value.none) E' { s₂ with heap := h, toks := tk }) ∧
    (∀ D h tk ys g, (∀ p ∈ g, @LT.lt Nat _ D p.1) → (∀ p ∈ news, @LT.lt Nat _ p.1 D) → J n ys g → K D ys g news h tk s₂)
noncomputable def NFinE (h₀ : Heap) (L : Addr) (m : Str → Option Value) (Q : Value → Shared → Prop) (D : Addr) (ys : List Value) (g news : List (Addr × Obj)) (h : Heap) (tk : Nat) (s₂ : Shared) : Prop :=
  Fr h₀ L h m → News h₀ L h ((D, LCg.lst ys) :: (g ++ news)) → Q (.ref D) { s₂ with heap := h, toks := tk }
noncomputable def NFinA (h₀ : Heap) (L : Addr) (m : Str → Option Value) (y : Str) (Q : Flow → Shared → Prop) (D : Addr) (ys : List Value) (g news : List (Addr × Obj)) (h : Heap) (tk : Nat) (s₂ : Shared) : Prop :=
  Fr h₀ L h (fun z => if z = y then some (.ref D) else m z) → News h₀ L h ((D, LCg.lst ys) :: (g ++ news)) → Q .next { s₂ with heap := h, toks := tk }
section
variable {prog : Program} {w : World} {A : Around} {E : Value → Shared → Prop} {s : Shared} {h₀ : Heap} {L : Addr} {m : Str → Option Value} {env : Env}
theorem ListComp_N {elt iter : Expr} {cs : List Expr} {a : Str} {pa : Pos} {scope : Scope} {cl : List (Str × Addr)} {pos : Pos} {Q : Value → Shared → Prop} (_F : Fr h₀ L s.heap m)
    (hclos : closureFor scope env = pure cl) (hcell : ∀ y ∈ scope.names, y.2 ≠ .cell) (hkind : scope.kind = .function)
    (hnames : ∀ y ∈ scope.names, y.2 = .local → scope.names.lookup y.1 = some .local) (hxa : scope.names.lookup a = some .local)
    (h : wpAny (model prog w) A (eval iter env) (fun xv s₁ => wpAny (model prog w) A (pyIter xv) (fun it s₂ => NAt prog w A h₀ L m env cs elt (.Name a pa) a scope cl E (NFinE h₀ L m Q) it s₂) E s₁) E s)
    (hs : ∀ x, foldedSetIterable iter env x = pure x := by intro _; rfl) :
    wpAny (model prog w) A (eval (.ListComp elt [⟨.Name a pa, iter, cs, 0⟩] scope pos) env) Q E s := by
  rw [eval_ListComp]
  refine wpAny_comprehension_free (use := none) rfl hs hclos hkind hnames (wpAny_mono h (fun xv s₁ h₁ => wpAny_mono h₁ (fun it s₂ h₂ => ?_) fun _ _ e => e) fun _ _ e => e)
  obtain ⟨I, fp, wr, n, P, Md, St, P2, news, J, rfl, W, hself, hh, hcs, hsz, hP, hst, hfp, hLf, hwr, hnw, F, N, h0, turn, fin⟩ := h₂
  refine comp_blockN W hself hh hcs hsz hP hcell hkind hxa hst hfp hLf hwr hnw F N h0 turn ?_
  intro D C h tk m' ys g F' N' hn hC₀ hD₀ hCL hDL hCD offC hgD hnD hJ
  refine ⟨m', hn, fun h'' hs'' => fin D h'' tk ys g hgD hnD hJ (F'.change hs'' hCL hC₀) (fun p hp => ?_)⟩
  refine ⟨hs''.extBut _ _ ?_ (N' p hp).1, (N' p hp).2⟩
  rcases List.mem_cons.mp hp with rfl | hp
  · exact Ne.symm hCD
  · exact (offC p hp).1
theorem Assign_ListComp_N {elt iter : Expr} {cs : List Expr} {a y : Str} {pa py : Pos} {scope : Scope} {cl : List (Str × Addr)} {pos spos : Pos} {Q : Flow → Shared → Prop} (_F : Fr h₀ L s.heap m) (hLe : env.locals = L)
    (hsw : swapsWith (.ListComp elt [⟨.Name a pa, iter, cs, 0⟩] scope pos) (some (.Name y py)) spos.line env = pure true)
    (hclos : closureFor scope env = pure cl) (hcell : ∀ y ∈ scope.names, y.2 ≠ .cell) (hkind : scope.kind = .function)
    (hnames : ∀ y ∈ scope.names, y.2 = .local → scope.names.lookup y.1 = some .local) (hxa : scope.names.lookup a = some .local)
    (hy : env.kindOf y = some .local) (hp : (env.scope.kind == .class || (env.scope.kind == .module && env.locals != env.globals)) = false)
    (h : wpAny (model prog w) A (eval iter env) (fun xv s₁ => wpAny (model prog w) A (pyIter xv) (fun it s₂ => NAt prog w A h₀ L m env cs elt (.Name a pa) a scope cl E (NFinA h₀ L m y Q) it s₂) E s₁) E s)
    (hs : ∀ x, foldedSetIterable iter env x = pure x := by intro _; rfl) :
    wpAny (model prog w) A (exec (.Assign [.Name y py] (.ListComp elt [⟨.Name a pa, iter, cs, 0⟩] scope pos) spos) env) Q E s := by
  subst hLe
  rw [exec_Assign_Name_used _ _ _ _ hsw]
  refine wpAny_bind (wpAny_standAt (wpAny_bind ?_))
  show wpAny _ A (do let _ ← comprehension (.ListComp elt [⟨.Name a pa, iter, cs, 0⟩] scope pos) scope env _ (newList []) false (eval iter env) (some (assign (.Name y py) env))) _ _ s
  refine wpAny_bind (wpAny_mono (wpAny_comprehension_free (use := some (assign (.Name y py) env)) (Q := fun _ s' => Q .next s') rfl hs hclos hkind hnames
    (wpAny_mono h (fun xv s₁ h₁ => wpAny_mono h₁ (fun it s₂ h₂ => ?_) fun _ _ e => e) fun _ _ e => e)) (fun _ s' hq => wpAny_pure (wpAny_pure hq)) fun _ _ e => e)
  obtain ⟨I, fp, wr, n, P, Md, St, P2, news, J, rfl, W, hself, hh, hcs, hsz, hP, hst, hfp, hLf, hwr, hnw, F, N, h0, turn, fin⟩ := h₂
  refine comp_blockN W hself hh hcs hsz hP hcell hkind hxa hst hfp hLf hwr hnw F N h0 turn ?_
  intro D C h tk m' ys g F' N' hn hC₀ hD₀ hCL hDL hCD offC hgD hnD hJ
  show wpAny _ A (assign (.Name y py) env (.ref D)) _ _ _
  refine wpAny_assign_Name (wpAny_storeName_local hy F'.ns (fun h₂ hn₂ hs₂ => ?_) hp)
  have hL₀ : h₀.get? env.locals = none := Heap.get?_none_of_le F'.above
  have F₂ : Fr h₀ env.locals h₂ (fun z => if z = y then some (.ref D) else m z) := ⟨hn₂, fun b o e => hs₂.extBut b o (fun q => by rw [q, hL₀] at e; cases e) (F'.keep b o e), F'.above⟩
  refine ⟨m', hn.sameBut hs₂ hCL, fun h'' hs'' => fin D h'' _ ys g hgD hnD hJ (F₂.change hs'' hCL hC₀) (fun p hp => ?_)⟩
  have z : h₂.get? p.1 = some p.2 := hs₂.extBut _ _ (N' p hp).2.1 (N' p hp).1
  refine ⟨hs''.extBut _ _ ?_ z, (N' p hp).2⟩
  rcases List.mem_cons.mp hp with rfl | hp
  · exact Ne.symm hCD
  · exact (offC p hp).1
end
noncomputable def SignJ (D : List (Str × Int)) (ok : Str → Bool) (i : Nat) (ys : List Value) (g : List (Addr × Obj)) : Prop := g = [] ∧ ∃ ts : List (Str × Tok), ys = strValues ts ∧ ts.map (·.1) = ((D.map (·.1)).take i).filter ok
theorem SignJ.yes {D : List (Str × Int)} {ok : Str → Bool} {i : Nat} {ys : List Value} {g : List (Addr × Obj)} {y : Str} {t : Tok} (h : SignJ D ok i ys g) (h1 : (D.map (·.1))[i]? = some y) (hc : ok y = true) : g = [] ∧ SignJ D ok (i + 1) (ys ++ [.str y t]) [] := by
  obtain ⟨rfl, ts, rfl, e⟩ := h
  refine ⟨rfl, rfl, ts ++ [(y, t)], by simp [strValues], ?_⟩
  rw [List.take_add_one, h1, List.filter_append, List.map_append, e]
  simp [hc]
theorem SignJ.no {D : List (Str × Int)} {ok : Str → Bool} {i : Nat} {ys : List Value} {g : List (Addr × Obj)} {y : Str} (h : SignJ D ok i ys g) (h1 : (D.map (·.1))[i]? = some y) (hc : ok y = false) : g = [] ∧ SignJ D ok (i + 1) ys [] := by
  obtain ⟨rfl, ts, rfl, e⟩ := h
  refine ⟨rfl, rfl, ts, rfl, ?_⟩
  rw [List.take_add_one, h1, List.filter_append, e]
  simp [hc]
theorem ett_len : ETT.length = 48 := by decide
section
variable {prog : Program} {w : World} {A : Around} {E : Value → Shared → Prop} {s : Shared} {h₀ : Heap} {L : Addr} {m : Str → Option Value} {env : Env} {cs : List Expr} {elt : Expr} {a : Str} {pa : Pos} {scope : Scope} {cl : List (Str × Addr)}
  {K : Addr → List Value → List (Addr × Obj) → List (Addr × Obj) → Heap → Nat → Shared → Prop} {news : List (Addr × Obj)}
theorem strIs {k : Str} {v : Value} (h : (PySem.strKind prog w).is k v = true) : ∃ t, v = .str k t := by
  exact Value.isStrOf_shape h
/-- over a dict of texts that lies in the ground -/
theorem dictN {d : Addr} {D : List (Str × Int)} (J : Nat → List Value → List (Addr × Obj) → Prop)
    (hh : A.handled = none) (hcs : cs = [] ∨ ∃ c, cs = [c]) (T : StrTab prog w s.heap d (kdpD D)) (hd : @LT.lt Nat _ d h₀.objs.size) (hsz : D.length < 1000) (F : Fr h₀ L s.heap m) (N : News h₀ L s.heap news) (h0 : J 0 [] [])
    (turn : ∀ i y t g ys own C oC D' m₂ (s₂ : Shared) h tk (E' : Value → Shared → Prop), (D.map (·.1))[i]? = some y → J i ys g → LCg.NsObj oC m₂ → m₂ a = some (.str y t) → Fr h₀ L h m → News h₀ L h ((C, oC) :: (D', LCg.lst ys) :: (g ++ (news ++ own))) →
      @LT.lt Nat _ D' C → (∀ p ∈ g ++ (news ++ own), p.1 ≠ C ∧ p.1 ≠ D') → (∀ p ∈ g, @LT.lt Nat _ C p.1) →
      compBody prog w A cs elt (compEnvC scope cl C env) (CEnd h₀ L m { s₂ with heap := h, toks := tk } C oC D' (LCg.lst ys) (news ++ own) (fun y' g' => J (i + 1) (ys ++ [y']) g'))
        (CEnd h₀ L m { s₂ with heap := h, toks := tk } C oC D' (LCg.lst ys) (news ++ own) (fun _ g' => J (i + 1) ys g') Value.none) E' { s₂ with heap := h, toks := tk })
    (fin : ∀ D' (h : Heap) tk ys g hp, (∀ p ∈ g, @LT.lt Nat _ D' p.1) → (∀ p ∈ news, @LT.lt Nat _ p.1 D') → J D.length ys g → K D' ys g news h tk { s with heap := hp }) :
    wpAny (model prog w) A (pyIter (.ref d)) (fun it s₂ => NAt prog w A h₀ L m env cs elt (.Name a pa) a scope cl E K it s₂) E s := by
  obtain ⟨lo, kvs, hdo, hf⟩ := T
  obtain ⟨ep, hat⟩ := hdo.dictAt
  have hne : d ≠ s.heap.objs.size := Nat.ne_of_lt hat.lt_size
  have hLs : @LT.lt Nat _ L s.heap.objs.size := F.ns.lt
  have hab : @LE.le Nat _ h₀.objs.size L := F.above
  have hlen : kvs.length = D.length := by
    have := hf.length
    rw [← this, kdpD, List.length_map]
  refine wpAny_pyIter_dict lo hat ?_
  have hps : ∀ b o, s.heap.get? b = some o → (s.heap.push { cls := .type "dict_keyiterator", data := .fields #[.ref d, .int 0 0, .int kvs.length 0, .int ep 0] }).get? b = some o := fun b o e => Heap.get?_push_of_some _ e
  refine ⟨s.heap.objs.size, _, _, _, _, _, _, fun i v => ∃ y t, (D.map (·.1))[i]? = some y ∧ v = .str y t, news, J, rfl, KTurns.ofWalks (Walks.dictKeys (knd := PySem.strKind prog w) hh s.heap.objs.size d hne kvs ep) (fun i v s Q E st q => letGo_keyiter st.1 q),
    fun s Q E st q => (Walks.dictKeys (knd := PySem.strKind prog w) hh _ d hne kvs ep).self 0 s Q E st q, hh, hcs, ?_, ?_, ⟨⟨_, Heap.get?_push_size _ rfl, rfl, rfl⟩, hat.push _⟩, ?_, ?_, ?_, ?_,
    F.keeps hps, fun p hp => ⟨hps _ _ (N p hp).1, (N p hp).2⟩, h0, ?_, fun D' h tk ys g hg hn hJ => fin D' h tk ys g _ hg hn (by rw [← hlen]; exact hJ)⟩
  · rw [hlen, sizeLine_eq]; lia
  · rintro i v h ⟨k, x, hx, hk⟩
    obtain ⟨dv, hD, hfl⟩ := hf.at hx
    obtain ⟨t, rfl⟩ := strIs hk
    refine ⟨k, t, ?_, rfl⟩
    rw [kdpD, List.getElem?_map] at hD
    obtain ⟨p, hp, e⟩ := Option.map_eq_some_iff.mp hD
    rw [List.getElem?_map, hp]
    injection e with e1 e2
    injection e1 with e1
    rw [← e1]
    rfl
  · intro b hb
    rw [Heap.size_push]
    simp only [List.mem_cons, List.not_mem_nil, or_false] at hb
    rcases hb with rfl | rfl
    · exact Nat.lt_succ_self _
    · exact Nat.lt_succ_of_lt hat.lt_size
  · intro hm
    simp only [List.mem_cons, List.not_mem_nil, or_false] at hm
    rcases hm with e | e
    · exact absurd hLs (by rw [e]; exact Nat.lt_irrefl _)
    · exact absurd hd (by rw [← e]; lia)
  · intro b hb
    rw [List.mem_singleton.mp hb]
    exact Heap.get?_none_of_le (Nat.le_of_lt (Nat.lt_of_le_of_lt hab hLs))
  · intro p hp hm
    have h9 : @LT.lt Nat _ p.1 s.heap.objs.size := Heap.lt_size (N p hp).1
    exact absurd h9 (by rw [List.mem_singleton.mp hm]; exact Nat.lt_irrefl _)
  · rintro i x g ys own C oC D' m₂ h tk E' _ ⟨y, t, hy, rfl⟩ hJ hC ha F₁ N₁ hDC off hg
    exact turn i y t g ys own C oC D' m₂ _ h tk E' hy hJ hC ha F₁ N₁ hDC off hg
end
end Mine
-- ML19
namespace Mine
theorem ett_short : ∀ y ∈ ETT.map (·.1), y.length ≤ 3 := by decide +kernel
theorem ett_lt {w : World} {h : Heap} (X : (Mine.hd.heap_1 w.params).In h) : @LT.lt Nat _ 75 h.objs.size := by
  obtain ⟨_, kvs, hdo, _⟩ := ett_tab PySem.Challenge.rw_wr0036_01.row.prog w X
  obtain ⟨ep, hat⟩ := hdo.dictAt
  exact hat.lt_size
section
variable {prog : Program} {w : World} {A : Around} {E : Value → Shared → Prop} {s : Shared} {h₀ : Heap} {L : Addr} {m : Str → Option Value} {env : Env} {c elt : Expr} {a : Str} {pa : Pos} {scope : Scope} {cl : List (Str × Addr)}
  {K : Addr → List Value → List (Addr × Obj) → List (Addr × Obj) → Heap → Nat → Shared → Prop} {news : List (Addr × Obj)}
theorem sign_comp (ok : Str → Bool) (X : (Mine.hd.heap_1 w.params).In h₀) (hh : A.handled = none) (F : Fr h₀ L s.heap m) (N : News h₀ L s.heap news)
    (turn : ∀ i y t ys own C oC D' m₂ (s₂ : Shared) h tk (E' : Value → Shared → Prop), (ETT.map (·.1))[i]? = some y → y.length ≤ 3 → SignJ ETT ok i ys [] → LCg.NsObj oC m₂ → m₂ a = some (.str y t) → Fr h₀ L h m → News h₀ L h ((C, oC) :: (D', LCg.lst ys) :: (news ++ own)) →
      @LT.lt Nat _ D' C → (∀ p ∈ news ++ own, p.1 ≠ C ∧ p.1 ≠ D') →
      wpAny (model prog w) A (isTrue c (compEnvC scope cl C env) (eval c (compEnvC scope cl C env))) (fun ok' s' => if ok' = true then wpAny (model prog w) A (eval elt (compEnvC scope cl C env)) (CEnd h₀ L m { s₂ with heap := h, toks := tk } C oC D' (LCg.lst ys) (news ++ own) (fun y' g' => SignJ ETT ok (i + 1) (ys ++ [y']) g')) E' s'
        else CEnd h₀ L m { s₂ with heap := h, toks := tk } C oC D' (LCg.lst ys) (news ++ own) (fun _ g' => SignJ ETT ok (i + 1) ys g') Value.none s') E' { s₂ with heap := h, toks := tk })
    (fin : ∀ D' (h : Heap) tk (ts : List (Str × Tok)) hp, (∀ p ∈ news, @LT.lt Nat _ p.1 D') → ts.map (·.1) = (ETT.map (·.1)).filter ok → K D' (strValues ts) [] news h tk { s with heap := hp }) :
    wpAny (model prog w) A (pyIter (.ref 75)) (fun it s₂ => NAt prog w A h₀ L m env [c] elt (.Name a pa) a scope cl E K it s₂) E s := by
  refine dictN (D := ETT) (SignJ ETT ok) hh (.inr ⟨_, rfl⟩) (ett_tab prog w (Frag.In.keeps X (Fr.keep F))) (ett_lt X) (by rw [ett_len]; decide) F N ⟨rfl, [], rfl, rfl⟩ ?_ ?_
  · intro i y t g ys own C oC D' m₂ s₂ h tk E' hy hJ hC ha F₁ N₁ hDC off hg
    have hJ' := hJ
    obtain ⟨rfl, _⟩ := hJ'
    exact turn i y t ys own C oC D' m₂ s₂ h tk E' hy (ett_short _ (List.mem_of_getElem? hy)) hJ hC ha F₁ N₁ hDC off
  · intro D' h tk ys g hp hg hn hJ
    obtain ⟨rfl, ts, rfl, e⟩ := hJ
    refine fin D' h tk ts hp hn ?_
    rw [e, List.take_of_length_le (by simp)]
end
end Mine
-- ML20
namespace Mine
theorem cut_at : ∀ {l : List Value} {k : Nat} {y : Value}, l[k]? = some y → kl_cut l k = some (l.take k, y, l.drop (k + 1))
  | [], _, _, h => by simp at h
  | x :: r, 0, y, h => by
    have e : x = y := by simpa using h
    subst e
    rfl
  | x :: r, k + 1, y, h => by
    have ih := cut_at (l := r) (k := k) (y := y) (by simpa using h)
    unfold kl_cut
    rw [ih]
    rfl
theorem take_iv (os : List (Int × Tok)) (i : Nat) : kms_pick (intValues os).toArray.toList none (some (i : Int)) = intValues (os.take i) := by
  unfold kms_pick
  rw [kms_hi_nat, List.toList_toArray, show kms_lo none (intValues os).length = 0 from rfl, List.drop_zero, Nat.sub_zero, kmk_take_min]
  unfold intValues
  rw [List.map_take]
section
variable {prog : Program} {w : World} {A : Around} {E : Value → Shared → Prop} {s : Shared} {h₀ : Heap} {L D : Addr} {m : Str → Option Value} {news news' : List (Addr × Obj)}
/-- list.pop(i) of a list of texts -/
theorem pop_strs {ss : List (Str × Tok)} {i : Int} {u : Tok} {n : Nat} {Q : Value → Shared → Prop} (F : Fr h₀ L s.heap m) (N : News h₀ L s.heap news) (h0 : 0 ≤ i) (h1 : i < (ss.length : Int)) (hz : ss.length < 1000)
    (U : Upd D (listOf (strValues ss).toArray n) (listOf (strValues (ss.eraseIdx i.toNat)).toArray (n + 1)) news news')
    (h : ∀ h' y t, ss[i.toNat]? = some (y, t) → Fr h₀ L h' m → News h₀ L h' news' → Q (.str y t) { s with heap := h' }) : wpAny (model prog w) A (call (.builtin "list.pop") [.ref D, .int i u]) Q E s := by
  have hk : i.toNat < ss.length := by lia
  obtain ⟨⟨y, t⟩, hy⟩ : ∃ p, ss[i.toNat]? = some p := ⟨_, List.getElem?_eq_getElem hk⟩
  have hy2 : (strValues ss)[i.toNat]? = some (.str y t) := by unfold strValues; rw [List.getElem?_map, hy]; rfl
  have e : strValues (ss.eraseIdx i.toNat) = (strValues ss).take i.toNat ++ (strValues ss).drop (i.toNat + 1) := by
    unfold strValues
    rw [List.eraseIdx_eq_take_drop_succ, List.map_append, List.map_take, List.map_drop]
  rw [e] at U
  refine kl_popAt F N ?_ ?_ (cut_at (l := (strValues ss).toArray.toList) (by rw [List.toList_toArray]; exact hy2)) U (by simp [strValues, sizeLine_eq]; lia) fun h' F' N' => h h' y t hy F' N'
  · unfold Builtin.List.listFitsIndex
    rw [Bool.and_eq_true, decide_eq_true_eq, decide_eq_true_eq]
    exact ⟨by lia, by lia⟩
  · unfold seqIndex?
    rw [List.size_toArray, show (strValues ss).length = ss.length from by simp [strValues], if_neg (by lia : ¬ i < 0)]
    simp [h0, h1]
theorem slice_ints6 {value slice : Expr} {l : Addr} {os : List (Int × Tok)} {n1 i : Nat} {ti : Tok} {Q : Value → Shared → Prop} (F : Fr h₀ L s.heap m) (N : News h₀ L s.heap news) (hl : (l, listOf (intValues os).toArray n1) ∈ news) (hsz : os.length < 1000)
    (h : ∀ D h', Fr h₀ L h' m → News h₀ L h' ((D, listOf (intValues (os.take i)).toArray 0) :: news) → (∀ p ∈ news, p.1 < D) → Q (.ref D) { s with heap := h' })
    (hs : subscripted slice false (.ref l) (.ref s.heap.objs.size) = operate [.ref s.heap.objs.size, .ref l] (getItem (.ref l) (.ref s.heap.objs.size))) (ht : ∀ r, letTemporaryGo value (.ref l) r = pure ()) :
    wpAny (model prog w) A (subscriptTail value slice (.ref l) (.ref s.heap.objs.size)) Q E { s with heap := s.heap.push { cls := .type "slice", data := .fields #[.none, .int (i : Nat) ti, .none] } } :=
  kms_slice_lit F N (News.isList N hl) .none (.int _ _) (take_iv os i) h hs ht (by simp [intValues, PySem.sizeLine_eq]; lia)
end
end Mine
-- ML21
namespace Mine
/-- one draw: the sign at the place that the number tells, and those that are left -/
noncomputable def pickF (st : List Str × List Str) (n : Int) : List Str × List Str := (st.1 ++ [st.2[(n % (st.2.length : Int)).toNat]?.getD (Str.ofString "")], st.2.eraseIdx (n % (st.2.length : Int)).toNat)
structure PickSt where
  rs : List (Str × Tok)
  ss : List (Str × Tok)
  e1 : Nat
  e2 : Nat
noncomputable def PickJ (ns : List Int) (ss₀ : List Str) (i : Nat) (c : PickSt) : Prop := (c.rs.map (·.1), c.ss.map (·.1)) = (ns.take i).foldl pickF ([], ss₀) ∧ c.ss.length + i = ss₀.length ∧ c.rs.length = i
theorem pick_step {ns : List Int} {ss₀ : List Str} {i : Nat} {c : PickSt} {n : Int} {y : Str} {t : Tok} {e1 e2 : Nat} (h : PickJ ns ss₀ i c) (hn : ns[i]? = some n) (hi : i < ss₀.length) (hy : c.ss[(n % (c.ss.length : Int)).toNat]? = some (y, t)) :
    PickJ ns ss₀ (i + 1) ⟨c.rs ++ [(y, t)], c.ss.eraseIdx (n % (c.ss.length : Int)).toNat, e1, e2⟩ := by
  obtain ⟨h1, h2, h3⟩ := h
  have hk := (List.getElem?_eq_some_iff.mp hy).1
  refine ⟨?_, ?_, ?_⟩
  · rw [List.take_add_one, hn, List.foldl_append, ← h1]
    show _ = pickF _ n
    unfold pickF
    simp only [List.length_map, List.map_append, List.map_cons, List.map_nil, List.getElem?_map, hy, Option.map_some, Option.getD_some]
    rw [List.eraseIdx_eq_take_drop_succ, List.eraseIdx_eq_take_drop_succ, List.map_append, List.map_take, List.map_drop]
  · show (c.ss.eraseIdx _).length + (i + 1) = ss₀.length
    rw [List.length_eraseIdx_of_lt hk]
    omega
  · simp [h3]
section
variable {prog : Program} {w : World} {A : Around} {E : Value → Shared → Prop} {s : Shared} {env : Env} {h₀ : Heap} {x : Str} {body : List Stmt} {Q : Flow → Shared → Prop}
theorem pick_loop {l r sg : Addr} {ts : List (Int × Tok)} {ss : List (Str × Tok)} {n1 n2 n3 : Nat} {m₀ : Str → Option Value} {post : List (Addr × Obj)}
    (hh : A.handled = none) (F : Fr h₀ env.locals s.heap m₀) (N : News h₀ env.locals s.heap ((l, listOf (intValues ts).toArray n1) :: (r, listOf #[] n2) :: (sg, listOf (strValues ss).toArray n3) :: post))
    (turn : ∀ (c : PickSt) i n t (u : Str → Option Value) h tk own, (ts.map (·.1))[i]? = some n → i < ts.length → OwnOff own (l :: r :: sg :: post.map (·.1)) → PickJ (ts.map (·.1)) (ss.map (·.1)) i c →
      Fr h₀ env.locals h (fun y => if y = x then some (.int n t) else m₀ y) → News h₀ env.locals h ((l, listOf (intValues ts).toArray n1) :: (r, listOf (strValues c.rs).toArray c.e1) :: (sg, listOf (strValues c.ss).toArray c.e2) :: (post ++ own)) →
      wpAny (model prog w) A (execs body env) (InvPostN h₀ env.locals (TurnS (fun c : PickSt => (l, listOf (intValues ts).toArray n1) :: (r, listOf (strValues c.rs).toArray c.e1) :: (sg, listOf (strValues c.ss).toArray c.e2) :: post) (fun _ => []) [] x m₀ (PickJ (ts.map (·.1)) (ss.map (·.1)) (i + 1))) own (l :: r :: sg :: post.map (·.1)) { s with heap := h, toks := tk } Q) E { s with heap := h, toks := tk })
    (done : ∀ (c : PickSt) (u : Str → Option Value) h tk, PickJ (ts.map (·.1)) (ss.map (·.1)) ts.length c → Fr h₀ env.locals h (fun y => if y = x then u y else m₀ y) → News h₀ env.locals h ((l, listOf (intValues ts).toArray n1) :: (r, listOf (strValues c.rs).toArray c.e1) :: (sg, listOf (strValues c.ss).toArray c.e2) :: post) → Q .next { s with heap := h, toks := tk }) :
    wpAny (model prog w) A (pyIter (.ref l)) (fun it s₂ => LoopAtV prog w A h₀ env x body Q E it s₂) E s := by
  refine iterS (σ := PickSt) (fun c => (l, listOf (intValues ts).toArray n1) :: (r, listOf (strValues c.rs).toArray c.e1) :: (sg, listOf (strValues c.ss).toArray c.e2) :: post) (fun _ => []) [] (PickJ (ts.map (·.1)) (ss.map (·.1))) ⟨[], ss, n2, n3⟩ hh (fun _ => .head _) F N (fun _ h => (nomatch h)) ⟨rfl, by simp, rfl⟩ ?_ ?_
  · rintro c i v u h tk own hv hoff hP F₁ N₁
    unfold intValues at hv
    rw [List.getElem?_map] at hv
    obtain ⟨⟨n, t⟩, hn, rfl⟩ := Option.map_eq_some_iff.mp hv
    exact turn c i n t u h tk own (by rw [List.getElem?_map, hn]; rfl) (List.getElem?_eq_some_iff.mp hn).1 hoff hP F₁ N₁
  · rintro c u h tk hP F₁ N₁
    rw [show (intValues ts).length = ts.length from by simp [intValues]] at hP
    exact done c u h tk hP F₁ N₁
end
end Mine
-- ML22
namespace Mine
noncomputable def okSign (y : Str) : Bool := decide ((y.length : Int) = 1) && (Builtin.Str.occurrences (Str.ofString ".:") y 0 (Str.ofString ".:").length 1).isEmpty
theorem okSign_yes {y : Str} (h : (y.length : Int) = 1) (h2 : (Builtin.Str.occurrences (Str.ofString ".:") y 0 (Str.ofString ".:").length 1).isEmpty = true) : okSign y = true := by
  unfold okSign
  rw [h2, Bool.and_true]
  exact decide_eq_true h
theorem okSign_no {y : Str} (h2 : (Builtin.Str.occurrences (Str.ofString ".:") y 0 (Str.ofString ".:").length 1).isEmpty = false) : okSign y = false := by
  unfold okSign
  rw [h2, Bool.and_false]
theorem okSign_no1 {y : Str} (h : (y.length : Int) ≠ 1) : okSign y = false := by
  unfold okSign
  rw [decide_eq_false h, Bool.false_and]
end Mine
-- ML23
namespace Mine
section
variable {prog : Program} {w : World} {A : Around} {E : Value → Shared → Prop} {s : Shared} {h₀ : Heap} {L : Addr} {m : Str → Option Value} {env : Env} {cs : List Expr} {elt : Expr} {a : Str} {pa : Pos} {scope : Scope} {cl : List (Str × Addr)}
  {K : Addr → List Value → List (Addr × Obj) → List (Addr × Obj) → Heap → Nat → Shared → Prop} {news : List (Addr × Obj)}
/-- over a list of the ledger, a plain name -/
theorem listN {l : Addr} {vs : List Value} {n1 : Nat} (J : Nat → List Value → List (Addr × Obj) → Prop)
    (hh : A.handled = none) (hcs : cs = [] ∨ ∃ c, cs = [c]) (hl : (l, listOf vs.toArray n1) ∈ news) (hsz : vs.length < 1000) (F : Fr h₀ L s.heap m) (N : News h₀ L s.heap news) (h0 : J 0 [] [])
    (turn : ∀ i x g ys own C oC D' m₂ (s₂ : Shared) h tk (E' : Value → Shared → Prop), vs[i]? = some x → J i ys g → LCg.NsObj oC m₂ → m₂ a = some x → Fr h₀ L h m → News h₀ L h ((C, oC) :: (D', LCg.lst ys) :: (g ++ (news ++ own))) →
      @LT.lt Nat _ D' C → (∀ p ∈ g ++ (news ++ own), p.1 ≠ C ∧ p.1 ≠ D') → (∀ p ∈ g, @LT.lt Nat _ C p.1) →
      compBody prog w A cs elt (compEnvC scope cl C env) (CEnd h₀ L m { s₂ with heap := h, toks := tk } C oC D' (LCg.lst ys) (news ++ own) (fun y' g' => J (i + 1) (ys ++ [y']) g'))
        (CEnd h₀ L m { s₂ with heap := h, toks := tk } C oC D' (LCg.lst ys) (news ++ own) (fun _ g' => J (i + 1) ys g') Value.none) E' { s₂ with heap := h, toks := tk })
    (fin : ∀ D' (h : Heap) tk ys g hp, (∀ p ∈ g, @LT.lt Nat _ D' p.1) → (∀ p ∈ news, @LT.lt Nat _ p.1 D') → J vs.length ys g → K D' ys g news h tk { s with heap := hp }) :
    wpAny (model prog w) A (pyIter (.ref l)) (fun it s₂ => NAt prog w A h₀ L m env cs elt (.Name a pa) a scope cl E K it s₂) E s := by
  have g1 := (N _ hl).1
  have hls : s.heap.IsList l vs.toArray := ⟨_, g1, rfl, n1, rfl⟩
  have a1 : @LT.lt Nat _ l s.heap.objs.size := Heap.lt_size g1
  have hLs : @LT.lt Nat _ L s.heap.objs.size := F.ns.lt
  have hab : @LE.le Nat _ h₀.objs.size L := F.above
  refine wpAny_pyIter_list hls ?_
  have W := Walks.list (prog := prog) (w := w) hh s.heap.objs.size l (Nat.ne_of_lt a1) vs.toArray
  have hn : vs.toArray.size = vs.length := by simp
  rw [hn] at W
  have hkp : ∀ b o, s.heap.get? b = some o → (s.heap.push { cls := .type "list_iterator", data := .fields #[.ref l, .int 0 0] }).get? b = some o := fun b o e => Heap.get?_push_of_some _ e
  refine ⟨s.heap.objs.size, _, _, _, _, _, _, fun i v => vs[i]? = some v, news, J, rfl, KTurns.ofWalks W (fun i v s Q E st q => letGo_listiter st.1 q), ?_, hh, hcs, ?_, ?_, ⟨⟨_, Heap.get?_push_size _ rfl, rfl, rfl⟩, hls.at fun o e => hkp _ o e⟩, ?_, ?_, ?_, ?_,
    F.push _, fun p hp => ⟨hkp _ _ (N p hp).1, (N p hp).2⟩, h0, ?_, fun D' h tk ys g hg hn hJ => fin D' h tk ys g _ hg hn hJ⟩
  · intro s Q E st q
    exact wpAny_pyIter_listiter st.1 q
  · rw [sizeLine_eq]; lia
  · intro i v h hv
    simpa using hv
  · intro b hb
    show @LT.lt Nat _ b (s.heap.push _).objs.size
    rw [Heap.size_push]
    rcases List.mem_cons.mp hb with rfl | hb
    · exact Nat.lt_succ_self _
    · rw [List.mem_singleton.mp hb]; exact Nat.lt_succ_of_lt a1
  · intro hm
    rcases List.mem_cons.mp hm with e | e
    · exact absurd hLs (by rw [e]; exact Nat.lt_irrefl _)
    · exact (N _ hl).2.1 (List.mem_singleton.mp e).symm
  · intro b hb
    rw [List.mem_singleton.mp hb]
    exact Heap.get?_none_of_le (Nat.le_trans hab (Nat.le_of_lt hLs))
  · intro p hp hm
    exact absurd (Heap.lt_size (N p hp).1) (by rw [List.mem_singleton.mp hm]; exact Nat.lt_irrefl _)
  · rintro i x g ys own C oC D' m₂ h tk E' _ hv hJ hC ha F₁ N₁ hDC off hg
    exact turn i x g ys own C oC D' m₂ _ h tk E' hv hJ hC ha F₁ N₁ hDC off hg
end
end Mine
-- ML24
namespace Mine
noncomputable def StrJ (l : List Str) (i : Nat) (ys : List Value) (g : List (Addr × Obj)) : Prop := g = [] ∧ ∃ ts : List (Str × Tok), ys = strValues ts ∧ ts.map (·.1) = l.take i
theorem StrJ.next {l : List Str} {i : Nat} {ys : List Value} {g : List (Addr × Obj)} {z : Str} {tz : Tok} (h : StrJ l i ys g) (hz : l[i]? = some z) : StrJ l (i + 1) (ys ++ [.str z tz]) [] := by
  obtain ⟨rfl, ts, rfl, e⟩ := h
  refine ⟨rfl, ts ++ [(z, tz)], by simp [strValues], ?_⟩
  rw [List.take_add_one, hz, List.map_append, e]
  rfl
theorem StrJ.start {l : List Str} : StrJ l 0 [] [] := ⟨rfl, [], rfl, rfl⟩
noncomputable def BoolJ (l : List Bool) (i : Nat) (ys : List Value) (g : List (Addr × Obj)) : Prop := g = [] ∧ ys = boolVals (l.take i)
theorem BoolJ.next {l : List Bool} {i : Nat} {ys : List Value} {g : List (Addr × Obj)} {b : Bool} (h : BoolJ l i ys g) (hb : l[i]? = some b) : BoolJ l (i + 1) (ys ++ [.bool b]) [] := by
  obtain ⟨rfl, rfl⟩ := h
  refine ⟨rfl, ?_⟩
  rw [List.take_add_one, hb]
  simp [boolVals]
theorem BoolJ.start {l : List Bool} : BoolJ l 0 [] [] := ⟨rfl, rfl⟩
theorem cendS {l : List Str} {i : Nat} {ys : List Value} {z : Str} {t : Tok} {h₀ : Heap} {L : Addr} {m : Str → Option Value} {s₁ : Shared} {C : Addr} {oC : Obj} {D : Addr} {oD : Obj} {post L1 : List (Addr × Obj)} {h' : Heap} {tk : Nat} (F : Fr h₀ L h' m) (N : News h₀ L h' L1)
    (hJ : StrJ l i ys []) (hz : l[i]? = some z) (sub : ∀ p ∈ (C, oC) :: (D, oD) :: post, p ∈ L1) : CEnd h₀ L m s₁ C oC D oD post (fun y' g' => StrJ l (i + 1) (ys ++ [y']) g') (.str z t) { s₁ with heap := h', toks := tk } :=
  cendI (g' := []) F N sub (fun _ h => nomatch h) (hJ.next hz)
theorem cendB {l : List Bool} {i : Nat} {ys : List Value} {b : Bool} {h₀ : Heap} {L : Addr} {m : Str → Option Value} {s₁ : Shared} {C : Addr} {oC : Obj} {D : Addr} {oD : Obj} {post L1 : List (Addr × Obj)} {h' : Heap} {tk : Nat} (F : Fr h₀ L h' m) (N : News h₀ L h' L1)
    (hJ : BoolJ l i ys []) (hz : l[i]? = some b) (sub : ∀ p ∈ (C, oC) :: (D, oD) :: post, p ∈ L1) : CEnd h₀ L m s₁ C oC D oD post (fun y' g' => BoolJ l (i + 1) (ys ++ [y']) g') (.bool b) { s₁ with heap := h', toks := tk } :=
  cendI (g' := []) F N sub (fun _ h => nomatch h) (hJ.next hz)
section
variable {prog : Program} {w : World} {A : Around} {E : Value → Shared → Prop} {s : Shared} {h₀ : Heap} {L : Addr} {m : Str → Option Value} {env : Env} {elt : Expr} {a : Str} {pa : Pos} {scope : Scope} {cl : List (Str × Addr)}
  {K : Addr → List Value → List (Addr × Obj) → List (Addr × Obj) → Heap → Nat → Shared → Prop} {news : List (Addr × Obj)}
/-- texts told of a list of values -/
theorem strs_of {l : Addr} {vs : List Value} {n1 : Nat} (ls : List Str) (hlen : ls.length = vs.length) (hh : A.handled = none) (hl : (l, listOf vs.toArray n1) ∈ news) (hsz : vs.length < 1000) (F : Fr h₀ L s.heap m) (N : News h₀ L s.heap news)
    (turn : ∀ i x ys own C oC D' m₂ (s₂ : Shared) h tk (E' : Value → Shared → Prop), vs[i]? = some x → StrJ ls i ys [] → LCg.NsObj oC m₂ → m₂ a = some x → Fr h₀ L h m → News h₀ L h ((C, oC) :: (D', LCg.lst ys) :: (news ++ own)) →
      @LT.lt Nat _ D' C → (∀ p ∈ news ++ own, p.1 ≠ C ∧ p.1 ≠ D') →
      wpAny (model prog w) A (eval elt (compEnvC scope cl C env)) (CEnd h₀ L m { s₂ with heap := h, toks := tk } C oC D' (LCg.lst ys) (news ++ own) (fun y' g' => StrJ ls (i + 1) (ys ++ [y']) g')) E' { s₂ with heap := h, toks := tk })
    (fin : ∀ D' (h : Heap) tk (ts : List (Str × Tok)) hp, (∀ p ∈ news, @LT.lt Nat _ p.1 D') → ts.map (·.1) = ls → K D' (strValues ts) [] news h tk { s with heap := hp }) :
    wpAny (model prog w) A (pyIter (.ref l)) (fun it s₂ => NAt prog w A h₀ L m env [] elt (.Name a pa) a scope cl E K it s₂) E s := by
  refine listN (StrJ ls) hh (.inl rfl) hl hsz F N StrJ.start ?_ ?_
  · intro i x g ys own C oC D' m₂ s₂ h tk E' hx hJ hC ha F₁ N₁ hDC off hg
    have hJ' := hJ
    obtain ⟨rfl, _⟩ := hJ'
    exact turn i x ys own C oC D' m₂ s₂ h tk E' hx hJ hC ha F₁ N₁ hDC off
  · intro D' h tk ys g hp hg hn hJ
    obtain ⟨rfl, ts, rfl, e⟩ := hJ
    refine fin D' h tk ts hp hn ?_
    rw [e, List.take_of_length_le (by lia)]
/-- truths told of a list of values -/
theorem bools_of {l : Addr} {vs : List Value} {n1 : Nat} (ls : List Bool) (hlen : ls.length = vs.length) (hh : A.handled = none) (hl : (l, listOf vs.toArray n1) ∈ news) (hsz : vs.length < 1000) (F : Fr h₀ L s.heap m) (N : News h₀ L s.heap news)
    (turn : ∀ i x ys own C oC D' m₂ (s₂ : Shared) h tk (E' : Value → Shared → Prop), vs[i]? = some x → BoolJ ls i ys [] → LCg.NsObj oC m₂ → m₂ a = some x → Fr h₀ L h m → News h₀ L h ((C, oC) :: (D', LCg.lst ys) :: (news ++ own)) →
      @LT.lt Nat _ D' C → (∀ p ∈ news ++ own, p.1 ≠ C ∧ p.1 ≠ D') →
      wpAny (model prog w) A (eval elt (compEnvC scope cl C env)) (CEnd h₀ L m { s₂ with heap := h, toks := tk } C oC D' (LCg.lst ys) (news ++ own) (fun y' g' => BoolJ ls (i + 1) (ys ++ [y']) g')) E' { s₂ with heap := h, toks := tk })
    (fin : ∀ D' (h : Heap) tk hp, (∀ p ∈ news, @LT.lt Nat _ p.1 D') → K D' (boolVals ls) [] news h tk { s with heap := hp }) :
    wpAny (model prog w) A (pyIter (.ref l)) (fun it s₂ => NAt prog w A h₀ L m env [] elt (.Name a pa) a scope cl E K it s₂) E s := by
  refine listN (BoolJ ls) hh (.inl rfl) hl hsz F N BoolJ.start ?_ ?_
  · intro i x g ys own C oC D' m₂ s₂ h tk E' hx hJ hC ha F₁ N₁ hDC off hg
    have hJ' := hJ
    obtain ⟨rfl, _⟩ := hJ'
    exact turn i x ys own C oC D' m₂ s₂ h tk E' hx hJ hC ha F₁ N₁ hDC off
  · intro D' h tk ys g hp hg hn hJ
    obtain ⟨rfl, rfl⟩ := hJ
    rw [List.take_of_length_le (by lia)]
    exact fin D' h tk hp hn
end
end Mine
-- P1
namespace Mine
/-- place p is bad: one that stands above it in the same pile comes ahead of a lower one -/
noncomputable def BadAt (A : Nat → Nat) (H : Nat → Bool) (p : Nat) : Prop := ∃ j k l, j < k ∧ k < l ∧ l < 6 ∧ A j = p ∧ p < A k ∧ H j = H k ∧ A l < p
structure Abs (A : Nat → Nat) (H : Nat → Bool) (f : Nat) : Prop where
  lt : ∀ i, i < 6 → A i < 6
  inj : ∀ i j, i < 6 → j < 6 → A i = A j → i = j
  surj : ∀ r, r < 6 → ∃ i, i < 6 ∧ A i = r
  le : f ≤ 6
  good : ∀ p, p < f → ¬ BadAt A H p
  bad : f < 6 → BadAt A H f
noncomputable def stk (A : Nat → Nat) (H : Nat → Bool) (b : Bool) (c i : Nat) : List Nat := ((List.range i).filter fun j => H j == b && decide (c ≤ A j)).map A
noncomputable def BurOk (A : Nat → Nat) (H : Nat → Bool) (i c : Nat) : Prop := ∀ j k, j < k → k < i → c ≤ A j → A j < A k → H j = H k → ∃ l, k < l ∧ l < 6 ∧ A l < A j
structure InvA (A : Nat → Nat) (H : Nat → Bool) (f i c : Nat) : Prop where
  i6 : i ≤ 6
  came : ∀ r, r < c → ∃ j, j < i ∧ A j = r
  le : c ≤ f
  bur : c < f → BurOk A H i c
noncomputable def Stuck (A : Nat → Nat) (H : Nat → Bool) (i c : Nat) : Prop := c = 6 ∨ (∀ j, j < i → A j ≠ c) ∨ ∃ j k, j < k ∧ k < i ∧ A j = c ∧ c < A k ∧ H j = H k
section
variable {A : Nat → Nat} {H : Nat → Bool} {f i c : Nat} {b : Bool}
theorem mem_stk {x : Nat} : x ∈ stk A H b c i ↔ ∃ j, j < i ∧ H j = b ∧ c ≤ x ∧ A j = x := by
  unfold stk
  simp only [List.mem_map, List.mem_filter, List.mem_range, Bool.and_eq_true, beq_iff_eq, decide_eq_true_eq]
  constructor
  · rintro ⟨j, ⟨h1, h2, h3⟩, rfl⟩
    exact ⟨j, h1, h2, h3, rfl⟩
  · rintro ⟨j, h1, h2, h3, rfl⟩
    exact ⟨j, ⟨h1, h2, h3⟩, rfl⟩
theorem stk_zero : stk A H b c 0 = [] := rfl
theorem stk_same (hb : H i = b) (hc : c ≤ A i) : stk A H b c (i + 1) = stk A H b c i ++ [A i] := by
  unfold stk
  rw [List.range_succ, List.filter_append, List.map_append]
  simp [hb, hc]
theorem stk_other (hb : H i ≠ b) : stk A H b c (i + 1) = stk A H b c i := by
  unfold stk
  rw [List.range_succ, List.filter_append, List.map_append]
  simp [hb]
theorem stk_nodup (D : Abs A H f) (hi : i ≤ 6) : (stk A H b c i).Nodup := by
  unfold stk
  have h1 : ((List.range i).filter fun j => H j == b && decide (c ≤ A j)).Nodup := List.Pairwise.filter _ List.nodup_range
  refine List.Pairwise.map A (R := fun x y => x ≠ y ∧ x < 6 ∧ y < 6) (fun x y h e => h.1 (D.inj x y h.2.1 h.2.2 e)) ?_
  refine List.Pairwise.imp_of_mem (fun {x y} hx hy h => ⟨h, ?_, ?_⟩) h1
  · have := List.mem_range.mp (List.mem_filter.mp hx).1
    lia
  · have := List.mem_range.mp (List.mem_filter.mp hy).1
    lia
theorem stk_succ : stk A H b (c + 1) i = (stk A H b c i).filter fun x => x != c := by
  unfold stk
  rw [List.filter_map, List.filter_filter]
  congr 1
  refine List.filter_congr fun j _ => ?_
  simp only [Function.comp_apply]
  rw [Bool.eq_iff_iff]
  simp only [Bool.and_eq_true, beq_iff_eq, decide_eq_true_eq, bne_iff_ne]
  constructor
  · rintro ⟨h1, h2⟩
    exact ⟨by lia, h1, by lia⟩
  · rintro ⟨h1, h2, h3⟩
    exact ⟨h2, by lia⟩
theorem stk_pop (D : Abs A H f) (hi : i ≤ 6) {l : List Nat} (h : stk A H b c i = l ++ [c]) : stk A H b (c + 1) i = l ∧ stk A H (!b) (c + 1) i = stk A H (!b) c i := by
  have hn := stk_nodup (b := b) (c := c) D hi
  constructor
  · rw [stk_succ, h, List.filter_append]
    rw [h] at hn
    have h2 := (List.nodup_append.mp hn).2.2
    have h3 : l.filter (fun x => x != c) = l := List.filter_eq_self.mpr fun x hx => by
      have := h2 x hx c (.head _)
      simpa using this
    rw [h3]
    simp
  · rw [stk_succ]
    refine List.filter_eq_self.mpr fun x hx => ?_
    simp only [bne_iff_ne]
    rintro rfl
    have h4 : x ∈ stk A H b x i := by rw [h]; simp
    obtain ⟨j, j1, j2, _, j4⟩ := mem_stk.mp h4
    obtain ⟨k, k1, k2, _, k4⟩ := mem_stk.mp hx
    have := D.inj j k (by lia) (by lia) (by lia)
    subst this
    rw [j2] at k2
    cases b <;> cases k2
theorem stk_last (D : Abs A H f) (hi : i ≤ 6) {j : Nat} (hj : j < i) (hA : A j = c) (h : (stk A H (H j) c i).getLast? ≠ some c) : ∃ k, j < k ∧ k < i ∧ H j = H k ∧ c < A k := by
  have hc : c ∈ stk A H (H j) c i := mem_stk.mpr ⟨j, hj, rfl, Nat.le_refl _, hA⟩
  have e : List.range i = List.range j ++ j :: (List.range' (j + 1) (i - j - 1)) := by
    rw [List.range_eq_range', List.range_eq_range', show j :: List.range' (j + 1) (i - j - 1) = List.range' (0 + 1 * j) (i - j) from by
      rw [show i - j = (i - j - 1) + 1 from by lia, List.range'_succ]; simp, List.range'_append]
    congr 1
    lia
  have e2 : stk A H (H j) c i = stk A H (H j) c j ++ c :: ((List.range' (j + 1) (i - j - 1)).filter fun k => H k == H j && decide (c ≤ A k)).map A := by
    unfold stk
    rw [e, List.filter_append, List.map_append, List.filter_cons_of_pos (by simp [hA]), List.map_cons, hA]
  cases hr : ((List.range' (j + 1) (i - j - 1)).filter fun k => H k == H j && decide (c ≤ A k)) with
  | nil =>
    rw [e2, hr] at h
    simp at h
  | cons k r =>
    have hk : k ∈ (List.range' (j + 1) (i - j - 1)).filter fun k => H k == H j && decide (c ≤ A k) := by rw [hr]; exact .head _
    obtain ⟨hk1, hk2⟩ := List.mem_filter.mp hk
    have hk3 := List.mem_range'_1.mp hk1
    simp only [Bool.and_eq_true, beq_iff_eq, decide_eq_true_eq] at hk2
    refine ⟨k, by lia, by lia, hk2.1.symm, ?_⟩
    have : A k ≠ c := fun e9 => by
      have := D.inj k j (by lia) (by lia) (by lia)
      lia
    lia
theorem top_none (D : Abs A H f) (hi : i ≤ 6) (ht : ∀ b, (stk A H b c i).getLast? ≠ some c) : Stuck A H i c := by
  by_cases h : ∃ j, j < i ∧ A j = c
  · obtain ⟨j, hj, hA⟩ := h
    obtain ⟨k, k1, k2, k3, k4⟩ := stk_last D hi hj hA (ht _)
    exact .inr (.inr ⟨j, k, k1, k2, hA, k4, k3⟩)
  · refine .inr (.inl fun j hj e => h ⟨j, hj, e⟩)
theorem last_stays (D : Abs A H f) (hi : i ≤ 6) {j k : Nat} (hjk : j < k) (hk : k < i) (hA : A j = c) (hc : c < A k) (hH : H j = H k) : ∀ b, (stk A H b c i).getLast? ≠ some c := by
  intro b e
  obtain ⟨l, hl⟩ := List.getLast?_eq_some_iff.mp e
  have h4 : c ∈ stk A H b c i := by rw [hl]; simp
  obtain ⟨j', j1, j2, _, j4⟩ := mem_stk.mp h4
  have := D.inj j' j (by lia) (by lia) (by lia)
  subst this
  -- the part from k on is not empty
  have e1 : ∀ n, k < n → n ≤ i → ∃ l x, stk A H b c n = l ++ [x] ∧ (∃ y, k ≤ y ∧ y < n ∧ A y = x) := by
    intro n
    induction n with
    | zero => intro h; lia
    | succ n ih =>
      intro h1 h2
      by_cases hkn : k = n
      · subst hkn
        refine ⟨_, A k, stk_same (by rw [← hH, j2]) (by lia), k, by lia, by lia, rfl⟩
      · obtain ⟨l', x', h5, y, h6, h7, h8⟩ := ih (by lia) (by lia)
        by_cases hp : H n = b ∧ c ≤ A n
        · exact ⟨_, A n, stk_same hp.1 hp.2, n, by lia, by lia, rfl⟩
        · have : stk A H b c (n + 1) = stk A H b c n := by
            unfold stk
            rw [List.range_succ, List.filter_append, List.map_append]
            have : (H n == b && decide (c ≤ A n)) = false := by
              rw [Bool.eq_false_iff]
              intro h9
              simp only [Bool.and_eq_true, beq_iff_eq, decide_eq_true_eq] at h9
              exact hp h9
            simp [this]
          rw [this]
          exact ⟨l', x', h5, y, h6, by lia, h8⟩
  obtain ⟨l', x', h5, y, h6, h7, h8⟩ := e1 i hk (Nat.le_refl _)
  rw [h5] at e
  simp only [List.getLast?_append, List.getLast?_singleton, Option.some_or, Option.some.injEq] at e
  have := D.inj y j' (by lia) (by lia) (by lia)
  lia
theorem InvA.start : InvA A H f 0 0 := ⟨by lia, fun r h => by lia, Nat.zero_le _, fun _ j k _ hk => by lia⟩
theorem stuck_start : Stuck A H 0 c := .inr (.inl fun j hj => by lia)
theorem InvA.fresh (D : Abs A H f) (I : InvA A H f i c) (hi : i < 6) : c ≤ A i := by
  by_cases h : A i < c
  · obtain ⟨j, h1, h2⟩ := I.came _ h
    have := D.inj j i (by lia) hi h2
    lia
  · lia
theorem InvA.push (D : Abs A H f) (I : InvA A H f i c) (S : Stuck A H i c) (hi : i < 6) : InvA A H f (i + 1) c := by
  refine ⟨by lia, fun r h => ?_, I.le, fun hc j k hjk hk hcj hlt hH => ?_⟩
  · obtain ⟨j, h1, h2⟩ := I.came r h
    exact ⟨j, by lia, h2⟩
  · by_cases hki : k < i
    · exact I.bur hc j k hjk hki hcj hlt hH
    · have : k = i := by lia
      subst this
      have hf := D.le
      rcases S with h | h | ⟨j', k', h1, h2, h3, h4, h5⟩
      · lia
      · obtain ⟨l, hl, hlc⟩ := D.surj c (by lia)
        have h8 : l ≠ k := fun e => by subst e; lia
        have h9 : ¬ l < k := fun e => h l e hlc
        have h10 : A j ≠ c := h j hjk
        exact ⟨l, by lia, hl, by lia⟩
      · exfalso
        obtain ⟨l, h6, h7, h8⟩ := I.bur hc j' k' h1 h2 (by lia) (by lia) h5
        refine D.good c hc ⟨j', k', l, h1, h6, h7, h3, h4, h5, ?_⟩
        lia
theorem InvA.pop (D : Abs A H f) (I : InvA A H f i c) (hc : c < 6) (ht : (stk A H b c i).getLast? = some c) : InvA A H f i (c + 1) := by
  obtain ⟨l, hl⟩ := List.getLast?_eq_some_iff.mp ht
  have h4 : c ∈ stk A H b c i := by rw [hl]; simp
  obtain ⟨j, j1, j2, _, j4⟩ := mem_stk.mp h4
  have i6 := I.i6
  have hcf : c < f := by
    have h1 := I.le
    by_cases h2 : c = f
    · exfalso
      subst h2
      obtain ⟨j', k, l, a1, a2, a3, a4, a5, a6, a7⟩ := D.bad hc
      have := D.inj j j' (by lia) (by lia) (by lia)
      subst this
      obtain ⟨l', b1, b2⟩ := I.came _ a7
      have := D.inj l' l (by lia) (by lia) b2
      subst this
      exact last_stays D i6 a1 (by lia) a4 a5 a6 b ht
    · lia
  refine ⟨i6, fun r h => ?_, hcf, fun h j' k' a1 a2 a3 a4 a5 => I.bur hcf j' k' a1 a2 (by lia) a4 a5⟩
  by_cases h2 : r = c
  · exact ⟨j, j1, by lia⟩
  · exact I.came r (by lia)
theorem InvA.fin (D : Abs A H f) (I : InvA A H f 6 c) (S : Stuck A H 6 c) : c = f := by
  have h1 := I.le
  have h2 := D.le
  by_cases h : c = f
  · exact h
  · exfalso
    have hcf : c < f := by lia
    rcases S with h3 | h3 | ⟨j', k', a1, a2, a3, a4, a5⟩
    · lia
    · obtain ⟨l, hl, hlc⟩ := D.surj c (by lia)
      exact h3 l hl hlc
    · obtain ⟨l, h6, h7, h8⟩ := I.bur hcf j' k' a1 a2 (by lia) (by lia) a5
      exact D.good c hcf ⟨j', k', l, a1, h6, h7, a3, a4, a5, by lia⟩
end
end Mine
-- P2
namespace Mine
open PySem.Builtin PySem.Builtin.Str
theorem first_spec (x y : Str) (lo hi : Nat) : (occurrences x y lo hi 1 = [] ∧ ∀ i, lo ≤ i → ¬ StrLaws.At x y hi i) ∨
    ∃ i r, occurrences x y lo hi 1 = i :: r ∧ lo ≤ i ∧ StrLaws.At x y hi i ∧ ∀ k, lo ≤ k → k < i → ¬ StrLaws.At x y hi k := by
  rw [StrLaws.occ_eq]
  rcases StrLaws.occ_first x y hi 1 (Nat.le_refl 1) (List.range' lo (hi + 1 - lo)) lo (fun i hi => by have := List.mem_range'_1.mp hi; lia) with ⟨h0, hn⟩ | ⟨pre, a, post, e, h0, ha, hn⟩
  · refine .inl ⟨by rw [h0], fun i hlo hi => ?_⟩
    exact hn i (by have := hi.1; rw [List.mem_range'_1]; lia) hi
  · have hs := StrLaws.range'_split_from e
    refine .inr ⟨a, ((forIn (List.range' lo (hi + 1 - lo)) ((#[] : Array Nat), lo) (StrLaws.occBody x y hi 1)).run.fst.toList).tail, ?_, hs.1, ha, fun k hk0 hk => hn k (hs.2 k hk0 hk)⟩
    generalize (forIn (List.range' lo (hi + 1 - lo)) ((#[] : Array Nat), lo) (StrLaws.occBody x y hi 1)).run.fst = arr at h0
    have h1 : arr.toList[0]? = some a := by simpa using h0
    cases hL : arr.toList with
    | nil => rw [hL] at h1; cases h1
    | cons b t => rw [hL] at h1; simp at h1; rw [h1]; rfl
theorem last_spec' (x y : Str) (lo hi : Nat) : (lastOccurrence x y lo hi = none ∧ ∀ i, lo ≤ i → ¬ StrLaws.At x y hi i) ∨
    ∃ i, lastOccurrence x y lo hi = some i ∧ lo ≤ i ∧ StrLaws.At x y hi i ∧ ∀ k, i < k → ¬ StrLaws.At x y hi k := by
  rw [StrLaws.last_eq]
  have key := StrLaws.last_run x y hi (List.range' lo (hi + 1 - lo)) [] none (fun _ h => nomatch h) (fun _ h => nomatch h) (by simpa using List.pairwise_lt_range' (s := lo) (n := hi + 1 - lo))
  rw [List.nil_append] at key
  have inr : ∀ i, lo ≤ i → StrLaws.At x y hi i → i ∈ List.range' lo (hi + 1 - lo) := fun i hlo h => by
    have := h.1; rw [List.mem_range'_1]; lia
  cases hr : (forIn (List.range' lo (hi + 1 - lo)) none (StrLaws.lastBody x y hi)).run with
  | none =>
    rw [hr] at key
    exact .inl ⟨rfl, fun i hlo h => key i (inr i hlo h) h⟩
  | some a =>
    rw [hr] at key
    have hlo : lo ≤ a := by
      by_cases h : lo ≤ a
      · exact h
      · exfalso
        -- the state only ever holds what the range gave
        have : ∀ (l : List Nat) (st : Option Nat), (∀ b, st = some b → lo ≤ b) → (∀ b ∈ l, lo ≤ b) → ∀ b, (forIn l st (StrLaws.lastBody x y hi)).run = some b → lo ≤ b := by
          intro l
          induction l with
          | nil => intro st h1 _ b hb; exact h1 b hb
          | cons c l ih =>
            intro st h1 h2 b hb
            rw [List.forIn_cons] at hb
            unfold StrLaws.lastBody at hb
            split at hb
            · exact ih (some c) (fun b' hb' => by cases hb'; exact h2 c (.head _)) (fun b' hb' => h2 b' (.tail _ hb')) b hb
            · exact ih st h1 (fun b' hb' => h2 b' (.tail _ hb')) b hb
        exact h (this _ none (fun _ h => nomatch h) (fun b hb => by have := List.mem_range'_1.mp hb; lia) a hr)
    refine .inr ⟨a, rfl, hlo, key.1, fun k hk h => key.2 k (inr k (by lia) h) hk h⟩
theorem at_one {x : Str} {c hi k : Nat} (hh : hi ≤ x.length) : StrLaws.At x ⟨#[c]⟩ hi k ↔ k < hi ∧ (tl x)[k]? = some c := by
  unfold StrLaws.At
  have h1 := StrLaws.subAt_one x c k
  have e : (⟨#[c]⟩ : Str).length = 1 := rfl
  rw [e] at h1 ⊢
  constructor
  · rintro ⟨h2, h3⟩
    exact ⟨by lia, h1.mp ⟨by lia, h3⟩⟩
  · rintro ⟨h2, h3⟩
    exact ⟨by lia, (h1.mpr h3).2⟩
theorem find4_is {x y : Str} {i j : Int} {k : Nat} (h1 : fromIndex x.length i ≤ k) (h2 : StrLaws.At x y (hiOf x.length j) k) (h3 : ∀ k', fromIndex x.length i ≤ k' → k' < k → ¬ StrLaws.At x y (hiOf x.length j) k') : find4 x y i j = (k : Int) := by
  unfold find4
  rcases first_spec x y (fromIndex x.length i) (hiOf x.length j) with ⟨h0, hn⟩ | ⟨a, r, h0, ha, hA, hn⟩
  · exact absurd h2 (hn k h1)
  · rw [h0]
    have : a = k := by
      by_cases hak : a < k
      · exact absurd hA (h3 a ha hak)
      · by_cases hka : k < a
        · exact absurd h2 (hn k h1 hka)
        · lia
    subst this
    rfl
theorem find4_no {x y : Str} {i j : Int} (h3 : ∀ k', fromIndex x.length i ≤ k' → ¬ StrLaws.At x y (hiOf x.length j) k') : find4 x y i j = -1 := by
  unfold find4
  rcases first_spec x y (fromIndex x.length i) (hiOf x.length j) with ⟨h0, hn⟩ | ⟨a, r, h0, ha, hA, hn⟩
  · rw [h0]
  · exact absurd hA (h3 a ha)
theorem rfind4_is {x y : Str} {i j : Int} {k : Nat} (h1 : fromIndex x.length i ≤ k) (h2 : StrLaws.At x y (hiOf x.length j) k) (h3 : ∀ k', k < k' → ¬ StrLaws.At x y (hiOf x.length j) k') : rfind4 x y i j = (k : Int) := by
  unfold rfind4
  rcases last_spec' x y (fromIndex x.length i) (hiOf x.length j) with ⟨h0, hn⟩ | ⟨a, h0, ha, hA, hn⟩
  · exact absurd h2 (hn k h1)
  · rw [h0]
    have : a = k := by
      by_cases hak : k < a
      · exact absurd hA (h3 a hak)
      · by_cases hka : a < k
        · exact absurd h2 (hn k hka)
        · lia
    subst this
    rfl
theorem rfind4_no {x y : Str} {i j : Int} (h3 : ∀ k', fromIndex x.length i ≤ k' → ¬ StrLaws.At x y (hiOf x.length j) k') : rfind4 x y i j = -1 := by
  unfold rfind4
  rcases last_spec' x y (fromIndex x.length i) (hiOf x.length j) with ⟨h0, hn⟩ | ⟨a, h0, ha, hA, hn⟩
  · rw [h0]
  · exact absurd hA (h3 a ha)
theorem find_eq4 (x y : Str) : Txt.find x y = find4 x y 0 (x.length : Int) := by
  unfold Txt.find find4
  rw [show hiOf x.length (x.length : Int) = x.length from by unfold hiOf; lia, show fromIndex x.length 0 = 0 from by unfold fromIndex; lia]
  rfl
theorem one_dot : (Str.ofString ".") = ⟨#[46]⟩ := by decide +kernel
theorem one_colon : (Str.ofString ":") = ⟨#[58]⟩ := by decide +kernel
theorem one_line : (Str.ofString "\n") = ⟨#[10]⟩ := by decide +kernel
theorem hiOf_nat {n k : Nat} (h : k ≤ n) : hiOf n (k : Int) = k := by unfold hiOf; lia
theorem from_zero {n : Nat} : fromIndex n 0 = 0 := by unfold fromIndex; lia
/-- the first place of a sign, if it stands nowhere before -/
theorem f4_at {x : Str} {a r : List Nat} {c : Nat} {e : Nat} (hx : tl x = a ++ c :: r) (ha : c ∉ a) (he : a.length < e) (hl : e ≤ x.length) : find4 x ⟨#[c]⟩ 0 (e : Int) = (a.length : Nat) := by
  refine find4_is (by rw [from_zero]; lia) ?_ fun k' _ hk hA => ?_
  · rw [hiOf_nat hl, at_one hl]
    exact ⟨he, by rw [hx]; simp⟩
  · rw [hiOf_nat hl, at_one hl] at hA
    rw [hx, List.getElem?_append_left hk] at hA
    exact ha (List.mem_of_getElem? hA.2)
theorem f4_no {x : Str} {a r : List Nat} {c : Nat} (hx : tl x = a ++ r) (ha : c ∉ a) : find4 x ⟨#[c]⟩ 0 (a.length : Nat) = -1 := by
  have hl : a.length ≤ x.length := by rw [len_tl, hx, List.length_append]; lia
  refine find4_no fun k' _ hA => ?_
  rw [hiOf_nat hl, at_one hl] at hA
  rw [hx, List.getElem?_append_left hA.1] at hA
  exact ha (List.mem_of_getElem? hA.2)
theorem r4_at {x : Str} {a b r : List Nat} {c : Nat} (hx : tl x = a ++ c :: (b ++ r)) (ha : c ∉ b) : rfind4 x ⟨#[c]⟩ 0 ((a.length + 1 + b.length : Nat) : Int) = (a.length : Nat) := by
  have hl : a.length + 1 + b.length ≤ x.length := by rw [len_tl, hx, List.length_append, List.length_cons, List.length_append]; lia
  refine rfind4_is (by rw [from_zero]; lia) ?_ fun k' hk hA => ?_
  · rw [hiOf_nat hl, at_one hl]
    exact ⟨by lia, by rw [hx]; simp⟩
  · rw [hiOf_nat hl, at_one hl] at hA
    have e : tl x = (a ++ [c]) ++ (b ++ r) := by rw [hx]; simp
    rw [e, List.getElem?_append_right (by simp; lia), List.getElem?_append_left (by simp; lia)] at hA
    exact ha (List.mem_of_getElem? hA.2)
theorem r4_no {x : Str} {a r : List Nat} {c : Nat} (hx : tl x = a ++ r) (ha : c ∉ a) : rfind4 x ⟨#[c]⟩ 0 (a.length : Nat) = -1 := by
  have hl : a.length ≤ x.length := by rw [len_tl, hx, List.length_append]; lia
  refine rfind4_no fun k' _ hA => ?_
  rw [hiOf_nat hl, at_one hl] at hA
  rw [hx, List.getElem?_append_left hA.1] at hA
  exact ha (List.mem_of_getElem? hA.2)
/-- what lies behind a pile: nothing, or a colon or a line end first -/
noncomputable def Behind (r : List Nat) : Prop := r = [] ∨ ∃ r', r = 58 :: r' ∨ r = 10 :: r'
theorem split_first {c : Nat} : ∀ {l : List Nat}, c ∈ l → ∃ p q, l = p ++ c :: q ∧ c ∉ p
  | y :: l, h => by
    by_cases hy : y = c
    · exact ⟨[], l, by simp [hy], by simp⟩
    · obtain ⟨p, q, e, hp⟩ := split_first (l := l) (by
        rcases List.mem_cons.mp h with h | h
        · exact absurd h.symm hy
        · exact h)
      exact ⟨y :: p, q, by simp [e], by simp [Ne.symm hy, hp]⟩
theorem stripE_eq {x : Str} {a r : List Nat} (hx : tl x = a ++ r) (h1 : 58 ∉ a) (h2 : 10 ∉ a) (hr : Behind r) : stripE x = (a.length : Nat) := by
  have hlen : x.length = a.length + r.length := by rw [len_tl, hx, List.length_append]
  have key : ∀ e : Nat, a.length ≤ e → e ≤ x.length → stripE0 x = (e : Int) → (e = a.length ∨ ∃ r', r = 58 :: r') → stripE x = (a.length : Nat) := by
    intro e he hel h0 hc
    unfold stripE
    rw [h0, one_colon]
    by_cases hea : e = a.length
    · subst hea
      rw [f4_no hx h1, if_neg (by lia)]
    · rcases hc with hc | ⟨r', hc⟩
      · exact absurd hc hea
      · subst hc
        rw [f4_at hx h1 (by lia) hel, if_pos (by lia)]
  have no10 : Txt.find x (Str.ofString "\n") = -1 → stripE0 x = (x.length : Int) := fun h => by
    unfold stripE0
    rw [h, if_neg (by lia)]
  rcases hr with rfl | ⟨r', rfl | rfl⟩
  · refine key x.length (by lia) (Nat.le_refl _) (no10 ?_) (.inl (by simp at hlen; exact hlen))
    rw [find_eq4, one_line]
    have := f4_no (x := x) (a := a) (r := []) (c := 10) hx h2
    rw [hlen]
    simpa using this
  · -- a colon first: the line end, if any, stands behind it
    have h0 : ∃ e : Nat, a.length ≤ e ∧ e ≤ x.length ∧ stripE0 x = (e : Int) := by
      unfold stripE0
      rw [find_eq4, one_line]
      by_cases h : (10 : Nat) ∈ (58 :: r')
      · obtain ⟨p, q, hpq, hp⟩ := split_first h
        have hx' : tl x = (a ++ p) ++ 10 :: q := by rw [hx, hpq, List.append_assoc]
        have hl2 : (a ++ p).length < x.length := by rw [len_tl, hx', List.length_append (as := a ++ p), List.length_cons]; lia
        rw [f4_at (e := x.length) hx' (by simp [h2, hp]) hl2 (Nat.le_refl _), if_pos (by lia)]
        exact ⟨(a ++ p).length, by simp, by lia, rfl⟩
      · have hx' : tl x = (a ++ 58 :: r') ++ [] := by rw [hx, List.append_nil]
        have hl2 : (a ++ 58 :: r').length = x.length := by rw [len_tl, hx]
        have := f4_no (c := 10) hx' (by rw [List.mem_append]; exact fun hm => hm.elim h2 h)
        rw [hl2] at this
        rw [this, if_neg (by lia)]
        exact ⟨x.length, by lia, Nat.le_refl _, rfl⟩
    obtain ⟨e, e1, e2, e3⟩ := h0
    exact key e e1 e2 e3 (.inr ⟨_, rfl⟩)
  · refine key a.length (Nat.le_refl _) (by lia) ?_ (.inl rfl)
    unfold stripE0
    rw [find_eq4, one_line, f4_at (e := x.length) hx h2 (by rw [hlen, List.length_cons]; lia) (Nat.le_refl _), if_pos (by lia)]
theorem slice_mid {x : Str} {q n r : List Nat} (hx : tl x = q ++ (n ++ r)) {b e : Int} (hb : b = (q.length : Nat)) (he : e = (q.length + n.length : Nat)) : tl (Txt.slice x (some b) (some e)) = n := by
  have hlen : x.length = q.length + (n.length + r.length) := by rw [len_tl, hx, List.length_append, List.length_append]
  rw [slice_tl, hx]
  have e1 : clipN (some b) 0 x.length = q.length := by unfold clipN; simp only; lia
  have e2 : clipN (some e) x.length x.length = q.length + n.length := by unfold clipN; simp only; lia
  rw [e1, e2, List.drop_left', show q.length + n.length - q.length = n.length from by lia]
  · simp
  · rfl
theorem strip_dot {x : Str} {q n r : List Nat} (hx : tl x = q ++ 46 :: (n ++ r)) (hq1 : 58 ∉ q) (hq2 : 10 ∉ q) (h1 : 46 ∉ n) (h2 : 58 ∉ n) (h3 : 10 ∉ n) (hr : Behind r) : tl (stripP x) = n := by
  have e1 : stripE x = ((q ++ 46 :: n).length : Nat) := stripE_eq (by rw [hx]; simp) (by simp [hq1, h2]) (by simp [hq2, h3]) hr
  have e2 : ((q ++ 46 :: n).length : Nat) = q.length + 1 + n.length := by simp; lia
  unfold stripP
  refine slice_mid (q := q ++ [46]) (n := n) (r := r) (by rw [hx]; simp) ?_ ?_
  · unfold stripB
    rw [e1, e2, one_dot, r4_at hx h1, if_pos (by lia)]
    simp
  · rw [e1, e2]
    simp
theorem strip_plain {x : Str} {n r : List Nat} (hx : tl x = n ++ r) (h1 : 46 ∉ n) (h2 : 58 ∉ n) (h3 : 10 ∉ n) (hr : Behind r) : tl (stripP x) = n := by
  have e1 : stripE x = (n.length : Nat) := stripE_eq hx h2 h3 hr
  unfold stripP
  refine slice_mid (q := []) (n := n) (r := r) (by rw [hx]; simp) ?_ ?_
  · unfold stripB
    rw [e1, one_dot, r4_no hx h1, if_neg (by lia)]
    simp
  · rw [e1]; simp
theorem goP_plain : ∀ {n r : List Nat}, 34 ∉ n → goP (n ++ r) = n ++ goP r
  | [], _, _ => rfl
  | c :: n, r, h => by
    have hc : c ≠ 34 := fun e => h (by rw [e]; exact .head _)
    rw [List.cons_append, goP_other c _ hc, goP_plain fun hm => h (.tail _ hm)]
    rfl
theorem goP_name {n r : List Nat} (hn : 34 ∉ n) (hr : r.head? ≠ some 34) : goP (34 :: 34 :: (n ++ 34 :: 34 :: 34 :: r)) = 34 :: (n ++ [34]) := by
  rw [goP_quote2, goP_plain hn, goP_quote2, goP_stop r hr]
theorem tl_257 : tl (Str.ofString "257") = [50, 53, 55] := by decide +kernel
theorem tl_line1 : tl (Str.ofString "257 \"\"\"") = [50, 53, 55, 32, 34, 34, 34] := by decide +kernel
theorem tl_line2 : tl (Str.ofString "\"\"\"") = [34, 34, 34] := by decide +kernel
theorem tl_space_quote : (Str.ofString " \"") = ⟨#[32, 34]⟩ := by decide +kernel
theorem parse_line {x : Str} {n r : List Nat} (hx : tl x = 50 :: 53 :: 55 :: 32 :: 34 :: 34 :: 34 :: (n ++ 34 :: 34 :: 34 :: r)) (hn : 34 ∉ n) (hr : r.head? ≠ some 34) : tl (parseP x) = 34 :: (n ++ [34]) := by
  have e : Txt.slice x (some 3) (some 5) = Str.ofString " \"" := by
    apply tl_ext
    rw [tl_space_quote]
    exact slice_mid (q := [50, 53, 55]) (n := [32, 34]) (r := 34 :: 34 :: (n ++ 34 :: 34 :: 34 :: r)) hx rfl rfl
  unfold parseP
  rw [e, bne_self_eq_false, if_neg Bool.false_ne_true, tl_mk, hx]
  exact goP_name hn hr
theorem parse_floor : parseP (Str.ofString "257") = Str.ofString "" := by decide +kernel
end Mine
-- P3
namespace Mine
open PySem.Builtin PySem.Builtin.Str
noncomputable def mapS (φ : Nat → Nat) (x : Str) : Str := ⟨x.cps.map φ⟩
section
variable {φ : Nat → Nat} (hφ : ∀ a b, φ a = φ b → a = b)
theorem tl_mapS (φ : Nat → Nat) (x : Str) : tl (mapS φ x) = (tl x).map φ := by
  show (x.cps.map φ).toList = _
  rw [Array.toList_map]
theorem tl_sub (x : Str) (i j : Nat) : tl (strSub x i j) = ((tl x).drop i).take (j - i) := StrLaws.strSub_toList x i j
theorem mapS_len (φ : Nat → Nat) (x : Str) : (mapS φ x).length = x.length := by rw [len_tl, tl_mapS, List.length_map, ← len_tl]
theorem mapS_app (φ : Nat → Nat) (x y : Str) : mapS φ (x ++ y) = mapS φ x ++ mapS φ y := by
  apply tl_ext
  rw [tl_mapS, tl_app, tl_app, tl_mapS, tl_mapS, List.map_append]
theorem mapS_slice (φ : Nat → Nat) (x : Str) (a b : Option Int) : Txt.slice (mapS φ x) a b = mapS φ (Txt.slice x a b) := by
  apply tl_ext
  rw [slice_tl, tl_mapS, tl_mapS, slice_tl, mapS_len, List.map_take, List.map_drop]
theorem mapS_sub (φ : Nat → Nat) (x : Str) (i j : Nat) : strSub (mapS φ x) i j = mapS φ (strSub x i j) := by
  apply tl_ext
  rw [tl_sub, tl_mapS, tl_mapS, tl_sub, List.map_take, List.map_drop]
include hφ
theorem map_beq : ∀ l m : List Nat, (l.map φ == m.map φ) = (l == m)
  | [], [] => rfl
  | [], _ :: _ => rfl
  | _ :: _, [] => rfl
  | a :: l, b :: m => by
    rw [List.map_cons, List.map_cons, List.cons_beq_cons, List.cons_beq_cons, map_beq l m]
    congr 1
    rw [Bool.eq_iff_iff, beq_iff_eq, beq_iff_eq]
    exact ⟨hφ a b, fun e => by rw [e]⟩
theorem mapS_beq (x y : Str) : (mapS φ x == mapS φ y) = (x == y) := by
  rw [Bool.eq_iff_iff, beq_iff_eq, beq_iff_eq]
  constructor
  · intro h
    apply tl_ext
    have h1 := congrArg tl h
    rw [tl_mapS, tl_mapS] at h1
    have h2 := map_beq hφ (tl x) (tl y)
    rw [h1, beq_self_eq_true] at h2
    exact beq_iff_eq.mp h2.symm
  · rintro rfl; rfl
theorem subAt_mapS (x y : Str) (i : Nat) : subAt (mapS φ x) (mapS φ y) i = subAt x y i := by
  rw [StrLaws.subAt_eq, StrLaws.subAt_eq]
  show (((tl (mapS φ x)).drop i).take (mapS φ y).length == tl (mapS φ y)) = (((tl x).drop i).take y.length == tl y)
  rw [tl_mapS, tl_mapS, mapS_len, ← List.map_drop, ← List.map_take, map_beq hφ]
theorem occ_mapS (x y : Str) (lo hi lim : Nat) : occurrences (mapS φ x) (mapS φ y) lo hi lim = occurrences x y lo hi lim := by
  unfold occurrences
  simp only [subAt_mapS hφ, mapS_len]
theorem find4_mapS (x y : Str) (i j : Int) : find4 (mapS φ x) (mapS φ y) i j = find4 x y i j := by
  unfold find4
  rw [occ_mapS hφ, mapS_len]
theorem starts_mapS (x y : Str) : Txt.startswith (mapS φ x) (mapS φ y) = Txt.startswith x y := by
  unfold Txt.startswith
  rw [subAt_mapS hφ, mapS_len, mapS_len]
theorem ends_mapS (x y : Str) : Txt.endswith (mapS φ x) (mapS φ y) = Txt.endswith x y := by
  unfold Txt.endswith
  rw [subAt_mapS hφ, mapS_len, mapS_len]
theorem emLoop_mapS (x : Str) (e : Int) : ∀ (ws : List Str) (st : Int), emLoop (mapS φ x) e (ws.map (mapS φ)) st = emLoop x e ws st
  | [], _ => rfl
  | w :: r, st => by
    rw [List.map_cons]
    unfold emLoop
    rw [find4_mapS hφ, mapS_len, emLoop_mapS x e r]
theorem emCut_mapS (x : Str) (st : Int) (ws : List Str) (e : Int) : emCut (mapS φ x) st (ws.map (mapS φ)) e = emCut x st ws e := by
  unfold emCut
  rw [emLoop_mapS hφ]
theorem emEnd_mapS (x : Str) (st : Int) (ws : List Str) (z : Str) : emEnd (mapS φ x) st (ws.map (mapS φ)) (mapS φ z) = emEnd x st ws z := by
  unfold emEnd
  rw [ends_mapS hφ, mapS_len, mapS_len, emCut_mapS hφ, show ws.map (mapS φ) ++ [mapS φ z] = (ws ++ [z]).map (mapS φ) from by simp, emCut_mapS hφ]
theorem emP_mapS (x a : Str) (ws : List Str) (z : Str) : emP (mapS φ x) (mapS φ a) (ws.map (mapS φ)) (mapS φ z) = emP x a ws z := by
  unfold emP
  rw [starts_mapS hφ, mapS_len, emEnd_mapS hφ, show mapS φ a :: ws.map (mapS φ) = (a :: ws).map (mapS φ) from by simp, emEnd_mapS hφ]
theorem split_mapS (h46 : φ 46 = 46) (x : Str) : Txt.split (mapS φ x) dots = (Txt.split x dots).map (mapS φ) := by
  have hd : mapS φ dots = dots := by
    apply tl_ext
    rw [tl_mapS, show tl dots = [46, 46, 46] from by decide +kernel]
    simp [h46]
  have hk : ∀ y : Str, decide (Builtin.Str.strKind y < Builtin.Str.strKind dots) = false := fun y => decide_eq_false (kind_dots y)
  unfold Txt.split
  rw [hk, hk, mapS_len, Bool.or_false]
  have ho : ∀ lo hi lim, occurrences (mapS φ x) dots lo hi lim = occurrences x dots lo hi lim := fun lo hi lim => by
    have := occ_mapS hφ x dots lo hi lim
    rw [hd] at this
    exact this
  rw [ho]
  split
  · rfl
  · split
    · rfl
    · unfold partsBetween
      rw [List.map_map]
      simp only [mapS_len]
      refine List.map_congr_left fun p _ => ?_
      exact mapS_sub φ x p.1 p.2
theorem ellP_mapS (h46 : φ 46 = 46) (x y : Str) : ellP (mapS φ x) (mapS φ y) = ellP x y := by
  have hd : mapS φ dots = dots := by
    apply tl_ext
    rw [tl_mapS, show tl dots = [46, 46, 46] from by decide +kernel]
    simp [h46]
  unfold ellP
  have ho := occ_mapS hφ x dots 0 x.length 1
  rw [hd] at ho
  rw [mapS_len, ho, mapS_beq hφ, split_mapS hφ h46]
  cases Txt.split x dots with
  | nil => rfl
  | cons a r =>
    rw [List.map_cons]
    dsimp only
    rw [show (r.map (mapS φ)).dropLast = r.dropLast.map (mapS φ) from by simp, show (r.map (mapS φ)).getLastD (mapS φ a) = mapS φ (r.getLastD a) from by
      rw [List.getLastD_eq_getLast?, List.getLastD_eq_getLast?, List.getLast?_map]
      cases r.getLast? <;> rfl, emP_mapS hφ]
end
noncomputable def T6 : Str := ⟨#[0, 1, 2, 3, 4, 5]⟩
noncomputable def phi (T : List Nat) (n : Nat) : Nat := if n = 46 then 46 else if n < 6 then T.getD n 0 else n + 1000
theorem phi_46 {T : List Nat} : phi T 46 = 46 := rfl
theorem phi_inj {T : List Nat} (h6 : T.length = 6) (hn : T.Nodup) (hd : 46 ∉ T) (hb : ∀ c ∈ T, c < 1000) : ∀ a b, phi T a = phi T b → a = b := by
  have at' : ∀ a, a < 6 → T[a]? = some (T.getD a 0) := fun a ha => by simp [List.getD, List.getElem?_eq_getElem (show a < T.length by lia)]
  intro a b h
  unfold phi at h
  by_cases a46 : a = 46 <;> by_cases b46 : b = 46
  · lia
  · rw [if_pos a46, if_neg b46] at h
    split at h
    · rename_i h1
      have := List.mem_of_getElem? (at' b h1)
      rw [← h] at this
      exact absurd this hd
    · lia
  · rw [if_neg a46, if_pos b46] at h
    split at h
    · rename_i h1
      have := List.mem_of_getElem? (at' a h1)
      rw [h] at this
      exact absurd this hd
    · lia
  · rw [if_neg a46, if_neg b46] at h
    split at h <;> split at h
    · rename_i h1 h2
      have e1 := at' a h1
      have e2 := at' b h2
      rw [h] at e1
      exact (List.getElem?_inj (i := a) (by lia) hn).mp (e1.trans e2.symm)
    · rename_i h1 h2
      have := hb _ (List.mem_of_getElem? (at' a h1))
      lia
    · rename_i h1 h2
      have := hb _ (List.mem_of_getElem? (at' b h2))
      lia
    · lia
theorem T6_map {T : List Nat} (h6 : T.length = 6) : mapS (phi T) T6 = ⟨T.toArray⟩ := by
  apply tl_ext
  rw [tl_mapS, tl_mk]
  obtain ⟨a, T, rfl⟩ := List.exists_cons_of_length_eq_add_one h6
  obtain ⟨b, T, rfl⟩ := List.exists_cons_of_length_eq_add_one (Nat.succ.inj h6)
  obtain ⟨c, T, rfl⟩ := List.exists_cons_of_length_eq_add_one (Nat.succ.inj (Nat.succ.inj h6))
  obtain ⟨d, T, rfl⟩ := List.exists_cons_of_length_eq_add_one (Nat.succ.inj (Nat.succ.inj (Nat.succ.inj h6)))
  obtain ⟨e, T, rfl⟩ := List.exists_cons_of_length_eq_add_one (Nat.succ.inj (Nat.succ.inj (Nat.succ.inj (Nat.succ.inj h6))))
  obtain ⟨f, T, rfl⟩ := List.exists_cons_of_length_eq_add_one (Nat.succ.inj (Nat.succ.inj (Nat.succ.inj (Nat.succ.inj (Nat.succ.inj h6)))))
  obtain rfl := List.length_eq_zero_iff.mp (Nat.succ.inj (Nat.succ.inj (Nat.succ.inj (Nat.succ.inj (Nat.succ.inj (Nat.succ.inj h6))))))
  rfl
theorem mapS_dots {T : List Nat} : mapS (phi T) (Str.ofString "...") = Str.ofString "..." := by
  apply tl_ext
  rw [tl_mapS, show tl (Str.ofString "...") = [46, 46, 46] from by decide +kernel]
  rfl
noncomputable def placeChk (k : Int) : Bool := (ellP (Txt.slice T6 none (some 2) ++ Str.ofString "..." ++ Txt.slice T6 (some k) (some (k + 2)) ++ Str.ofString "...") T6 == decide (1 < k)) &&
      (ellP (Str.ofString "..." ++ Txt.slice T6 (some k) (some (k + 2)) ++ Str.ofString "..." ++ Txt.slice T6 (some 4) none) T6 == decide (k < 3))
theorem place_all : placeChk 0 = true ∧ placeChk 1 = true ∧ placeChk 2 = true ∧ placeChk 3 = true ∧ placeChk 4 = true := by decide +kernel
theorem asked_T6 : ellP T6 T6 = true ∧ ellP (Txt.slice T6 (some 1) none) T6 = false ∧ ellP (Txt.slice T6 none (some 5)) T6 = false ∧ ellP (Txt.slice T6 (some 1) (some 3) ++ Str.ofString "...") T6 = false ∧
    ellP (Str.ofString "..." ++ Txt.slice T6 (some 3) (some 5)) T6 = false ∧ ellP (T6 ++ Str.ofString "..." ++ Txt.item T6 5) T6 = false ∧ ellP (Str.ofString "..." ++ Txt.slice T6 none (some 2) ++ Str.ofString "..." ++ Txt.slice T6 (some 1) (some 3) ++ Str.ofString "...") T6 = false := by decide +kernel
theorem item_T6 {T : List Nat} (h6 : T.length = 6) : Txt.item ⟨T.toArray⟩ 5 = mapS (phi T) (Txt.item T6 5) := by
  obtain ⟨c, h1, h2⟩ := item_tl (x := ⟨T.toArray⟩) (i := 5) (by lia) (by rw [len_tl, tl_mk, h6]; decide)
  obtain ⟨d, h3, h4⟩ := item_tl (x := T6) (i := 5) (by lia) (by decide)
  have h5 : d = 5 := by
    have : (tl T6)[(5 : Int).toNat]? = some 5 := rfl
    rw [this] at h3
    exact (Option.some.inj h3).symm
  subst h5
  rw [h2, h4]
  apply tl_ext
  rw [tl_mapS]
  show [c] = [phi T 5]
  rw [tl_mk] at h1
  have h1' : T[5]? = some c := h1
  rw [show phi T 5 = T.getD 5 0 from rfl, List.getD_eq_getElem?_getD, h1']
  rfl
section
variable {T : List Nat} (h6 : T.length = 6) (hn : T.Nodup) (hd : 46 ∉ T) (hb : ∀ c ∈ T, c < 1000)
include h6 hn hd hb
theorem place_ok : PlaceOk ⟨T.toArray⟩ := by
  have hφ := phi_inj h6 hn hd hb
  rw [← T6_map h6]
  intro k h0 h5
  have key : placeChk k = true := by
    have := place_all
    have hk : k = 0 ∨ k = 1 ∨ k = 2 ∨ k = 3 ∨ k = 4 := by lia
    rcases hk with rfl | rfl | rfl | rfl | rfl
    · exact this.1
    · exact this.2.1
    · exact this.2.2.1
    · exact this.2.2.2.1
    · exact this.2.2.2.2
  unfold placeChk at key
  rw [Bool.and_eq_true, beq_iff_eq, beq_iff_eq] at key
  rw [mapS_slice, mapS_slice, mapS_slice, ← mapS_dots (T := T), ← mapS_app, ← mapS_app, ← mapS_app, ← mapS_app, ← mapS_app, ← mapS_app, ellP_mapS hφ phi_46, ellP_mapS hφ phi_46]
  exact key
theorem asked_ok (x : Str) (hx : x = ⟨T.toArray⟩) : ellP x x = true ∧ ellP (Txt.slice x (some 1) none) x = false ∧ ellP (Txt.slice x none (some 5)) x = false ∧ ellP (Txt.slice x (some 1) (some 3) ++ Str.ofString "...") x = false ∧
    ellP (Str.ofString "..." ++ Txt.slice x (some 3) (some 5)) x = false ∧ ellP (x ++ Str.ofString "..." ++ Txt.item x 5) x = false ∧ ellP (Str.ofString "..." ++ Txt.slice x none (some 2) ++ Str.ofString "..." ++ Txt.slice x (some 1) (some 3) ++ Str.ofString "...") x = false := by
  have hφ := phi_inj h6 hn hd hb
  have hi := item_T6 h6
  rw [← hx] at hi
  have hx' : x = mapS (phi T) T6 := by rw [hx, T6_map h6]
  rw [hi, hx', ← mapS_dots (T := T)]
  simp only [mapS_slice, ← mapS_app, ellP_mapS hφ phi_46]
  exact asked_T6
end
end Mine
-- P4
namespace Mine
/-- the signs, in the order of the writings of their numbers -/
noncomputable def SGo : List Nat := [93, 44, 59, 43, 45, 42, 47, 124, 38, 60, 62, 61, 37, 123, 125, 126, 94, 64, 33, 40, 41, 91]
noncomputable abbrev one (c : Nat) : Str := ⟨#[c]⟩
theorem tl_one (c : Nat) : tl (one c) = [c] := rfl
theorem one_inj {a b : Nat} (h : one a = one b) : a = b := by
  have := congrArg tl h
  simpa using this
theorem signs_perm : (((ETT.map (·.1)).filter okSign).map fun x => (tl x).getD 0 0).Perm SGo := by decide +kernel
theorem signs_one : ∀ x ∈ (ETT.map (·.1)).filter okSign, x.length = 1 := by decide +kernel
theorem signs_len : ((ETT.map (·.1)).filter okSign).length = 22 := by decide +kernel
noncomputable def SGn : List (List Nat) := [[49, 48], [49, 50], [49, 51], [49, 52], [49, 53], [49, 54], [49, 55], [49, 56], [49, 57], [50, 48], [50, 49], [50, 50], [50, 52], [50, 53], [50, 54], [51, 49], [51, 50], [52, 57], [53, 52], [55], [56], [57]]
theorem SG_num : SGo.map (fun c => tl (numT (one c))) = SGn := by decide +kernel
theorem SG_lt : SGn.Pairwise (· < ·) := by decide +kernel
theorem SG_nodup : SGo.Nodup := by decide +kernel
theorem SG_has : ∀ c ∈ SGo, kdpHas ETT (one c) = true := by decide +kernel
theorem SG_bnd : ∀ c ∈ SGo, 0 ≤ tokN (one c) ∧ tokN (one c) < 100 := by decide +kernel
theorem SG_ok : ∀ c ∈ SGo, c < 1000 ∧ c ≠ 46 ∧ c ≠ 58 ∧ c ≠ 10 ∧ c ≠ 34 ∧ c ≠ 67 := by decide +kernel
noncomputable def keyN (c : Nat) : Nat := SGo.idxOf c
theorem key_at {c : Nat} (h : c ∈ SGo) : SGo[keyN c]? = some c := by
  have h1 := List.idxOf_lt_length_of_mem h
  rw [show keyN c = SGo.idxOf c from rfl, List.getElem?_eq_getElem h1]
  exact congrArg some (List.getElem_idxOf h1)
theorem key_inj {a b : Nat} (ha : a ∈ SGo) (hb : b ∈ SGo) (h : keyN a = keyN b) : a = b := by
  have h1 := key_at ha
  rw [h, key_at hb] at h1
  exact (Option.some.inj h1).symm
theorem num_lt {a b : Nat} (ha : a ∈ SGo) (hb : b ∈ SGo) (h : keyN a < keyN b) : tl (numT (one a)) < tl (numT (one b)) := by
  have e1 : SGn[keyN a]? = some (tl (numT (one a))) := by rw [← SG_num, List.getElem?_map, key_at ha]; rfl
  have e2 : SGn[keyN b]? = some (tl (numT (one b))) := by rw [← SG_num, List.getElem?_map, key_at hb]; rfl
  obtain ⟨h1, h1'⟩ := List.getElem?_eq_some_iff.mp e1
  obtain ⟨h2, h2'⟩ := List.getElem?_eq_some_iff.mp e2
  rw [← h1', ← h2']
  exact List.pairwise_iff_getElem.mp SG_lt _ _ h1 h2 h
theorem coll_key {a b : Nat} (ha : a ∈ SGo) (hb : b ∈ SGo) : collP (numT (one a)) (numT (one b)) = if keyN b < keyN a then 1 else if keyN a < keyN b then -1 else 0 := by
  show b2i (decide (tl (numT (one b)) < tl (numT (one a)))) - b2i (decide (tl (numT (one a)) < tl (numT (one b)))) = _
  by_cases h1 : keyN b < keyN a
  · have h := num_lt hb ha h1
    rw [if_pos h1, decide_eq_true h, decide_eq_false (List.lt_asymm h)]
    rfl
  · rw [if_neg h1]
    by_cases h2 : keyN a < keyN b
    · have h := num_lt ha hb h2
      rw [if_pos h2, decide_eq_true h, decide_eq_false (List.lt_asymm h)]
      rfl
    · have : a = b := key_inj ha hb (by lia)
      subst this
      rw [if_neg h2, decide_eq_false (List.lt_irrefl _)]
      rfl
/-- a row of codes: six unlike ones -/
structure RowC (T : List Nat) : Prop where
  six : T.length = 6
  nodup : T.Nodup
  sub : ∀ c ∈ T, c ∈ SGo
noncomputable def ordC (T : List Nat) : List Nat := T.mergeSort fun a b => decide (keyN a ≤ keyN b)
noncomputable def rkN (T : List Nat) (c : Nat) : Nat := (ordC T).idxOf c
noncomputable def gOf (T : List Nat) (x : Str) : Nat := rkN T ((tl x).getD 0 0)
theorem gOf_one (T : List Nat) (c : Nat) : gOf T (one c) = rkN T c := rfl
section
variable {T : List Nat} (R : RowC T)
include R
omit R in
theorem ord_perm' : (ordC T).Perm T := List.mergeSort_perm _ _
theorem ord_perm : (ordC T).Perm T := List.mergeSort_perm _ _
theorem ord_len : (ordC T).length = 6 := by rw [(ord_perm R).length_eq, R.six]
theorem ord_nodup : (ordC T).Nodup := (ord_perm R).nodup_iff.mpr R.nodup
theorem ord_mem {c : Nat} : c ∈ ordC T ↔ c ∈ T := (ord_perm R).mem_iff
theorem ord_sorted : (ordC T).Pairwise fun a b => keyN a < keyN b := by
  have h1 : (ordC T).Pairwise fun a b => decide (keyN a ≤ keyN b) = true := List.pairwise_mergeSort (fun a b c h1 h2 => by simp only [decide_eq_true_eq] at *; lia) (fun a b => by simp only [Bool.or_eq_true, decide_eq_true_eq]; lia) T
  have h2 := List.pairwise_and_iff.mpr ⟨h1, ord_nodup R⟩
  refine List.Pairwise.imp_of_mem (fun {a b} ha hb h => ?_) h2
  have h3 : keyN a ≤ keyN b := by simpa using h.1
  have h4 : keyN a ≠ keyN b := fun e => h.2 (key_inj (R.sub a ((ord_mem R).mp ha)) (R.sub b ((ord_mem R).mp hb)) e)
  lia
theorem rk_at {c : Nat} (h : c ∈ T) : (ordC T)[rkN T c]? = some c := by
  have h1 := List.idxOf_lt_length_of_mem ((ord_mem R).mpr h)
  rw [show rkN T c = (ordC T).idxOf c from rfl, List.getElem?_eq_getElem h1]
  exact congrArg some (List.getElem_idxOf h1)
theorem rk_lt {c : Nat} (h : c ∈ T) : rkN T c < 6 := by
  have h1 := List.idxOf_lt_length_of_mem ((ord_mem R).mpr h)
  rw [ord_len R] at h1
  exact h1
theorem rk_inj {a b : Nat} (ha : a ∈ T) (hb : b ∈ T) (h : rkN T a = rkN T b) : a = b := by
  have h1 := rk_at R ha
  rw [h, rk_at R hb] at h1
  exact (Option.some.inj h1).symm
theorem rk_of {i c : Nat} (h : (ordC T)[i]? = some c) : rkN T c = i := by
  have hc : c ∈ T := (ord_mem R).mp (List.mem_of_getElem? h)
  have h1 := rk_at R hc
  have := List.getElem?_inj (i := rkN T c) (by rw [ord_len R]; exact rk_lt R hc) (ord_nodup R) |>.mp (h1.trans h.symm)
  exact this
theorem rk_key {a b : Nat} (ha : a ∈ T) (hb : b ∈ T) (h : rkN T a < rkN T b) : keyN a < keyN b := by
  obtain ⟨h1, h1'⟩ := List.getElem?_eq_some_iff.mp (rk_at R ha)
  obtain ⟨h2, h2'⟩ := List.getElem?_eq_some_iff.mp (rk_at R hb)
  have := List.pairwise_iff_getElem.mp (ord_sorted R) _ _ h1 h2 h
  rwa [h1', h2'] at this
theorem ord_ranks : (ordC T).map (rkN T) = [0, 1, 2, 3, 4, 5] := by
  apply List.ext_getElem?
  intro i
  rw [List.getElem?_map]
  by_cases hi : i < 6
  · have h := List.getElem?_eq_getElem (l := ordC T) (i := i) (by rw [ord_len R]; exact hi)
    rw [h, Option.map_some, rk_of R h]
    have : i = 0 ∨ i = 1 ∨ i = 2 ∨ i = 3 ∨ i = 4 ∨ i = 5 := by lia
    rcases this with rfl | rfl | rfl | rfl | rfl | rfl <;> rfl
  · rw [List.getElem?_eq_none (by rw [ord_len R]; lia), List.getElem?_eq_none (by simp; lia)]
    rfl
theorem rankOk : RankOk (T.map one) (gOf T) := by
  refine ⟨by rw [List.length_map, R.six], ?_, ?_, ?_, ?_, ?_⟩
  · intro x hx
    obtain ⟨c, hc, rfl⟩ := List.mem_map.mp hx
    exact SG_has c (R.sub c hc)
  · intro x hx
    obtain ⟨c, hc, rfl⟩ := List.mem_map.mp hx
    exact SG_bnd c (R.sub c hc)
  · rw [List.map_map]
    have h1 := (ord_perm R).map (rkN T)
    rw [ord_ranks R] at h1
    exact h1.symm
  · intro x hx y hy
    obtain ⟨a, ha, rfl⟩ := List.mem_map.mp hx
    obtain ⟨b, hb, rfl⟩ := List.mem_map.mp hy
    rw [coll_key (R.sub a ha) (R.sub b hb), gOf_one, gOf_one]
    by_cases h1 : rkN T b < rkN T a
    · rw [if_pos h1, if_pos (rk_key R hb ha h1)]
    · rw [if_neg h1]
      by_cases h2 : rkN T a < rkN T b
      · have := rk_key R ha hb h2
        rw [if_pos h2, if_neg (by lia), if_pos this]
      · have : a = b := rk_inj R ha hb (by lia)
        subst this
        rw [if_neg h2, if_neg (Nat.lt_irrefl _), if_neg (Nat.lt_irrefl _)]
  · exact List.Pairwise.map one (fun a b h e => h (one_inj e)) R.nodup
end
/-- the draws give a row -/
theorem pick_perm {st : List Str × List Str} {n : Int} (h : 0 < st.2.length) : ((pickF st n).1 ++ (pickF st n).2).Perm (st.1 ++ st.2) := by
  unfold pickF
  have h1 : 0 ≤ n % (st.2.length : Int) := Int.emod_nonneg _ (by lia)
  have h2 : n % (st.2.length : Int) < st.2.length := Int.emod_lt_of_pos _ (by lia)
  have hk : (n % (st.2.length : Int)).toNat < st.2.length := by lia
  generalize (n % (st.2.length : Int)).toNat = k at hk
  show ((st.1 ++ [st.2[k]?.getD (Str.ofString "")]) ++ st.2.eraseIdx k).Perm _
  rw [List.append_assoc]
  refine List.Perm.append_left _ ?_
  rw [List.getElem?_eq_getElem hk, Option.getD_some, List.eraseIdx_eq_take_drop_succ, List.singleton_append]
  refine List.perm_middle.symm.trans ?_
  rw [← List.drop_eq_getElem_cons hk, List.take_append_drop]
theorem picks_perm : ∀ {ns : List Int} {st : List Str × List Str}, ns.length ≤ st.2.length → ((ns.foldl pickF st).1 ++ (ns.foldl pickF st).2).Perm (st.1 ++ st.2) ∧ (ns.foldl pickF st).1.length = st.1.length + ns.length
  | [], _, _ => ⟨.refl _, rfl⟩
  | n :: ns, st, h => by
    rw [List.length_cons] at h
    have hl : (pickF st n).2.length = st.2.length - 1 := by
      unfold pickF
      have h1 : 0 ≤ n % (st.2.length : Int) := Int.emod_nonneg _ (by lia)
      have h2 : n % (st.2.length : Int) < st.2.length := Int.emod_lt_of_pos _ (by lia)
      exact List.length_eraseIdx_of_lt (by lia)
    have hl1 : (pickF st n).1.length = st.1.length + 1 := by unfold pickF; simp
    obtain ⟨i1, i2⟩ := picks_perm (ns := ns) (st := pickF st n) (by lia)
    refine ⟨i1.trans (pick_perm (by lia)), ?_⟩
    rw [List.foldl_cons, i2, hl1, List.length_cons]
    lia
theorem picked_row {ns : List Int} {c : PickSt} {ss : List (Str × Tok)} (hs : ss.map (·.1) = (ETT.map (·.1)).filter okSign) (hn : ns.length = 6) (h : PickJ ns (ss.map (·.1)) 6 c) : ∃ T, RowC T ∧ c.rs.map (·.1) = T.map one := by
  obtain ⟨h1, h2, h3⟩ := h
  rw [List.take_of_length_le (by lia), hs] at h1
  have key := picks_perm (ns := ns) (st := ([], (ETT.map (·.1)).filter okSign)) (by rw [hn]; show 6 ≤ ((ETT.map (·.1)).filter okSign).length; rw [signs_len]; lia)
  rw [← h1] at key
  have hp : (c.rs.map (·.1) ++ c.ss.map (·.1)).Perm ((ETT.map (·.1)).filter okSign) := key.1
  have hall : ∀ x ∈ c.rs.map (·.1), one ((tl x).getD 0 0) = x := fun x hx => by
    have := signs_one x (hp.mem_iff.mp (List.mem_append_left _ hx))
    rw [len_tl] at this
    apply tl_ext
    obtain ⟨a, ha⟩ := List.length_eq_one_iff.mp this
    rw [ha]
    rfl
  have hpm := (hp.map fun x => (tl x).getD 0 0).trans signs_perm
  rw [List.map_append] at hpm
  refine ⟨(c.rs.map (·.1)).map fun x => (tl x).getD 0 0, ⟨?_, ?_, ?_⟩, ?_⟩
  · rw [List.length_map, List.length_map, h3]
  · exact (List.nodup_append.mp (hpm.nodup_iff.mpr SG_nodup)).1
  · exact fun c hc => hpm.mem_iff.mp (List.mem_append_left _ hc)
  · rw [List.map_map]
    refine (List.map_congr_left (g := id) fun x hx => ?_).trans (List.map_id _) |>.symm
    exact hall x hx
end Mine
-- P5
namespace Mine
noncomputable def badC (j : Nat) : Bool := (List.range 6).all fun k => (List.range 6).all fun l => ellP (badP (one j) (one k) (one l)) T6 == (decide (j < k) && decide (k < l))
theorem bad_c0 : badC 0 = true := by decide +kernel
theorem bad_c1 : badC 1 = true := by decide +kernel
theorem bad_c2 : badC 2 = true := by decide +kernel
theorem bad_c3 : badC 3 = true := by decide +kernel
theorem bad_c4 : badC 4 = true := by decide +kernel
theorem bad_c5 : badC 5 = true := by decide +kernel
theorem bad_chk {j : Nat} (h : j < 6) : badC j = true := by
  rcases (show j = 0 ∨ j = 1 ∨ j = 2 ∨ j = 3 ∨ j = 4 ∨ j = 5 by lia) with h | h | h | h | h | h <;> subst h
  · exact bad_c0
  · exact bad_c1
  · exact bad_c2
  · exact bad_c3
  · exact bad_c4
  · exact bad_c5
theorem bad_T6 {j k l : Nat} (hj : j < 6) (hk : k < 6) (hl : l < 6) : ellP (badP (one j) (one k) (one l)) T6 = (decide (j < k) && decide (k < l)) := by
  have h2 := List.all_eq_true.mp (bad_chk hj) k (List.mem_range.mpr hk)
  have h3 := List.all_eq_true.mp h2 l (List.mem_range.mpr hl)
  exact beq_iff_eq.mp h3
theorem mapS_one {T : List Nat} {j c : Nat} (hj : j < 6) (hc : T[j]? = some c) : mapS (phi T) (one j) = one c := by
  apply tl_ext
  rw [tl_mapS]
  show [phi T j] = [c]
  unfold phi
  rw [if_neg (by lia), if_pos hj, List.getD_eq_getElem?_getD, hc]
  rfl
theorem bad_row {T : List Nat} {j k l a b c : Nat} (h6 : T.length = 6) (hn : T.Nodup) (hd : 46 ∉ T) (hb : ∀ c ∈ T, c < 1000) (ha : T[j]? = some a) (hk : T[k]? = some b) (hl : T[l]? = some c) :
    ellP (badP (one a) (one b) (one c)) ⟨T.toArray⟩ = (decide (j < k) && decide (k < l)) := by
  have hj6 := (List.getElem?_eq_some_iff.mp ha).1
  have hk6 := (List.getElem?_eq_some_iff.mp hk).1
  have hl6 := (List.getElem?_eq_some_iff.mp hl).1
  rw [← bad_T6 (j := j) (k := k) (l := l) (by lia) (by lia) (by lia), ← ellP_mapS (phi_inj h6 hn hd hb) phi_46 (badP (one j) (one k) (one l)) T6, T6_map h6]
  unfold badP
  rw [mapS_app, mapS_app, mapS_app, mapS_app, mapS_app, mapS_app, mapS_dots, mapS_one (by lia) ha, mapS_one (by lia) hk, mapS_one (by lia) hl]
/-- the ranks as they come; the hands as they come -/
noncomputable def arr (T : List Nat) (i : Nat) : Nat := rkN T (T.getD i 0)
noncomputable def hnd (fl : List Bool) (i : Nat) : Bool := fl.getD i false
noncomputable def hndOf (T : List Nat) (fl : List Bool) (x : Str) : Bool := hnd fl (T.idxOf ((tl x).getD 0 0))
open Classical in
noncomputable def badB (T : List Nat) (fl : List Bool) (p : Nat) : Bool := decide (BadAt (arr T) (hnd fl) p)
theorem badB_iff {T : List Nat} {fl : List Bool} {p : Nat} : badB T fl p = true ↔ BadAt (arr T) (hnd fl) p := by
  unfold badB
  exact @decide_eq_true_iff _ (Classical.propDecidable _)
noncomputable def freeN (T : List Nat) (fl : List Bool) : Nat := ((List.range 6).find? (badB T fl)).getD 6
theorem valueAt_zip : ∀ {ks : List Str} {vs : List Value} {k : Nat} {x : Str} {v : Value}, ks.Nodup → ks[k]? = some x → vs[k]? = some v → valueAt (ks.zip vs) x = some v
  | y :: ks, u :: vs, 0, x, v, _, h1, h2 => by
    cases h1
    cases h2
    unfold valueAt
    rw [List.zip_cons_cons, List.find?_cons_of_pos (by simp)]
    rfl
  | y :: ks, u :: vs, k + 1, x, v, hn, h1, h2 => by
    have h1' : ks[k]? = some x := by simpa using h1
    have h2' : vs[k]? = some v := by simpa using h2
    have hne : y ≠ x := fun e => (List.nodup_cons.mp hn).1 (e ▸ List.mem_of_getElem? h1')
    have ih := valueAt_zip (List.nodup_cons.mp hn).2 h1' h2'
    unfold valueAt at ih ⊢
    rw [List.zip_cons_cons, List.find?_cons_of_neg (by simpa using hne)]
    exact ih
  | [], _, _, _, _, _, h1, _ => by simp at h1
  | _ :: _, [], _, _, _, _, _, h2 => by simp at h2
section
variable {T : List Nat} (R : RowC T)
include R
theorem at_getD {i : Nat} (hi : i < 6) : T[i]? = some (T.getD i 0) := by
  rw [List.getD_eq_getElem?_getD, List.getElem?_eq_getElem (show i < T.length by rw [R.six]; exact hi)]
  rfl
theorem arr_lt {i : Nat} (hi : i < 6) : arr T i < 6 := rk_lt R (List.mem_of_getElem? (at_getD R hi))
theorem arr_inj {i j : Nat} (hi : i < 6) (hj : j < 6) (h : arr T i = arr T j) : i = j := by
  have h1 := rk_inj R (List.mem_of_getElem? (at_getD R hi)) (List.mem_of_getElem? (at_getD R hj)) h
  have h2 := at_getD R hi
  rw [h1, ← at_getD R hj] at h2
  exact (List.getElem?_inj (i := i) (by rw [R.six]; exact hi) R.nodup).mp h2
theorem arr_surj {r : Nat} (hr : r < 6) : ∃ i, i < 6 ∧ arr T i = r := by
  have h1 := List.getElem?_eq_getElem (l := ordC T) (i := r) (by rw [ord_len R]; exact hr)
  have h2 := rk_of R h1
  have h3 : (ordC T)[r]'(by rw [ord_len R]; exact hr) ∈ T := (ord_mem R).mp (List.getElem_mem _)
  obtain ⟨i, hi⟩ := List.getElem?_of_mem h3
  have hi6 := (List.getElem?_eq_some_iff.mp hi).1
  rw [R.six] at hi6
  refine ⟨i, hi6, ?_⟩
  unfold arr
  rw [List.getD_eq_getElem?_getD, hi]
  exact h2
omit R in
theorem free_le (T : List Nat) (fl : List Bool) : freeN T fl ≤ 6 := by
  unfold freeN
  cases h : (List.range 6).find? _ with
  | none => exact Nat.le_refl _
  | some p =>
    have := List.mem_range.mp (List.mem_of_find?_eq_some h)
    exact Nat.le_of_lt this
theorem absOk (fl : List Bool) : Abs (arr T) (hnd fl) (freeN T fl) := by
  refine ⟨fun i hi => arr_lt R hi, fun i j hi hj h => arr_inj R hi hj h, fun r hr => arr_surj R hr, free_le T fl, fun p hp => ?_, fun hf => ?_⟩
  · have hle := free_le T fl
    intro hb
    unfold freeN at hp
    cases h : (List.range 6).find? _ with
    | none =>
      rw [List.find?_eq_none] at h
      have hp6 : p < 6 := by
        unfold freeN at hle
        lia
      exact h p (List.mem_range.mpr hp6) (badB_iff.mpr hb)
    | some q =>
      rw [h, Option.getD_some] at hp
      obtain ⟨_, as, bs, h2, h3⟩ := List.find?_eq_some_iff_append.mp h
      have hq : q < 6 := List.mem_range.mp (List.mem_of_find?_eq_some h)
      have hp2 : p ∈ as := by
        have hpm : p ∈ as ++ q :: bs := by rw [← h2]; exact List.mem_range.mpr (by lia)
        rcases List.mem_append.mp hpm with h4 | h4
        · exact h4
        · exfalso
          have hs : (as ++ q :: bs).Pairwise (· < ·) := by rw [← h2]; exact List.pairwise_lt_range
          have h5 := (List.pairwise_append.mp hs).2.1
          rcases List.mem_cons.mp h4 with e | e
          · lia
          · have := (List.pairwise_cons.mp h5).1 p e
            lia
      have h4 := h3 p hp2
      rw [badB_iff.mpr hb] at h4
      cases h4
  · unfold freeN at hf ⊢
    cases h : (List.range 6).find? _ with
    | none =>
      rw [h] at hf
      exact absurd hf (Nat.lt_irrefl _)
    | some q =>
      exact badB_iff.mp (List.find?_some h)
theorem idx_at {i : Nat} (hi : i < 6) : T.idxOf (T.getD i 0) = i := by
  have h1 := at_getD R hi
  have hm := List.mem_of_getElem? h1
  have h2 := List.idxOf_lt_length_of_mem hm
  have h3 : T[T.idxOf (T.getD i 0)]? = some (T.getD i 0) := by rw [List.getElem?_eq_getElem h2]; exact congrArg some (List.getElem_idxOf h2)
  exact (List.getElem?_inj h2 R.nodup).mp (h3.trans h1.symm)
theorem freeOk {row os : List (Str × Tok)} {fl : List Bool} (hr : row.map (·.1) = T.map one) (ho : os.map (·.1) = (ordC T).map one) (hf : fl.length = 6) : FreeOk row os fl (hndOf T fl) (freeN T fl) := by
  have hcodes : 46 ∉ T ∧ ∀ c ∈ T, c < 1000 := ⟨fun h => (SG_ok 46 (R.sub 46 h)).2.1 rfl, fun c h => (SG_ok c (R.sub c h)).1⟩
  have hlo : os.length = 6 := by
    have := congrArg List.length ho
    rw [List.length_map, List.length_map, ord_len R] at this
    exact this
  have hlr : row.length = 6 := by
    have := congrArg List.length hr
    rw [List.length_map, List.length_map, R.six] at this
    exact this
  have htext : Txt.join (Str.ofString "") (row.map (·.1)) = ⟨T.toArray⟩ := by
    rw [hr]
    have key : ∀ (T : List Nat), Str.join (Str.ofString "") (T.map one) = ⟨T.toArray⟩ := fun T => by
      induction T with
      | nil => rfl
      | cons c T ih =>
        cases T with
        | nil => rfl
        | cons d T =>
          rw [List.map_cons, List.map_cons]
          show one c ++ Str.ofString "" ++ Str.join (Str.ofString "") ((d :: T).map one) = _
          rw [ih]
          apply tl_ext
          rw [tl_app, tl_app, tl_mk]
          rfl
    show Builtin.Str.glued _ _ = _
    rw [StrLaws.glued_eq_join, key]
  -- an item of the order: its place in the row, and its rank
  have item : ∀ (q : Nat) (p : Str × Tok), os[q]? = some p → ∃ k, k < 6 ∧ T[k]? = some (T.getD k 0) ∧ arr T k = q ∧ p.1 = one (T.getD k 0) ∧ hndOf T fl p.1 = hnd fl k := by
    intro q p hq
    have hq6 := (List.getElem?_eq_some_iff.mp hq).1
    rw [hlo] at hq6
    obtain ⟨k, hk, ha⟩ := arr_surj R hq6
    have h1 := at_getD R hk
    have h2 : (ordC T)[q]? = some (T.getD k 0) := by
      have := rk_at R (List.mem_of_getElem? h1)
      rw [show rkN T (T.getD k 0) = q from ha] at this
      exact this
    have h3 : (os.map (·.1))[q]? = some p.1 := by rw [List.getElem?_map, hq]; rfl
    rw [ho, List.getElem?_map, h2] at h3
    have h4 : p.1 = one (T.getD k 0) := (Option.some.inj h3).symm
    refine ⟨k, hk, h1, ha, h4, ?_⟩
    rw [h4]
    show hnd fl (T.idxOf (T.getD k 0)) = _
    rw [idx_at R hk]
  have noBad : ∀ p, p < 6 → (NoBad os (hndOf T fl) (Txt.join (Str.ofString "") (row.map (·.1))) p ↔ ¬ BadAt (arr T) (hnd fl) p) := by
    intro p hp
    rw [htext]
    constructor
    · rintro hN ⟨j, k, l, hjk, hkl, hl6, hj, hlt, hH, hl⟩
      have hk6 : k < 6 := by lia
      obtain ⟨low, hlow⟩ : ∃ p', os[p]? = some p' := ⟨_, List.getElem?_eq_getElem (show p < os.length by lia)⟩
      obtain ⟨high, hhigh⟩ : ∃ p', os[arr T k]? = some p' := ⟨_, List.getElem?_eq_getElem (show arr T k < os.length by rw [hlo]; exact arr_lt R hk6)⟩
      obtain ⟨least, hleast⟩ : ∃ p', os[arr T l]? = some p' := ⟨_, List.getElem?_eq_getElem (show arr T l < os.length by rw [hlo]; exact arr_lt R hl6)⟩
      obtain ⟨j', hj', ej, aj, oj, hj2⟩ := item _ _ hlow
      obtain ⟨k', hk', ek, ak, ok, hk2⟩ := item _ _ hhigh
      obtain ⟨l', hl', el, al, ol, hl2⟩ := item _ _ hleast
      have e1 := arr_inj R hj' (show j < 6 by lia) (aj.trans hj.symm)
      have e2 := arr_inj R hk' hk6 ak
      have e3 := arr_inj R hl' hl6 al
      subst e1 e2 e3
      have h1 := hN low hlow high (List.mem_of_getElem? (by rw [List.getElem?_drop]; show os[p + (arr T k' - p)]? = _; rw [show p + (arr T k' - p) = arr T k' from by lia]; exact hhigh)) (by rw [hk2, hj2, hH]) least (List.mem_take_iff_getElem.mpr ⟨arr T l', by rw [hlo]; have := arr_lt R hl6; lia, (List.getElem?_eq_some_iff.mp hleast).2⟩)
      rw [oj, ok, ol, bad_row R.six R.nodup hcodes.1 hcodes.2 ej ek el, decide_eq_true hjk, decide_eq_true hkl] at h1
      cases h1
    · intro hB low hlow high hhigh hff least hleast
      obtain ⟨q, hq⟩ := List.getElem?_of_mem hhigh
      rw [List.getElem?_drop] at hq
      obtain ⟨r, hr6, hrr⟩ := List.mem_take_iff_getElem.mp hleast
      have hr' : os[r]? = some least := by rw [List.getElem?_eq_getElem (by lia), hrr]
      obtain ⟨j, hj, ej, aj, oj, hj2⟩ := item _ _ hlow
      obtain ⟨k, hk, ek, ak, ok, hk2⟩ := item _ _ hq
      obtain ⟨l, hl, el, al, ol, hl2⟩ := item _ _ hr'
      rw [oj, ok, ol, bad_row R.six R.nodup hcodes.1 hcodes.2 ej ek el]
      by_cases h1 : j < k
      · by_cases h2 : k < l
        · exfalso
          refine hB ⟨j, k, l, h1, h2, hl, aj, ?_, ?_, by lia⟩
          · have : arr T k ≠ p := fun e => by
              have := arr_inj R hj hk (aj.trans e.symm)
              lia
            lia
          · rw [← hj2, ← hk2, hff]
        · rw [decide_eq_false h2, Bool.and_false]
      · rw [decide_eq_false h1, Bool.false_and]
  have A := absOk R fl
  refine ⟨hlo, hlr, by rw [hlr, hf], ?_, ?_, ?_, ?_, ?_, ?_, ?_, ?_⟩
  · rw [hr]
    exact List.Pairwise.map one (fun a b h e => h (one_inj e)) R.nodup
  · intro p hp
    have : p.1 ∈ os.map (·.1) := List.mem_map.mpr ⟨p, hp, rfl⟩
    rw [ho] at this
    obtain ⟨c, _, hc⟩ := List.mem_map.mp this
    rw [← hc]
    exact Nat.le_refl 1
  · intro y hy
    rw [hr] at hy
    obtain ⟨c, _, rfl⟩ := List.mem_map.mp hy
    show 1 ≤ 1000
    lia
  · rw [htext, len_tl, tl_mk, R.six]
    exact Nat.le_refl 6
  · intro p hp
    obtain ⟨q, hq⟩ := List.getElem?_of_mem hp
    obtain ⟨k, hk, ek, ak, ok, hk2⟩ := item _ _ hq
    rw [hk2, hr, ok]
    refine valueAt_zip (k := k) (List.Pairwise.map one (fun a b h e => h (one_inj e)) R.nodup) (by rw [List.getElem?_map, ek]; rfl) ?_
    unfold boolVals hnd
    rw [List.getElem?_map, List.getD_eq_getElem?_getD, List.getElem?_eq_getElem (show k < fl.length by lia)]
    rfl
  · rw [hlo]; exact A.le
  · intro p hp
    have := A.le
    exact (noBad p (by lia)).mpr (A.good p hp)
  · intro hf6 hN
    rw [hlo] at hf6
    exact (noBad _ hf6).mp hN (A.bad hf6)
end
end Mine
-- MM1
namespace Mine
theorem nums_len {ts : List (Int × Tok)} {F : Int → Int → Int} {a b c d e f g : Int} {ns : List Int} (h : ts.map (·.1) = List.zipWith F [a, b, c, d, e, f, g] ns) : ts.length < 1000 := by
  have := congrArg List.length h
  rw [List.length_map, List.length_zipWith] at this
  rw [this]
  exact Nat.lt_of_le_of_lt (Nat.min_le_left _ _) (by simp)
theorem frTo {h₀ h : Heap} {L a : Addr} {m : Str → Option Value} {vs : Array Value} (_hl : h₀.IsList a vs) (F : Fr h₀ L h m) (e : m = fun y => if y = Str.ofString "script" then some (.ref a) else none) : Fr h₀ L h (fun y => if y = Str.ofString "script" then some (.ref a) else none) := e ▸ F
theorem num_end {F : Int → Int → Int} {ns1 ns2 : List Int} {i : Nat} {ys : List Value} {x y : Int} {t : Tok} {h₀ : Heap} {L : Addr} {m : Str → Option Value} {s₁ : Shared} {C : Addr} {oC : Obj} {D : Addr} {oD : Obj} {post : List (Addr × Obj)} {h' : Heap} {tk : Nat} (Fr' : Fr h₀ L h' m) (N : News h₀ L h' ((C, oC) :: (D, oD) :: post))
    (hJ : NumJ F ns1 ns2 i ys []) (h1 : ns1[i]? = some x) (h2 : ns2[i]? = some y) : CEnd h₀ L m s₁ C oC D oD post (fun y' g' => NumJ F ns1 ns2 (i + 1) (ys ++ [y']) g') (.int (F x y) t) { s₁ with heap := h', toks := tk } :=
  cendI (g' := []) Fr' N (fun p hp => hp) (fun _ h => nomatch h) (NumJ.next hJ h1 h2 rfl).2
theorem sign_yes {i : Nat} {ys : List Value} {y : Str} {t : Tok} {h₀ : Heap} {L : Addr} {m : Str → Option Value} {s₁ : Shared} {C : Addr} {oC : Obj} {D : Addr} {oD : Obj} {post : List (Addr × Obj)} {h' : Heap} {tk : Nat} (Fr' : Fr h₀ L h' m) (N : News h₀ L h' ((C, oC) :: (D, oD) :: post))
    (hJ : SignJ ETT okSign i ys []) (h1 : (ETT.map (·.1))[i]? = some y) (hc : okSign y = true) : CEnd h₀ L m s₁ C oC D oD post (fun y' g' => SignJ ETT okSign (i + 1) (ys ++ [y']) g') (.str y t) { s₁ with heap := h', toks := tk } :=
  cendI (g' := []) Fr' N (fun p hp => hp) (fun _ h => nomatch h) (SignJ.yes hJ h1 hc).2
theorem sign_no {i : Nat} {ys : List Value} {y : Str} {h₀ : Heap} {L : Addr} {m : Str → Option Value} {s₁ : Shared} {C : Addr} {oC : Obj} {D : Addr} {oD : Obj} {post : List (Addr × Obj)} {h' : Heap} {tk : Nat} {v : Value} (Fr' : Fr h₀ L h' m) (N : News h₀ L h' ((C, oC) :: (D, oD) :: post))
    (hJ : SignJ ETT okSign i ys []) (h1 : (ETT.map (·.1))[i]? = some y) (hc : okSign y = false) : CEnd h₀ L m s₁ C oC D oD post (fun _ g' => SignJ ETT okSign (i + 1) ys g') v { s₁ with heap := h', toks := tk } :=
  cendI (g' := []) Fr' N (fun p hp => hp) (fun _ h => nomatch h) (SignJ.no hJ h1 hc).2
end Mine
-- MM2
namespace Mine
noncomputable def keepM {α : Type} : List Bool → List α → List α
  | [], l => l
  | true :: bs, x :: l => x :: keepM bs l
  | false :: bs, _ :: l => keepM bs l
  | _ :: _, [] => []
theorem keepM_sub {α : Type} : ∀ (bs : List Bool) (l : List α), ∀ p ∈ keepM bs l, p ∈ l
  | [], _, _, h => h
  | true :: bs, x :: l, p, h => by
    rcases List.mem_cons.mp h with rfl | h
    · exact .head _
    · exact .tail _ (keepM_sub bs l p h)
  | false :: bs, _ :: l, p, h => .tail _ (keepM_sub bs l p h)
  | true :: _, [], _, h => h
  | false :: _, [], _, h => h
theorem keepN {h₀ h : Heap} {L : Addr} {news : List (Addr × Obj)} (bs : List Bool) (N : News h₀ L h news) : News h₀ L h (keepM bs news) := cb_drop N (keepM_sub bs news)
section
variable {prog : Program} {w : World} {A : Around} {E : Value → Shared → Prop} {s : Shared} {h₀ : Heap} {L D : Addr} {m : Str → Option Value} {news : List (Addr × Obj)}
theorem len_sv2 {l : List (Str × Tok)} {n : Nat} {Q : Value → Shared → Prop} (N : News h₀ L s.heap news) (hm : (D, listOf (strValues l).toArray n) ∈ news) (hfit : l.length < 1000)
    (h : Q (.int (l.length : Nat) (s.toks + 1)) { s with toks := s.toks + 1 + 1 }) : wpAny (model prog w) A (call (.builtin "len") [.ref D]) Q E s :=
  len_led N hm (by simp [strValues]; lia) (by rw [show (strValues l).length = l.length from by simp [strValues]]; exact h)
theorem strs_append {l : Addr} {ps : List (Str × Tok)} {e : Nat} {x : Str} {t : Tok} {news' : List (Addr × Obj)} {Q : Value → Shared → Prop} (F : Fr h₀ L s.heap m) (N : News h₀ L s.heap news) (hfit : ps.length < 1000)
    (U : Upd l (listOf (strValues ps).toArray e) (listOf (strValues (ps ++ [(x, t)])).toArray (e + 1)) news news') (h : ∀ h', Fr h₀ L h' m → News h₀ L h' news' → Q .none { s with heap := h' }) : wpAny (model prog w) A (call (.builtin "list.append") [.ref l, .str x t]) Q E s := by
  have e1 : (strValues (ps ++ [(x, t)])).toArray = (strValues ps).toArray.push (.str x t) := by simp [strValues]
  rw [e1] at U
  exact append_K F N U h (by simp [strValues, sizeLine_eq]; lia)
end
theorem pick_bnd {ns : List Int} {ss₀ : List Str} {i : Nat} {c : PickSt} (h : PickJ ns ss₀ i c) (hs : ss₀.length = 22) (hi : i < 6) : 0 < (c.ss.length : Int) ∧ c.ss.length < 1000 ∧ c.rs.length < 1000 := by
  obtain ⟨_, h2, h3⟩ := h
  lia
theorem fmod_bnd {n k : Int} (h : 0 < k) : 0 ≤ n.fmod k ∧ n.fmod k < k := ⟨Int.fmod_nonneg_of_pos n h, Int.fmod_lt_of_pos n h⟩
theorem fmod_emod {n k : Int} (h : 0 < k) : n.fmod k = n % k := Int.fmod_eq_emod_of_nonneg n (by lia)
theorem nums7 {ts : List (Int × Tok)} {F : Int → Int → Int} {a b c d e f g z : Int} {w : List Int} (h : ts.map (·.1) = List.zipWith F [a, b, c, d, e, f, g] (List.take 7 w ++ (List.replicate (Int.toNat 7) [z]).flatten)) : ts.length = 7 := by
  have := congrArg List.length h
  rw [List.length_map, List.length_zipWith, List.length_append] at this
  rw [this]
  have e : (List.replicate (Int.toNat 7) [z]).flatten.length = 7 := rfl
  rw [e]
  simp only [List.length_cons, List.length_nil]
  lia
theorem row_end {ns : List Int} {ss : List (Str × Tok)} {i : Nat} {c : PickSt} {n : Int} {y : Str} {t : Tok} {x : Str} {m₀ m' : Str → Option Value} {own news' : List (Addr × Obj)} {adr : List Addr} {L l r sg : Addr} {h₀ h' : Heap} {s : Shared} {tk n1 : Nat} {vs : List Value} {post : List (Addr × Obj)}
    (F : Fr h₀ L h' m') (N : News h₀ L h' news') (hP : PickJ ns (ss.map (·.1)) i c) (hn : ns[i]? = some n) (hi : i < 6) (hs : ss.map (·.1) = (ETT.map (·.1)).filter okSign) (hy : c.ss[(n.fmod (c.ss.length : Int)).toNat]? = some (y, t))
    (hsub : ∀ p ∈ (l, listOf vs.toArray n1) :: (r, listOf (strValues (c.rs ++ [(y, t)])).toArray (c.e1 + 1)) :: (sg, listOf (strValues (c.ss.eraseIdx (n.fmod (c.ss.length : Int)).toNat)).toArray (c.e2 + 1)) :: post, p ∈ news') (ho : ∀ p ∈ own, p ∈ news')
    (ha : l :: r :: sg :: post.map (·.1) = adr) (hm : ∀ z, z ≠ x → m' z = m₀ z) :
    InvEndN h₀ L (TurnS (fun c : PickSt => (l, listOf vs.toArray n1) :: (r, listOf (strValues c.rs).toArray c.e1) :: (sg, listOf (strValues c.ss).toArray c.e2) :: post) (fun _ => []) [] x m₀ (PickJ ns (ss.map (·.1)) (i + 1))) own adr s { s with heap := h', toks := tk } := by
  have hl : (ss.map (·.1)).length = 22 := by rw [hs, signs_len]
  have hb := (pick_bnd hP hl hi).1
  rw [fmod_emod hb] at hsub hy
  exact endS ⟨c.rs ++ [(y, t)], c.ss.eraseIdx (n % (c.ss.length : Int)).toNat, c.e1 + 1, c.e2 + 1⟩ F N hsub ho ha (fun _ h => nomatch h) (fun z h1 _ _ => hm z h1) (pick_step hP hn (by lia) hy)
section
variable {prog : Program} {w : World} {A : Around} {E : Value → Shared → Prop} {s : Shared} {env : Env} {h₀ : Heap} {x : Str} {body : List Stmt} {Q : Flow → Shared → Prop}
theorem pick_loop6 {l r sg : Addr} {ts : List (Int × Tok)} {ss : List (Str × Tok)} {n1 n2 n3 : Nat} {m₀ : Str → Option Value} {post : List (Addr × Obj)} (h7 : ts.length = 7) (hs : ss.map (·.1) = (ETT.map (·.1)).filter okSign)
    (hh : A.handled = none) (F : Fr h₀ env.locals s.heap m₀) (N : News h₀ env.locals s.heap ((l, listOf (intValues (ts.take 6)).toArray n1) :: (r, listOf #[] n2) :: (sg, listOf (strValues ss).toArray n3) :: post))
    (turn : ∀ (c : PickSt) i n t (u : Str → Option Value) h tk own, ((ts.take 6).map (·.1))[i]? = some n → i < 6 → (0 < (c.ss.length : Int) ∧ c.ss.length < 1000 ∧ c.rs.length < 1000) → (0 ≤ n.fmod (c.ss.length : Int) ∧ n.fmod (c.ss.length : Int) < (c.ss.length : Int)) → OwnOff own (l :: r :: sg :: post.map (·.1)) → PickJ ((ts.take 6).map (·.1)) (ss.map (·.1)) i c →
      Fr h₀ env.locals h (fun y => if y = x then some (.int n t) else m₀ y) → News h₀ env.locals h ((l, listOf (intValues (ts.take 6)).toArray n1) :: (r, listOf (strValues c.rs).toArray c.e1) :: (sg, listOf (strValues c.ss).toArray c.e2) :: (post ++ own)) →
      wpAny (model prog w) A (execs body env) (InvPostN h₀ env.locals (TurnS (fun c : PickSt => (l, listOf (intValues (ts.take 6)).toArray n1) :: (r, listOf (strValues c.rs).toArray c.e1) :: (sg, listOf (strValues c.ss).toArray c.e2) :: post) (fun _ => []) [] x m₀ (PickJ ((ts.take 6).map (·.1)) (ss.map (·.1)) (i + 1))) own (l :: r :: sg :: post.map (·.1)) { s with heap := h, toks := tk } Q) E { s with heap := h, toks := tk })
    (done : ∀ (row : List (Str × Tok)) (T : List Nat) e1 (u : Str → Option Value) h tk, RowC T → row.map (·.1) = T.map one → Fr h₀ env.locals h (fun y => if y = x then u y else m₀ y) → News h₀ env.locals h ((r, listOf (strValues row).toArray e1) :: post) → Q .next { s with heap := h, toks := tk }) :
    wpAny (model prog w) A (pyIter (.ref l)) (fun it s₂ => LoopAtV prog w A h₀ env x body Q E it s₂) E s := by
  have h6 : (ts.take 6).length = 6 := by rw [List.length_take]; lia
  have hl : (ss.map (·.1)).length = 22 := by rw [hs, signs_len]
  refine pick_loop hh F N ?_ ?_
  · intro c i n t u h tk own hn hi hoff hP F₁ N₁
    have hb := pick_bnd hP hl (by lia)
    exact turn c i n t u h tk own hn (by lia) hb (fmod_bnd hb.1) hoff hP F₁ N₁
  · intro c u h tk hP F₁ N₁
    rw [h6] at hP
    obtain ⟨T, hT, he⟩ := picked_row hs (by rw [List.length_map]; exact h6) hP
    exact done c.rs T c.e1 u h tk hT he F₁ (cb_drop N₁ fun p hp => by
      rcases List.mem_cons.mp hp with rfl | hp
      · exact .tail _ (.head _)
      · exact .tail _ (.tail _ (.tail _ hp)))
end
theorem rankOk' {T : List Nat} {row : List (Str × Tok)} (hT : RowC T) (hr : row.map (·.1) = T.map one) : RankOk (row.map (·.1)) (gOf T) := by rw [hr]; exact rankOk hT
theorem front5 {h₀ h : Heap} {L : Addr} {a b c d e x : Addr × Obj} {l : List (Addr × Obj)} (N : News h₀ L h (a :: b :: c :: d :: e :: x :: l)) : News h₀ L h (x :: a :: b :: c :: d :: e :: l) := cb_drop N fun p hp => by
  simp only [List.mem_cons] at hp ⊢
  rcases hp with h | h | h | h | h | h | h <;> simp [h]
end Mine
-- MM3
namespace Mine
theorem join_one : ∀ T : List Nat, Txt.join (Str.ofString "") (T.map one) = ⟨T.toArray⟩ := fun T => by
  have key : ∀ (T : List Nat), Str.join (Str.ofString "") (T.map one) = ⟨T.toArray⟩ := fun T => by
    induction T with
    | nil => rfl
    | cons c T ih =>
      cases T with
      | nil => rfl
      | cons d T =>
        rw [List.map_cons, List.map_cons]
        show one c ++ Str.ofString "" ++ Str.join (Str.ofString "") ((d :: T).map one) = _
        rw [ih]
        apply tl_ext
        rw [tl_app, tl_app, tl_mk]
        rfl
  show Builtin.Str.glued _ _ = _
  rw [StrLaws.glued_eq_join, key]
theorem row_codes {T : List Nat} (hT : RowC T) : 46 ∉ T ∧ ∀ c ∈ T, c < 1000 := ⟨fun h => (SG_ok 46 (hT.sub 46 h)).2.1 rfl, fun c h => (SG_ok c (hT.sub c h)).1⟩
theorem row_short {T : List Nat} {row : List (Str × Tok)} (hr : row.map (·.1) = T.map one) : ∀ y ∈ row.map (·.1), y.length ≤ 1000 := fun y hy => by
  rw [hr] at hy
  obtain ⟨c, _, rfl⟩ := List.mem_map.mp hy
  show 1 ≤ 1000
  lia
theorem row_six {T : List Nat} {row : List (Str × Tok)} (hT : RowC T) (hr : row.map (·.1) = T.map one) : row.length = 6 := by
  have := congrArg List.length hr
  rw [List.length_map, List.length_map, hT.six] at this
  exact this
theorem row_len {T : List Nat} {row : List (Str × Tok)} (hT : RowC T) (hr : row.map (·.1) = T.map one) : (row.map (·.1)).length ≤ 100 := by
  rw [List.length_map, row_six hT hr]; lia
theorem row_text {T : List Nat} {row : List (Str × Tok)} (hr : row.map (·.1) = T.map one) : Txt.join (Str.ofString "") (row.map (·.1)) = ⟨T.toArray⟩ := by rw [hr, join_one]
theorem ends_row (w : World) (x : Str) (tx : Tok) (T : List Nat) (hT : RowC T) (hx : x = ⟨T.toArray⟩) : Claim1b w 101 [.str x tx] (fun _ => .bool true) := by
  have hc := row_codes hT
  obtain ⟨h3, h4, h5, h6, h7, h8, h9⟩ := asked_ok hT.six hT.nodup hc.1 hc.2 x hx
  refine @fun _ _ => ends w x tx ?_ ?_ h3 h4 h5 h6 h7 h8 h9
  · rw [hx, len_tl, tl_mk, hT.six]
  · rw [hx]; exact place_ok hT.six hT.nodup hc.1 hc.2
section
variable {prog : Program} {w : World} {A : Around} {E : Value → Shared → Prop} {s : Shared} {h₀ : Heap} {L D d : Addr} {news : List (Addr × Obj)}
theorem rank_some {row : List (Str × Tok)} {g : Str → Nat} {od oe : Obj} {kvs : List (Str × Value)} {Q : Value → Shared → Prop} (N : News h₀ L s.heap news) (hm : (D, od) ∈ news) (hlo : (D == sysModules) = false) (hd : od.IsDictOf (PySem.strKind prog w) kvs) (hf : PyProof.V.FlatPairs PyData.str kvs (kdpD (rkD g row)))
    (he : (d, oe) ∈ news) (hlo' : (d == sysModules) = false) (hd' : oe.IsDictOf (PySem.strKind prog w) []) (h6 : row.length = 6) (hu : A.units < cLine) (h : Q (.bool false) s) : wpAny (model prog w) A (compareOp .Eq (.ref D) (.ref d)) Q E s :=
  keq_tabs_len (TabAt.ofObj hlo (N.get hm) hd hf) (TabAt.ofObj hlo' (N.get he) hd' PyProof.V.FlatPairs.nil) (by simp [kdpD, rkD, h6]) hu h
end
end Mine
-- MM4
namespace Mine
theorem gOf_perm {T : List Nat} {row : List (Str × Tok)} (hT : RowC T) (hr : row.map (·.1) = T.map one) : (rkL (gOf T) row).Perm [0, 1, 2, 3, 4, 5] := rkL_perm (rankOk' hT hr)
theorem ordP_ord {T : List Nat} {row : List (Str × Tok)} (hT : RowC T) (hr : row.map (·.1) = T.map one) : (ordP (rkL (gOf T) row) row).map (·.1) = (ordC T).map one := by
  have h1 := ordP_ranks (rankOk' hT hr)
  have h2 := ordP_len (rankOk' hT hr)
  apply List.ext_getElem?
  intro i
  rw [List.getElem?_map, List.getElem?_map]
  by_cases hi : i < 6
  · have e1 := List.getElem?_eq_getElem (l := ordP (rkL (gOf T) row) row) (i := i) (by lia)
    generalize (ordP (rkL (gOf T) row) row)[i] = p at e1
    have hm := mem_ordP (gOf_perm hT hr) (row_six hT hr) (List.mem_of_getElem? e1)
    have hm2 : p.1 ∈ T.map one := by rw [← hr]; exact List.mem_map.mpr ⟨p, hm, rfl⟩
    obtain ⟨c, hc, he⟩ := List.mem_map.mp hm2
    have h3 : ((ordP (rkL (gOf T) row) row).map fun p => (gOf T p.1 : Int))[i]? = some (gOf T p.1 : Int) := by rw [List.getElem?_map, e1]; rfl
    have h4 : ([0, 1, 2, 3, 4, 5] : List Int)[i]? = some (i : Int) := by
      have : i = 0 ∨ i = 1 ∨ i = 2 ∨ i = 3 ∨ i = 4 ∨ i = 5 := by lia
      rcases this with rfl | rfl | rfl | rfl | rfl | rfl <;> rfl
    have h5 : gOf T p.1 = i := by
      rw [h1, h4] at h3
      have := Option.some.inj h3
      lia
    rw [← he, gOf_one] at h5
    have h6 := rk_at hT hc
    rw [h5] at h6
    rw [e1, h6, Option.map_some, Option.map_some, ← he]
  · rw [List.getElem?_eq_none (by lia), List.getElem?_eq_none (by rw [ord_len hT]; lia)]
    rfl
noncomputable def IntK (n : Int) (k : Value) : Prop := ∃ t, k = .int n t
theorem IntK.intro {n : Int} {t : Tok} : IntK n (.int n t) := ⟨t, rfl⟩
section
variable {prog : Program} {w : World} {A : Around} {E : Value → Shared → Prop} {s : Shared} {h₀ : Heap} {L q : Addr} {m : Str → Option Value} {news : List (Addr × Obj)} {row : List (Str × Tok)} {T : List Nat}
theorem sort_rank {f : Addr} {kq : Nat} {Q : Value → Shared → Prop} (hT : RowC T) (hr : row.map (·.1) = T.map one) (F : Fr h₀ L s.heap m) (N : News h₀ L s.heap news) (hm : (q, listOf (strValues row).toArray kq) ∈ news)
    (turn : ∀ (x : Str) (t : Tok), x ∈ row.map (·.1) → ∀ (h : Heap) (tk : Nat) (own : List (Addr × Obj)), Fr h₀ L h m → News h₀ L h (news ++ own) →
      wpAny (model prog w) A.in1.in1 (call (.ref f) [.str x t]) (KeyEnd h₀ L m (news ++ own) (IntK (gOf T x : Int)) { s with heap := h, toks := tk }) (fun _ _ => False) { s with heap := h, toks := tk })
    (h : ∀ D c h' tk (os : List (Str × Tok)), os.map (·.1) = (ordC T).map one → Fr h₀ L h' m → News h₀ L h' ((D, listOf (strValues os).toArray c) :: news) → (∀ q ∈ news, q.1 < D) → Q (.ref D) { s with heap := h', toks := tk }) :
    wpAny (model prog w) A (call (.builtin "sorted") [.ref q] [(Str.ofString "key", .ref f)]) Q E s := by
  have h6 := row_six hT hr
  have hRO := rankOk' hT hr
  refine sort_key (rk := rkL (gOf T) row) (Kf := fun i k => ∀ p, row[i]? = some p → IntK (gOf T p.1 : Int) k) (T := .type "int") F N (News.isList N hm) (by simpa [strValues] using h6) (rkL_perm hRO) ?_ ?_ (by decide) (by decide) ?_ ?_
  · intro i v hv hh tk own F' N'
    unfold strValues at hv
    rw [List.getElem?_map] at hv
    obtain ⟨⟨x, t⟩, hp, rfl⟩ := Option.map_eq_some_iff.mp hv
    refine wpAny_mono (turn x t (List.mem_map.mpr ⟨_, List.mem_of_getElem? hp, rfl⟩) hh tk own F' N') (fun k s' hk => ?_) fun _ _ e => e
    obtain ⟨h', tk', e, h1, h2, h3⟩ := hk
    refine ⟨h', tk', e, fun p hp' => ?_, h2, h3⟩
    rw [hp] at hp'
    cases hp'
    exact h1
  · intro i k hh hi hk
    obtain ⟨t, rfl⟩ := hk _ (List.getElem?_eq_getElem (show i < row.length by lia))
    exact Looks.of_pure rfl
  · intro i j ki kj s' C hi hj hki hkj hC
    have gi := List.getElem?_eq_getElem (show i < row.length by lia)
    have gj := List.getElem?_eq_getElem (show j < row.length by lia)
    obtain ⟨t, rfl⟩ := hki _ gi
    obtain ⟨u, rfl⟩ := hkj _ gj
    rw [keyLt'_oneType]
    refine oneLt_int ?_
    have e : decide ((gOf T (row[i]'(by lia)).1 : Int) < (gOf T (row[j]'(by lia)).1 : Int)) = kLt (rkL (gOf T) row) i j := by
      unfold kLt rkL
      rw [Bool.eq_iff_iff, decide_eq_true_eq]
      simp [List.getD, gi, gj]
    rw [e]
    exact hC
  · intro D c h' tk F' N' hD
    rw [order_sv (rkL_perm hRO) h6] at N'
    exact h D c h' tk _ (ordP_ord hT hr) F' N' hD
end
end Mine
-- MM5
namespace Mine
noncomputable def nMul (i : Nat) : Int := ([2, 3, 1] : List Int).getD (i % 3) 1
noncomputable def nameL (xs : List Str) : List Str := xs.mapIdx fun i x => Txt.mul x (nMul i)
noncomputable def NameJ (os : List (Str × Tok)) (i : Nat) (ys : List Value) (g : List (Addr × Obj)) : Prop := g = [] ∧ ∃ ts : List (Str × Tok), ys = strValues ts ∧ ts.map (·.1) = (nameL (os.map (·.1))).take i
theorem NameJ.next {os : List (Str × Tok)} {i : Nat} {ys : List Value} {g : List (Addr × Obj)} {y z : Str} {t tz : Tok} (h : NameJ os i ys g) (hi : os[i]? = some (y, t)) (hz : z = Txt.mul y (nMul i)) : NameJ os (i + 1) (ys ++ [.str z tz]) [] := by
  obtain ⟨rfl, ts, rfl, e⟩ := h
  refine ⟨rfl, ts ++ [(z, tz)], by simp [strValues], ?_⟩
  have e2 : (nameL (os.map (·.1)))[i]? = some z := by
    unfold nameL
    rw [List.getElem?_mapIdx, List.getElem?_map, hi, hz]
    rfl
  rw [List.take_add_one, e2, List.map_append, e]
  rfl
section
variable {prog : Program} {w : World} {A : Around} {E : Value → Shared → Prop} {s : Shared} {h₀ : Heap} {L : Addr} {m : Str → Option Value} {env : Env} {elt : Expr} {a b : Str} {pa pb tp : Pos} {kk : Nat} {scope : Scope} {cl : List (Str × Addr)}
  {K : Addr → List Value → List (Addr × Obj) → List (Addr × Obj) → Heap → Nat → Shared → Prop} {news : List (Addr × Obj)}
theorem os_len {T : List Nat} {os : List (Str × Tok)} (hT : RowC T) (ho : os.map (·.1) = (ordC T).map one) : os.length = 6 := by
  have := congrArg List.length ho
  rw [List.length_map, List.length_map, ord_len hT] at this
  exact this
theorem os_one {T : List Nat} {os : List (Str × Tok)} (ho : os.map (·.1) = (ordC T).map one) {i : Nat} {y : Str} {t : Tok} (h : os[i]? = some (y, t)) : y.length = 1 := by
  have h1 : y ∈ os.map (·.1) := List.mem_map.mpr ⟨_, List.mem_of_getElem? h, rfl⟩
  rw [ho] at h1
  obtain ⟨c, _, rfl⟩ := List.mem_map.mp h1
  rfl
theorem names_enum {T : List Nat} {os : List (Str × Tok)} {l : Addr} {n1 : Nat} (hT : RowC T) (ho : os.map (·.1) = (ordC T).map one) (hh : A.handled = none) (hl : (l, listOf (strValues os).toArray n1) ∈ news) (F : Fr h₀ L s.heap m) (N : News h₀ L s.heap news)
    (turn : ∀ i t y ty ys own C oC D m₂ (s₂ : Shared) h tk (E' : Value → Shared → Prop), os[i]? = some (y, ty) → i < 6 → y.length = 1 → NameJ os i ys [] → LCg.NsObj oC m₂ → m₂ a = some (.int (i : Nat) t) → m₂ b = some (.str y ty) → Fr h₀ L h m → News h₀ L h ((C, oC) :: (D, LCg.lst ys) :: (news ++ own)) →
      @LT.lt Nat _ D C → (∀ p ∈ news ++ own, p.1 ≠ C ∧ p.1 ≠ D) →
      wpAny (model prog w) A (eval elt (compEnvC scope cl C env)) (CEnd h₀ L m { s₂ with heap := h, toks := tk } C oC D (LCg.lst ys) (news ++ own) (fun y' g' => NameJ os (i + 1) (ys ++ [y']) g')) E' { s₂ with heap := h, toks := tk })
    (fin : ∀ D (h : Heap) tk (ts : List (Str × Tok)) hp, (∀ p ∈ news, @LT.lt Nat _ p.1 D) → ts.map (·.1) = nameL ((ordC T).map one) → K D (strValues ts) [] news h tk { s with heap := hp }) :
    wpAny (model prog w) A (call (.type "enumerate") [.ref l]) (fun xv s₁ => wpAny (model prog w) A (pyIter xv) (fun it s₂ => ZAt prog w A h₀ L m env [] elt (.Tuple [.Name a pa, .Name b pb] kk tp) a b scope cl E K it s₂) E s₁) E s := by
  have h6 := os_len hT ho
  refine enumZ (NameJ os) hh (.inl rfl) hl (by simp [strValues]; lia) F N ⟨rfl, [], rfl, by simp⟩ ?_ ?_
  · intro i t v g ys own C oC D m₂ s₂ h tk E' hv hJ hC ha hb F₁ N₁ hDC off hg
    unfold strValues at hv
    rw [List.getElem?_map] at hv
    obtain ⟨⟨y, ty⟩, hp, rfl⟩ := Option.map_eq_some_iff.mp hv
    have hJ' := hJ
    obtain ⟨rfl, _⟩ := hJ'
    have hlt := (List.getElem?_eq_some_iff.mp hp).1
    exact turn i t y ty ys own C oC D m₂ s₂ h tk E' hp (by lia) (os_one ho hp) hJ hC ha hb F₁ N₁ hDC off
  · intro D h tk ys g hp hg hn hJ
    obtain ⟨rfl, ts, rfl, e⟩ := hJ
    refine fin D h tk ts hp hn ?_
    rw [e, ho, List.take_of_length_le]
    simp [strValues, nameL, h6, ord_len hT]
end
end Mine
-- MM6
namespace Mine
theorem nMul_le {i : Nat} : 1 ≤ nMul i ∧ nMul i ≤ 3 := by
  unfold nMul
  have : i % 3 = 0 ∨ i % 3 = 1 ∨ i % 3 = 2 := by lia
  rcases this with h | h | h <;> rw [h] <;> decide
theorem nMul_is {i : Nat} : ([2, 3, 1] : List Int).getD ((i : Int).fmod 3).toNat 0 = nMul i := by
  unfold nMul
  rw [fmod_emod (by lia)]
  have e : ((i : Int) % 3).toNat = i % 3 := by lia
  rw [e]
  have : i % 3 = 0 ∨ i % 3 = 1 ∨ i % 3 = 2 := by lia
  rcases this with h | h | h <;> rw [h] <;> rfl
noncomputable abbrev NM (T : List Nat) : List Str := nameL ((ordC T).map one)
noncomputable def CL (T : List Nat) : List Str := T.map fun c => (NM T).getD (rkN T c) (Str.ofString "")
theorem NM_len {T : List Nat} (hT : RowC T) : (NM T).length = 6 := by
  unfold NM nameL
  rw [List.length_mapIdx, List.length_map, ord_len hT]
theorem CL_len {T : List Nat} (hT : RowC T) : (CL T).length = 6 := by
  unfold CL
  rw [List.length_map, hT.six]
theorem nl_len {T : List Nat} {nl : List (Str × Tok)} (hT : RowC T) (hn : nl.map (·.1) = NM T) : nl.length = 6 := by
  have := congrArg List.length hn
  rw [List.length_map, NM_len hT] at this
  exact this
theorem cl_at {T : List Nat} {row nl : List (Str × Tok)} {i : Nat} {x z : Str} {t tz : Tok} (hr : row.map (·.1) = T.map one) (hn : nl.map (·.1) = NM T) (hi : row[i]? = some (x, t)) (hz : nl[gOf T x]? = some (z, tz)) : (CL T)[i]? = some z := by
  have h1 : (row.map (·.1))[i]? = some x := by rw [List.getElem?_map, hi]; rfl
  rw [hr, List.getElem?_map] at h1
  obtain ⟨c, hc, he⟩ := Option.map_eq_some_iff.mp h1
  subst he
  have h2 : (nl.map (·.1))[gOf T (one c)]? = some z := by rw [List.getElem?_map, hz]; rfl
  rw [hn, gOf_one] at h2
  unfold CL
  rw [List.getElem?_map, hc, Option.map_some, List.getD_eq_getElem?_getD, h2]
  rfl
section
variable {prog : Program} {w : World} {A : Around} {E : Value → Shared → Prop} {s : Shared} {h₀ : Heap} {L : Addr} {m : Str → Option Value} {env : Env} {elt : Expr} {a : Str} {pa : Pos} {scope : Scope} {cl : List (Str × Addr)}
  {K : Addr → List Value → List (Addr × Obj) → List (Addr × Obj) → Heap → Nat → Shared → Prop} {news : List (Addr × Obj)}
theorem name_mul {i : Nat} {y : Str} {ty u : Tok} {Q : Value → Shared → Prop} (hy : y.length = 1) (h : ∀ t' k, Q (.str (Txt.mul y (nMul i)) t') { s with toks := k }) : wpAny (model prog w) A (binaryOp .Mult (.str y ty) (.int (([2, 3, 1] : List Int).getD ((i : Int).fmod 3).toNat 0) u)) Q E s := by
  rw [nMul_is]
  have hb := nMul_le (i := i)
  refine SB.mul ⟨?_, fun _ _ => ?_, fun _ _ => ?_⟩ h
  · rw [Bool.or_eq_false_iff, decide_eq_false_iff_not, decide_eq_false_iff_not]
    lia
  · rw [hy]
    generalize nMul i = n at hb
    have : n = 1 ∨ n = 2 ∨ n = 3 := by lia
    rcases this with rfl | rfl | rfl <;> decide
  · rw [hy]
    generalize nMul i = n at hb
    have : n = 1 ∨ n = 2 ∨ n = 3 := by lia
    rcases this with rfl | rfl | rfl <;> decide
theorem name_end {os : List (Str × Tok)} {i : Nat} {ys : List Value} {y : Str} {t ty : Tok} {s₁ : Shared} {C : Addr} {oC : Obj} {D : Addr} {oD : Obj} {post L1 : List (Addr × Obj)} {h' : Heap} {tk : Nat} (F : Fr h₀ L h' m) (N : News h₀ L h' L1)
    (hJ : NameJ os i ys []) (hi : os[i]? = some (y, ty)) (sub : ∀ p ∈ (C, oC) :: (D, oD) :: post, p ∈ L1) : CEnd h₀ L m s₁ C oC D oD post (fun y' g' => NameJ os (i + 1) (ys ++ [y']) g') (.str (Txt.mul y (nMul i)) t) { s₁ with heap := h', toks := tk } :=
  cendI (g' := []) F N sub (fun _ h => nomatch h) (hJ.next hi rfl)
theorem item_strs6 {value slice : Expr} {D : Addr} {l : List (Str × Tok)} {n c : Nat} {u : Tok} {Q : Value → Shared → Prop} (N : News h₀ L s.heap news) (hm : (D, listOf (strValues l).toArray n) ∈ news) (hc : c < l.length) (hfit : l.length < 1000)
    (h : ∀ x t, l[c]? = some (x, t) → Q (.str x t) s)
    (hs : subscripted slice false (.ref D) (.int (c : Nat) u) = operate [.ref D, .int (c : Nat) u] (getItem (.ref D) (.int (c : Nat) u)) := by with_unfolding_all rfl) (hg : ∀ r, letTemporaryGo value (.ref D) r = pure () := by intro _; with_unfolding_all rfl) :
    wpAny (model prog w) A (subscriptTail value slice (.ref D) (.int (c : Nat) u)) Q E s := by
  have hx : l[c]? = some (l[c].1, l[c].2) := List.getElem?_eq_getElem hc
  refine item_listL (News.isList N hm) (by lia) (by lia) ?_ (h _ _ hx) hs hg
  simp [strValues, hx]
theorem called_comp {T : List Nat} {row nl : List (Str × Tok)} {l : Addr} {n1 : Nat} (hT : RowC T) (hr : row.map (·.1) = T.map one) (hn : nl.map (·.1) = NM T) (hh : A.handled = none) (hl : (l, listOf (strValues row).toArray n1) ∈ news) (F : Fr h₀ L s.heap m) (N : News h₀ L s.heap news)
    (turn : ∀ i x t ys own C oC D' m₂ (s₂ : Shared) h tk (E' : Value → Shared → Prop), x ∈ row.map (·.1) → (gOf T x < nl.length ∧ nl.length < 1000) → (∀ z tz, nl[gOf T x]? = some (z, tz) → (CL T)[i]? = some z) → StrJ (CL T) i ys [] → LCg.NsObj oC m₂ → m₂ a = some (.str x t) → Fr h₀ L h m → News h₀ L h ((C, oC) :: (D', LCg.lst ys) :: (news ++ own)) →
      @LT.lt Nat _ D' C → (∀ p ∈ news ++ own, p.1 ≠ C ∧ p.1 ≠ D') →
      wpAny (model prog w) A (eval elt (compEnvC scope cl C env)) (CEnd h₀ L m { s₂ with heap := h, toks := tk } C oC D' (LCg.lst ys) (news ++ own) (fun y' g' => StrJ (CL T) (i + 1) (ys ++ [y']) g')) E' { s₂ with heap := h, toks := tk })
    (fin : ∀ D' (h : Heap) tk (ts : List (Str × Tok)) hp, (∀ p ∈ news, @LT.lt Nat _ p.1 D') → ts.map (·.1) = CL T → K D' (strValues ts) [] news h tk { s with heap := hp }) :
    wpAny (model prog w) A (pyIter (.ref l)) (fun it s₂ => NAt prog w A h₀ L m env [] elt (.Name a pa) a scope cl E K it s₂) E s := by
  have h6 := row_six hT hr
  refine strs_of (CL T) (by simp [strValues, CL_len hT, h6]) hh hl (by simp [strValues]; lia) F N ?_ fin
  intro i v ys own C oC D' m₂ s₂ h tk E' hv hJ hC ha F₁ N₁ hDC off
  unfold strValues at hv
  rw [List.getElem?_map] at hv
  obtain ⟨⟨x, t⟩, hp, rfl⟩ := Option.map_eq_some_iff.mp hv
  have hx : x ∈ row.map (·.1) := List.mem_map.mpr ⟨_, List.mem_of_getElem? hp, rfl⟩
  have hg := g_lt (rankOk' hT hr) hx
  have hl6 := nl_len hT hn
  exact turn i x t ys own C oC D' m₂ s₂ h tk E' hx ⟨by lia, by lia⟩ (fun z tz hz => cl_at hr hn hp hz) hJ hC ha F₁ N₁ hDC off
end
end Mine
-- MM7
namespace Mine
section
variable {prog : Program} {w : World} {A : Around} {E : Value → Shared → Prop} {s : Shared} {h₀ : Heap} {L : Addr} {m : Str → Option Value} {news : List (Addr × Obj)}
theorem item_num6 {value slice : Expr} {D : Addr} {ts : List (Int × Tok)} {n : Nat} {u : Tok} {Q : Value → Shared → Prop} (h7 : ts.length = 7) (N : News h₀ L s.heap news) (hm : (D, listOf (intValues ts).toArray n) ∈ news)
    (h : ∀ x t, (ts.map (·.1))[6]? = some x → Q (.int x t) s)
    (hs : subscripted slice false (.ref D) (.int (6 : Nat) u) = operate [.ref D, .int (6 : Nat) u] (getItem (.ref D) (.int (6 : Nat) u)) := by with_unfolding_all rfl) (hg : ∀ r, letTemporaryGo value (.ref D) r = pure () := by intro _; with_unfolding_all rfl) :
    wpAny (model prog w) A (subscriptTail value slice (.ref D) (.int (6 : Nat) u)) Q E s := by
  have hx : ts[6]? = some ts[6] := List.getElem?_eq_getElem (by lia)
  have hx2 : (ts.map (·.1))[6]? = some ts[6].1 := by rw [List.getElem?_map, hx]; rfl
  refine item_listL (News.isList N hm) (by lia) (by lia) ?_ (h ts[6].1 ts[6].2 hx2) hs hg
  simp [intValues, hx]
noncomputable def BHs : List Str := [Str.ofString "", Str.ofString ": it lies on top. So: it", Str.ofString "\nC.!: it\nmay", Str.ofString ": it.\nC.!: so"]
noncomputable def BH (n : Int) : Str := BHs.getD (n.fmod 4).toNat Str.empty
theorem BH_mem (n : Int) : BH n ∈ BHs := by
  unfold BH
  have hb := fmod_bnd (n := n) (k := 4) (by lia)
  generalize n.fmod 4 = k at hb
  have : k = 0 ∨ k = 1 ∨ k = 2 ∨ k = 3 := by lia
  rcases this with rfl | rfl | rfl | rfl
  · exact .head _
  · exact .tail _ (.head _)
  · exact .tail _ (.tail _ (.head _))
  · exact .tail _ (.tail _ (.tail _ (.head _)))
theorem BHs_len : ∀ x ∈ BHs, x.length < 100 := by decide +kernel
theorem BH_len (n : Int) : (BH n).length < 100 := BHs_len _ (BH_mem n)
theorem item_behind {value slice : Expr} {D : Addr} {n : Int} {u t0 t1 t2 t3 : Tok} {e : Nat} {Q : Value → Shared → Prop} (N : News h₀ L s.heap news)
    (hm : (D, listOf #[.str (Str.ofString "") t0, .str (Str.ofString ": it lies on top. So: it") t1, .str (Str.ofString "\nC.!: it\nmay") t2, .str (Str.ofString ": it.\nC.!: so") t3] e) ∈ news)
    (h : ∀ t, (BH n).length < 100 → Q (.str (BH n) t) s)
    (hs : subscripted slice false (.ref D) (.int (n.fmod 4) u) = operate [.ref D, .int (n.fmod 4) u] (getItem (.ref D) (.int (n.fmod 4) u)) := by with_unfolding_all rfl) :
    wpAny (model prog w) A (subscriptTail value slice (.ref D) (.int (n.fmod 4) u)) Q E s := by
  have hb := fmod_bnd (n := n) (k := 4) (by lia)
  refine KTb.item_list (vs := strValues [(Str.ofString "", t0), (Str.ofString ": it lies on top. So: it", t1), (Str.ofString "\nC.!: it\nmay", t2), (Str.ofString ": it.\nC.!: so", t3)]) (ws := BHs) (News.isList N hm) (strsAre_sv _) hb.1 hb.2 (by lia) (fun t' _ => h t' (BH_len n)) hs
end
end Mine
-- P6
namespace Mine
theorem tl_join0 : ∀ ys : List Str, tl (Txt.join (Str.ofString "") ys) = ys.flatMap tl := fun ys => by
  have key : ∀ ys : List Str, tl (Str.join (Str.ofString "") ys) = ys.flatMap tl := fun ys => by
    induction ys with
    | nil => rfl
    | cons y ys ih =>
      cases ys with
      | nil =>
        show tl y = _
        simp
      | cons z ys =>
        show tl (y ++ Str.ofString "" ++ Str.join (Str.ofString "") (z :: ys)) = _
        rw [tl_app, tl_app, ih, List.flatMap_cons]
        show tl y ++ [] ++ _ = _
        rw [List.append_nil, List.flatMap_cons, List.flatMap_cons]
  show tl (Builtin.Str.glued _ _) = _
  rw [StrLaws.glued_eq_join, key]
/-- the writing of the name of a rank -/
noncomputable def nmC (T : List Nat) (r : Nat) : List Nat := List.replicate (nMul r).toNat ((ordC T).getD r 0)
section
variable {T : List Nat} (R : RowC T)
include R
theorem ord_at {r : Nat} (hr : r < 6) : (ordC T)[r]? = some ((ordC T).getD r 0) ∧ (ordC T).getD r 0 ∈ SGo := by
  have h := List.getElem?_eq_getElem (l := ordC T) (i := r) (by rw [ord_len R]; exact hr)
  have h2 : (ordC T).getD r 0 = (ordC T)[r]'(by rw [ord_len R]; exact hr) := by rw [List.getD_eq_getElem?_getD, h]; rfl
  rw [h2]
  exact ⟨h, R.sub _ ((ord_mem R).mp (List.getElem_mem _))⟩
theorem NM_at {r : Nat} (hr : r < 6) : ∃ x, (NM T)[r]? = some x ∧ tl x = nmC T r := by
  refine ⟨Txt.mul (one ((ordC T).getD r 0)) (nMul r), ?_, ?_⟩
  · unfold NM nameL
    rw [List.getElem?_mapIdx, List.getElem?_map, (ord_at R hr).1]
    rfl
  · exact mul_one_list _ _
theorem nmC_ok {r : Nat} (hr : r < 6) : 46 ∉ nmC T r ∧ 58 ∉ nmC T r ∧ 10 ∉ nmC T r ∧ 34 ∉ nmC T r ∧ 67 ∉ nmC T r := by
  have h := SG_ok _ (ord_at R hr).2
  unfold nmC
  simp only [List.mem_replicate]
  refine ⟨fun e => h.2.1 e.2.symm, fun e => h.2.2.1 e.2.symm, fun e => h.2.2.2.1 e.2.symm, fun e => h.2.2.2.2.1 e.2.symm, fun e => h.2.2.2.2.2 e.2.symm⟩
omit R in
theorem nmC_len (T : List Nat) (r : Nat) : 1 ≤ (nmC T r).length ∧ (nmC T r).length ≤ 3 := by
  have := nMul_le (i := r)
  unfold nmC
  rw [List.length_replicate]
  lia
theorem nmC_inj {r q : Nat} (hr : r < 6) (hq : q < 6) (h : nmC T r = nmC T q) : r = q := by
  have h1 := nMul_le (i := r)
  have h2 := nMul_le (i := q)
  have hm : (ordC T).getD r 0 ∈ nmC T q := by
    rw [← h]
    unfold nmC
    rw [List.mem_replicate]
    exact ⟨by lia, rfl⟩
  have e : (ordC T).getD r 0 = (ordC T).getD q 0 := by
    unfold nmC at hm
    exact (List.mem_replicate.mp hm).2
  have h3 := (ord_at R hr).1
  rw [e, ← (ord_at R hq).1] at h3
  exact (List.getElem?_inj (i := r) (by rw [ord_len R]; exact hr) (ord_nodup R)).mp h3
end
noncomputable def pileC (T : List Nat) (l : List Nat) : List Nat := 67 :: l.flatMap fun r => 46 :: nmC T r
noncomputable def lineC (n : List Nat) : List Nat := 50 :: 53 :: 55 :: 32 :: 34 :: 34 :: 34 :: (n ++ [34, 34, 34])
noncomputable def repC (T : List Nat) (l : List Nat) : List Nat := (l.reverse.flatMap fun r => lineC (nmC T r)) ++ [50, 53, 55]
theorem pileC_snoc (T l : List Nat) (r : Nat) : pileC T (l ++ [r]) = pileC T l ++ 46 :: nmC T r := by
  unfold pileC
  rw [List.flatMap_append]
  simp
theorem repC_snoc (T l : List Nat) (r : Nat) : repC T (l ++ [r]) = lineC (nmC T r) ++ repC T l := by
  unfold repC
  rw [List.reverse_append, List.reverse_singleton, List.singleton_append, List.flatMap_cons, List.append_assoc]
theorem pileC_free {T : List Nat} (R : RowC T) {l : List Nat} (hl : ∀ r ∈ l, r < 6) : 58 ∉ pileC T l ∧ 10 ∉ pileC T l := by
  unfold pileC
  refine ⟨fun h => ?_, fun h => ?_⟩
  all_goals
    rcases List.mem_cons.mp h with h | h
    · cases h
    · obtain ⟨r, hr, h⟩ := List.mem_flatMap.mp h
      rcases List.mem_cons.mp h with h | h
      · cases h
      · have := nmC_ok R (hl r hr)
        first | exact this.2.1 h | exact this.2.2.1 h
theorem pileC_len (T : List Nat) : ∀ l : List Nat, (pileC T l).length ≤ 1 + 4 * l.length := fun l => by
  unfold pileC
  induction l with
  | nil => simp
  | cons r l ih =>
    have := nmC_len T r
    simp only [List.flatMap_cons, List.length_cons, List.length_append] at ih ⊢
    lia
theorem repC_len (T : List Nat) : ∀ l : List Nat, (repC T l).length ≤ 3 + 13 * l.length := fun l => by
  have key : ∀ l : List Nat, (l.flatMap fun r => lineC (nmC T r)).length ≤ 13 * l.length := fun l => by
    induction l with
    | nil => simp
    | cons r l ih =>
      have := nmC_len T r
      simp only [List.flatMap_cons, List.length_cons, List.length_append, lineC, List.length_nil] at ih ⊢
      lia
  unfold repC
  have := key l.reverse
  rw [List.length_reverse] at this
  rw [List.length_append]
  simp only [List.length_cons, List.length_nil]
  lia
theorem repC_head (T l : List Nat) : (repC T l).take 3 = [50, 53, 55] := by
  unfold repC
  cases l.reverse with
  | nil => rfl
  | cons r l => rfl
theorem repC_first (T l : List Nat) : (repC T l).head? ≠ some 34 := by
  unfold repC
  cases l.reverse with
  | nil => simp
  | cons r l => simp [lineC]
/-- what lies behind is one of four -/
theorem BHs_behind : ∀ b ∈ BHs, Behind (tl b) := by
  intro b hb
  unfold BHs at hb
  simp only [List.mem_cons, List.not_mem_nil, or_false] at hb
  rcases hb with rfl | rfl | rfl | rfl
  · exact .inl (by decide +kernel)
  · exact .inr ⟨(tl (Str.ofString ": it lies on top. So: it")).tail, .inl (by decide +kernel)⟩
  · exact .inr ⟨(tl (Str.ofString "\nC.!: it\nmay")).tail, .inr (by decide +kernel)⟩
  · exact .inr ⟨(tl (Str.ofString ": it.\nC.!: so")).tail, .inl (by decide +kernel)⟩
theorem strip_pile {T : List Nat} (R : RowC T) {l : List Nat} {x : Nat} {p : Str} {n : Int} (hl : ∀ r ∈ l ++ [x], r < 6) (hp : tl p = pileC T (l ++ [x])) : tl (stripP (p ++ BH n)) = nmC T x := by
  have hx : x < 6 := hl x (by simp)
  have h1 := nmC_ok R hx
  have h2 := pileC_free R (l := l) fun r hr => hl r (List.mem_append_left _ hr)
  refine strip_dot (q := pileC T l) (r := tl (BH n)) ?_ h2.1 h2.2 h1.1 h1.2.1 h1.2.2.1 (BHs_behind _ (BH_mem n))
  rw [tl_app, hp, pileC_snoc]
  simp
theorem strip_floor {T : List Nat} {p : Str} {n : Int} (hp : tl p = pileC T []) : tl (stripP (p ++ BH n)) = [67] := by
  refine strip_plain (n := [67]) (r := tl (BH n)) ?_ (by decide) (by decide) (by decide) (BHs_behind _ (BH_mem n))
  rw [tl_app, hp]
  rfl
theorem parse_reps {T : List Nat} (R : RowC T) {l : List Nat} {x : Nat} {r : Str} (hx : x < 6) (hp : tl r = repC T (l ++ [x])) : tl (parseP r) = 34 :: (nmC T x ++ [34]) := by
  refine parse_line (r := repC T l) ?_ (nmC_ok R hx).2.2.2.1 (repC_first T l)
  rw [hp, repC_snoc]
  simp [lineC]
theorem parse_none {r : Str} {T : List Nat} (hp : tl r = repC T []) : tl (parseP r) = [] := by
  have : r = Str.ofString "257" := tl_ext (by rw [hp, tl_257]; rfl)
  rw [this, parse_floor]
  decide +kernel
end Mine
-- MM8
namespace Mine
noncomputable def FR : List Str := [Str.ofString "C", Str.ofString "" ++ Str.ofString "." ++ Str.ofString "C", Str.ofString "C" ++ Str.ofString "." ++ Str.ofString "", Str.ofString ""]
theorem FR_is : FR = [Str.ofString "C", Str.ofString ".C", Str.ofString "C.", Str.ofString ""] := by decide +kernel
noncomputable def SP4 : List Str := [Str.ofString "C", Str.ofString "C", Str.ofString "", Str.ofString ""]
theorem FR_ok : ∀ x ∈ FR, PyData.strOk x = true := by decide +kernel
theorem SP_ok : ∀ x ∈ SP4, PyData.strOk x = true := by decide +kernel
theorem FR_len : ∀ x ∈ FR, x.length < 10 := by decide +kernel
noncomputable def stripAll : Bool := BHs.all fun b => (FR.map fun x => stripP (x ++ b)) == SP4
theorem strip_all : stripAll = true := by decide +kernel
theorem strip_at {n : Int} {i : Nat} {x : Str} (h : FR[i]? = some x) : SP4[i]? = some (stripP (x ++ BH n)) := by
  have h1 := List.all_eq_true.mp strip_all _ (BH_mem n)
  rw [← beq_iff_eq.mp h1, List.getElem?_map, h]
  rfl
theorem build_NN (w : World) (q : Addr) : Claim2 w 74 q (tupOf [.none, .none]) (fun t => .str (Str.ofString "C") t) := @fun _ _ => build w q none none 0 0 (fun _ h => nomatch h) (fun _ h => nomatch h)
theorem build_SS (w : World) (q : Addr) (x y : Str) (tx ty : Tok) (hx : x.length < 1000) (hy : y.length < 1000) : Claim2 w 74 q (tupOf [.str x tx, .str y ty]) (fun t => .str (x ++ Str.ofString "." ++ y) t) := @fun _ _ => build w q (some x) (some y) tx ty (fun _ h => Option.some.inj h ▸ hx) (fun _ h => Option.some.inj h ▸ hy)
theorem build_SN (w : World) (q : Addr) (x : Str) (tx : Tok) (hx : x.length < 1000) : Claim2 w 74 q (tupOf [.str x tx, .none]) (fun t => .str x t) := @fun _ _ => build w q (some x) none tx 0 (fun _ h => Option.some.inj h ▸ hx) (fun _ h => nomatch h)
section
variable {prog : Program} {w : World} {A : Around} {E : Value → Shared → Prop} {s : Shared} {h₀ : Heap} {L : Addr} {m : Str → Option Value} {env : Env} {elt : Expr} {a : Str} {pa : Pos} {scope : Scope} {cl : List (Str × Addr)}
  {K : Addr → List Value → List (Addr × Obj) → List (Addr × Obj) → Heap → Nat → Shared → Prop} {news : List (Addr × Obj)}
theorem fronts_comp {p1 p2 p3 p4 l : Addr} {n1 : Nat} (hh : A.handled = none) (hl : (l, listOf #[.ref p1, .ref p2, .ref p3, .ref p4] n1) ∈ news) (F : Fr h₀ L s.heap m) (N : News h₀ L s.heap news)
    (turn : ∀ i p ys own C oC D' m₂ (s₂ : Shared) h tk (E' : Value → Shared → Prop), (i = 0 ∧ p = p1 ∨ i = 1 ∧ p = p2 ∨ i = 2 ∧ p = p3 ∨ i = 3 ∧ p = p4) → StrJ FR i ys [] → LCg.NsObj oC m₂ → m₂ a = some (.ref p) → Fr h₀ L h m → News h₀ L h ((C, oC) :: (D', LCg.lst ys) :: (news ++ own)) →
      @LT.lt Nat _ D' C → (∀ p ∈ news ++ own, p.1 ≠ C ∧ p.1 ≠ D') →
      wpAny (model prog w) A (eval elt (compEnvC scope cl C env)) (CEnd h₀ L m { s₂ with heap := h, toks := tk } C oC D' (LCg.lst ys) (news ++ own) (fun y' g' => StrJ FR (i + 1) (ys ++ [y']) g')) E' { s₂ with heap := h, toks := tk })
    (fin : ∀ D' (h : Heap) tk (ts : List (Str × Tok)) hp, (∀ p ∈ news, @LT.lt Nat _ p.1 D') → ts.map (·.1) = FR → K D' (strValues ts) [] news h tk { s with heap := hp }) :
    wpAny (model prog w) A (pyIter (.ref l)) (fun it s₂ => NAt prog w A h₀ L m env [] elt (.Name a pa) a scope cl E K it s₂) E s := by
  refine strs_of (vs := [.ref p1, .ref p2, .ref p3, .ref p4]) FR rfl hh hl (by simp) F N ?_ fin
  intro i v ys own C oC D' m₂ s₂ h tk E' hv hJ hC ha F₁ N₁ hDC off
  match i, hv with
  | 0, hv => cases hv; exact turn 0 p1 ys own C oC D' m₂ s₂ h tk E' (.inl ⟨rfl, rfl⟩) hJ hC ha F₁ N₁ hDC off
  | 1, hv => cases hv; exact turn 1 p2 ys own C oC D' m₂ s₂ h tk E' (.inr (.inl ⟨rfl, rfl⟩)) hJ hC ha F₁ N₁ hDC off
  | 2, hv => cases hv; exact turn 2 p3 ys own C oC D' m₂ s₂ h tk E' (.inr (.inr (.inl ⟨rfl, rfl⟩))) hJ hC ha F₁ N₁ hDC off
  | 3, hv => cases hv; exact turn 3 p4 ys own C oC D' m₂ s₂ h tk E' (.inr (.inr (.inr ⟨rfl, rfl⟩))) hJ hC ha F₁ N₁ hDC off
  | n + 4, hv => cases hv
theorem fronts_ne {ps : List (Str × Tok)} {a b : Addr} {na nb : Nat} {t0 t1 t2 t3 : Tok} {Q : Value → Shared → Prop} (N : News h₀ L s.heap news) (ma : (a, listOf (strValues ps).toArray na) ∈ news) (mb : (b, listOf #[.str (Str.ofString "C") t0, .str (Str.ofString ".C") t1, .str (Str.ofString "C.") t2, .str (Str.ofString "") t3] nb) ∈ news) (hp : ps.map (·.1) = FR)
    (hu : A.units + 64 < cLine) (h : Q (.bool false) s) : wpAny (model prog w) A (compareOp .NotEq (.ref a) (.ref b)) Q E s := by
  refine ne_strs (qs := [(Str.ofString "C", t0), (Str.ofString ".C", t1), (Str.ofString "C.", t2), (Str.ofString "", t3)]) N ma mb (by rw [hp]; exact FR_ok) (by have h9 := FR_ok; rw [FR_is] at h9; exact h9) hu ?_
  rw [hp, FR_is]
  simpa using h
theorem strips_comp {ps : List (Str × Tok)} {l : Addr} {n1 : Nat} {n : Int} (_hb : (BH n).length < 100) (hp : ps.map (·.1) = FR) (hh : A.handled = none) (hl : (l, listOf (strValues ps).toArray n1) ∈ news) (F : Fr h₀ L s.heap m) (N : News h₀ L s.heap news)
    (turn : ∀ i x t ys own C oC D' m₂ (s₂ : Shared) h tk (E' : Value → Shared → Prop), x.length < 10 → SP4[i]? = some (stripP (x ++ BH n)) → StrJ SP4 i ys [] → LCg.NsObj oC m₂ → m₂ a = some (.str x t) → Fr h₀ L h m → News h₀ L h ((C, oC) :: (D', LCg.lst ys) :: (news ++ own)) →
      @LT.lt Nat _ D' C → (∀ p ∈ news ++ own, p.1 ≠ C ∧ p.1 ≠ D') →
      wpAny (model prog w) A (eval elt (compEnvC scope cl C env)) (CEnd h₀ L m { s₂ with heap := h, toks := tk } C oC D' (LCg.lst ys) (news ++ own) (fun y' g' => StrJ SP4 (i + 1) (ys ++ [y']) g')) E' { s₂ with heap := h, toks := tk })
    (fin : ∀ D' (h : Heap) tk (ts : List (Str × Tok)) hp, (∀ p ∈ news, @LT.lt Nat _ p.1 D') → ts.map (·.1) = SP4 → K D' (strValues ts) [] news h tk { s with heap := hp }) :
    wpAny (model prog w) A (pyIter (.ref l)) (fun it s₂ => NAt prog w A h₀ L m env [] elt (.Name a pa) a scope cl E K it s₂) E s := by
  have hl4 : ps.length = 4 := by
    have := congrArg List.length hp
    rw [List.length_map] at this
    exact this
  refine strs_of SP4 (by simp [strValues, hl4]; rfl) hh hl (by simp [strValues, hl4]) F N ?_ fin
  intro i v ys own C oC D' m₂ s₂ h tk E' hv hJ hC ha F₁ N₁ hDC off
  unfold strValues at hv
  rw [List.getElem?_map] at hv
  obtain ⟨⟨x, t⟩, hx, rfl⟩ := Option.map_eq_some_iff.mp hv
  have h2 : FR[i]? = some x := by rw [← hp, List.getElem?_map, hx]; rfl
  exact turn i x t ys own C oC D' m₂ s₂ h tk E' (FR_len x (List.mem_of_getElem? h2)) (strip_at h2) hJ hC ha F₁ N₁ hDC off
theorem strips_ne {ps : List (Str × Tok)} {a b : Addr} {na nb : Nat} {t0 t1 t2 t3 : Tok} {Q : Value → Shared → Prop} (N : News h₀ L s.heap news) (ma : (a, listOf (strValues ps).toArray na) ∈ news) (mb : (b, listOf #[.str (Str.ofString "C") t0, .str (Str.ofString "C") t1, .str (Str.ofString "") t2, .str (Str.ofString "") t3] nb) ∈ news) (hp : ps.map (·.1) = SP4)
    (hu : A.units + 64 < cLine) (h : Q (.bool false) s) : wpAny (model prog w) A (compareOp .NotEq (.ref a) (.ref b)) Q E s := by
  refine ne_strs (qs := [(Str.ofString "C", t0), (Str.ofString "C", t1), (Str.ofString "", t2), (Str.ofString "", t3)]) N ma mb (by rw [hp]; exact SP_ok) SP_ok hu ?_
  rw [hp]
  simpa [SP4] using h
end
end Mine
-- MM9
namespace Mine
noncomputable def FSf (n : Int) : Bool := decide (254 + (n.fdiv 22).fmod 4 < 256)
noncomputable def FL (ns : List Int) : List Bool := (ns.take 6).map FSf
theorem FSf_is (n : Int) : FSf n = decide ((n.fdiv 22).fmod 4 < 2) := by
  unfold FSf
  rw [decide_eq_decide]
  lia
theorem FL_len {ts : List (Int × Tok)} (h7 : ts.length = 7) : (FL (ts.map (·.1))).length = 6 := by
  unfold FL
  rw [List.length_map, List.length_take, List.length_map, h7]
  decide
section
variable {prog : Program} {w : World} {A : Around} {E : Value → Shared → Prop} {s : Shared} {h₀ : Heap} {L : Addr} {m : Str → Option Value} {env : Env} {elt : Expr} {a b : Str} {pa pb tp : Pos} {kk : Nat} {scope : Scope} {cl : List (Str × Addr)}
  {K : Addr → List Value → List (Addr × Obj) → List (Addr × Obj) → Heap → Nat → Shared → Prop} {news : List (Addr × Obj)}
theorem firsts_comp {ts : List (Int × Tok)} {l : Addr} {n1 : Nat} (h7 : ts.length = 7) (hh : A.handled = none) (hl : (l, listOf (intValues (ts.take 6)).toArray n1) ∈ news) (F : Fr h₀ L s.heap m) (N : News h₀ L s.heap news)
    (turn : ∀ i n t ys own C oC D' m₂ (s₂ : Shared) h tk (E' : Value → Shared → Prop), (FL (ts.map (·.1)))[i]? = some (FSf n) → BoolJ (FL (ts.map (·.1))) i ys [] → LCg.NsObj oC m₂ → m₂ a = some (.int n t) → Fr h₀ L h m → News h₀ L h ((C, oC) :: (D', LCg.lst ys) :: (news ++ own)) →
      @LT.lt Nat _ D' C → (∀ p ∈ news ++ own, p.1 ≠ C ∧ p.1 ≠ D') →
      wpAny (model prog w) A (eval elt (compEnvC scope cl C env)) (CEnd h₀ L m { s₂ with heap := h, toks := tk } C oC D' (LCg.lst ys) (news ++ own) (fun y' g' => BoolJ (FL (ts.map (·.1))) (i + 1) (ys ++ [y']) g')) E' { s₂ with heap := h, toks := tk })
    (fin : ∀ D' (h : Heap) tk hp, (∀ p ∈ news, @LT.lt Nat _ p.1 D') → K D' (boolVals (FL (ts.map (·.1)))) [] news h tk { s with heap := hp }) :
    wpAny (model prog w) A (pyIter (.ref l)) (fun it s₂ => NAt prog w A h₀ L m env [] elt (.Name a pa) a scope cl E K it s₂) E s := by
  refine bools_of (FL (ts.map (·.1))) (by rw [FL_len h7]; simp [intValues, h7]) hh hl (by simp [intValues, h7]) F N ?_ fin
  intro i v ys own C oC D' m₂ s₂ h tk E' hv hJ hC ha F₁ N₁ hDC off
  unfold intValues at hv
  rw [List.getElem?_map] at hv
  obtain ⟨⟨n, t⟩, hx, rfl⟩ := Option.map_eq_some_iff.mp hv
  refine turn i n t ys own C oC D' m₂ s₂ h tk E' ?_ hJ hC ha F₁ N₁ hDC off
  unfold FL
  rw [← List.map_take, List.getElem?_map, List.getElem?_map, hx]
  rfl
noncomputable def T6b : List Bool := [true, true, true, true, true, true]
theorem zip_check {ts : List (Int × Tok)} {l1 l2 : Addr} {n1 n2 : Nat} (h7 : ts.length = 7) (hh : A.handled = none) (hl1 : (l1, listOf (boolVals (FL (ts.map (·.1)))).toArray n1) ∈ news) (hl2 : (l2, listOf (intValues ts).toArray n2) ∈ news) (F : Fr h₀ L s.heap m) (N : News h₀ L s.heap news)
    (turn : ∀ i n t ys own C oC D m₂ (s₂ : Shared) h tk (E' : Value → Shared → Prop), i < 6 → BoolJ T6b i ys [] → LCg.NsObj oC m₂ → m₂ a = some (.bool (FSf n)) → m₂ b = some (.int n t) → Fr h₀ L h m → News h₀ L h ((C, oC) :: (D, LCg.lst ys) :: (news ++ own)) →
      @LT.lt Nat _ D C → (∀ p ∈ news ++ own, p.1 ≠ C ∧ p.1 ≠ D) →
      wpAny (model prog w) A (eval elt (compEnvC scope cl C env)) (CEnd h₀ L m { s₂ with heap := h, toks := tk } C oC D (LCg.lst ys) (news ++ own) (fun y' g' => BoolJ T6b (i + 1) (ys ++ [y']) g')) E' { s₂ with heap := h, toks := tk })
    (fin : ∀ D (h : Heap) tk hp, (∀ p ∈ news, @LT.lt Nat _ p.1 D) → K D (boolVals T6b) [] news h tk { s with heap := hp }) :
    wpAny (model prog w) A (call (.type "zip") [.ref l1, .ref l2]) (fun xv s₁ => wpAny (model prog w) A (pyIter xv) (fun it s₂ => ZAt prog w A h₀ L m env [] elt (.Tuple [.Name a pa, .Name b pb] kk tp) a b scope cl E K it s₂) E s₁) E s := by
  have hF := FL_len h7
  refine zipZ (BoolJ T6b) hh (.inl rfl) hl1 hl2 (by simp [boolVals, hF]) F N BoolJ.start ?_ ?_
  · intro i x y g ys own C oC D m₂ s₂ h tk E' hx hy hJ hC ha hb F₁ N₁ hDC off hg
    unfold boolVals at hx
    unfold intValues at hy
    rw [List.getElem?_map] at hx hy
    obtain ⟨b1, hx1, rfl⟩ := Option.map_eq_some_iff.mp hx
    obtain ⟨⟨n, t⟩, hy1, rfl⟩ := Option.map_eq_some_iff.mp hy
    have hi := (List.getElem?_eq_some_iff.mp hx1).1
    rw [hF] at hi
    have hb1 : b1 = FSf n := by
      unfold FL at hx1
      rw [← List.map_take, List.getElem?_map, List.getElem?_map, List.getElem?_take_of_lt hi, hy1] at hx1
      exact (Option.some.inj hx1).symm
    subst hb1
    have hJ' := hJ
    obtain ⟨rfl, _⟩ := hJ'
    exact turn i n t ys own C oC D m₂ s₂ h tk E' hi hJ hC ha hb F₁ N₁ hDC off
  · intro D h tk ys g hp hg hn hJ
    obtain ⟨rfl, rfl⟩ := hJ
    rw [List.take_of_length_le (by simp [boolVals, intValues, hF, h7, T6b])]
    exact fin D h tk hp hn
theorem T6b_at {i : Nat} {b : Bool} (hi : i < 6) (hb : b = true) : T6b[i]? = some b := by
  subst hb
  have : i = 0 ∨ i = 1 ∨ i = 2 ∨ i = 3 ∨ i = 4 ∨ i = 5 := by lia
  rcases this with rfl | rfl | rfl | rfl | rfl | rfl <;> rfl
end
end Mine
-- P7
namespace Mine
theorem CL_at {T : List Nat} (R : RowC T) {i : Nat} (hi : i < 6) : (CL T)[i]? = (NM T)[arr T i]? := by
  unfold CL
  rw [List.getElem?_map, at_getD R hi, Option.map_some]
  obtain ⟨x, hx, _⟩ := NM_at R (arr_lt R hi)
  rw [hx]
  show some ((NM T).getD (arr T i) _) = _
  rw [List.getD_eq_getElem?_getD, hx]
  rfl
theorem cl_name {T : List Nat} (R : RowC T) {cl : List (Str × Tok)} (hc : cl.map (·.1) = CL T) {i : Nat} {a : Str × Tok} (ha : cl[i]? = some a) : i < 6 ∧ tl a.1 = nmC T (arr T i) := by
  have hl : cl.length = 6 := by
    have := congrArg List.length hc
    rw [List.length_map, CL_len R] at this
    exact this
  have hi : i < 6 := by
    have := (List.getElem?_eq_some_iff.mp ha).1
    lia
  refine ⟨hi, ?_⟩
  have h1 : (cl.map (·.1))[i]? = some a.1 := by rw [List.getElem?_map, ha]; rfl
  obtain ⟨x, hx, ht⟩ := NM_at R (arr_lt R hi)
  rw [hc, CL_at R hi, hx] at h1
  rw [← Option.some.inj h1, ht]
theorem nl_name {T : List Nat} (R : RowC T) {nl : List (Str × Tok)} (hn : nl.map (·.1) = NM T) {c : Nat} {a : Str × Tok} (ha : nl[c]? = some a) : c < 6 ∧ tl a.1 = nmC T c := by
  have hl := nl_len R hn
  have hi : c < 6 := by
    have := (List.getElem?_eq_some_iff.mp ha).1
    lia
  refine ⟨hi, ?_⟩
  have h1 : (nl.map (·.1))[c]? = some a.1 := by rw [List.getElem?_map, ha]; rfl
  obtain ⟨x, hx, ht⟩ := NM_at R hi
  rw [hn, hx] at h1
  rw [← Option.some.inj h1, ht]
section
variable (T : List Nat) (fl : List Bool)
noncomputable def PileO (i c : Nat) (o : Option Str) (r : Str) : Prop :=
  InvA (arr T) (hnd fl) (freeN T fl) i c ∧ Stuck (arr T) (hnd fl) i c ∧ (i = 0 → o = none) ∧ (i ≠ 0 → ∃ p, o = some p) ∧ (∀ p, o = some p → tl p = pileC T (stk (arr T) (hnd fl) true c i)) ∧ tl r = repC T (stk (arr T) (hnd fl) false c i)
noncomputable def PileG (i c : Nat) (p : Str) (r : Str) : Prop :=
  InvA (arr T) (hnd fl) (freeN T fl) (i + 1) c ∧ i < 6 ∧ tl p = pileC T (stk (arr T) (hnd fl) true c (i + 1)) ∧ tl r = repC T (stk (arr T) (hnd fl) false c (i + 1))
end
theorem stk_small {T : List Nat} (R : RowC T) {fl : List Bool} {b : Bool} {c i : Nat} (hi : i ≤ 6) : (stk (arr T) (hnd fl) b c i).length ≤ 6 ∧ ∀ r ∈ stk (arr T) (hnd fl) b c i, r < 6 := by
  refine ⟨?_, fun r hr => ?_⟩
  · unfold stk
    rw [List.length_map]
    refine Nat.le_trans (List.length_filter_le _ _) ?_
    rw [List.length_range]
    exact hi
  · obtain ⟨j, hj, _, _, e⟩ := mem_stk.mp hr
    rw [← e]
    exact arr_lt R (by lia)
theorem tl_buildA {T : List Nat} {o : Option Str} {l : List Nat} (h0 : o = none → l = []) (h1 : ∀ p, o = some p → tl p = pileC T l) : tl (buildA o) = pileC T l := by
  cases o with
  | none =>
    rw [h0 rfl]
    show tl (Str.ofString "C") = [67]
    decide +kernel
  | some p => exact h1 p rfl
theorem tl_quote : tl (Str.ofString "\"") = [34] := by decide +kernel
theorem runOk {T : List Nat} (R : RowC T) {cl nl : List (Str × Tok)} {fl : List Bool} {n : Int} (hc : cl.map (·.1) = CL T) (hn : nl.map (·.1) = NM T) (hf : fl.length = 6) : RunOk cl fl nl (BH n) (PileO T fl) (PileG T fl) := by
  have D := absOk R fl
  have hcl : cl.length = 6 := by
    have := congrArg List.length hc
    rw [List.length_map, CL_len R] at this
    exact this
  have hnl := nl_len R hn
  have hH : ∀ i b, fl[i]? = some b → hnd fl i = b := fun i b h => by
    unfold hnd
    rw [List.getD_eq_getElem?_getD, h]
    rfl
  -- what a look at the tops tells
  have topA : ∀ {i c p r} {a : Str × Tok}, PileG T fl i c p r → nl[c]? = some a → ((stripP (p ++ BH n) == a.1) = true ↔ (stk (arr T) (hnd fl) true c (i + 1)).getLast? = some c) := by
    rintro i c p r a ⟨I, hi, hp, hr⟩ ha
    obtain ⟨hc6, hta⟩ := nl_name R hn ha
    have hs := stk_small R (fl := fl) (b := true) (c := c) I.i6
    rw [beq_iff_eq]
    rcases List.eq_nil_or_concat (stk (arr T) (hnd fl) true c (i + 1)) with h0 | ⟨l, x, h0⟩
    · rw [h0] at hp ⊢
      constructor
      · intro e
        have h1 := strip_floor (n := n) hp
        rw [e, hta] at h1
        exact absurd (h1 ▸ .head _ : 67 ∈ nmC T c) (nmC_ok R hc6).2.2.2.2
      · intro e
        cases e
    · have h0' : stk (arr T) (hnd fl) true c (i + 1) = l ++ [x] := by rw [h0, List.concat_eq_append]
      rw [h0'] at hp hs ⊢
      have hx : x < 6 := hs.2 x (by simp)
      have h1 := strip_pile R (n := n) hs.2 hp
      constructor
      · intro e
        rw [e, hta] at h1
        rw [nmC_inj R hc6 hx h1]
        simp
      · intro e
        have : x = c := by simpa using e
        subst this
        exact tl_ext (h1.trans hta.symm)
  have topB : ∀ {i c p r} {a : Str × Tok}, PileG T fl i c p r → nl[c]? = some a → ((parseP r == Str.ofString "\"" ++ a.1 ++ Str.ofString "\"") = true ↔ (stk (arr T) (hnd fl) false c (i + 1)).getLast? = some c) := by
    rintro i c p r a ⟨I, hi, hp, hr⟩ ha
    obtain ⟨hc6, hta⟩ := nl_name R hn ha
    have hs := stk_small R (fl := fl) (b := false) (c := c) I.i6
    have hw : tl (Str.ofString "\"" ++ a.1 ++ Str.ofString "\"") = 34 :: (nmC T c ++ [34]) := by
      rw [tl_app, tl_app, tl_quote, hta]
      rfl
    rw [beq_iff_eq]
    rcases List.eq_nil_or_concat (stk (arr T) (hnd fl) false c (i + 1)) with h0 | ⟨l, x, h0⟩
    · rw [h0] at hr ⊢
      constructor
      · intro e
        have h1 := parse_none hr
        rw [e, hw] at h1
        cases h1
      · intro e
        cases e
    · have h0' : stk (arr T) (hnd fl) false c (i + 1) = l ++ [x] := by rw [h0, List.concat_eq_append]
      rw [h0'] at hr hs ⊢
      have hx : x < 6 := hs.2 x (by simp)
      have h1 := parse_reps R hx hr
      constructor
      · intro e
        rw [e, hw] at h1
        have h2 : nmC T c = nmC T x := by
          have := (List.cons.inj h1).2
          exact List.append_cancel_right this
        rw [nmC_inj R hc6 hx h2]
        simp
      · intro e
        have : x = c := by simpa using e
        subst this
        exact tl_ext (h1.trans hw.symm)
  refine ⟨?_, ?_, ?_, ?_, ?_, ?_, ?_, ?_, ?_, BH_len n, ?_, ?_, by rw [hf, hcl], by lia⟩
  · exact ⟨InvA.start, stuck_start, fun _ => rfl, fun h => absurd rfl h, fun p h => (nomatch h), by rw [tl_257]; rfl⟩
  · rintro i c o r a ⟨I, S, h0, h1, hp, hr⟩ ha hfi
    obtain ⟨hi, hta⟩ := cl_name R hc ha
    have hb := hH i true hfi
    refine ⟨I.push D S hi, hi, ?_, ?_⟩
    · rw [stk_same hb (I.fresh D hi), pileC_snoc]
      show tl (buildA o ++ Str.ofString "." ++ a.1) = _
      rw [tl_app, tl_app, tl_buildA (T := T) (l := stk (arr T) (hnd fl) true c i) (fun e => by
        by_cases hi0 : i = 0
        · subst hi0; rfl
        · obtain ⟨p, hp2⟩ := h1 hi0
          rw [e] at hp2
          cases hp2) hp, hta, one_dot]
      show pileC T _ ++ [46] ++ _ = _
      simp
    · rw [stk_other (by rw [hb]; decide)]
      exact hr
  · rintro i c o r a ⟨I, S, h0, h1, hp, hr⟩ ha hfi
    obtain ⟨hi, hta⟩ := cl_name R hc ha
    have hb := hH i false hfi
    refine ⟨I.push D S hi, hi, ?_, ?_⟩
    · rw [stk_other (by rw [hb]; decide)]
      show tl (buildA o) = _
      exact tl_buildA (T := T) (l := stk (arr T) (hnd fl) true c i) (fun e => by
        by_cases hi0 : i = 0
        · subst hi0; rfl
        · obtain ⟨p, hp2⟩ := h1 hi0
          rw [e] at hp2
          cases hp2) hp
    · rw [stk_same hb (I.fresh D hi), repC_snoc, tl_app, tl_app, tl_app, tl_line1, tl_line2, hta, hr]
      simp [lineC]
  · rintro i c p r a hG ha hs
    have hl := (topA hG ha).mp hs
    obtain ⟨I, hi, hp, hr⟩ := hG
    obtain ⟨hc6, hta⟩ := nl_name R hn ha
    obtain ⟨l, hl2⟩ := List.getLast?_eq_some_iff.mp hl
    have hpop := stk_pop D I.i6 hl2
    refine ⟨I.pop D hc6 hl, hi, ?_, ?_⟩
    · rw [hpop.1]
      rw [hl2, pileC_snoc] at hp
      rw [slice_tl, hp]
      have hlen : p.length = (pileC T l).length + 1 + (nmC T c).length := by
        rw [len_tl, hp, List.length_append, List.length_cons]
        lia
      have hla : a.1.length = (nmC T c).length := by rw [len_tl, hta]
      have e1 : clipN none 0 p.length = 0 := rfl
      have e2 : clipN (some (-1 - (a.1.length : Int))) p.length p.length = (pileC T l).length := by
        unfold clipN
        simp only
        rw [if_pos (by lia)]
        lia
      rw [e1, e2, List.drop_zero, Nat.sub_zero, List.take_left]
    · rw [show stk (arr T) (hnd fl) false (c + 1) (i + 1) = stk (arr T) (hnd fl) false c (i + 1) from hpop.2]
      exact hr
  · rintro i c p r a hG ha _ hs
    have hl := (topB hG ha).mp hs
    obtain ⟨I, hi, hp, hr⟩ := hG
    obtain ⟨hc6, hta⟩ := nl_name R hn ha
    obtain ⟨l, hl2⟩ := List.getLast?_eq_some_iff.mp hl
    have hpop := stk_pop D I.i6 hl2
    refine ⟨I.pop D hc6 hl, hi, ?_, ?_⟩
    · rw [show stk (arr T) (hnd fl) true (c + 1) (i + 1) = stk (arr T) (hnd fl) true c (i + 1) from hpop.2]
      exact hp
    · rw [hpop.1]
      rw [hl2, repC_snoc] at hr
      rw [slice_tl, hr]
      have hlen : r.length = 10 + (nmC T c).length + (repC T l).length := by
        rw [len_tl, hr, List.length_append]
        simp only [lineC, List.length_cons, List.length_append, List.length_nil]
        lia
      have hla : a.1.length = (nmC T c).length := by rw [len_tl, hta]
      have e1 : clipN (some (10 + (a.1.length : Int))) 0 r.length = (lineC (nmC T c)).length := by
        simp only [lineC, List.length_cons, List.length_append, List.length_nil]
        unfold clipN
        simp only
        rw [if_neg (by lia)]
        lia
      have e2 : clipN none r.length r.length = r.length := rfl
      rw [e1, e2, List.drop_left]
      refine List.take_of_length_le ?_
      simp only [lineC, List.length_cons, List.length_append, List.length_nil]
      lia
  · rintro i c p r a hG ha hs1 hs2
    have h1 : ¬ (stk (arr T) (hnd fl) true c (i + 1)).getLast? = some c := fun e => by
      rw [(topA hG ha).mpr e] at hs1
      cases hs1
    have h2 : ¬ (stk (arr T) (hnd fl) false c (i + 1)).getLast? = some c := fun e => by
      rw [(topB hG ha).mpr e] at hs2
      cases hs2
    obtain ⟨I, hi, hp, hr⟩ := hG
    refine ⟨I, top_none D I.i6 fun b => by cases b; exact h2; exact h1, fun h => absurd h (by lia), fun _ => ⟨p, rfl⟩, fun q hq => ?_, hr⟩
    cases hq
    exact hp
  · rintro i p r ⟨I, hi, hp, hr⟩
    rw [hnl] at I hp hr ⊢
    refine ⟨I, .inl rfl, fun h => absurd h (by lia), fun _ => ⟨p, rfl⟩, fun q hq => ?_, hr⟩
    cases hq
    exact hp
  · rintro i c o r ⟨I, S, h0, h1, hp, hr⟩
    have hfle := D.le
    have hcle := I.le
    have s1 := (stk_small R (fl := fl) (b := true) (c := c) I.i6).1
    have s2 := (stk_small R (fl := fl) (b := false) (c := c) I.i6).1
    refine ⟨by lia, fun p hp2 => ?_, ?_⟩
    · have := pileC_len T (stk (arr T) (hnd fl) true c i)
      rw [len_tl, hp p hp2]
      lia
    · have := repC_len T (stk (arr T) (hnd fl) false c i)
      rw [len_tl, hr]
      lia
  · rintro i c p r ⟨I, hi, hp, hr⟩
    have hfle := D.le
    have hcle := I.le
    have s1 := (stk_small R (fl := fl) (b := true) (c := c) I.i6).1
    have s2 := (stk_small R (fl := fl) (b := false) (c := c) I.i6).1
    refine ⟨by lia, ?_, ?_, ?_⟩
    · have := pileC_len T (stk (arr T) (hnd fl) true c (i + 1))
      rw [len_tl, hp]
      lia
    · have := repC_len T (stk (arr T) (hnd fl) false c (i + 1))
      rw [len_tl, hr]
      lia
    · apply tl_ext
      rw [slice_tl, hr, tl_257]
      have hlen : 3 ≤ r.length := by
        have := congrArg List.length (repC_head T (stk (arr T) (hnd fl) false c (i + 1)))
        rw [List.length_take] at this
        rw [len_tl, hr]
        simp at this
        lia
      have e1 : clipN none 0 r.length = 0 := rfl
      have e2 : clipN (some 3) r.length r.length = 3 := by unfold clipN; simp only; lia
      rw [e1, e2, List.drop_zero]
      exact repC_head T _
  · intro a ha
    obtain ⟨c, hcc⟩ := List.getElem?_of_mem ha
    obtain ⟨_, hta⟩ := nl_name R hn hcc
    have := nmC_len T c
    rw [len_tl, hta]
    lia
  · intro a ha
    obtain ⟨i, hii⟩ := List.getElem?_of_mem ha
    obtain ⟨_, hta⟩ := cl_name R hc hii
    have := nmC_len T (arr T i)
    rw [len_tl, hta]
    lia
end Mine
-- P8
namespace Mine
theorem zip_range {cl : List (Str × Tok)} {fl : List Bool} (hc : cl.length = 6) (hf : fl.length = 6) : cl.zip fl = (List.range 6).map fun j => (cl.getD j (Str.ofString "", 0), hnd fl j) := by
  apply List.ext_getElem?
  intro i
  by_cases hi : i < 6
  · have e1 := List.getElem?_eq_getElem (l := cl) (i := i) (by lia)
    have e2 := List.getElem?_eq_getElem (l := fl) (i := i) (by lia)
    rw [List.getElem?_map, List.getElem?_range hi, Option.map_some, hnd, List.getD_eq_getElem?_getD, List.getD_eq_getElem?_getD, e1, e2]
    rw [List.getElem?_zip_eq_some (z := (cl[i], fl[i])) |>.mpr ⟨e1, e2⟩]
    rfl
  · rw [List.getElem?_eq_none (by rw [List.length_zip, hc, hf]; lia), List.getElem?_eq_none (by simp; lia)]
section
variable {T : List Nat} (R : RowC T) {cl nl : List (Str × Tok)} {fl : List Bool}
include R
theorem in_rest {f : Nat} (hc : cl.map (·.1) = CL T) (hn : nl.map (·.1) = NM T) {j : Nat} (hj : j < 6) : ((nl.drop f).map (·.1)).contains (cl.getD j (Str.ofString "", 0)).1 = decide (f ≤ arr T j) := by
  have hcl : cl.length = 6 := by
    have := congrArg List.length hc
    rw [List.length_map, CL_len R] at this
    exact this
  have ha := List.getElem?_eq_getElem (l := cl) (i := j) (by lia)
  have hg : cl.getD j (Str.ofString "", 0) = cl[j] := by rw [List.getD_eq_getElem?_getD, ha]; rfl
  have h1 : (CL T)[j]? = some cl[j].1 := by rw [← hc, List.getElem?_map, ha]; rfl
  rw [CL_at R hj] at h1
  rw [hg, List.map_drop, hn, Bool.eq_iff_iff, List.contains_iff_mem, decide_eq_true_eq]
  constructor
  · intro hm
    obtain ⟨q, hq⟩ := List.getElem?_of_mem hm
    rw [List.getElem?_drop] at hq
    have h6 : f + q < 6 := by
      have := (List.getElem?_eq_some_iff.mp hq).1
      rw [NM_len R] at this
      exact this
    obtain ⟨x, hx, tx⟩ := NM_at R h6
    obtain ⟨y, hy, ty⟩ := NM_at R (arr_lt R hj)
    rw [hx] at hq
    rw [hy] at h1
    have e : x = y := (Option.some.inj hq).trans (Option.some.inj h1).symm
    rw [e, ty] at tx
    have := nmC_inj R (arr_lt R hj) h6 tx
    lia
  · intro hle
    refine List.mem_of_getElem? (i := arr T j - f) ?_
    rw [List.getElem?_drop, show f + (arr T j - f) = arr T j from by lia]
    exact h1
theorem stay_range {f : Nat} (hc : cl.map (·.1) = CL T) (hn : nl.map (·.1) = NM T) (hf : fl.length = 6) (b : Bool) : (stayP cl fl ((nl.drop f).map (·.1))).filter (fun p => p.2 == b) = ((List.range 6).filter fun j => hnd fl j == b && decide (f ≤ arr T j)).map fun j => (cl.getD j (Str.ofString "", 0), hnd fl j) := by
  have hcl : cl.length = 6 := by
    have := congrArg List.length hc
    rw [List.length_map, CL_len R] at this
    exact this
  unfold stayP
  rw [List.filter_filter, zip_range hcl hf, List.filter_map]
  congr 1
  refine List.filter_congr fun j hj => ?_
  have hj6 := List.mem_range.mp hj
  simp only [Function.comp_apply]
  rw [in_rest R hc hn hj6]
theorem cl_code {j : Nat} (hc : cl.map (·.1) = CL T) (hj : j < 6) : tl (cl.getD j (Str.ofString "", 0)).1 = nmC T (arr T j) := by
  have hcl : cl.length = 6 := by
    have := congrArg List.length hc
    rw [List.length_map, CL_len R] at this
    exact this
  have ha := List.getElem?_eq_getElem (l := cl) (i := j) (by lia)
  have hg : cl.getD j (Str.ofString "", 0) = cl[j] := by rw [List.getD_eq_getElem?_getD, ha]; rfl
  rw [hg]
  exact (cl_name R hc ha).2
theorem due_pile {f : Nat} (hc : cl.map (·.1) = CL T) (hn : nl.map (·.1) = NM T) (hf : fl.length = 6) : tl (Str.ofString "C" ++ Txt.join (Str.ofString "") (duePile cl fl ((nl.drop f).map (·.1)))) = pileC T (stk (arr T) (hnd fl) true f 6) := by
  rw [tl_app, tl_join0, duePile, stay_range R hc hn hf, List.map_map, pileC, stk]
  show [67] ++ _ = _
  rw [List.singleton_append]
  congr 1
  rw [List.flatMap_def, List.flatMap_def, List.map_map, List.map_map]
  congr 1
  refine List.map_congr_left fun j hj => ?_
  have hj6 := List.mem_range.mp (List.mem_filter.mp hj).1
  simp only [Function.comp_apply, dotP]
  rw [tl_app, cl_code R hc hj6, one_dot]
  rfl
theorem due_reps {f : Nat} (hc : cl.map (·.1) = CL T) (hn : nl.map (·.1) = NM T) (hf : fl.length = 6) : tl (Txt.join (Str.ofString "") (dueReps cl fl ((nl.drop f).map (·.1))) ++ Str.ofString "257") = repC T (stk (arr T) (hnd fl) false f 6) := by
  rw [tl_app, tl_join0, dueReps, List.filter_reverse, stay_range R hc hn hf, tl_257, repC, stk]
  congr 1
  rw [List.flatMap_def, List.flatMap_def, ← List.map_reverse, List.map_map, List.map_map, ← List.map_reverse, List.map_map]
  congr 1
  refine List.map_congr_left fun j hj => ?_
  have hj6 := List.mem_range.mp (List.mem_filter.mp (List.mem_reverse.mp hj)).1
  simp only [Function.comp_apply, lineP]
  rw [tl_app, tl_app, cl_code R hc hj6, tl_line1, tl_line2]
  simp [lineC]
/-- what the run ends with is what is due -/
theorem run_fin {c : Nat} {o : Option Str} {r : Str} (hc : cl.map (·.1) = CL T) (hn : nl.map (·.1) = NM T) (hf : fl.length = 6) (h : PileO T fl cl.length c o r) :
    c = freeN T fl ∧ o = some (Str.ofString "C" ++ Txt.join (Str.ofString "") (duePile cl fl ((nl.drop (freeN T fl)).map (·.1)))) ∧ r = Txt.join (Str.ofString "") (dueReps cl fl ((nl.drop (freeN T fl)).map (·.1))) ++ Str.ofString "257" := by
  have hcl : cl.length = 6 := by
    have := congrArg List.length hc
    rw [List.length_map, CL_len R] at this
    exact this
  obtain ⟨I, S, _, h1, hp, hr⟩ := h
  rw [hcl] at I S h1 hp hr
  have e := I.fin (absOk R fl) S
  subst e
  obtain ⟨p, hp2⟩ := h1 (by lia)
  refine ⟨rfl, ?_, ?_⟩
  · rw [hp2]
    congr 1
    apply tl_ext
    rw [hp p hp2, due_pile R hc hn hf]
  · apply tl_ext
    rw [hr, due_reps R hc hn hf]
omit R in
theorem free_not (hf : fl.length = 6) : freeN T (fl.map fun b => !b) = freeN T fl := by
  have hh : ∀ i, i < 6 → hnd (fl.map fun b => !b) i = !hnd fl i := fun i hi => by
    unfold hnd
    rw [List.getD_eq_getElem?_getD, List.getD_eq_getElem?_getD, List.getElem?_map, List.getElem?_eq_getElem (show i < fl.length by lia)]
    rfl
  have key : badB T (fl.map fun b => !b) = badB T fl := by
    funext p
    rw [Bool.eq_iff_iff, badB_iff, badB_iff]
    constructor
    · rintro ⟨j, k, l, a1, a2, a3, a4, a5, a6, a7⟩
      rw [hh j (by lia), hh k (by lia)] at a6
      exact ⟨j, k, l, a1, a2, a3, a4, a5, by simpa using a6, a7⟩
    · rintro ⟨j, k, l, a1, a2, a3, a4, a5, a6, a7⟩
      refine ⟨j, k, l, a1, a2, a3, a4, a5, ?_, a7⟩
      rw [hh j (by lia), hh k (by lia), a6]
  unfold freeN
  rw [key]
theorem NM_short : ∀ x ∈ NM T, x.length ≤ 3 ∧ PyData.strOk x = true := by
  intro x hx
  obtain ⟨r, hr⟩ := List.getElem?_of_mem hx
  have h6 : r < 6 := by
    have := (List.getElem?_eq_some_iff.mp hr).1
    rw [NM_len R] at this
    exact this
  obtain ⟨y, hy, ty⟩ := NM_at R h6
  rw [hr] at hy
  have e := Option.some.inj hy
  subst e
  have h1 := nmC_len T r
  refine ⟨by rw [len_tl, ty]; exact h1.2, ?_⟩
  show x.cps.all (fun c => decide (c < 0x110000)) = true
  rw [← Array.all_toList]
  show (tl x).all _ = true
  rw [ty, List.all_eq_true]
  intro c hc
  have := (SG_ok _ (ord_at R h6).2).1
  rw [(List.mem_replicate.mp hc).2, decide_eq_true_eq]
  lia
theorem dueOk (hc : cl.map (·.1) = CL T) (hn : nl.map (·.1) = NM T) (hf : fl.length = 6) (f : Nat) : DueOk cl fl nl f := by
  have hcl : cl.length = 6 := by
    have := congrArg List.length hc
    rw [List.length_map, CL_len R] at this
    exact this
  have hC : ∀ p ∈ cl, p.1 ∈ NM T := fun p hp => by
    obtain ⟨i, hi⟩ := List.getElem?_of_mem hp
    have hi6 := (cl_name R hc hi).1
    have h1 : (CL T)[i]? = some p.1 := by rw [← hc, List.getElem?_map, hi]; rfl
    rw [CL_at R hi6] at h1
    exact List.mem_of_getElem? h1
  have hN : ∀ p ∈ nl, p.1 ∈ NM T := fun p hp => by rw [← hn]; exact List.mem_map.mpr ⟨p, hp, rfl⟩
  exact ⟨hcl, hf, nl_len R hn, fun p hp => (NM_short R _ (hC p hp)).1, fun p hp => (NM_short R _ (hN p hp)).2, fun p hp => (NM_short R _ (hC p hp)).2⟩
end
end Mine
-- MM10
namespace Mine
noncomputable def PD (cl : List (Str × Tok)) (fl : List Bool) (nl : List (Str × Tok)) (f : Nat) : Str := Str.ofString "C" ++ Txt.join (Str.ofString "") (duePile cl fl ((nl.drop f).map (·.1)))
noncomputable def RD (cl : List (Str × Tok)) (fl : List Bool) (nl : List (Str × Tok)) (f : Nat) : Str := Txt.join (Str.ofString "") (dueReps cl fl ((nl.drop f).map (·.1))) ++ Str.ofString "257"
theorem strOk_tl {x : Str} (h : ∀ c ∈ tl x, c < 1000) : PyData.strOk x = true := by
  show x.cps.all (fun c => decide (c < 0x110000)) = true
  rw [← Array.all_toList, List.all_eq_true]
  intro c hc
  have := h c hc
  rw [decide_eq_true_eq]
  lia
section
variable {T : List Nat} (R : RowC T) {cl nl : List (Str × Tok)} {fl : List Bool} (hc : cl.map (·.1) = CL T) (hn : nl.map (·.1) = NM T) (hf : fl.length = 6)
include R
theorem nmC_small {r : Nat} (hr : r < 6) : ∀ c ∈ nmC T r, c < 1000 := fun c h => by
  have := (SG_ok _ (ord_at R hr).2).1
  rw [(List.mem_replicate.mp h).2]
  exact this
include hc hn hf
theorem PD_ok (f : Nat) : PyData.strOk (PD cl fl nl f) = true ∧ (PD cl fl nl f).length < 1000 := by
  have h := due_pile (f := f) R hc hn hf
  have hs := stk_small R (fl := fl) (b := true) (c := f) (Nat.le_refl 6)
  constructor
  · refine strOk_tl fun c hcm => ?_
    unfold PD at hcm
    rw [h] at hcm
    rcases List.mem_cons.mp hcm with rfl | hcm
    · lia
    · obtain ⟨r, hr, hcr⟩ := List.mem_flatMap.mp hcm
      rcases List.mem_cons.mp hcr with rfl | hcr
      · lia
      · exact nmC_small R (hs.2 r hr) c hcr
  · have := pileC_len T (stk (arr T) (hnd fl) true f 6)
    unfold PD
    rw [len_tl, h]
    lia
theorem RD_ok (f : Nat) : PyData.strOk (RD cl fl nl f) = true := by
  have h := due_reps (f := f) R hc hn hf
  have hs := stk_small R (fl := fl) (b := false) (c := f) (Nat.le_refl 6)
  refine strOk_tl fun c hcm => ?_
  unfold RD at hcm
  rw [h] at hcm
  unfold repC at hcm
  rcases List.mem_append.mp hcm with hcm | hcm
  · obtain ⟨r, hr, hcr⟩ := List.mem_flatMap.mp hcm
    have hsm := nmC_small R (hs.2 r (List.mem_reverse.mp hr))
    unfold lineC at hcr
    simp only [List.mem_cons, List.mem_append, List.not_mem_nil, or_false] at hcr
    rcases hcr with h | h | h | h | h | h | h | h | h | h | h
    all_goals first | lia | exact hsm c h
  · simp only [List.mem_cons, List.not_mem_nil, or_false] at hcm
    lia
theorem run_due (w : World) (n : Int) (f : Nat) (hfree : freeN T fl = f) (qc qf qn : Addr) (kc kf kn : Nat) (tb : Tok)
    {pT : Program} {lT : List Str} (mean : ExcName → Option Value) (mg mb : Str → Option Value) (dp un : Nat) (gd : Option (List Code)) (cn : Str) (cs : Scope) (a : Addr) (ccd : Value) (cl' : List (Str × Addr)) (outer : List Env) (A₀ : Around) (base h₀ : Heap) (L : Addr) (m : Str → Option Value) (news : List (Addr × Obj)) (s : Shared) (Q E : Value → Shared → Prop) :
    Below A₀ base outer h₀ → Fr h₀ L s.heap m → (Mine.hd.heap_1 w.params).In h₀ → News h₀ L s.heap news → Top pT lT mean mg mb h₀ → cs.kind = .function →
    dp + 8 < recursionLimit → un + 60 < cLine → (qc, listOf (strValues cl).toArray kc) ∈ news → (qf, listOf (boolVals fl).toArray kf) ∈ news → (qn, listOf (strValues nl).toArray kn) ∈ news →
    (∀ T o e tp tr h' tk', Fr h₀ L h' m → News h₀ L h' ((T, tupOf [.str (PD cl fl nl f) tp, .str (RD cl fl nl f) tr, .ref o]) :: (o, listOf (strValues (nl.take f)).toArray e) :: news) → Q (.ref T) { s with heap := h', toks := tk' }) →
    wpAny (model PySem.Challenge.rw_wr0036_01.row.prog w) (ktrTop dp un gd cn cs L a ccd cl' outer) (call (.ref 115) [.ref qc, .ref qf, .ref qn, .str (BH n) tb]) Q E s := by
  intro B F X N Tt hk hd hu hc1 hf1 hn1 hret
  refine runW w cl nl fl (BH n) (PileO T fl) (PileG T fl) (runOk R hc hn hf) qc qf qn kc kf kn tb mean mg mb dp un gd cn cs a ccd cl' outer A₀ base h₀ L m news s Q E B F X N Tt hk hd hu hc1 hf1 hn1 ?_
  intro T' o e c p r tp tr h' tk' hO F' N'
  obtain ⟨e1, e2, e3⟩ := run_fin R hc hn hf hO
  rw [hfree] at e1 e2 e3
  subst e1 e2 e3
  exact hret T' o e tp tr h' tk' F' N'
end
section
variable {prog : Program} {w : World} {A : Around} {E : Value → Shared → Prop} {s : Shared} {h₀ : Heap} {L : Addr} {m : Str → Option Value} {env : Env} {elt : Expr} {a : Str} {pa : Pos} {scope : Scope} {cl : List (Str × Addr)}
  {K : Addr → List Value → List (Addr × Obj) → List (Addr × Obj) → Heap → Nat → Shared → Prop} {news : List (Addr × Obj)}
theorem ne_due {P R : Str} {xs : List (Str × Tok)} {T1 T2 o1 o2 : Addr} {t1 t2 t3 t4 : Tok} {e1 e2 : Nat} {Q : Value → Shared → Prop} (N : News h₀ L s.heap news) (m1 : (T1, tupOf [.str P t1, .str R t2, .ref o1]) ∈ news) (m2 : (T2, tupOf [.str P t3, .str R t4, .ref o2]) ∈ news) (m3 : (o1, listOf (strValues xs).toArray e1) ∈ news) (m4 : (o2, listOf (strValues xs).toArray e2) ∈ news)
    (hP : PyData.strOk P = true) (hR : PyData.strOk R = true) (hx : ∀ x ∈ xs.map (·.1), PyData.strOk x = true) (hu : A.units + 64 < cLine) (h : Q (.bool false) s) : wpAny (model prog w) A (compareOp .NotEq (.ref T1) (.ref T2)) Q E s := by
  have r1 := reads_tuple_at (N.get m1) rfl rfl (.cons (Reads.str P t1) (.cons (Reads.str R t2) (.cons (reads_list_at (N.get m3) rfl rfl (readsAll_sv xs)) .nil)))
  have r2 := reads_tuple_at (N.get m2) rfl rfl (.cons (Reads.str P t3) (.cons (Reads.str R t4) (.cons (reads_list_at (N.get m4) rfl rfl (readsAll_sv xs)) .nil)))
  have e : (xs.map fun p => PyData.str p.1) = (xs.map (·.1)).map PyData.str := by rw [List.map_map]; rfl
  rw [e] at r1 r2
  have hs : SeqAt.shaped (.tuple [.str P, .str R, .list ((xs.map (·.1)).map PyData.str)]) = true := by
    unfold SeqAt.shaped
    rw [Bool.and_eq_true, decide_eq_true_eq]
    constructor
    · simp only [PyData.canLay0, PyData.canLayAll0, hP, hR, lay_strs hx, Bool.and_self]
    · simp only [PyData.depth, PyData.depthAll, depth_strs]
      decide
  refine ne_dataH r1 r2 hs hs hu ?_
  have he : PyData.eqv (.tuple [.str P, .str R, .list ((xs.map (·.1)).map PyData.str)]) (.tuple [.str P, .str R, .list ((xs.map (·.1)).map PyData.str)]) = true := by
    simp only [PyData.eqv, PyData.eqvAll, eqvAll_strs, beq_self_eq_true, decide_true, Bool.and_self]
  rw [he]
  exact h
theorem nots_comp {fl : List Bool} {l : Addr} {n1 : Nat} (hf : fl.length = 6) (hh : A.handled = none) (hl : (l, listOf (boolVals fl).toArray n1) ∈ news) (F : Fr h₀ L s.heap m) (N : News h₀ L s.heap news)
    (turn : ∀ i b ys own C oC D' m₂ (s₂ : Shared) h tk (E' : Value → Shared → Prop), (fl.map fun b => !b)[i]? = some (!b) → BoolJ (fl.map fun b => !b) i ys [] → LCg.NsObj oC m₂ → m₂ a = some (.bool b) → Fr h₀ L h m → News h₀ L h ((C, oC) :: (D', LCg.lst ys) :: (news ++ own)) →
      @LT.lt Nat _ D' C → (∀ p ∈ news ++ own, p.1 ≠ C ∧ p.1 ≠ D') →
      wpAny (model prog w) A (eval elt (compEnvC scope cl C env)) (CEnd h₀ L m { s₂ with heap := h, toks := tk } C oC D' (LCg.lst ys) (news ++ own) (fun y' g' => BoolJ (fl.map fun b => !b) (i + 1) (ys ++ [y']) g')) E' { s₂ with heap := h, toks := tk })
    (fin : ∀ D' (h : Heap) tk hp, (∀ p ∈ news, @LT.lt Nat _ p.1 D') → K D' (boolVals (fl.map fun b => !b)) [] news h tk { s with heap := hp }) :
    wpAny (model prog w) A (pyIter (.ref l)) (fun it s₂ => NAt prog w A h₀ L m env [] elt (.Name a pa) a scope cl E K it s₂) E s := by
  refine bools_of (fl.map fun b => !b) (by simp [boolVals]) hh hl (by simp [boolVals, hf]) F N ?_ fin
  intro i v ys own C oC D' m₂ s₂ h tk E' hv hJ hC ha F₁ N₁ hDC off
  unfold boolVals at hv
  rw [List.getElem?_map] at hv
  obtain ⟨b, hx, rfl⟩ := Option.map_eq_some_iff.mp hv
  exact turn i b ys own C oC D' m₂ s₂ h tk E' (by rw [List.getElem?_map, hx]; rfl) hJ hC ha F₁ N₁ hDC off
noncomputable def T3b : List Bool := [true, true, true]
theorem refused_comp {p1 p2 l : Addr} {t3 : Tok} {n1 : Nat} (hh : A.handled = none) (hl : (l, listOf #[.ref p1, .ref p2, .int 7 t3] n1) ∈ news) (F : Fr h₀ L s.heap m) (N : News h₀ L s.heap news)
    (turn : ∀ i v ys own C oC D' m₂ (s₂ : Shared) h tk (E' : Value → Shared → Prop), (i = 0 ∧ v = .ref p1 ∨ i = 1 ∧ v = .ref p2 ∨ i = 2 ∧ v = .int 7 t3) → BoolJ T3b i ys [] → LCg.NsObj oC m₂ → m₂ a = some v → Fr h₀ L h m → News h₀ L h ((C, oC) :: (D', LCg.lst ys) :: (news ++ own)) →
      @LT.lt Nat _ D' C → (∀ p ∈ news ++ own, p.1 ≠ C ∧ p.1 ≠ D') →
      wpAny (model prog w) A (eval elt (compEnvC scope cl C env)) (CEnd h₀ L m { s₂ with heap := h, toks := tk } C oC D' (LCg.lst ys) (news ++ own) (fun y' g' => BoolJ T3b (i + 1) (ys ++ [y']) g')) E' { s₂ with heap := h, toks := tk })
    (fin : ∀ D' (h : Heap) tk hp, (∀ p ∈ news, @LT.lt Nat _ p.1 D') → K D' (boolVals T3b) [] news h tk { s with heap := hp }) :
    wpAny (model prog w) A (pyIter (.ref l)) (fun it s₂ => NAt prog w A h₀ L m env [] elt (.Name a pa) a scope cl E K it s₂) E s := by
  refine bools_of (vs := [.ref p1, .ref p2, .int 7 t3]) T3b rfl hh hl (by simp) F N ?_ fin
  intro i v ys own C oC D' m₂ s₂ h tk E' hv hJ hC ha F₁ N₁ hDC off
  match i, hv with
  | 0, hv => cases hv; exact turn 0 _ ys own C oC D' m₂ s₂ h tk E' (.inl ⟨rfl, rfl⟩) hJ hC ha F₁ N₁ hDC off
  | 1, hv => cases hv; exact turn 1 _ ys own C oC D' m₂ s₂ h tk E' (.inr (.inl ⟨rfl, rfl⟩)) hJ hC ha F₁ N₁ hDC off
  | 2, hv => cases hv; exact turn 2 _ ys own C oC D' m₂ s₂ h tk E' (.inr (.inr ⟨rfl, rfl⟩)) hJ hC ha F₁ N₁ hDC off
  | n + 3, hv => cases hv
end
theorem nots_len {fl : List Bool} (hf : fl.length = 6) : (fl.map fun b => !b).length = 6 := by rw [List.length_map, hf]
theorem take_ok {T : List Nat} (R : RowC T) {nl : List (Str × Tok)} (hn : nl.map (·.1) = NM T) (f : Nat) : ∀ x ∈ (nl.take f).map (·.1), PyData.strOk x = true := fun x hx => by
  rw [List.map_take, hn] at hx
  exact (NM_short R x (List.mem_of_mem_take hx)).2
end Mine
-- MM11
namespace Mine
theorem due_call {T : List Nat} (R : RowC T) {cl nl : List (Str × Tok)} {fl : List Bool} (hc : cl.map (·.1) = CL T) (hn : nl.map (·.1) = NM T) (hf : fl.length = 6) (w : World) (f : Nat) (qc qf qn : Addr) (kc kf kn : Nat) (tf : Tok)
    {pT : Program} {lT : List Str} (mean : ExcName → Option Value) (mg mb : Str → Option Value) (dp un : Nat) (gd : Option (List Code)) (cn : Str) (cs : Scope) (a : Addr) (ccd : Value) (cl' : List (Str × Addr)) (outer : List Env) (A₀ : Around) (base h₀ : Heap) (L : Addr) (m : Str → Option Value) (news : List (Addr × Obj)) (s : Shared) (Q E : Value → Shared → Prop) :
    Below A₀ base outer h₀ → Fr h₀ L s.heap m → (Mine.hd.heap_1 w.params).In h₀ → News h₀ L s.heap news → Top pT lT mean mg mb h₀ → cs.kind = .function →
    dp + 20 < recursionLimit → un + 200 < cLine → (qc, listOf (strValues cl).toArray kc) ∈ news → (qf, listOf (boolVals fl).toArray kf) ∈ news → (qn, listOf (strValues nl).toArray kn) ∈ news →
    (∀ T o e tp tr h' tk', Fr h₀ L h' m → News h₀ L h' ((T, tupOf [.str (PD cl fl nl f) tp, .str (RD cl fl nl f) tr, .ref o]) :: (o, listOf (strValues (nl.take f)).toArray e) :: news) → Q (.ref T) { s with heap := h', toks := tk' }) →
    wpAny (model PySem.Challenge.rw_wr0036_01.row.prog w) (ktrTop dp un gd cn cs L a ccd cl' outer) (call (.ref 127) [.ref qc, .ref qf, .ref qn, .int (f : Nat) tf]) Q E s :=
  due w cl nl fl f (dueOk R hc hn hf f) qc qf qn kc kf kn tf mean mg mb dp un gd cn cs a ccd cl' outer A₀ base h₀ L m news s Q E
theorem unrT2 {h₀ : Heap} {L I : Addr} {it : Obj} {o : Addr × Obj} {rest : (Str → Option Value) → List (Addr × Obj) → Prop} {s₁ : Shared} {h' : Heap} {tk : Nat} {m' : Str → Option Value} {news' : List (Addr × Obj)} (F : Fr h₀ L h' m') (N : News h₀ L h' (o :: (I, it) :: news')) (ho : o.2.cls = .type "list") (hit : it.cls = .type "list_iterator") (off : ∀ p ∈ news', p.1 ≠ I) (r : rest m' (o :: news')) :
    UnrEnd h₀ L s₁ I it rest { s₁ with heap := h', toks := tk } := UnrEnd.intro F N (o :: news') (fun p hp => by
      rcases List.mem_cons.mp hp with rfl | hp
      · exact .tail _ (.head _)
      · rcases List.mem_cons.mp hp with rfl | hp
        · exact .head _
        · exact .tail _ (.tail _ hp)) (fun p hp => by
      rcases List.mem_cons.mp hp with rfl | hp
      · intro e
        have h1 := (N _ (.head _)).1
        have h2 := (N (I, it) (.tail _ (.head _))).1
        rw [e] at h1
        have h3 : p.2 = it := Option.some.inj (h1.symm.trans h2)
        rw [h3, hit] at ho
        have h4 : "list_iterator" = "list" := Value.type.inj ho
        exact absurd h4 (by decide)
      · exact off p hp) r
theorem unrT3 {h₀ : Heap} {L I : Addr} {it : Obj} {o x : Addr × Obj} {rest : (Str → Option Value) → List (Addr × Obj) → Prop} {s₁ : Shared} {h' : Heap} {tk : Nat} {m' : Str → Option Value} {news' : List (Addr × Obj)} (F : Fr h₀ L h' m') (N : News h₀ L h' (o :: (I, it) :: x :: news')) (ho : o.2.cls = .type "list") (hit : it.cls = .type "list_iterator") (off : ∀ p ∈ news', p.1 ≠ I) (r : rest m' (o :: news')) :
    UnrEnd h₀ L s₁ I it rest { s₁ with heap := h', toks := tk } := unrT2 F (cb_drop N fun p hp => by
      rcases List.mem_cons.mp hp with rfl | hp
      · exact .head _
      · rcases List.mem_cons.mp hp with rfl | hp
        · exact .tail _ (.head _)
        · exact .tail _ (.tail _ (.tail _ hp))) ho hit off r
theorem len_take {prog : Program} {w : World} {A : Around} {E : Value → Shared → Prop} {s : Shared} {h₀ : Heap} {L D : Addr} {news : List (Addr × Obj)} {T : List Nat} {nl : List (Str × Tok)} {fl : List Bool} {n : Nat} {Q : Value → Shared → Prop} (R : RowC T) (hn : nl.map (·.1) = NM T) (N : News h₀ L s.heap news) (hm : (D, listOf (strValues (nl.take (freeN T fl))).toArray n) ∈ news)
    (h : Q (.int (freeN T fl : Nat) (s.toks + 1)) { s with toks := s.toks + 1 + 1 }) : wpAny (model prog w) A (call (.builtin "len") [.ref D]) Q E s := by
  have h6 := nl_len R hn
  have hf := free_le T fl
  have e : (nl.take (freeN T fl)).length = freeN T fl := by rw [List.length_take]; lia
  refine len_sv2 N hm (by rw [e]; lia) ?_
  rw [e]
  exact h
end Mine
-- F0
namespace Mine
structure Box (P : Prop) : Prop where
  out : P
noncomputable def mkP {Q : Prop} (P : Prop) (f : Box P → Q) : (P : Prop) ×' (P → Q) := ⟨P, fun h => f ⟨h⟩⟩
end Mine
-- F1
namespace Mine
theorem rows1_F1 : True := by
  k_with_none
  k_with "k_ne" => first | exact ne_l1 (by with_reducible assumption) | exact ne_r1 (by with_reducible assumption) | exact ne_l2 (by with_reducible assumption) | exact ne_r2 (by with_reducible assumption) | exact ne_l3 (by with_reducible assumption) | exact ne_r3 (by with_reducible assumption) | exact ne_l0 (by with_reducible assumption) | exact ne_r0 (by with_reducible assumption) | exact ne_l4 (by with_reducible assumption) | exact ne_r4 (by with_reducible assumption) | exact ne_l5 (by with_reducible assumption) | exact ne_r5 (by with_reducible assumption)
  k_with "ktr_room" => first | exact room_c 0 hd rfl | exact room_c 1 hd rfl | exact room_c 6 hd rfl | exact room_c 9 hd rfl | exact room_c 21 hd rfl | exact Nat.le_of_ble_eq_true rfl
  k_with "ktr_units" => first | exact room_c 43 hu rfl | exact room_c 63 hu rfl | exact room_c 203 hu rfl | exact Nat.le_of_ble_eq_true rfl
  k_with "call builtin:str.find" => (k_dflt (k_here; (with_reducible show wpAny _ _ (call (Value.builtin "str.find") [Value.str _ _, Value.str _ _, Value.int _ _, Value.int _ _]) _ _ _); refine call_find4 ?_))
  k_with "call builtin:str.rfind" => (k_dflt (k_here; (with_reducible show wpAny _ _ (call (Value.builtin "str.rfind") [Value.str _ _, Value.str _ _, Value.int _ _, Value.int _ _]) _ _ _); refine call_rfind4 ?_))
  k_with "call ref" => (k_here; refine wpAny_call ?_; k_dflt (refine' code_def ?k1z6 ?k2z6 ?k3z6 ?k4z6 ?k5z6 ?kAz6 ?kFz6 ?kKz6 ?k6z6 ?k7z6 ?k8z6 ?k9z6 ?kBz6 ?_ ?c2z6 ?c3z6 ?c4z6 ?c5z6; (case kAz6 => exact rfl); (case kFz6 => exact rfl); (case kKz6 => first | exact rfl | assumption); (case k1z6 => k_asm); (case k2z6 => k_asm); (case k3z6 => k_asm); (case k4z6 => k_asm); (case k5z6 => k_asm); (case k6z6 => k_is); (case k7z6 => k_is); (case k8z6 => ktr_room); (case k9z6 => exact BindsTo.of_eq rfl); (case c5z6 => decide); (case kBz6 => exact locs rfl); (case c2z6 => exact rfl); (case c3z6 => exact rfl); (case c4z6 => exact rfl); k_whole; intro g' L' h' FG' F' N' B' X' T'; (try dsimp only); (try k_lift B'); (try k_fold)))
  k_with "call ref" => (k_here; (with_reducible show wpAny _ _ (call (Value.ref 67) [Value.str _ _, Value.str _ _]) _ _ _); k_dflt (refine' strcoll _ _ _ _ _ _ _ _ _ _ _ _ _ _ _ _ _ _ _ _ _ _ _ _ _ _ ?k1z7 ?k2z7 ?k3z7 ?k4z7 ?k5z7 ?kKz7 ?kdz7 ?kuz7  ?_; (case k1z7 => k_asm); (case k2z7 => k_asm); (case k3z7 => k_in); (case k4z7 => k_asm); (case k5z7 => k_asm); (case kKz7 => first | exact rfl | assumption); (case kdz7 => ktr_room); (case kuz7 => ktr_units); intro t9 h9 tk9 F9 N9; (try dsimp only); (try k_fold)))
  k_with "call ref" => (k_here; (with_reducible show wpAny _ _ (call (Value.ref 84) [Value.int _ _]) _ _ _); k_dflt (refine' isterm _ _ _ _ _ _ _ _ _ _ _ _ _ _ _ _ _ _ _ _ _ _ _ _ ?k1z8 ?k2z8 ?k3z8 ?k4z8 ?k5z8 ?kKz8 ?kdz8 ?kuz8  ?_; (case k1z8 => k_asm); (case k2z8 => k_asm); (case k3z8 => k_in); (case k4z8 => k_asm); (case k5z8 => k_asm); (case kKz8 => first | exact rfl | assumption); (case kdz8 => ktr_room); (case kuz8 => ktr_units); intro t9 h9 tk9 F9 N9; (try dsimp only); (try k_fold)))
  k_with "call ref" => (k_here; (with_reducible show wpAny _ _ (call (Value.ref 91) [Value.int _ _]) _ _ _); k_dflt (refine' iseof _ _ _ _ _ _ _ _ _ _ _ _ _ _ _ _ _ _ _ _ _ _ _ _ ?k1z9 ?k2z9 ?k3z9 ?k4z9 ?k5z9 ?kKz9 ?kdz9 ?kuz9  ?_; (case k1z9 => k_asm); (case k2z9 => k_asm); (case k3z9 => k_in); (case k4z9 => k_asm); (case k5z9 => k_asm); (case kKz9 => first | exact rfl | assumption); (case kdz9 => ktr_room); (case kuz9 => ktr_units); intro t9 h9 tk9 F9 N9; (try dsimp only); (try k_fold)))
  k_with "call ref" => (k_here; (with_reducible show wpAny _ _ (call (Value.ref 28) [Value.str _ _]) _ _ _); k_dflt (refine' stripd _ _ _ ?hxz10 _ _ _ _ _ _ _ _ _ _ _ _ _ _ _ _ _ _ _ _ _ ?k1z10 ?k2z10 ?k3z10 ?k4z10 ?k5z10 ?kKz10 ?kdz10 ?kuz10  ?_; (case k1z10 => k_asm); (case k2z10 => k_asm); (case k3z10 => k_in); (case k4z10 => k_asm); (case k5z10 => k_asm); (case kKz10 => first | exact rfl | assumption); (case kdz10 => ktr_room); (case kuz10 => ktr_units); (case hxz10 => first | assumption | omega | size_fits); intro t9 h9 tk9 F9 N9; (try dsimp only); (try k_fold)))
  k_with "CompEnd" => (k_dflt (k_here; refine LCg.CompEnd.intro (by assumption) (by assumption) _ ?csubz11 (by assumption) (by assumption) ⟨rfl, ?_⟩; (case csubz11 => kcf_all)))
  k_with "k_all" => exact off_tail (by with_reducible assumption) (by omega)
  k_with "subscriptTail" => (k_dflt (k_here; (with_reducible show wpAny _ _ (subscriptTail _ _ (Value.ref 75) (Value.str _ _)) _ _ _); (refine' ett_item ?kXz13 ?khz13 ?_; (case kXz13 => k_in); (case khz13 => with_reducible assumption))); intro t')
  k_with "k_mem" => (refine List.mem_append_right _ ?_; k_mem)
  k_with "k_mem" => (refine List.mem_append_left _ ?_; k_mem)
  k_with "exec Assign cons ListComp" => (k_here; (with_reducible show wpAny _ _ (exec (Stmt.Assign _ (Expr.ListComp _ [⟨Expr.Tuple _ _ _, _, _, _⟩] _ _) _) _) _ _ _); k_dflt (refine Assign_ListComp_Z (by k_asm) rfl (by with_unfolding_all rfl) (by with_unfolding_all rfl) (by decide) (by rfl) (by decide) (by rfl) (by rfl) (by decide) (by rfl) (by rfl) ?_))
  k_with "call type:zip" => (k_here; (with_reducible rename Fr _ _ _ _ => lF'); (with_reducible rename News _ _ _ _ => lN'); k_dflt (refine' zip_nums (fun l x => l + x.fmod 1000000) ?cz17 ?dz17 rfl ?az17 ?bz17 ?zz17 lF' lN' ?_ ?_; (case az17 => k_mem); (case bz17 => k_mem); (case cz17 => l_ints); (case dz17 => l_ints); (case zz17 => (simp only [List.length_cons, List.length_nil]; omega))); (all_goals first | (intro i x y t u ys own C oC D m₂ s₂ h' tk' E' hi' hk' hJ' hC' ha' hb' F' N' hDC' off'; clear lF' lN') | (intro D' h' tk' ts' hp' hn' he'; intro F' N'; clear lF' lN'; (try k_lt hn'); (with_reducible rw [List.nil_append] at N'))))
  k_with "exec Assign cons ListComp" => (k_here; (with_reducible show wpAny _ _ (exec (Stmt.Assign _ (Expr.ListComp _ [⟨Expr.Name _ _, _, _, _⟩] _ _) _) _) _ _ _); k_dflt (refine' Assign_ListComp_N ?k1z18 ?k2z18 ?k3z18 ?k4z18 ?k5z18 ?k6z18 ?k7z18 ?k8z18 ?k9z18 ?k10z18 ?_ ?k12z18; (case k1z18 => k_asm); (case k2z18 => rfl); (case k3z18 => with_unfolding_all rfl); (case k4z18 => with_unfolding_all rfl); (case k5z18 => decide); (case k6z18 => rfl); (case k7z18 => decide); (case k8z18 => rfl); (case k9z18 => rfl); (case k10z18 => rfl); (case k12z18 => (intro _; rfl))))
  k_with "pyIter ref!" => (k_here; (with_reducible show wpAny _ _ (pyIter (Value.ref _)) (fun it s₂ => NAt _ _ _ _ _ _ _ _ _ _ _ _ _ _ _ it s₂) _ _); (with_reducible rename Fr _ _ _ _ => lF'); (with_reducible rename News _ _ _ _ => lN'); k_dflt (refine' sign_comp okSign ?Xz19 rfl lF' lN' ?_ ?_; (case Xz19 => k_asm)); (all_goals first | (intro i y t ys own C oC D m₂ s₂ h' tk' E' hi' hy' hJ' hC' ha' F' N' hDC' off'; clear lF' lN') | (intro D' h' tk' ts' hp' hn' he'; intro F' N'; clear lF' lN'; (try k_lt hn'); (with_reducible rw [List.nil_append] at N'))))
  k_with "subscriptTail Name Slice ref ref" => (k_here; (with_reducible rename (List.map _ _ = List.zipWith _ _ _) => hz9'); (with_reducible rename Fr _ _ _ _ => lF'); (with_reducible rename News _ _ _ _ => lN'); k_dflt (refine' slice_ints6 lF' lN' ?lz20 ?zz20 ?_ ?sz20 ?tz20; (case lz20 => k_mem); (case zz20 => exact nums_len hz9'); (case sz20 => with_unfolding_all rfl); (case tz20 => kmk_pure)); intro D' h' F' N' l1; clear lF' lN'; (try k_lt l1))
  k_with "exec For" => (k_dflt (k_here; (repeat (first | with_reducible exact hP.out | (with_reducible rename _ => h'; revert h')))))
  trivial
noncomputable def f1 : (P : Prop) ×' (P → PySem.Challenge.rw_wr0036_01.Holds) := by
  refine' mkP _ ?h
  case h =>
    intro hP
    refine holds_law said_ok fun said => ?_
    clear said
    refine holds_open (q := q1) (loose := lo1) (Xt := xt1) (XP := XL q1 []) (Yf := hd.1.obs) (Ya := hd.1.val) (YP := hd.1.says) (N := 4762) left_ok hd.1.of hd.1.keeps (fun s e => xl_of s (Bool.and_eq_true_iff.mp e).1) XL.keeps (by rfl) (by rfl) (by rfl) (fun s e => recFacts_of (Bool.and_eq_true_iff.mp e).2) (by rfl) said_r ok_ok ⟨rfl, rfl, rfl, rfl, rfl, by decide +kernel⟩ prom_ok ?hc
    case hc =>
      dsimp only [hd, hkMk]
      w_strict (k_go0; (all_goals try k_fold); (with_reducible rename Fr _ _ _ _ => F9); (have F8 := frTo (by with_reducible assumption) F9 (by kernel_rfl)); clear F9; k_steps; all_goals ((with_reducible rename Fr _ _ _ _ => F9); with_reducible rename News _ _ _ _ => N9); all_goals first
        | ((with_reducible rename NumJ _ _ _ _ _ _ => hJ9); exact num_end F9 N9 hJ9 (by with_reducible assumption) (by with_reducible assumption))
        | ((with_reducible rename SignJ _ _ _ _ _ => hJ9); exact sign_yes F9 N9 hJ9 (by with_reducible assumption) (okSign_yes (by with_reducible assumption) (by with_reducible assumption)))
        | ((with_reducible rename SignJ _ _ _ _ _ => hJ9); exact sign_no F9 N9 hJ9 (by with_reducible assumption) (by first | exact okSign_no (by with_reducible assumption) | exact okSign_no1 (by with_reducible assumption))))
end Mine
-- F2
namespace Mine
theorem rows1_F2 : True := by
  k_with_none
  k_with "k_ne" => first | exact ne_l1 (by with_reducible assumption) | exact ne_r1 (by with_reducible assumption) | exact ne_l2 (by with_reducible assumption) | exact ne_r2 (by with_reducible assumption) | exact ne_l3 (by with_reducible assumption) | exact ne_r3 (by with_reducible assumption) | exact ne_l0 (by with_reducible assumption) | exact ne_r0 (by with_reducible assumption) | exact ne_l4 (by with_reducible assumption) | exact ne_r4 (by with_reducible assumption) | exact ne_l5 (by with_reducible assumption) | exact ne_r5 (by with_reducible assumption)
  k_with "ktr_room" => first | exact room_c 0 hd rfl | exact room_c 1 hd rfl | exact room_c 6 hd rfl | exact room_c 9 hd rfl | exact room_c 21 hd rfl | exact Nat.le_of_ble_eq_true rfl
  k_with "ktr_units" => first | exact room_c 43 hu rfl | exact room_c 63 hu rfl | exact room_c 203 hu rfl | exact Nat.le_of_ble_eq_true rfl
  k_with "call builtin:str.find" => (k_dflt (k_here; (with_reducible show wpAny _ _ (call (Value.builtin "str.find") [Value.str _ _, Value.str _ _, Value.int _ _, Value.int _ _]) _ _ _); refine call_find4 ?_))
  k_with "call builtin:str.rfind" => (k_dflt (k_here; (with_reducible show wpAny _ _ (call (Value.builtin "str.rfind") [Value.str _ _, Value.str _ _, Value.int _ _, Value.int _ _]) _ _ _); refine call_rfind4 ?_))
  k_with "call ref" => (k_here; refine wpAny_call ?_; k_dflt (refine' code_def ?k1z6 ?k2z6 ?k3z6 ?k4z6 ?k5z6 ?kAz6 ?kFz6 ?kKz6 ?k6z6 ?k7z6 ?k8z6 ?k9z6 ?kBz6 ?_ ?c2z6 ?c3z6 ?c4z6 ?c5z6; (case kAz6 => exact rfl); (case kFz6 => exact rfl); (case kKz6 => first | exact rfl | assumption); (case k1z6 => k_asm); (case k2z6 => k_asm); (case k3z6 => k_asm); (case k4z6 => k_asm); (case k5z6 => k_asm); (case k6z6 => k_is); (case k7z6 => k_is); (case k8z6 => ktr_room); (case k9z6 => exact BindsTo.of_eq rfl); (case c5z6 => decide); (case kBz6 => exact locs rfl); (case c2z6 => exact rfl); (case c3z6 => exact rfl); (case c4z6 => exact rfl); k_whole; intro g' L' h' FG' F' N' B' X' T'; (try dsimp only); (try k_lift B'); (try k_fold)))
  k_with "call ref" => (k_here; (with_reducible show wpAny _ _ (call (Value.ref 67) [Value.str _ _, Value.str _ _]) _ _ _); k_dflt (refine' strcoll _ _ _ _ _ _ _ _ _ _ _ _ _ _ _ _ _ _ _ _ _ _ _ _ _ _ ?k1z7 ?k2z7 ?k3z7 ?k4z7 ?k5z7 ?kKz7 ?kdz7 ?kuz7  ?_; (case k1z7 => k_asm); (case k2z7 => k_asm); (case k3z7 => k_in); (case k4z7 => k_asm); (case k5z7 => k_asm); (case kKz7 => first | exact rfl | assumption); (case kdz7 => ktr_room); (case kuz7 => ktr_units); intro t9 h9 tk9 F9 N9; (try dsimp only); (try k_fold)))
  k_with "call ref" => (k_here; (with_reducible show wpAny _ _ (call (Value.ref 84) [Value.int _ _]) _ _ _); k_dflt (refine' isterm _ _ _ _ _ _ _ _ _ _ _ _ _ _ _ _ _ _ _ _ _ _ _ _ ?k1z8 ?k2z8 ?k3z8 ?k4z8 ?k5z8 ?kKz8 ?kdz8 ?kuz8  ?_; (case k1z8 => k_asm); (case k2z8 => k_asm); (case k3z8 => k_in); (case k4z8 => k_asm); (case k5z8 => k_asm); (case kKz8 => first | exact rfl | assumption); (case kdz8 => ktr_room); (case kuz8 => ktr_units); intro t9 h9 tk9 F9 N9; (try dsimp only); (try k_fold)))
  k_with "call ref" => (k_here; (with_reducible show wpAny _ _ (call (Value.ref 91) [Value.int _ _]) _ _ _); k_dflt (refine' iseof _ _ _ _ _ _ _ _ _ _ _ _ _ _ _ _ _ _ _ _ _ _ _ _ ?k1z9 ?k2z9 ?k3z9 ?k4z9 ?k5z9 ?kKz9 ?kdz9 ?kuz9  ?_; (case k1z9 => k_asm); (case k2z9 => k_asm); (case k3z9 => k_in); (case k4z9 => k_asm); (case k5z9 => k_asm); (case kKz9 => first | exact rfl | assumption); (case kdz9 => ktr_room); (case kuz9 => ktr_units); intro t9 h9 tk9 F9 N9; (try dsimp only); (try k_fold)))
  k_with "call ref" => (k_here; (with_reducible show wpAny _ _ (call (Value.ref 28) [Value.str _ _]) _ _ _); k_dflt (refine' stripd _ _ _ ?hxz10 _ _ _ _ _ _ _ _ _ _ _ _ _ _ _ _ _ _ _ _ _ ?k1z10 ?k2z10 ?k3z10 ?k4z10 ?k5z10 ?kKz10 ?kdz10 ?kuz10  ?_; (case k1z10 => k_asm); (case k2z10 => k_asm); (case k3z10 => k_in); (case k4z10 => k_asm); (case k5z10 => k_asm); (case kKz10 => first | exact rfl | assumption); (case kdz10 => ktr_room); (case kuz10 => ktr_units); (case hxz10 => first | assumption | omega | size_fits); intro t9 h9 tk9 F9 N9; (try dsimp only); (try k_fold)))
  k_with "CompEnd" => (k_dflt (k_here; refine LCg.CompEnd.intro (by assumption) (by assumption) _ ?csubz11 (by assumption) (by assumption) ⟨rfl, ?_⟩; (case csubz11 => kcf_all)))
  k_with "k_all" => exact off_tail (by with_reducible assumption) (by omega)
  k_with "subscriptTail" => (k_dflt (k_here; (with_reducible show wpAny _ _ (subscriptTail _ _ (Value.ref 75) (Value.str _ _)) _ _ _); (refine' ett_item ?kXz13 ?khz13 ?_; (case kXz13 => k_in); (case khz13 => with_reducible assumption))); intro t')
  k_with "k_mem" => (refine List.mem_append_right _ ?_; k_mem)
  k_with "k_mem" => (refine List.mem_append_left _ ?_; k_mem)
  k_with "exec Assign cons ListComp" => (k_here; (with_reducible show wpAny _ _ (exec (Stmt.Assign _ (Expr.ListComp _ [⟨Expr.Tuple _ _ _, _, _, _⟩] _ _) _) _) _ _ _); k_dflt (refine Assign_ListComp_Z (by k_asm) rfl (by with_unfolding_all rfl) (by with_unfolding_all rfl) (by decide) (by rfl) (by decide) (by rfl) (by rfl) (by decide) (by rfl) (by rfl) ?_))
  k_with "call type:zip" => (k_here; (with_reducible rename Fr _ _ _ _ => lF'); (with_reducible rename News _ _ _ _ => lN'); k_dflt (refine' zip_nums (fun l x => l + x.fmod 1000000) ?cz17 ?dz17 rfl ?az17 ?bz17 ?zz17 lF' lN' ?_ ?_; (case az17 => k_mem); (case bz17 => k_mem); (case cz17 => l_ints); (case dz17 => l_ints); (case zz17 => (simp only [List.length_cons, List.length_nil]; omega))); (all_goals first | (intro i x y t u ys own C oC D m₂ s₂ h' tk' E' hi' hk' hJ' hC' ha' hb' F' N' hDC' off'; clear lF' lN') | (intro D' h' tk' ts' hp' hn' he'; intro F' N'; clear lF' lN'; (try k_lt hn'); (with_reducible rw [List.nil_append] at N'))))
  k_with "exec Assign cons ListComp" => (k_here; (with_reducible show wpAny _ _ (exec (Stmt.Assign _ (Expr.ListComp _ [⟨Expr.Name _ _, _, _, _⟩] _ _) _) _) _ _ _); k_dflt (refine' Assign_ListComp_N ?k1z18 ?k2z18 ?k3z18 ?k4z18 ?k5z18 ?k6z18 ?k7z18 ?k8z18 ?k9z18 ?k10z18 ?_ ?k12z18; (case k1z18 => k_asm); (case k2z18 => rfl); (case k3z18 => with_unfolding_all rfl); (case k4z18 => with_unfolding_all rfl); (case k5z18 => decide); (case k6z18 => rfl); (case k7z18 => decide); (case k8z18 => rfl); (case k9z18 => rfl); (case k10z18 => rfl); (case k12z18 => (intro _; rfl))))
  k_with "pyIter ref!" => (k_here; (with_reducible show wpAny _ _ (pyIter (Value.ref _)) (fun it s₂ => NAt _ _ _ _ _ _ _ _ _ _ _ _ _ _ _ it s₂) _ _); (with_reducible rename Fr _ _ _ _ => lF'); (with_reducible rename News _ _ _ _ => lN'); k_dflt (refine' sign_comp okSign ?Xz19 rfl lF' lN' ?_ ?_; (case Xz19 => k_asm)); (all_goals first | (intro i y t ys own C oC D m₂ s₂ h' tk' E' hi' hy' hJ' hC' ha' F' N' hDC' off'; clear lF' lN') | (intro D' h' tk' ts' hp' hn' he'; intro F' N'; clear lF' lN'; (try k_lt hn'); (with_reducible rw [List.nil_append] at N'))))
  k_with "subscriptTail Name Slice ref ref" => (k_here; (with_reducible rename (List.map _ _ = List.zipWith _ _ _) => hz9'); (with_reducible rename Fr _ _ _ _ => lF'); (with_reducible rename News _ _ _ _ => lN'); k_dflt (refine' slice_ints6 lF' lN' ?lz20 ?zz20 ?_ ?sz20 ?tz20; (case lz20 => k_mem); (case zz20 => exact nums_len hz9'); (case sz20 => with_unfolding_all rfl); (case tz20 => kmk_pure)); intro D' h' F' N' l1; clear lF' lN'; (try k_lt l1))
  k_with "exec For" => (k_dflt (k_here; (with_reducible show wpAny _ _ (exec (Stmt.For (Expr.Name (Str.ofString "number") _) _ _ _ _) _) _ _ _); ((with_reducible rename Fr _ _ _ _ => lF')); (with_unfolding_all refine' For_invVF lF' ?k1z21 ?k2z21 ?_; (case k1z21 => exact rfl); (case k2z21 => exact rfl); k_whole)))
  k_with "pyIter ref!" => (k_here; (with_reducible show wpAny _ _ (pyIter (Value.ref _)) (fun it s₂ => LoopAtV _ _ _ _ _ _ _ _ _ it s₂) _ _); (with_reducible rename Fr _ _ _ _ => lF'); (with_reducible rename News _ _ _ _ => lN'); k_dflt (refine' pick_loop6 (nums7 (by with_reducible assumption)) (by with_reducible assumption) rfl lF' lN' ?_ ?_); (all_goals first | (intro c i n t u h' tk own hn' hi' hb' hf' ho' hP' F' N'; clear lF' lN') | (intro row T e1 u h' tk hT' hr' F' N'; clear lF' lN')))
  k_with "call builtin:len" => (k_here; (with_reducible show wpAny _ _ (call (Value.builtin "len") [Value.ref _]) _ _ _); k_dflt (refine' len_sv2 ?kNz23 ?kmz23 ?k1z23 ?_; (case kNz23 => k_asm); (case kmz23 => k_mem); (case k1z23 => omega)))
  k_with "call builtin:list.append" => (k_dflt (k_here; (refine' strs_append ?kFz24 ?kNz24 ?kzz24 ?kUz24 ?_; (case kFz24 => k_asm); (case kNz24 => k_asm); (case kUz24 => k_upd); (case kzz24 => omega))); intro h' F' N')
  k_with "call builtin:list.pop" => (k_dflt (k_here; (with_reducible rename (0 ≤ Int.fmod _ _ ∧ _) => hf9'); (refine' pop_strs ?kFz25 ?kNz25 ?k0z25 ?k1z25 ?kzz25 ?kUz25 ?_; (case kFz25 => k_asm); (case kNz25 => k_asm); (case k0z25 => exact hf9'.1); (case k1z25 => exact hf9'.2); (case kzz25 => omega); (case kUz25 => k_upd))); intro h' y t hy' F' N')
  k_with "call ref" => (k_here; (with_reducible show wpAny _ _ (call (Value.ref 96) [Value.ref _]) _ _ _); (with_reducible rename RowC _ => hT9'); (with_reducible rename (List.map _ _ = List.map one _) => hr9'); k_dflt (refine' ranks _ _ _ _ _ (rankOk' hT9' hr9') _ _ _ _ _ _ _ _ _ _ _ _ _ _ _ _ _ _ _ _ _ ?k1z26 ?k2z26 ?k3z26 (front5 ?k4z26) ?k6z26 ?k5z26 ?kKz26 ?kdz26 ?kuz26 ?kqz26 ?_; (case k1z26 => exact below_caller _); (case k2z26 => k_asm); (case k3z26 => k_in); (case k4z26 => k_asm); (case k5z26 => k_asm); (case k6z26 => k_all); (case kKz26 => first | exact rfl | assumption); (case kdz26 => ktr_room); (case kuz26 => ktr_units); (case kqz26 => k_mem)); intro D9 o9 ps9 h9 tk9 kvs9 hd9 hf9 F9 N9 lo9 lt9; (try k_lt lt9); (try dsimp only); (try k_fold))
  k_with "compareOp Eq ref ref" => (k_here; (with_reducible rename RowC _ => hT9'); (with_reducible rename (List.map _ _ = List.map one _) => hr9'); k_dflt (refine' rank_some ?kNz27 ?kmz27 ?klz27 ?kdz27 ?kfz27 ?kez27 ?kl2z27 ?kd2z27 (row_six hT9' hr9') ?kuz27 ?_; (case kNz27 => k_asm); (case kmz27 => k_mem); (case klz27 => with_reducible assumption); (case kdz27 => with_reducible assumption); (case kfz27 => with_reducible assumption); (case kez27 => k_mem); (case kl2z27 => with_reducible assumption); (case kd2z27 => with_reducible assumption); (case kuz27 => ke_room)))
  k_with "call builtin:str.join" => (k_here; (with_reducible show wpAny _ _ (call (Value.builtin "str.join") [Value.str _ _, Value.ref _]) _ _ _); (with_reducible rename RowC _ => hT9'); (with_reducible rename (List.map _ _ = List.map one _) => hr9'); k_dflt (refine' join_sv ?kNz28 ?kmz28 rfl ?kxz28 (row_short hr9') (row_len hT9' hr9') ?_; (case kNz28 => k_asm); (case kmz28 => k_mem); (case kxz28 => exact len_empty)); intro t' tk')
  k_with "call ref" => (k_here; (with_reducible show wpAny _ _ (call (Value.ref 101) [Value.str _ _]) _ _ _); k_dflt (refine' ends_row _ _ _ _ ?hTz29 ?hxz29 _ _ _ _ _ _ _ _ _ _ _ _ _ _ _ _ _ _ _ _ _ ?k1z29 ?k2z29 ?k3z29 ?k4z29 ?k5z29 ?kKz29 ?kdz29 ?kuz29  ?_; (case k1z29 => k_asm); (case k2z29 => k_asm); (case k3z29 => k_in); (case k4z29 => k_asm); (case k5z29 => k_asm); (case kKz29 => first | exact rfl | assumption); (case kdz29 => ktr_room); (case kuz29 => ktr_units); (case hTz29 => with_reducible assumption); (case hxz29 => exact row_text (by with_reducible assumption)); intro t9 h9 tk9 F9 N9; (try dsimp only); (try k_fold)))
  k_with "call builtin:sorted" => (k_dflt (k_here; (repeat (first | with_reducible exact hP.out | (with_reducible rename _ => h'; revert h')))))
  trivial
noncomputable def f2 : (P : Prop) ×' (P → f1.1) := by
  refine' mkP _ ?h
  case h =>
  intro hP
  dsimp only [f1, mkP]
  k_fill
  intros
  (with_reducible rename News _ _ _ _ => N9)
  have N8 := keepN [true, true, true, false, false, false, false, false] N9
  simp only [keepM] at N8
  clear N9
  k_steps
  all_goals ((with_reducible rename Fr _ _ _ _ => F9); with_reducible rename News _ _ _ _ => N9)
  all_goals first
    | ((with_reducible show InvEndN _ _ _ _ _ _ _); (refine' row_end F9 N9 ?a1 ?a2 ?a3 ?a4 ?a5 ?b1 ?b2 ?b3 ?b4; (case a1 => with_reducible assumption); (case a2 => with_reducible assumption); (case a3 => with_reducible assumption); (case a4 => with_reducible assumption); (case a5 => with_reducible assumption); (case b1 => exact fun p hp => List.mem_append_left _ hp); (case b2 => exact fun p hp => .tail _ (.tail _ (.tail _ (List.mem_append_right _ hp)))); (case b3 => exact rfl); (case b4 => exact fun z hz => if_neg hz)))
end Mine
-- F3
namespace Mine
theorem rows1_F3 : True := by
  k_with_none
  k_with "k_ne" => first | exact ne_l1 (by with_reducible assumption) | exact ne_r1 (by with_reducible assumption) | exact ne_l2 (by with_reducible assumption) | exact ne_r2 (by with_reducible assumption) | exact ne_l3 (by with_reducible assumption) | exact ne_r3 (by with_reducible assumption) | exact ne_l0 (by with_reducible assumption) | exact ne_r0 (by with_reducible assumption) | exact ne_l4 (by with_reducible assumption) | exact ne_r4 (by with_reducible assumption) | exact ne_l5 (by with_reducible assumption) | exact ne_r5 (by with_reducible assumption)
  k_with "ktr_room" => first | exact room_c 0 hd rfl | exact room_c 1 hd rfl | exact room_c 6 hd rfl | exact room_c 9 hd rfl | exact room_c 21 hd rfl | exact Nat.le_of_ble_eq_true rfl
  k_with "ktr_units" => first | exact room_c 43 hu rfl | exact room_c 63 hu rfl | exact room_c 203 hu rfl | exact Nat.le_of_ble_eq_true rfl
  k_with "call builtin:str.find" => (k_dflt (k_here; (with_reducible show wpAny _ _ (call (Value.builtin "str.find") [Value.str _ _, Value.str _ _, Value.int _ _, Value.int _ _]) _ _ _); refine call_find4 ?_))
  k_with "call builtin:str.rfind" => (k_dflt (k_here; (with_reducible show wpAny _ _ (call (Value.builtin "str.rfind") [Value.str _ _, Value.str _ _, Value.int _ _, Value.int _ _]) _ _ _); refine call_rfind4 ?_))
  k_with "call ref" => (k_here; refine wpAny_call ?_; k_dflt (refine' code_def ?k1z6 ?k2z6 ?k3z6 ?k4z6 ?k5z6 ?kAz6 ?kFz6 ?kKz6 ?k6z6 ?k7z6 ?k8z6 ?k9z6 ?kBz6 ?_ ?c2z6 ?c3z6 ?c4z6 ?c5z6; (case kAz6 => exact rfl); (case kFz6 => exact rfl); (case kKz6 => first | exact rfl | assumption); (case k1z6 => k_asm); (case k2z6 => k_asm); (case k3z6 => k_asm); (case k4z6 => k_asm); (case k5z6 => k_asm); (case k6z6 => k_is); (case k7z6 => k_is); (case k8z6 => ktr_room); (case k9z6 => exact BindsTo.of_eq rfl); (case c5z6 => decide); (case kBz6 => exact locs rfl); (case c2z6 => exact rfl); (case c3z6 => exact rfl); (case c4z6 => exact rfl); k_whole; intro g' L' h' FG' F' N' B' X' T'; (try dsimp only); (try k_lift B'); (try k_fold)))
  k_with "call ref" => (k_here; (with_reducible show wpAny _ _ (call (Value.ref 67) [Value.str _ _, Value.str _ _]) _ _ _); k_dflt (refine' strcoll _ _ _ _ _ _ _ _ _ _ _ _ _ _ _ _ _ _ _ _ _ _ _ _ _ _ ?k1z7 ?k2z7 ?k3z7 ?k4z7 ?k5z7 ?kKz7 ?kdz7 ?kuz7  ?_; (case k1z7 => k_asm); (case k2z7 => k_asm); (case k3z7 => k_in); (case k4z7 => k_asm); (case k5z7 => k_asm); (case kKz7 => first | exact rfl | assumption); (case kdz7 => ktr_room); (case kuz7 => ktr_units); intro t9 h9 tk9 F9 N9; (try dsimp only); (try k_fold)))
  k_with "call ref" => (k_here; (with_reducible show wpAny _ _ (call (Value.ref 84) [Value.int _ _]) _ _ _); k_dflt (refine' isterm _ _ _ _ _ _ _ _ _ _ _ _ _ _ _ _ _ _ _ _ _ _ _ _ ?k1z8 ?k2z8 ?k3z8 ?k4z8 ?k5z8 ?kKz8 ?kdz8 ?kuz8  ?_; (case k1z8 => k_asm); (case k2z8 => k_asm); (case k3z8 => k_in); (case k4z8 => k_asm); (case k5z8 => k_asm); (case kKz8 => first | exact rfl | assumption); (case kdz8 => ktr_room); (case kuz8 => ktr_units); intro t9 h9 tk9 F9 N9; (try dsimp only); (try k_fold)))
  k_with "call ref" => (k_here; (with_reducible show wpAny _ _ (call (Value.ref 91) [Value.int _ _]) _ _ _); k_dflt (refine' iseof _ _ _ _ _ _ _ _ _ _ _ _ _ _ _ _ _ _ _ _ _ _ _ _ ?k1z9 ?k2z9 ?k3z9 ?k4z9 ?k5z9 ?kKz9 ?kdz9 ?kuz9  ?_; (case k1z9 => k_asm); (case k2z9 => k_asm); (case k3z9 => k_in); (case k4z9 => k_asm); (case k5z9 => k_asm); (case kKz9 => first | exact rfl | assumption); (case kdz9 => ktr_room); (case kuz9 => ktr_units); intro t9 h9 tk9 F9 N9; (try dsimp only); (try k_fold)))
  k_with "call ref" => (k_here; (with_reducible show wpAny _ _ (call (Value.ref 28) [Value.str _ _]) _ _ _); k_dflt (refine' stripd _ _ _ ?hxz10 _ _ _ _ _ _ _ _ _ _ _ _ _ _ _ _ _ _ _ _ _ ?k1z10 ?k2z10 ?k3z10 ?k4z10 ?k5z10 ?kKz10 ?kdz10 ?kuz10  ?_; (case k1z10 => k_asm); (case k2z10 => k_asm); (case k3z10 => k_in); (case k4z10 => k_asm); (case k5z10 => k_asm); (case kKz10 => first | exact rfl | assumption); (case kdz10 => ktr_room); (case kuz10 => ktr_units); (case hxz10 => first | assumption | omega | size_fits); intro t9 h9 tk9 F9 N9; (try dsimp only); (try k_fold)))
  k_with "CompEnd" => (k_dflt (k_here; refine LCg.CompEnd.intro (by assumption) (by assumption) _ ?csubz11 (by assumption) (by assumption) ⟨rfl, ?_⟩; (case csubz11 => kcf_all)))
  k_with "k_all" => exact off_tail (by with_reducible assumption) (by omega)
  k_with "subscriptTail" => (k_dflt (k_here; (with_reducible show wpAny _ _ (subscriptTail _ _ (Value.ref 75) (Value.str _ _)) _ _ _); (refine' ett_item ?kXz13 ?khz13 ?_; (case kXz13 => k_in); (case khz13 => with_reducible assumption))); intro t')
  k_with "k_mem" => (refine List.mem_append_right _ ?_; k_mem)
  k_with "k_mem" => (refine List.mem_append_left _ ?_; k_mem)
  k_with "exec Assign cons ListComp" => (k_here; (with_reducible show wpAny _ _ (exec (Stmt.Assign _ (Expr.ListComp _ [⟨Expr.Tuple _ _ _, _, _, _⟩] _ _) _) _) _ _ _); k_dflt (refine Assign_ListComp_Z (by k_asm) rfl (by with_unfolding_all rfl) (by with_unfolding_all rfl) (by decide) (by rfl) (by decide) (by rfl) (by rfl) (by decide) (by rfl) (by rfl) ?_))
  k_with "call type:zip" => (k_here; (with_reducible rename Fr _ _ _ _ => lF'); (with_reducible rename News _ _ _ _ => lN'); k_dflt (refine' zip_nums (fun l x => l + x.fmod 1000000) ?cz17 ?dz17 rfl ?az17 ?bz17 ?zz17 lF' lN' ?_ ?_; (case az17 => k_mem); (case bz17 => k_mem); (case cz17 => l_ints); (case dz17 => l_ints); (case zz17 => (simp only [List.length_cons, List.length_nil]; omega))); (all_goals first | (intro i x y t u ys own C oC D m₂ s₂ h' tk' E' hi' hk' hJ' hC' ha' hb' F' N' hDC' off'; clear lF' lN') | (intro D' h' tk' ts' hp' hn' he'; intro F' N'; clear lF' lN'; (try k_lt hn'); (with_reducible rw [List.nil_append] at N'))))
  k_with "exec Assign cons ListComp" => (k_here; (with_reducible show wpAny _ _ (exec (Stmt.Assign _ (Expr.ListComp _ [⟨Expr.Name _ _, _, _, _⟩] _ _) _) _) _ _ _); k_dflt (refine' Assign_ListComp_N ?k1z18 ?k2z18 ?k3z18 ?k4z18 ?k5z18 ?k6z18 ?k7z18 ?k8z18 ?k9z18 ?k10z18 ?_ ?k12z18; (case k1z18 => k_asm); (case k2z18 => rfl); (case k3z18 => with_unfolding_all rfl); (case k4z18 => with_unfolding_all rfl); (case k5z18 => decide); (case k6z18 => rfl); (case k7z18 => decide); (case k8z18 => rfl); (case k9z18 => rfl); (case k10z18 => rfl); (case k12z18 => (intro _; rfl))))
  k_with "pyIter ref!" => (k_here; (with_reducible show wpAny _ _ (pyIter (Value.ref _)) (fun it s₂ => NAt _ _ _ _ _ _ _ _ _ _ _ _ _ _ _ it s₂) _ _); (with_reducible rename Fr _ _ _ _ => lF'); (with_reducible rename News _ _ _ _ => lN'); k_dflt (refine' sign_comp okSign ?Xz19 rfl lF' lN' ?_ ?_; (case Xz19 => k_asm)); (all_goals first | (intro i y t ys own C oC D m₂ s₂ h' tk' E' hi' hy' hJ' hC' ha' F' N' hDC' off'; clear lF' lN') | (intro D' h' tk' ts' hp' hn' he'; intro F' N'; clear lF' lN'; (try k_lt hn'); (with_reducible rw [List.nil_append] at N'))))
  k_with "subscriptTail Name Slice ref ref" => (k_here; (with_reducible rename (List.map _ _ = List.zipWith _ _ _) => hz9'); (with_reducible rename Fr _ _ _ _ => lF'); (with_reducible rename News _ _ _ _ => lN'); k_dflt (refine' slice_ints6 lF' lN' ?lz20 ?zz20 ?_ ?sz20 ?tz20; (case lz20 => k_mem); (case zz20 => exact nums_len hz9'); (case sz20 => with_unfolding_all rfl); (case tz20 => kmk_pure)); intro D' h' F' N' l1; clear lF' lN'; (try k_lt l1))
  k_with "exec For" => (k_dflt (k_here; (with_reducible show wpAny _ _ (exec (Stmt.For (Expr.Name (Str.ofString "number") _) _ _ _ _) _) _ _ _); ((with_reducible rename Fr _ _ _ _ => lF')); (with_unfolding_all refine' For_invVF lF' ?k1z21 ?k2z21 ?_; (case k1z21 => exact rfl); (case k2z21 => exact rfl); k_whole)))
  k_with "pyIter ref!" => (k_here; (with_reducible show wpAny _ _ (pyIter (Value.ref _)) (fun it s₂ => LoopAtV _ _ _ _ _ _ _ _ _ it s₂) _ _); (with_reducible rename Fr _ _ _ _ => lF'); (with_reducible rename News _ _ _ _ => lN'); k_dflt (refine' pick_loop6 (nums7 (by with_reducible assumption)) (by with_reducible assumption) rfl lF' lN' ?_ ?_); (all_goals first | (intro c i n t u h' tk own hn' hi' hb' hf' ho' hP' F' N'; clear lF' lN') | (intro row T e1 u h' tk hT' hr' F' N'; clear lF' lN')))
  k_with "call builtin:len" => (k_here; (with_reducible show wpAny _ _ (call (Value.builtin "len") [Value.ref _]) _ _ _); k_dflt (refine' len_sv2 ?kNz23 ?kmz23 ?k1z23 ?_; (case kNz23 => k_asm); (case kmz23 => k_mem); (case k1z23 => omega)))
  k_with "call builtin:list.append" => (k_dflt (k_here; (refine' strs_append ?kFz24 ?kNz24 ?kzz24 ?kUz24 ?_; (case kFz24 => k_asm); (case kNz24 => k_asm); (case kUz24 => k_upd); (case kzz24 => omega))); intro h' F' N')
  k_with "call builtin:list.pop" => (k_dflt (k_here; (with_reducible rename (0 ≤ Int.fmod _ _ ∧ _) => hf9'); (refine' pop_strs ?kFz25 ?kNz25 ?k0z25 ?k1z25 ?kzz25 ?kUz25 ?_; (case kFz25 => k_asm); (case kNz25 => k_asm); (case k0z25 => exact hf9'.1); (case k1z25 => exact hf9'.2); (case kzz25 => omega); (case kUz25 => k_upd))); intro h' y t hy' F' N')
  k_with "call ref" => (k_here; (with_reducible show wpAny _ _ (call (Value.ref 96) [Value.ref _]) _ _ _); (with_reducible rename RowC _ => hT9'); (with_reducible rename (List.map _ _ = List.map one _) => hr9'); k_dflt (refine' ranks _ _ _ _ _ (rankOk' hT9' hr9') _ _ _ _ _ _ _ _ _ _ _ _ _ _ _ _ _ _ _ _ _ ?k1z26 ?k2z26 ?k3z26 (front5 ?k4z26) ?k6z26 ?k5z26 ?kKz26 ?kdz26 ?kuz26 ?kqz26 ?_; (case k1z26 => exact below_caller _); (case k2z26 => k_asm); (case k3z26 => k_in); (case k4z26 => k_asm); (case k5z26 => k_asm); (case k6z26 => k_all); (case kKz26 => first | exact rfl | assumption); (case kdz26 => ktr_room); (case kuz26 => ktr_units); (case kqz26 => k_mem)); intro D9 o9 ps9 h9 tk9 kvs9 hd9 hf9 F9 N9 lo9 lt9; (try k_lt lt9); (try dsimp only); (try k_fold))
  k_with "compareOp Eq ref ref" => (k_here; (with_reducible rename RowC _ => hT9'); (with_reducible rename (List.map _ _ = List.map one _) => hr9'); k_dflt (refine' rank_some ?kNz27 ?kmz27 ?klz27 ?kdz27 ?kfz27 ?kez27 ?kl2z27 ?kd2z27 (row_six hT9' hr9') ?kuz27 ?_; (case kNz27 => k_asm); (case kmz27 => k_mem); (case klz27 => with_reducible assumption); (case kdz27 => with_reducible assumption); (case kfz27 => with_reducible assumption); (case kez27 => k_mem); (case kl2z27 => with_reducible assumption); (case kd2z27 => with_reducible assumption); (case kuz27 => ke_room)))
  k_with "call builtin:str.join" => (k_here; (with_reducible show wpAny _ _ (call (Value.builtin "str.join") [Value.str _ _, Value.ref _]) _ _ _); (with_reducible rename RowC _ => hT9'); (with_reducible rename (List.map _ _ = List.map one _) => hr9'); k_dflt (refine' join_sv ?kNz28 ?kmz28 rfl ?kxz28 (row_short hr9') (row_len hT9' hr9') ?_; (case kNz28 => k_asm); (case kmz28 => k_mem); (case kxz28 => exact len_empty)); intro t' tk')
  k_with "call ref" => (k_here; (with_reducible show wpAny _ _ (call (Value.ref 101) [Value.str _ _]) _ _ _); k_dflt (refine' ends_row _ _ _ _ ?hTz29 ?hxz29 _ _ _ _ _ _ _ _ _ _ _ _ _ _ _ _ _ _ _ _ _ ?k1z29 ?k2z29 ?k3z29 ?k4z29 ?k5z29 ?kKz29 ?kdz29 ?kuz29  ?_; (case k1z29 => k_asm); (case k2z29 => k_asm); (case k3z29 => k_in); (case k4z29 => k_asm); (case k5z29 => k_asm); (case kKz29 => first | exact rfl | assumption); (case kdz29 => ktr_room); (case kuz29 => ktr_units); (case hTz29 => with_reducible assumption); (case hxz29 => exact row_text (by with_reducible assumption)); intro t9 h9 tk9 F9 N9; (try dsimp only); (try k_fold)))
  k_with "call builtin:sorted" => (k_dflt (k_here; (with_reducible rename RowC _ => hT9'); (with_reducible rename (List.map _ _ = List.map one _) => hr9'); (with_unfolding_all refine' sort_rank hT9' hr9' ?kFz30 ?kNz30 ?kmz30 ?_ ?_; (case kFz30 => k_asm); (case kNz30 => k_asm); (case kmz30 => k_mem))); (all_goals first | (intro D' c h' tk' os hos' F' N' l1; (try k_lt l1)) | (intro x t hx9' h' tk own F' N')))
  k_with "subscriptTail" => (k_here; (with_reducible show wpAny _ _ (subscriptTail _ _ (Value.ref _) (Value.str _ _)) _ _ _); k_dflt (refine' rank_item ?kNz31 ?kmz31 ?klz31 ?kdz31 ?kfz31 ?kxz31 ?_; (case kNz31 => k_asm); (case kmz31 => k_mem); (case klz31 => assumption); (case kdz31 => with_reducible assumption); (case kfz31 => with_reducible assumption); (case kxz31 => with_reducible assumption)); intro t')
  k_with "call ref" => (k_here; kn_here; k_dflt (refine wpAny_call ?_; refine' kla_code ?k1z32 ?k2z32 ?k3z32 ?k4z32 ?k5z32 ?kAz32 ?kFz32 ?kKz32 ?k6z32 ?k7z32 ?k8z32 ?k9z32 ?kBz32 ?_ ?c2z32 ?c3z32 ?c4z32 ?c5z32; (case kAz32 => exact rfl); (case kFz32 => exact rfl); (case kKz32 => exact rfl); (case k1z32 => exact below_caller _); (case k2z32 => k_asm); (case k3z32 => k_asm); (case k4z32 => k_asm); (case k5z32 => k_asm); (case k6z32 => k_mem); (case k7z32 => exact codeRec_news (by k_asm) (by k_mem) (by assumption) (by assumption)); (case k8z32 => ktr_room); (case k9z32 => exact rfl); (case c5z32 => decide); (case kBz32 => exact locs rfl); (case c2z32 => exact rfl); (case c3z32 => exact rfl); (case c4z32 => exact rfl); k_whole; intro g' L' h' FG' F' N' B' X' T'; (try dsimp only); (try k_lift B'); (try k_fold)))
  k_with "IntK" => k_dflt (exact IntK.intro)
  k_with "exec Assign cons ListComp" => (k_dflt (k_here; (repeat (first | with_reducible exact hP.out | (with_reducible rename _ => h'; revert h')))))
  trivial
noncomputable def f3 : (P : Prop) ×' (P → f2.1) := by
  refine' mkP _ ?h
  case h =>
  intro hP
  dsimp only [f2, mkP]
  k_fill
  intros
  k_steps
  all_goals ((with_reducible rename Fr _ _ _ _ => F9); with_reducible rename News _ _ _ _ => N9)
  all_goals first
    | ((with_reducible show KeyEnd _ _ _ _ _ _ _ _); exact keyEnd F9 N9 (fun _ h => h) IntK.intro)
end Mine
-- F4
namespace Mine
theorem rows1_F4 : True := by
  k_with_none
  k_with "k_ne" => first | exact ne_l1 (by with_reducible assumption) | exact ne_r1 (by with_reducible assumption) | exact ne_l2 (by with_reducible assumption) | exact ne_r2 (by with_reducible assumption) | exact ne_l3 (by with_reducible assumption) | exact ne_r3 (by with_reducible assumption) | exact ne_l0 (by with_reducible assumption) | exact ne_r0 (by with_reducible assumption) | exact ne_l4 (by with_reducible assumption) | exact ne_r4 (by with_reducible assumption) | exact ne_l5 (by with_reducible assumption) | exact ne_r5 (by with_reducible assumption)
  k_with "ktr_room" => first | exact room_c 0 hd rfl | exact room_c 1 hd rfl | exact room_c 6 hd rfl | exact room_c 9 hd rfl | exact room_c 21 hd rfl | exact Nat.le_of_ble_eq_true rfl
  k_with "ktr_units" => first | exact room_c 43 hu rfl | exact room_c 63 hu rfl | exact room_c 203 hu rfl | exact Nat.le_of_ble_eq_true rfl
  k_with "call builtin:str.find" => (k_dflt (k_here; (with_reducible show wpAny _ _ (call (Value.builtin "str.find") [Value.str _ _, Value.str _ _, Value.int _ _, Value.int _ _]) _ _ _); refine call_find4 ?_))
  k_with "call builtin:str.rfind" => (k_dflt (k_here; (with_reducible show wpAny _ _ (call (Value.builtin "str.rfind") [Value.str _ _, Value.str _ _, Value.int _ _, Value.int _ _]) _ _ _); refine call_rfind4 ?_))
  k_with "call ref" => (k_here; refine wpAny_call ?_; k_dflt (refine' code_def ?k1z6 ?k2z6 ?k3z6 ?k4z6 ?k5z6 ?kAz6 ?kFz6 ?kKz6 ?k6z6 ?k7z6 ?k8z6 ?k9z6 ?kBz6 ?_ ?c2z6 ?c3z6 ?c4z6 ?c5z6; (case kAz6 => exact rfl); (case kFz6 => exact rfl); (case kKz6 => first | exact rfl | assumption); (case k1z6 => k_asm); (case k2z6 => k_asm); (case k3z6 => k_asm); (case k4z6 => k_asm); (case k5z6 => k_asm); (case k6z6 => k_is); (case k7z6 => k_is); (case k8z6 => ktr_room); (case k9z6 => exact BindsTo.of_eq rfl); (case c5z6 => decide); (case kBz6 => exact locs rfl); (case c2z6 => exact rfl); (case c3z6 => exact rfl); (case c4z6 => exact rfl); k_whole; intro g' L' h' FG' F' N' B' X' T'; (try dsimp only); (try k_lift B'); (try k_fold)))
  k_with "call ref" => (k_here; (with_reducible show wpAny _ _ (call (Value.ref 67) [Value.str _ _, Value.str _ _]) _ _ _); k_dflt (refine' strcoll _ _ _ _ _ _ _ _ _ _ _ _ _ _ _ _ _ _ _ _ _ _ _ _ _ _ ?k1z7 ?k2z7 ?k3z7 ?k4z7 ?k5z7 ?kKz7 ?kdz7 ?kuz7  ?_; (case k1z7 => k_asm); (case k2z7 => k_asm); (case k3z7 => k_in); (case k4z7 => k_asm); (case k5z7 => k_asm); (case kKz7 => first | exact rfl | assumption); (case kdz7 => ktr_room); (case kuz7 => ktr_units); intro t9 h9 tk9 F9 N9; (try dsimp only); (try k_fold)))
  k_with "call ref" => (k_here; (with_reducible show wpAny _ _ (call (Value.ref 84) [Value.int _ _]) _ _ _); k_dflt (refine' isterm _ _ _ _ _ _ _ _ _ _ _ _ _ _ _ _ _ _ _ _ _ _ _ _ ?k1z8 ?k2z8 ?k3z8 ?k4z8 ?k5z8 ?kKz8 ?kdz8 ?kuz8  ?_; (case k1z8 => k_asm); (case k2z8 => k_asm); (case k3z8 => k_in); (case k4z8 => k_asm); (case k5z8 => k_asm); (case kKz8 => first | exact rfl | assumption); (case kdz8 => ktr_room); (case kuz8 => ktr_units); intro t9 h9 tk9 F9 N9; (try dsimp only); (try k_fold)))
  k_with "call ref" => (k_here; (with_reducible show wpAny _ _ (call (Value.ref 91) [Value.int _ _]) _ _ _); k_dflt (refine' iseof _ _ _ _ _ _ _ _ _ _ _ _ _ _ _ _ _ _ _ _ _ _ _ _ ?k1z9 ?k2z9 ?k3z9 ?k4z9 ?k5z9 ?kKz9 ?kdz9 ?kuz9  ?_; (case k1z9 => k_asm); (case k2z9 => k_asm); (case k3z9 => k_in); (case k4z9 => k_asm); (case k5z9 => k_asm); (case kKz9 => first | exact rfl | assumption); (case kdz9 => ktr_room); (case kuz9 => ktr_units); intro t9 h9 tk9 F9 N9; (try dsimp only); (try k_fold)))
  k_with "call ref" => (k_here; (with_reducible show wpAny _ _ (call (Value.ref 28) [Value.str _ _]) _ _ _); k_dflt (refine' stripd _ _ _ ?hxz10 _ _ _ _ _ _ _ _ _ _ _ _ _ _ _ _ _ _ _ _ _ ?k1z10 ?k2z10 ?k3z10 ?k4z10 ?k5z10 ?kKz10 ?kdz10 ?kuz10  ?_; (case k1z10 => k_asm); (case k2z10 => k_asm); (case k3z10 => k_in); (case k4z10 => k_asm); (case k5z10 => k_asm); (case kKz10 => first | exact rfl | assumption); (case kdz10 => ktr_room); (case kuz10 => ktr_units); (case hxz10 => first | assumption | omega | size_fits); intro t9 h9 tk9 F9 N9; (try dsimp only); (try k_fold)))
  k_with "CompEnd" => (k_dflt (k_here; refine LCg.CompEnd.intro (by assumption) (by assumption) _ ?csubz11 (by assumption) (by assumption) ⟨rfl, ?_⟩; (case csubz11 => kcf_all)))
  k_with "k_all" => exact off_tail (by with_reducible assumption) (by omega)
  k_with "subscriptTail" => (k_dflt (k_here; (with_reducible show wpAny _ _ (subscriptTail _ _ (Value.ref 75) (Value.str _ _)) _ _ _); (refine' ett_item ?kXz13 ?khz13 ?_; (case kXz13 => k_in); (case khz13 => with_reducible assumption))); intro t')
  k_with "k_mem" => (refine List.mem_append_right _ ?_; k_mem)
  k_with "k_mem" => (refine List.mem_append_left _ ?_; k_mem)
  k_with "exec Assign cons ListComp" => (k_here; (with_reducible show wpAny _ _ (exec (Stmt.Assign _ (Expr.ListComp _ [⟨Expr.Tuple _ _ _, _, _, _⟩] _ _) _) _) _ _ _); k_dflt (refine Assign_ListComp_Z (by k_asm) rfl (by with_unfolding_all rfl) (by with_unfolding_all rfl) (by decide) (by rfl) (by decide) (by rfl) (by rfl) (by decide) (by rfl) (by rfl) ?_))
  k_with "call type:zip" => (k_here; (with_reducible rename Fr _ _ _ _ => lF'); (with_reducible rename News _ _ _ _ => lN'); k_dflt (refine' zip_nums (fun l x => l + x.fmod 1000000) ?cz17 ?dz17 rfl ?az17 ?bz17 ?zz17 lF' lN' ?_ ?_; (case az17 => k_mem); (case bz17 => k_mem); (case cz17 => l_ints); (case dz17 => l_ints); (case zz17 => (simp only [List.length_cons, List.length_nil]; omega))); (all_goals first | (intro i x y t u ys own C oC D m₂ s₂ h' tk' E' hi' hk' hJ' hC' ha' hb' F' N' hDC' off'; clear lF' lN') | (intro D' h' tk' ts' hp' hn' he'; intro F' N'; clear lF' lN'; (try k_lt hn'); (with_reducible rw [List.nil_append] at N'))))
  k_with "exec Assign cons ListComp" => (k_here; (with_reducible show wpAny _ _ (exec (Stmt.Assign _ (Expr.ListComp _ [⟨Expr.Name _ _, _, _, _⟩] _ _) _) _) _ _ _); k_dflt (refine' Assign_ListComp_N ?k1z18 ?k2z18 ?k3z18 ?k4z18 ?k5z18 ?k6z18 ?k7z18 ?k8z18 ?k9z18 ?k10z18 ?_ ?k12z18; (case k1z18 => k_asm); (case k2z18 => rfl); (case k3z18 => with_unfolding_all rfl); (case k4z18 => with_unfolding_all rfl); (case k5z18 => decide); (case k6z18 => rfl); (case k7z18 => decide); (case k8z18 => rfl); (case k9z18 => rfl); (case k10z18 => rfl); (case k12z18 => (intro _; rfl))))
  k_with "pyIter ref!" => (k_here; (with_reducible show wpAny _ _ (pyIter (Value.ref _)) (fun it s₂ => NAt _ _ _ _ _ _ _ _ _ _ _ _ _ _ _ it s₂) _ _); (with_reducible rename Fr _ _ _ _ => lF'); (with_reducible rename News _ _ _ _ => lN'); k_dflt (refine' sign_comp okSign ?Xz19 rfl lF' lN' ?_ ?_; (case Xz19 => k_asm)); (all_goals first | (intro i y t ys own C oC D m₂ s₂ h' tk' E' hi' hy' hJ' hC' ha' F' N' hDC' off'; clear lF' lN') | (intro D' h' tk' ts' hp' hn' he'; intro F' N'; clear lF' lN'; (try k_lt hn'); (with_reducible rw [List.nil_append] at N'))))
  k_with "subscriptTail Name Slice ref ref" => (k_here; (with_reducible rename (List.map _ _ = List.zipWith _ _ _) => hz9'); (with_reducible rename Fr _ _ _ _ => lF'); (with_reducible rename News _ _ _ _ => lN'); k_dflt (refine' slice_ints6 lF' lN' ?lz20 ?zz20 ?_ ?sz20 ?tz20; (case lz20 => k_mem); (case zz20 => exact nums_len hz9'); (case sz20 => with_unfolding_all rfl); (case tz20 => kmk_pure)); intro D' h' F' N' l1; clear lF' lN'; (try k_lt l1))
  k_with "exec For" => (k_dflt (k_here; (with_reducible show wpAny _ _ (exec (Stmt.For (Expr.Name (Str.ofString "number") _) _ _ _ _) _) _ _ _); ((with_reducible rename Fr _ _ _ _ => lF')); (with_unfolding_all refine' For_invVF lF' ?k1z21 ?k2z21 ?_; (case k1z21 => exact rfl); (case k2z21 => exact rfl); k_whole)))
  k_with "pyIter ref!" => (k_here; (with_reducible show wpAny _ _ (pyIter (Value.ref _)) (fun it s₂ => LoopAtV _ _ _ _ _ _ _ _ _ it s₂) _ _); (with_reducible rename Fr _ _ _ _ => lF'); (with_reducible rename News _ _ _ _ => lN'); k_dflt (refine' pick_loop6 (nums7 (by with_reducible assumption)) (by with_reducible assumption) rfl lF' lN' ?_ ?_); (all_goals first | (intro c i n t u h' tk own hn' hi' hb' hf' ho' hP' F' N'; clear lF' lN') | (intro row T e1 u h' tk hT' hr' F' N'; clear lF' lN')))
  k_with "call builtin:len" => (k_here; (with_reducible show wpAny _ _ (call (Value.builtin "len") [Value.ref _]) _ _ _); k_dflt (refine' len_sv2 ?kNz23 ?kmz23 ?k1z23 ?_; (case kNz23 => k_asm); (case kmz23 => k_mem); (case k1z23 => omega)))
  k_with "call builtin:list.append" => (k_dflt (k_here; (refine' strs_append ?kFz24 ?kNz24 ?kzz24 ?kUz24 ?_; (case kFz24 => k_asm); (case kNz24 => k_asm); (case kUz24 => k_upd); (case kzz24 => omega))); intro h' F' N')
  k_with "call builtin:list.pop" => (k_dflt (k_here; (with_reducible rename (0 ≤ Int.fmod _ _ ∧ _) => hf9'); (refine' pop_strs ?kFz25 ?kNz25 ?k0z25 ?k1z25 ?kzz25 ?kUz25 ?_; (case kFz25 => k_asm); (case kNz25 => k_asm); (case k0z25 => exact hf9'.1); (case k1z25 => exact hf9'.2); (case kzz25 => omega); (case kUz25 => k_upd))); intro h' y t hy' F' N')
  k_with "call ref" => (k_here; (with_reducible show wpAny _ _ (call (Value.ref 96) [Value.ref _]) _ _ _); (with_reducible rename RowC _ => hT9'); (with_reducible rename (List.map _ _ = List.map one _) => hr9'); k_dflt (refine' ranks _ _ _ _ _ (rankOk' hT9' hr9') _ _ _ _ _ _ _ _ _ _ _ _ _ _ _ _ _ _ _ _ _ ?k1z26 ?k2z26 ?k3z26 (front5 ?k4z26) ?k6z26 ?k5z26 ?kKz26 ?kdz26 ?kuz26 ?kqz26 ?_; (case k1z26 => exact below_caller _); (case k2z26 => k_asm); (case k3z26 => k_in); (case k4z26 => k_asm); (case k5z26 => k_asm); (case k6z26 => k_all); (case kKz26 => first | exact rfl | assumption); (case kdz26 => ktr_room); (case kuz26 => ktr_units); (case kqz26 => k_mem)); intro D9 o9 ps9 h9 tk9 kvs9 hd9 hf9 F9 N9 lo9 lt9; (try k_lt lt9); (try dsimp only); (try k_fold))
  k_with "compareOp Eq ref ref" => (k_here; (with_reducible rename RowC _ => hT9'); (with_reducible rename (List.map _ _ = List.map one _) => hr9'); k_dflt (refine' rank_some ?kNz27 ?kmz27 ?klz27 ?kdz27 ?kfz27 ?kez27 ?kl2z27 ?kd2z27 (row_six hT9' hr9') ?kuz27 ?_; (case kNz27 => k_asm); (case kmz27 => k_mem); (case klz27 => with_reducible assumption); (case kdz27 => with_reducible assumption); (case kfz27 => with_reducible assumption); (case kez27 => k_mem); (case kl2z27 => with_reducible assumption); (case kd2z27 => with_reducible assumption); (case kuz27 => ke_room)))
  k_with "call builtin:str.join" => (k_here; (with_reducible show wpAny _ _ (call (Value.builtin "str.join") [Value.str _ _, Value.ref _]) _ _ _); (with_reducible rename RowC _ => hT9'); (with_reducible rename (List.map _ _ = List.map one _) => hr9'); k_dflt (refine' join_sv ?kNz28 ?kmz28 rfl ?kxz28 (row_short hr9') (row_len hT9' hr9') ?_; (case kNz28 => k_asm); (case kmz28 => k_mem); (case kxz28 => exact len_empty)); intro t' tk')
  k_with "call ref" => (k_here; (with_reducible show wpAny _ _ (call (Value.ref 101) [Value.str _ _]) _ _ _); k_dflt (refine' ends_row _ _ _ _ ?hTz29 ?hxz29 _ _ _ _ _ _ _ _ _ _ _ _ _ _ _ _ _ _ _ _ _ ?k1z29 ?k2z29 ?k3z29 ?k4z29 ?k5z29 ?kKz29 ?kdz29 ?kuz29  ?_; (case k1z29 => k_asm); (case k2z29 => k_asm); (case k3z29 => k_in); (case k4z29 => k_asm); (case k5z29 => k_asm); (case kKz29 => first | exact rfl | assumption); (case kdz29 => ktr_room); (case kuz29 => ktr_units); (case hTz29 => with_reducible assumption); (case hxz29 => exact row_text (by with_reducible assumption)); intro t9 h9 tk9 F9 N9; (try dsimp only); (try k_fold)))
  k_with "call builtin:sorted" => (k_dflt (k_here; (with_reducible rename RowC _ => hT9'); (with_reducible rename (List.map _ _ = List.map one _) => hr9'); (with_unfolding_all refine' sort_rank hT9' hr9' ?kFz30 ?kNz30 ?kmz30 ?_ ?_; (case kFz30 => k_asm); (case kNz30 => k_asm); (case kmz30 => k_mem))); (all_goals first | (intro D' c h' tk' os hos' F' N' l1; (try k_lt l1)) | (intro x t hx9' h' tk own F' N')))
  k_with "subscriptTail" => (k_here; (with_reducible show wpAny _ _ (subscriptTail _ _ (Value.ref _) (Value.str _ _)) _ _ _); k_dflt (refine' rank_item ?kNz31 ?kmz31 ?klz31 ?kdz31 ?kfz31 ?kxz31 ?_; (case kNz31 => k_asm); (case kmz31 => k_mem); (case klz31 => assumption); (case kdz31 => with_reducible assumption); (case kfz31 => with_reducible assumption); (case kxz31 => with_reducible assumption)); intro t')
  k_with "call ref" => (k_here; kn_here; k_dflt (refine wpAny_call ?_; refine' kla_code ?k1z32 ?k2z32 ?k3z32 ?k4z32 ?k5z32 ?kAz32 ?kFz32 ?kKz32 ?k6z32 ?k7z32 ?k8z32 ?k9z32 ?kBz32 ?_ ?c2z32 ?c3z32 ?c4z32 ?c5z32; (case kAz32 => exact rfl); (case kFz32 => exact rfl); (case kKz32 => exact rfl); (case k1z32 => exact below_caller _); (case k2z32 => k_asm); (case k3z32 => k_asm); (case k4z32 => k_asm); (case k5z32 => k_asm); (case k6z32 => k_mem); (case k7z32 => exact codeRec_news (by k_asm) (by k_mem) (by assumption) (by assumption)); (case k8z32 => ktr_room); (case k9z32 => exact rfl); (case c5z32 => decide); (case kBz32 => exact locs rfl); (case c2z32 => exact rfl); (case c3z32 => exact rfl); (case c4z32 => exact rfl); k_whole; intro g' L' h' FG' F' N' B' X' T'; (try dsimp only); (try k_lift B'); (try k_fold)))
  k_with "IntK" => k_dflt (exact IntK.intro)
  k_with "exec Assign cons ListComp" => (k_here; (with_reducible show wpAny _ _ (exec (Stmt.Assign [Expr.Name (Str.ofString "names") _] _ _) _) _ _ _); k_dflt (refine wpAny_Assign_Name ?_))
  k_with "eval ListComp" => (k_here; (with_reducible show wpAny _ _ (eval (Expr.ListComp _ [⟨Expr.Tuple _ _ _, _, _, _⟩] _ _) _) _ _ _); k_dflt (refine ListComp_Z (by k_asm) (by with_unfolding_all rfl) (by decide) (by rfl) (by decide) (by rfl) (by rfl) (by decide) ?_))
  k_with "call type:enumerate" => (k_here; (with_reducible rename Fr _ _ _ _ => lF'); (with_reducible rename News _ _ _ _ => lN'); (with_reducible rename RowC _ => hT9'); (with_reducible rename (List.map _ _ = List.map one (ordC _)) => hos9'); k_dflt (refine' names_enum hT9' hos9' rfl ?hlz36 lF' lN' ?_ ?_; (case hlz36 => k_mem)); (all_goals first | (intro i t y ty ys own C oC D m₂ s₂ h' tk' E' hi' hi6' hy' hJ' hC' ha' hb' F' N' hDC' off'; clear lF' lN') | (intro D' h' tk' ts' hp' hn' hnm'; intro F' N'; clear lF' lN'; (try k_lt hn'); (with_reducible rw [List.nil_append] at N'))))
  k_with "binaryOp Mult str int" => (k_here; (with_reducible show wpAny _ _ (binaryOp Operator.Mult (Value.str _ _) (Value.int (List.getD _ _ _) _)) _ _ _); k_dflt (refine' name_mul ?hyz37 ?_; (case hyz37 => with_reducible assumption)); intro t' tk')
  k_with "pyIter ref!" => (k_here; (with_reducible show wpAny _ _ (pyIter (Value.ref _)) (fun it s₂ => NAt _ _ _ _ _ _ _ _ (Expr.Subscript _ _ _) _ _ _ _ _ _ it s₂) _ _); (with_reducible rename Fr _ _ _ _ => lF'); (with_reducible rename News _ _ _ _ => lN'); (with_reducible rename RowC _ => hT9'); (with_reducible rename (List.map _ _ = List.map one _) => hr9'); (with_reducible rename (List.map _ _ = nameL _) => hn9'); k_dflt (refine' called_comp hT9' ?hrz38 hn9' rfl ?hlz38 lF' lN' ?_ ?_; (case hlz38 => k_mem); (case hrz38 => with_reducible assumption)); (all_goals first | (intro i x t ys own C oC D' m₂ s₂ h' tk' E' hx' hg' hz' hJ' hC' ha' F' N' hDC' off'; clear lF' lN') | (intro D' h' tk' ts' hp' hn' hc'; intro F' N'; clear lF' lN'; (try k_lt hn'); (with_reducible rw [List.nil_append] at N'))))
  k_with "subscriptTail" => (k_here; (with_reducible show wpAny _ _ (subscriptTail _ _ (Value.ref _) (Value.int (Nat.cast (gOf _ _)) _)) _ _ _); k_dflt (refine' item_strs6 ?kNz39 ?kmz39 ?k1z39 ?k2z39 ?_; (case kNz39 => k_asm); (case kmz39 => k_mem); (case k1z39 => first | exact (by with_reducible assumption : _ ∧ _).1 | omega); (case k2z39 => first | exact (by with_reducible assumption : _ ∧ _).2 | omega)); intro nx' nt' hnx')
  k_with "subscriptTail" => (k_here; (with_reducible show wpAny _ _ (subscriptTail (Expr.Name _ _) (Expr.Constant (Const.int 6) _ _) (Value.ref _) (Value.int _ _)) _ _ _); k_dflt (refine' item_num6 (nums7 (by with_reducible assumption)) ?kNz40 ?kmz40 ?_; (case kNz40 => k_asm); (case kmz40 => k_mem)); intro n6' t6' h6')
  k_with "subscriptTail" => (k_here; (with_reducible show wpAny _ _ (subscriptTail _ _ (Value.ref _) (Value.int (Int.fmod _ 4) _)) _ _ _); k_dflt (refine' item_behind ?kNz41 ?kmz41 ?_; (case kNz41 => k_asm); (case kmz41 => exact List.Mem.head _)); intro tb' hb')
  k_with "exec Assign cons ListComp" => (k_dflt (k_here; (with_reducible show wpAny _ _ (exec (Stmt.Assign [Expr.Name (Str.ofString "fronts") _] _ _) _) _ _ _); (repeat (first | with_reducible exact hP.out | (with_reducible rename _ => h'; revert h')))))
  trivial
noncomputable def f4 : (P : Prop) ×' (P → f3.1) := by
  refine' mkP _ ?h
  case h =>
  intro hP
  dsimp only [f3, mkP]
  k_fill
  intros
  k_steps
  all_goals ((with_reducible rename Fr _ _ _ _ => F9); with_reducible rename News _ _ _ _ => N9)
  all_goals first
    | ((with_reducible rename NameJ _ _ _ _ => hJ9); exact name_end F9 N9 hJ9 (by with_reducible assumption) (fun p hp => .tail _ hp))
    | ((with_reducible rename StrJ _ _ _ _ => hJ9); (with_reducible rename (∀ z tz, _ = some (z, tz) → (CL _)[_]? = some z) => hz9); exact cendS F9 N9 hJ9 (hz9 _ _ (by with_reducible assumption)) (fun p hp => hp))
end Mine
-- F5
namespace Mine
theorem rows1_F5 : True := by
  k_with_none
  k_with "k_ne" => first | exact ne_l1 (by with_reducible assumption) | exact ne_r1 (by with_reducible assumption) | exact ne_l2 (by with_reducible assumption) | exact ne_r2 (by with_reducible assumption) | exact ne_l3 (by with_reducible assumption) | exact ne_r3 (by with_reducible assumption) | exact ne_l0 (by with_reducible assumption) | exact ne_r0 (by with_reducible assumption) | exact ne_l4 (by with_reducible assumption) | exact ne_r4 (by with_reducible assumption) | exact ne_l5 (by with_reducible assumption) | exact ne_r5 (by with_reducible assumption)
  k_with "ktr_room" => first | exact room_c 0 hd rfl | exact room_c 1 hd rfl | exact room_c 6 hd rfl | exact room_c 9 hd rfl | exact room_c 21 hd rfl | exact Nat.le_of_ble_eq_true rfl
  k_with "ktr_units" => first | exact room_c 43 hu rfl | exact room_c 63 hu rfl | exact room_c 203 hu rfl | exact Nat.le_of_ble_eq_true rfl
  k_with "call builtin:str.find" => (k_dflt (k_here; (with_reducible show wpAny _ _ (call (Value.builtin "str.find") [Value.str _ _, Value.str _ _, Value.int _ _, Value.int _ _]) _ _ _); refine call_find4 ?_))
  k_with "call builtin:str.rfind" => (k_dflt (k_here; (with_reducible show wpAny _ _ (call (Value.builtin "str.rfind") [Value.str _ _, Value.str _ _, Value.int _ _, Value.int _ _]) _ _ _); refine call_rfind4 ?_))
  k_with "call ref" => (k_here; refine wpAny_call ?_; k_dflt (refine' code_def ?k1z6 ?k2z6 ?k3z6 ?k4z6 ?k5z6 ?kAz6 ?kFz6 ?kKz6 ?k6z6 ?k7z6 ?k8z6 ?k9z6 ?kBz6 ?_ ?c2z6 ?c3z6 ?c4z6 ?c5z6; (case kAz6 => exact rfl); (case kFz6 => exact rfl); (case kKz6 => first | exact rfl | assumption); (case k1z6 => k_asm); (case k2z6 => k_asm); (case k3z6 => k_asm); (case k4z6 => k_asm); (case k5z6 => k_asm); (case k6z6 => k_is); (case k7z6 => k_is); (case k8z6 => ktr_room); (case k9z6 => exact BindsTo.of_eq rfl); (case c5z6 => decide); (case kBz6 => exact locs rfl); (case c2z6 => exact rfl); (case c3z6 => exact rfl); (case c4z6 => exact rfl); k_whole; intro g' L' h' FG' F' N' B' X' T'; (try dsimp only); (try k_lift B'); (try k_fold)))
  k_with "call ref" => (k_here; (with_reducible show wpAny _ _ (call (Value.ref 67) [Value.str _ _, Value.str _ _]) _ _ _); k_dflt (refine' strcoll _ _ _ _ _ _ _ _ _ _ _ _ _ _ _ _ _ _ _ _ _ _ _ _ _ _ ?k1z7 ?k2z7 ?k3z7 ?k4z7 ?k5z7 ?kKz7 ?kdz7 ?kuz7  ?_; (case k1z7 => k_asm); (case k2z7 => k_asm); (case k3z7 => k_in); (case k4z7 => k_asm); (case k5z7 => k_asm); (case kKz7 => first | exact rfl | assumption); (case kdz7 => ktr_room); (case kuz7 => ktr_units); intro t9 h9 tk9 F9 N9; (try dsimp only); (try k_fold)))
  k_with "call ref" => (k_here; (with_reducible show wpAny _ _ (call (Value.ref 84) [Value.int _ _]) _ _ _); k_dflt (refine' isterm _ _ _ _ _ _ _ _ _ _ _ _ _ _ _ _ _ _ _ _ _ _ _ _ ?k1z8 ?k2z8 ?k3z8 ?k4z8 ?k5z8 ?kKz8 ?kdz8 ?kuz8  ?_; (case k1z8 => k_asm); (case k2z8 => k_asm); (case k3z8 => k_in); (case k4z8 => k_asm); (case k5z8 => k_asm); (case kKz8 => first | exact rfl | assumption); (case kdz8 => ktr_room); (case kuz8 => ktr_units); intro t9 h9 tk9 F9 N9; (try dsimp only); (try k_fold)))
  k_with "call ref" => (k_here; (with_reducible show wpAny _ _ (call (Value.ref 91) [Value.int _ _]) _ _ _); k_dflt (refine' iseof _ _ _ _ _ _ _ _ _ _ _ _ _ _ _ _ _ _ _ _ _ _ _ _ ?k1z9 ?k2z9 ?k3z9 ?k4z9 ?k5z9 ?kKz9 ?kdz9 ?kuz9  ?_; (case k1z9 => k_asm); (case k2z9 => k_asm); (case k3z9 => k_in); (case k4z9 => k_asm); (case k5z9 => k_asm); (case kKz9 => first | exact rfl | assumption); (case kdz9 => ktr_room); (case kuz9 => ktr_units); intro t9 h9 tk9 F9 N9; (try dsimp only); (try k_fold)))
  k_with "call ref" => (k_here; (with_reducible show wpAny _ _ (call (Value.ref 28) [Value.str _ _]) _ _ _); k_dflt (refine' stripd _ _ _ ?hxz10 _ _ _ _ _ _ _ _ _ _ _ _ _ _ _ _ _ _ _ _ _ ?k1z10 ?k2z10 ?k3z10 ?k4z10 ?k5z10 ?kKz10 ?kdz10 ?kuz10  ?_; (case k1z10 => k_asm); (case k2z10 => k_asm); (case k3z10 => k_in); (case k4z10 => k_asm); (case k5z10 => k_asm); (case kKz10 => first | exact rfl | assumption); (case kdz10 => ktr_room); (case kuz10 => ktr_units); (case hxz10 => first | assumption | omega | size_fits); intro t9 h9 tk9 F9 N9; (try dsimp only); (try k_fold)))
  k_with "CompEnd" => (k_dflt (k_here; refine LCg.CompEnd.intro (by assumption) (by assumption) _ ?csubz11 (by assumption) (by assumption) ⟨rfl, ?_⟩; (case csubz11 => kcf_all)))
  k_with "k_all" => exact off_tail (by with_reducible assumption) (by omega)
  k_with "subscriptTail" => (k_dflt (k_here; (with_reducible show wpAny _ _ (subscriptTail _ _ (Value.ref 75) (Value.str _ _)) _ _ _); (refine' ett_item ?kXz13 ?khz13 ?_; (case kXz13 => k_in); (case khz13 => with_reducible assumption))); intro t')
  k_with "k_mem" => (refine List.mem_append_right _ ?_; k_mem)
  k_with "k_mem" => (refine List.mem_append_left _ ?_; k_mem)
  k_with "exec Assign cons ListComp" => (k_here; (with_reducible show wpAny _ _ (exec (Stmt.Assign _ (Expr.ListComp _ [⟨Expr.Tuple _ _ _, _, _, _⟩] _ _) _) _) _ _ _); k_dflt (refine Assign_ListComp_Z (by k_asm) rfl (by with_unfolding_all rfl) (by with_unfolding_all rfl) (by decide) (by rfl) (by decide) (by rfl) (by rfl) (by decide) (by rfl) (by rfl) ?_))
  k_with "call type:zip" => (k_here; (with_reducible rename Fr _ _ _ _ => lF'); (with_reducible rename News _ _ _ _ => lN'); k_dflt (refine' zip_nums (fun l x => l + x.fmod 1000000) ?cz17 ?dz17 rfl ?az17 ?bz17 ?zz17 lF' lN' ?_ ?_; (case az17 => k_mem); (case bz17 => k_mem); (case cz17 => l_ints); (case dz17 => l_ints); (case zz17 => (simp only [List.length_cons, List.length_nil]; omega))); (all_goals first | (intro i x y t u ys own C oC D m₂ s₂ h' tk' E' hi' hk' hJ' hC' ha' hb' F' N' hDC' off'; clear lF' lN') | (intro D' h' tk' ts' hp' hn' he'; intro F' N'; clear lF' lN'; (try k_lt hn'); (with_reducible rw [List.nil_append] at N'))))
  k_with "exec Assign cons ListComp" => (k_here; (with_reducible show wpAny _ _ (exec (Stmt.Assign _ (Expr.ListComp _ [⟨Expr.Name _ _, _, _, _⟩] _ _) _) _) _ _ _); k_dflt (refine' Assign_ListComp_N ?k1z18 ?k2z18 ?k3z18 ?k4z18 ?k5z18 ?k6z18 ?k7z18 ?k8z18 ?k9z18 ?k10z18 ?_ ?k12z18; (case k1z18 => k_asm); (case k2z18 => rfl); (case k3z18 => with_unfolding_all rfl); (case k4z18 => with_unfolding_all rfl); (case k5z18 => decide); (case k6z18 => rfl); (case k7z18 => decide); (case k8z18 => rfl); (case k9z18 => rfl); (case k10z18 => rfl); (case k12z18 => (intro _; rfl))))
  k_with "pyIter ref!" => (k_here; (with_reducible show wpAny _ _ (pyIter (Value.ref _)) (fun it s₂ => NAt _ _ _ _ _ _ _ _ _ _ _ _ _ _ _ it s₂) _ _); (with_reducible rename Fr _ _ _ _ => lF'); (with_reducible rename News _ _ _ _ => lN'); k_dflt (refine' sign_comp okSign ?Xz19 rfl lF' lN' ?_ ?_; (case Xz19 => k_asm)); (all_goals first | (intro i y t ys own C oC D m₂ s₂ h' tk' E' hi' hy' hJ' hC' ha' F' N' hDC' off'; clear lF' lN') | (intro D' h' tk' ts' hp' hn' he'; intro F' N'; clear lF' lN'; (try k_lt hn'); (with_reducible rw [List.nil_append] at N'))))
  k_with "subscriptTail Name Slice ref ref" => (k_here; (with_reducible rename (List.map _ _ = List.zipWith _ _ _) => hz9'); (with_reducible rename Fr _ _ _ _ => lF'); (with_reducible rename News _ _ _ _ => lN'); k_dflt (refine' slice_ints6 lF' lN' ?lz20 ?zz20 ?_ ?sz20 ?tz20; (case lz20 => k_mem); (case zz20 => exact nums_len hz9'); (case sz20 => with_unfolding_all rfl); (case tz20 => kmk_pure)); intro D' h' F' N' l1; clear lF' lN'; (try k_lt l1))
  k_with "exec For" => (k_dflt (k_here; (with_reducible show wpAny _ _ (exec (Stmt.For (Expr.Name (Str.ofString "number") _) _ _ _ _) _) _ _ _); ((with_reducible rename Fr _ _ _ _ => lF')); (with_unfolding_all refine' For_invVF lF' ?k1z21 ?k2z21 ?_; (case k1z21 => exact rfl); (case k2z21 => exact rfl); k_whole)))
  k_with "pyIter ref!" => (k_here; (with_reducible show wpAny _ _ (pyIter (Value.ref _)) (fun it s₂ => LoopAtV _ _ _ _ _ _ _ _ _ it s₂) _ _); (with_reducible rename Fr _ _ _ _ => lF'); (with_reducible rename News _ _ _ _ => lN'); k_dflt (refine' pick_loop6 (nums7 (by with_reducible assumption)) (by with_reducible assumption) rfl lF' lN' ?_ ?_); (all_goals first | (intro c i n t u h' tk own hn' hi' hb' hf' ho' hP' F' N'; clear lF' lN') | (intro row T e1 u h' tk hT' hr' F' N'; clear lF' lN')))
  k_with "call builtin:len" => (k_here; (with_reducible show wpAny _ _ (call (Value.builtin "len") [Value.ref _]) _ _ _); k_dflt (refine' len_sv2 ?kNz23 ?kmz23 ?k1z23 ?_; (case kNz23 => k_asm); (case kmz23 => k_mem); (case k1z23 => omega)))
  k_with "call builtin:list.append" => (k_dflt (k_here; (refine' strs_append ?kFz24 ?kNz24 ?kzz24 ?kUz24 ?_; (case kFz24 => k_asm); (case kNz24 => k_asm); (case kUz24 => k_upd); (case kzz24 => omega))); intro h' F' N')
  k_with "call builtin:list.pop" => (k_dflt (k_here; (with_reducible rename (0 ≤ Int.fmod _ _ ∧ _) => hf9'); (refine' pop_strs ?kFz25 ?kNz25 ?k0z25 ?k1z25 ?kzz25 ?kUz25 ?_; (case kFz25 => k_asm); (case kNz25 => k_asm); (case k0z25 => exact hf9'.1); (case k1z25 => exact hf9'.2); (case kzz25 => omega); (case kUz25 => k_upd))); intro h' y t hy' F' N')
  k_with "call ref" => (k_here; (with_reducible show wpAny _ _ (call (Value.ref 96) [Value.ref _]) _ _ _); (with_reducible rename RowC _ => hT9'); (with_reducible rename (List.map _ _ = List.map one _) => hr9'); k_dflt (refine' ranks _ _ _ _ _ (rankOk' hT9' hr9') _ _ _ _ _ _ _ _ _ _ _ _ _ _ _ _ _ _ _ _ _ ?k1z26 ?k2z26 ?k3z26 (front5 ?k4z26) ?k6z26 ?k5z26 ?kKz26 ?kdz26 ?kuz26 ?kqz26 ?_; (case k1z26 => exact below_caller _); (case k2z26 => k_asm); (case k3z26 => k_in); (case k4z26 => k_asm); (case k5z26 => k_asm); (case k6z26 => k_all); (case kKz26 => first | exact rfl | assumption); (case kdz26 => ktr_room); (case kuz26 => ktr_units); (case kqz26 => k_mem)); intro D9 o9 ps9 h9 tk9 kvs9 hd9 hf9 F9 N9 lo9 lt9; (try k_lt lt9); (try dsimp only); (try k_fold))
  k_with "compareOp Eq ref ref" => (k_here; (with_reducible rename RowC _ => hT9'); (with_reducible rename (List.map _ _ = List.map one _) => hr9'); k_dflt (refine' rank_some ?kNz27 ?kmz27 ?klz27 ?kdz27 ?kfz27 ?kez27 ?kl2z27 ?kd2z27 (row_six hT9' hr9') ?kuz27 ?_; (case kNz27 => k_asm); (case kmz27 => k_mem); (case klz27 => with_reducible assumption); (case kdz27 => with_reducible assumption); (case kfz27 => with_reducible assumption); (case kez27 => k_mem); (case kl2z27 => with_reducible assumption); (case kd2z27 => with_reducible assumption); (case kuz27 => ke_room)))
  k_with "call builtin:str.join" => (k_here; (with_reducible show wpAny _ _ (call (Value.builtin "str.join") [Value.str _ _, Value.ref _]) _ _ _); (with_reducible rename RowC _ => hT9'); (with_reducible rename (List.map _ _ = List.map one _) => hr9'); k_dflt (refine' join_sv ?kNz28 ?kmz28 rfl ?kxz28 (row_short hr9') (row_len hT9' hr9') ?_; (case kNz28 => k_asm); (case kmz28 => k_mem); (case kxz28 => exact len_empty)); intro t' tk')
  k_with "call ref" => (k_here; (with_reducible show wpAny _ _ (call (Value.ref 101) [Value.str _ _]) _ _ _); k_dflt (refine' ends_row _ _ _ _ ?hTz29 ?hxz29 _ _ _ _ _ _ _ _ _ _ _ _ _ _ _ _ _ _ _ _ _ ?k1z29 ?k2z29 ?k3z29 ?k4z29 ?k5z29 ?kKz29 ?kdz29 ?kuz29  ?_; (case k1z29 => k_asm); (case k2z29 => k_asm); (case k3z29 => k_in); (case k4z29 => k_asm); (case k5z29 => k_asm); (case kKz29 => first | exact rfl | assumption); (case kdz29 => ktr_room); (case kuz29 => ktr_units); (case hTz29 => with_reducible assumption); (case hxz29 => exact row_text (by with_reducible assumption)); intro t9 h9 tk9 F9 N9; (try dsimp only); (try k_fold)))
  k_with "call builtin:sorted" => (k_dflt (k_here; (with_reducible rename RowC _ => hT9'); (with_reducible rename (List.map _ _ = List.map one _) => hr9'); (with_unfolding_all refine' sort_rank hT9' hr9' ?kFz30 ?kNz30 ?kmz30 ?_ ?_; (case kFz30 => k_asm); (case kNz30 => k_asm); (case kmz30 => k_mem))); (all_goals first | (intro D' c h' tk' os hos' F' N' l1; (try k_lt l1)) | (intro x t hx9' h' tk own F' N')))
  k_with "subscriptTail" => (k_here; (with_reducible show wpAny _ _ (subscriptTail _ _ (Value.ref _) (Value.str _ _)) _ _ _); k_dflt (refine' rank_item ?kNz31 ?kmz31 ?klz31 ?kdz31 ?kfz31 ?kxz31 ?_; (case kNz31 => k_asm); (case kmz31 => k_mem); (case klz31 => assumption); (case kdz31 => with_reducible assumption); (case kfz31 => with_reducible assumption); (case kxz31 => with_reducible assumption)); intro t')
  k_with "call ref" => (k_here; kn_here; k_dflt (refine wpAny_call ?_; refine' kla_code ?k1z32 ?k2z32 ?k3z32 ?k4z32 ?k5z32 ?kAz32 ?kFz32 ?kKz32 ?k6z32 ?k7z32 ?k8z32 ?k9z32 ?kBz32 ?_ ?c2z32 ?c3z32 ?c4z32 ?c5z32; (case kAz32 => exact rfl); (case kFz32 => exact rfl); (case kKz32 => exact rfl); (case k1z32 => exact below_caller _); (case k2z32 => k_asm); (case k3z32 => k_asm); (case k4z32 => k_asm); (case k5z32 => k_asm); (case k6z32 => k_mem); (case k7z32 => exact codeRec_news (by k_asm) (by k_mem) (by assumption) (by assumption)); (case k8z32 => ktr_room); (case k9z32 => exact rfl); (case c5z32 => decide); (case kBz32 => exact locs rfl); (case c2z32 => exact rfl); (case c3z32 => exact rfl); (case c4z32 => exact rfl); k_whole; intro g' L' h' FG' F' N' B' X' T'; (try dsimp only); (try k_lift B'); (try k_fold)))
  k_with "IntK" => k_dflt (exact IntK.intro)
  k_with "exec Assign cons ListComp" => (k_here; (with_reducible show wpAny _ _ (exec (Stmt.Assign [Expr.Name (Str.ofString "names") _] _ _) _) _ _ _); k_dflt (refine wpAny_Assign_Name ?_))
  k_with "eval ListComp" => (k_here; (with_reducible show wpAny _ _ (eval (Expr.ListComp _ [⟨Expr.Tuple _ _ _, _, _, _⟩] _ _) _) _ _ _); k_dflt (refine ListComp_Z (by k_asm) (by with_unfolding_all rfl) (by decide) (by rfl) (by decide) (by rfl) (by rfl) (by decide) ?_))
  k_with "call type:enumerate" => (k_here; (with_reducible rename Fr _ _ _ _ => lF'); (with_reducible rename News _ _ _ _ => lN'); (with_reducible rename RowC _ => hT9'); (with_reducible rename (List.map _ _ = List.map one (ordC _)) => hos9'); k_dflt (refine' names_enum hT9' hos9' rfl ?hlz36 lF' lN' ?_ ?_; (case hlz36 => k_mem)); (all_goals first | (intro i t y ty ys own C oC D m₂ s₂ h' tk' E' hi' hi6' hy' hJ' hC' ha' hb' F' N' hDC' off'; clear lF' lN') | (intro D' h' tk' ts' hp' hn' hnm'; intro F' N'; clear lF' lN'; (try k_lt hn'); (with_reducible rw [List.nil_append] at N'))))
  k_with "binaryOp Mult str int" => (k_here; (with_reducible show wpAny _ _ (binaryOp Operator.Mult (Value.str _ _) (Value.int (List.getD _ _ _) _)) _ _ _); k_dflt (refine' name_mul ?hyz37 ?_; (case hyz37 => with_reducible assumption)); intro t' tk')
  k_with "pyIter ref!" => (k_here; (with_reducible show wpAny _ _ (pyIter (Value.ref _)) (fun it s₂ => NAt _ _ _ _ _ _ _ _ (Expr.Subscript _ _ _) _ _ _ _ _ _ it s₂) _ _); (with_reducible rename Fr _ _ _ _ => lF'); (with_reducible rename News _ _ _ _ => lN'); (with_reducible rename RowC _ => hT9'); (with_reducible rename (List.map _ _ = List.map one _) => hr9'); (with_reducible rename (List.map _ _ = nameL _) => hn9'); k_dflt (refine' called_comp hT9' ?hrz38 hn9' rfl ?hlz38 lF' lN' ?_ ?_; (case hlz38 => k_mem); (case hrz38 => with_reducible assumption)); (all_goals first | (intro i x t ys own C oC D' m₂ s₂ h' tk' E' hx' hg' hz' hJ' hC' ha' F' N' hDC' off'; clear lF' lN') | (intro D' h' tk' ts' hp' hn' hc'; intro F' N'; clear lF' lN'; (try k_lt hn'); (with_reducible rw [List.nil_append] at N'))))
  k_with "subscriptTail" => (k_here; (with_reducible show wpAny _ _ (subscriptTail _ _ (Value.ref _) (Value.int (Nat.cast (gOf _ _)) _)) _ _ _); k_dflt (refine' item_strs6 ?kNz39 ?kmz39 ?k1z39 ?k2z39 ?_; (case kNz39 => k_asm); (case kmz39 => k_mem); (case k1z39 => first | exact (by with_reducible assumption : _ ∧ _).1 | omega); (case k2z39 => first | exact (by with_reducible assumption : _ ∧ _).2 | omega)); intro nx' nt' hnx')
  k_with "subscriptTail" => (k_here; (with_reducible show wpAny _ _ (subscriptTail (Expr.Name _ _) (Expr.Constant (Const.int 6) _ _) (Value.ref _) (Value.int _ _)) _ _ _); k_dflt (refine' item_num6 (nums7 (by with_reducible assumption)) ?kNz40 ?kmz40 ?_; (case kNz40 => k_asm); (case kmz40 => k_mem)); intro n6' t6' h6')
  k_with "subscriptTail" => (k_here; (with_reducible show wpAny _ _ (subscriptTail _ _ (Value.ref _) (Value.int (Int.fmod _ 4) _)) _ _ _); k_dflt (refine' item_behind ?kNz41 ?kmz41 ?_; (case kNz41 => k_asm); (case kmz41 => exact List.Mem.head _)); intro tb' hb')
  k_with "eval ListComp" => (k_here; (with_reducible show wpAny _ _ (eval (Expr.ListComp _ [⟨Expr.Name _ _, _, _, _⟩] _ _) _) _ _ _); k_dflt (refine' ListComp_N ?k1z42 ?k4z42 ?k5z42 ?k6z42 ?k7z42 ?k8z42 ?_ ?k12z42; (case k1z42 => k_asm); (case k4z42 => with_unfolding_all rfl); (case k5z42 => decide); (case k6z42 => rfl); (case k7z42 => decide); (case k8z42 => rfl); (case k12z42 => (intro _; rfl))))
  k_with "pyIter ref!" => (k_here; (with_reducible show wpAny _ _ (pyIter (Value.ref _)) (fun it s₂ => NAt _ _ _ _ _ _ _ _ (Expr.Call (Expr.Name (Str.ofString "_build_localename") _) _ _ _) _ _ _ _ _ _ it s₂) _ _); (with_reducible rename Fr _ _ _ _ => lF'); (with_reducible rename News _ _ _ _ => lN'); k_dflt (refine' fronts_comp rfl ?hlz43 lF' lN' ?_ ?_; (case hlz43 => exact List.Mem.head _)); (all_goals first | (intro i p ys own C oC D' m₂ s₂ h' tk' E' hip' hJ' hC' ha' F' N' hDC' off'; clear lF' lN'; (rcases hip' with ⟨hi0', hp0'⟩ | ⟨hi0', hp0'⟩ | ⟨hi0', hp0'⟩ | ⟨hi0', hp0'⟩) <;> (subst hi0'; subst hp0')) | (intro D' h' tk' ts' hp' hn' hfr'; intro F' N'; clear lF' lN'; (try k_lt hn'); (with_reducible rw [List.nil_append] at N'); (have N8' := keepN [true, false, false, false, false, false] N'); (simp only [keepM] at N8'); clear N')))
  k_with "pyIter ref!" => (k_here; (with_reducible show wpAny _ _ (pyIter (Value.ref _)) (fun it s₂ => NAt _ _ _ _ _ _ _ _ (Expr.Call (Expr.Name (Str.ofString "_strip_exception_details") _) _ _ _) _ _ _ _ _ _ it s₂) _ _); (with_reducible rename Fr _ _ _ _ => lF'); (with_reducible rename News _ _ _ _ => lN'); (with_reducible rename ((BH _).length < 100) => hb9'); (with_reducible rename (List.map _ _ = FR) => hf9'); k_dflt (refine' strips_comp hb9' hf9' rfl ?hlz44 lF' lN' ?_ ?_; (case hlz44 => k_mem)); (all_goals first | (intro i x t ys own C oC D' m₂ s₂ h' tk' E' hx' hsp' hJ' hC' ha' F' N' hDC' off'; clear lF' lN') | (intro D' h' tk' ts' hp' hn' hst'; intro F' N'; clear lF' lN'; (try k_lt hn'); (with_reducible rw [List.nil_append] at N'))))
  k_with "compareOp NotEq ref ref" => (k_here; k_dflt (first | (refine' fronts_ne ?Nz45 ?az45 ?bz45 ?pz45 ?uz45 ?_; (case Nz45 => k_asm); (case bz45 => exact List.Mem.head _); (case az45 => k_mem); (case pz45 => with_reducible assumption); (case uz45 => ke_room)) | (refine' strips_ne ?Nz45 ?az45 ?bz45 ?pz45 ?uz45 ?_; (case Nz45 => k_asm); (case bz45 => exact List.Mem.head _); (case az45 => exact List.Mem.tail _ (List.Mem.head _)); (case pz45 => with_reducible assumption); (case uz45 => ke_room))))
  k_with "call ref" => (k_here; (with_reducible show wpAny _ _ (call (Value.ref 74) [Value.ref _]) _ _ _); k_dflt (refine' build_NN _ _ _ _ _ _ _ _ _ _ _ _ _ _ _ _ _ _ _ _ _ _ _ ?k1z46 ?k2z46 ?k3z46 ?k4z46 ?k5z46 ?kKz46 ?kdz46 ?kuz46 ?hqz46 ?_; (case k1z46 => k_asm); (case k2z46 => k_asm); (case k3z46 => k_in); (case k4z46 => k_asm); (case k5z46 => k_asm); (case kKz46 => first | exact rfl | assumption); (case kdz46 => ktr_room); (case kuz46 => ktr_units); (case hqz46 => k_mem); intro t9 h9 tk9 F9 N9; (try dsimp only); (try k_fold)))
  k_with "call ref" => (k_here; (with_reducible show wpAny _ _ (call (Value.ref 74) [Value.ref _]) _ _ _); k_dflt (refine' build_SS _ _ _ _ _ _ ?hxz47 ?hyz47 _ _ _ _ _ _ _ _ _ _ _ _ _ _ _ _ _ _ _ _ _ ?k1z47 ?k2z47 ?k3z47 ?k4z47 ?k5z47 ?kKz47 ?kdz47 ?kuz47 ?hqz47 ?_; (case k1z47 => k_asm); (case k2z47 => k_asm); (case k3z47 => k_in); (case k4z47 => k_asm); (case k5z47 => k_asm); (case kKz47 => first | exact rfl | assumption); (case kdz47 => ktr_room); (case kuz47 => ktr_units); (case hqz47 => k_mem); (case hxz47 => decide); (case hyz47 => decide); intro t9 h9 tk9 F9 N9; (try dsimp only); (try k_fold)))
  k_with "call ref" => (k_here; (with_reducible show wpAny _ _ (call (Value.ref 74) [Value.ref _]) _ _ _); k_dflt (refine' build_SN _ _ _ _ ?hxz48 _ _ _ _ _ _ _ _ _ _ _ _ _ _ _ _ _ _ _ _ _ ?k1z48 ?k2z48 ?k3z48 ?k4z48 ?k5z48 ?kKz48 ?kdz48 ?kuz48 ?hqz48 ?_; (case k1z48 => k_asm); (case k2z48 => k_asm); (case k3z48 => k_in); (case k4z48 => k_asm); (case k5z48 => k_asm); (case kKz48 => first | exact rfl | assumption); (case kdz48 => ktr_room); (case kuz48 => ktr_units); (case hqz48 => k_mem); (case hxz48 => decide); intro t9 h9 tk9 F9 N9; (try dsimp only); (try k_fold)))
  k_with "pyIter ref!" => (k_here; (with_reducible show wpAny _ _ (pyIter (Value.ref _)) (fun it s₂ => NAt _ _ _ _ _ _ _ _ (Expr.Call (Expr.Name (Str.ofString "ISTERMINAL") _) _ _ _) _ _ _ _ _ _ it s₂) _ _); (with_reducible rename Fr _ _ _ _ => lF'); (with_reducible rename News _ _ _ _ => lN'); k_dflt (refine' firsts_comp (nums7 (by with_reducible assumption)) rfl ?hlz49 lF' lN' ?_ ?_; (case hlz49 => k_mem)); (all_goals first | (intro i n t ys own C oC D' m₂ s₂ h' tk' E' hfl' hJ' hC' ha' F' N' hDC' off'; clear lF' lN') | (intro D' h' tk' hp' hn'; intro F' N'; clear lF' lN'; (try k_lt hn'); (with_reducible rw [List.nil_append] at N'))))
  k_with "call type:zip" => (k_here; (with_reducible rename Fr _ _ _ _ => lF'); (with_reducible rename News _ _ _ _ => lN'); k_dflt (refine' zip_check (nums7 (by with_reducible assumption)) rfl ?az50 ?bz50 lF' lN' ?_ ?_; (case az50 => k_mem); (case bz50 => k_mem)); (all_goals first | (intro i n t ys own C oC D m₂ s₂ h' tk' E' hi' hJ' hC' ha' hb' F' N' hDC' off'; clear lF' lN') | (intro D' h' tk' hp' hn'; intro F' N'; clear lF' lN'; (try k_lt hn'); (with_reducible rw [List.nil_append] at N'))))
  k_with "call ref" => (k_dflt (k_here; (with_reducible show wpAny _ _ (call (Value.ref 122) [Value.ref _, Value.ref _, Value.ref _]) _ _ _); (repeat (first | with_reducible exact hP.out | (with_reducible rename _ => h'; revert h')))))
  trivial
noncomputable def f5 : (P : Prop) ×' (P → f4.1) := by
  refine' mkP _ ?h
  case h =>
  intro hP
  dsimp only [f4, mkP]
  k_fill
  intros
  (with_reducible rename News _ _ _ _ => N9)
  have N8 := keepN [false, true, true, true, false, false, false, false] N9
  simp only [keepM] at N8
  clear N9
  k_steps
  all_goals ((with_reducible rename Fr _ _ _ _ => F9); with_reducible rename News _ _ _ _ => N9)
  all_goals first
    | ((with_reducible rename StrJ FR _ _ _ => hJ9); exact cendS F9 N9 hJ9 rfl (fun p hp => hp))
    | ((with_reducible rename StrJ SP4 _ _ _ => hJ9); exact cendS F9 N9 hJ9 (by with_reducible assumption) (fun p hp => hp))
    | ((with_reducible rename BoolJ (FL _) _ _ _ => hJ9); (with_reducible rename ((FL _)[_]? = some (FSf _)) => hz9); exact cendB F9 N9 hJ9 hz9 (fun p hp => hp))
    | ((with_reducible rename BoolJ T6b _ _ _ => hJ9); exact cendB F9 N9 hJ9 (T6b_at (by with_reducible assumption) (by rw [FSf_is]; exact beq_self_eq_true _)) (fun p hp => hp))
end Mine
-- F6
namespace Mine
theorem rows1_F6 : True := by
  k_with_none
  k_with "k_ne" => first | exact ne_l1 (by with_reducible assumption) | exact ne_r1 (by with_reducible assumption) | exact ne_l2 (by with_reducible assumption) | exact ne_r2 (by with_reducible assumption) | exact ne_l3 (by with_reducible assumption) | exact ne_r3 (by with_reducible assumption) | exact ne_l0 (by with_reducible assumption) | exact ne_r0 (by with_reducible assumption) | exact ne_l4 (by with_reducible assumption) | exact ne_r4 (by with_reducible assumption) | exact ne_l5 (by with_reducible assumption) | exact ne_r5 (by with_reducible assumption)
  k_with "ktr_room" => first | exact room_c 0 hd rfl | exact room_c 1 hd rfl | exact room_c 6 hd rfl | exact room_c 9 hd rfl | exact room_c 21 hd rfl | exact Nat.le_of_ble_eq_true rfl
  k_with "ktr_units" => first | exact room_c 43 hu rfl | exact room_c 63 hu rfl | exact room_c 203 hu rfl | exact Nat.le_of_ble_eq_true rfl
  k_with "call builtin:str.find" => (k_dflt (k_here; (with_reducible show wpAny _ _ (call (Value.builtin "str.find") [Value.str _ _, Value.str _ _, Value.int _ _, Value.int _ _]) _ _ _); refine call_find4 ?_))
  k_with "call builtin:str.rfind" => (k_dflt (k_here; (with_reducible show wpAny _ _ (call (Value.builtin "str.rfind") [Value.str _ _, Value.str _ _, Value.int _ _, Value.int _ _]) _ _ _); refine call_rfind4 ?_))
  k_with "call ref" => (k_here; refine wpAny_call ?_; k_dflt (refine' code_def ?k1z6 ?k2z6 ?k3z6 ?k4z6 ?k5z6 ?kAz6 ?kFz6 ?kKz6 ?k6z6 ?k7z6 ?k8z6 ?k9z6 ?kBz6 ?_ ?c2z6 ?c3z6 ?c4z6 ?c5z6; (case kAz6 => exact rfl); (case kFz6 => exact rfl); (case kKz6 => first | exact rfl | assumption); (case k1z6 => k_asm); (case k2z6 => k_asm); (case k3z6 => k_asm); (case k4z6 => k_asm); (case k5z6 => k_asm); (case k6z6 => k_is); (case k7z6 => k_is); (case k8z6 => ktr_room); (case k9z6 => exact BindsTo.of_eq rfl); (case c5z6 => decide); (case kBz6 => exact locs rfl); (case c2z6 => exact rfl); (case c3z6 => exact rfl); (case c4z6 => exact rfl); k_whole; intro g' L' h' FG' F' N' B' X' T'; (try dsimp only); (try k_lift B'); (try k_fold)))
  k_with "call ref" => (k_here; (with_reducible show wpAny _ _ (call (Value.ref 67) [Value.str _ _, Value.str _ _]) _ _ _); k_dflt (refine' strcoll _ _ _ _ _ _ _ _ _ _ _ _ _ _ _ _ _ _ _ _ _ _ _ _ _ _ ?k1z7 ?k2z7 ?k3z7 ?k4z7 ?k5z7 ?kKz7 ?kdz7 ?kuz7  ?_; (case k1z7 => k_asm); (case k2z7 => k_asm); (case k3z7 => k_in); (case k4z7 => k_asm); (case k5z7 => k_asm); (case kKz7 => first | exact rfl | assumption); (case kdz7 => ktr_room); (case kuz7 => ktr_units); intro t9 h9 tk9 F9 N9; (try dsimp only); (try k_fold)))
  k_with "call ref" => (k_here; (with_reducible show wpAny _ _ (call (Value.ref 84) [Value.int _ _]) _ _ _); k_dflt (refine' isterm _ _ _ _ _ _ _ _ _ _ _ _ _ _ _ _ _ _ _ _ _ _ _ _ ?k1z8 ?k2z8 ?k3z8 ?k4z8 ?k5z8 ?kKz8 ?kdz8 ?kuz8  ?_; (case k1z8 => k_asm); (case k2z8 => k_asm); (case k3z8 => k_in); (case k4z8 => k_asm); (case k5z8 => k_asm); (case kKz8 => first | exact rfl | assumption); (case kdz8 => ktr_room); (case kuz8 => ktr_units); intro t9 h9 tk9 F9 N9; (try dsimp only); (try k_fold)))
  k_with "call ref" => (k_here; (with_reducible show wpAny _ _ (call (Value.ref 91) [Value.int _ _]) _ _ _); k_dflt (refine' iseof _ _ _ _ _ _ _ _ _ _ _ _ _ _ _ _ _ _ _ _ _ _ _ _ ?k1z9 ?k2z9 ?k3z9 ?k4z9 ?k5z9 ?kKz9 ?kdz9 ?kuz9  ?_; (case k1z9 => k_asm); (case k2z9 => k_asm); (case k3z9 => k_in); (case k4z9 => k_asm); (case k5z9 => k_asm); (case kKz9 => first | exact rfl | assumption); (case kdz9 => ktr_room); (case kuz9 => ktr_units); intro t9 h9 tk9 F9 N9; (try dsimp only); (try k_fold)))
  k_with "call ref" => (k_here; (with_reducible show wpAny _ _ (call (Value.ref 28) [Value.str _ _]) _ _ _); k_dflt (refine' stripd _ _ _ ?hxz10 _ _ _ _ _ _ _ _ _ _ _ _ _ _ _ _ _ _ _ _ _ ?k1z10 ?k2z10 ?k3z10 ?k4z10 ?k5z10 ?kKz10 ?kdz10 ?kuz10  ?_; (case k1z10 => k_asm); (case k2z10 => k_asm); (case k3z10 => k_in); (case k4z10 => k_asm); (case k5z10 => k_asm); (case kKz10 => first | exact rfl | assumption); (case kdz10 => ktr_room); (case kuz10 => ktr_units); (case hxz10 => first | assumption | omega | size_fits); intro t9 h9 tk9 F9 N9; (try dsimp only); (try k_fold)))
  k_with "CompEnd" => (k_dflt (k_here; refine LCg.CompEnd.intro (by assumption) (by assumption) _ ?csubz11 (by assumption) (by assumption) ⟨rfl, ?_⟩; (case csubz11 => kcf_all)))
  k_with "k_all" => exact off_tail (by with_reducible assumption) (by omega)
  k_with "subscriptTail" => (k_dflt (k_here; (with_reducible show wpAny _ _ (subscriptTail _ _ (Value.ref 75) (Value.str _ _)) _ _ _); (refine' ett_item ?kXz13 ?khz13 ?_; (case kXz13 => k_in); (case khz13 => with_reducible assumption))); intro t')
  k_with "k_mem" => (refine List.mem_append_right _ ?_; k_mem)
  k_with "k_mem" => (refine List.mem_append_left _ ?_; k_mem)
  k_with "exec Assign cons ListComp" => (k_here; (with_reducible show wpAny _ _ (exec (Stmt.Assign _ (Expr.ListComp _ [⟨Expr.Tuple _ _ _, _, _, _⟩] _ _) _) _) _ _ _); k_dflt (refine Assign_ListComp_Z (by k_asm) rfl (by with_unfolding_all rfl) (by with_unfolding_all rfl) (by decide) (by rfl) (by decide) (by rfl) (by rfl) (by decide) (by rfl) (by rfl) ?_))
  k_with "call type:zip" => (k_here; (with_reducible rename Fr _ _ _ _ => lF'); (with_reducible rename News _ _ _ _ => lN'); k_dflt (refine' zip_nums (fun l x => l + x.fmod 1000000) ?cz17 ?dz17 rfl ?az17 ?bz17 ?zz17 lF' lN' ?_ ?_; (case az17 => k_mem); (case bz17 => k_mem); (case cz17 => l_ints); (case dz17 => l_ints); (case zz17 => (simp only [List.length_cons, List.length_nil]; omega))); (all_goals first | (intro i x y t u ys own C oC D m₂ s₂ h' tk' E' hi' hk' hJ' hC' ha' hb' F' N' hDC' off'; clear lF' lN') | (intro D' h' tk' ts' hp' hn' he'; intro F' N'; clear lF' lN'; (try k_lt hn'); (with_reducible rw [List.nil_append] at N'))))
  k_with "exec Assign cons ListComp" => (k_here; (with_reducible show wpAny _ _ (exec (Stmt.Assign _ (Expr.ListComp _ [⟨Expr.Name _ _, _, _, _⟩] _ _) _) _) _ _ _); k_dflt (refine' Assign_ListComp_N ?k1z18 ?k2z18 ?k3z18 ?k4z18 ?k5z18 ?k6z18 ?k7z18 ?k8z18 ?k9z18 ?k10z18 ?_ ?k12z18; (case k1z18 => k_asm); (case k2z18 => rfl); (case k3z18 => with_unfolding_all rfl); (case k4z18 => with_unfolding_all rfl); (case k5z18 => decide); (case k6z18 => rfl); (case k7z18 => decide); (case k8z18 => rfl); (case k9z18 => rfl); (case k10z18 => rfl); (case k12z18 => (intro _; rfl))))
  k_with "pyIter ref!" => (k_here; (with_reducible show wpAny _ _ (pyIter (Value.ref _)) (fun it s₂ => NAt _ _ _ _ _ _ _ _ _ _ _ _ _ _ _ it s₂) _ _); (with_reducible rename Fr _ _ _ _ => lF'); (with_reducible rename News _ _ _ _ => lN'); k_dflt (refine' sign_comp okSign ?Xz19 rfl lF' lN' ?_ ?_; (case Xz19 => k_asm)); (all_goals first | (intro i y t ys own C oC D m₂ s₂ h' tk' E' hi' hy' hJ' hC' ha' F' N' hDC' off'; clear lF' lN') | (intro D' h' tk' ts' hp' hn' he'; intro F' N'; clear lF' lN'; (try k_lt hn'); (with_reducible rw [List.nil_append] at N'))))
  k_with "subscriptTail Name Slice ref ref" => (k_here; (with_reducible rename (List.map _ _ = List.zipWith _ _ _) => hz9'); (with_reducible rename Fr _ _ _ _ => lF'); (with_reducible rename News _ _ _ _ => lN'); k_dflt (refine' slice_ints6 lF' lN' ?lz20 ?zz20 ?_ ?sz20 ?tz20; (case lz20 => k_mem); (case zz20 => exact nums_len hz9'); (case sz20 => with_unfolding_all rfl); (case tz20 => kmk_pure)); intro D' h' F' N' l1; clear lF' lN'; (try k_lt l1))
  k_with "exec For" => (k_dflt (k_here; (with_reducible show wpAny _ _ (exec (Stmt.For (Expr.Name (Str.ofString "number") _) _ _ _ _) _) _ _ _); ((with_reducible rename Fr _ _ _ _ => lF')); (with_unfolding_all refine' For_invVF lF' ?k1z21 ?k2z21 ?_; (case k1z21 => exact rfl); (case k2z21 => exact rfl); k_whole)))
  k_with "pyIter ref!" => (k_here; (with_reducible show wpAny _ _ (pyIter (Value.ref _)) (fun it s₂ => LoopAtV _ _ _ _ _ _ _ _ _ it s₂) _ _); (with_reducible rename Fr _ _ _ _ => lF'); (with_reducible rename News _ _ _ _ => lN'); k_dflt (refine' pick_loop6 (nums7 (by with_reducible assumption)) (by with_reducible assumption) rfl lF' lN' ?_ ?_); (all_goals first | (intro c i n t u h' tk own hn' hi' hb' hf' ho' hP' F' N'; clear lF' lN') | (intro row T e1 u h' tk hT' hr' F' N'; clear lF' lN')))
  k_with "call builtin:len" => (k_here; (with_reducible show wpAny _ _ (call (Value.builtin "len") [Value.ref _]) _ _ _); k_dflt (refine' len_sv2 ?kNz23 ?kmz23 ?k1z23 ?_; (case kNz23 => k_asm); (case kmz23 => k_mem); (case k1z23 => omega)))
  k_with "call builtin:list.append" => (k_dflt (k_here; (refine' strs_append ?kFz24 ?kNz24 ?kzz24 ?kUz24 ?_; (case kFz24 => k_asm); (case kNz24 => k_asm); (case kUz24 => k_upd); (case kzz24 => omega))); intro h' F' N')
  k_with "call builtin:list.pop" => (k_dflt (k_here; (with_reducible rename (0 ≤ Int.fmod _ _ ∧ _) => hf9'); (refine' pop_strs ?kFz25 ?kNz25 ?k0z25 ?k1z25 ?kzz25 ?kUz25 ?_; (case kFz25 => k_asm); (case kNz25 => k_asm); (case k0z25 => exact hf9'.1); (case k1z25 => exact hf9'.2); (case kzz25 => omega); (case kUz25 => k_upd))); intro h' y t hy' F' N')
  k_with "call ref" => (k_here; (with_reducible show wpAny _ _ (call (Value.ref 96) [Value.ref _]) _ _ _); (with_reducible rename RowC _ => hT9'); (with_reducible rename (List.map _ _ = List.map one _) => hr9'); k_dflt (refine' ranks _ _ _ _ _ (rankOk' hT9' hr9') _ _ _ _ _ _ _ _ _ _ _ _ _ _ _ _ _ _ _ _ _ ?k1z26 ?k2z26 ?k3z26 (front5 ?k4z26) ?k6z26 ?k5z26 ?kKz26 ?kdz26 ?kuz26 ?kqz26 ?_; (case k1z26 => exact below_caller _); (case k2z26 => k_asm); (case k3z26 => k_in); (case k4z26 => k_asm); (case k5z26 => k_asm); (case k6z26 => k_all); (case kKz26 => first | exact rfl | assumption); (case kdz26 => ktr_room); (case kuz26 => ktr_units); (case kqz26 => k_mem)); intro D9 o9 ps9 h9 tk9 kvs9 hd9 hf9 F9 N9 lo9 lt9; (try k_lt lt9); (try dsimp only); (try k_fold))
  k_with "compareOp Eq ref ref" => (k_here; (with_reducible rename RowC _ => hT9'); (with_reducible rename (List.map _ _ = List.map one _) => hr9'); k_dflt (refine' rank_some ?kNz27 ?kmz27 ?klz27 ?kdz27 ?kfz27 ?kez27 ?kl2z27 ?kd2z27 (row_six hT9' hr9') ?kuz27 ?_; (case kNz27 => k_asm); (case kmz27 => k_mem); (case klz27 => with_reducible assumption); (case kdz27 => with_reducible assumption); (case kfz27 => with_reducible assumption); (case kez27 => k_mem); (case kl2z27 => with_reducible assumption); (case kd2z27 => with_reducible assumption); (case kuz27 => ke_room)))
  k_with "call builtin:str.join" => (k_here; (with_reducible show wpAny _ _ (call (Value.builtin "str.join") [Value.str _ _, Value.ref _]) _ _ _); (with_reducible rename RowC _ => hT9'); (with_reducible rename (List.map _ _ = List.map one _) => hr9'); k_dflt (refine' join_sv ?kNz28 ?kmz28 rfl ?kxz28 (row_short hr9') (row_len hT9' hr9') ?_; (case kNz28 => k_asm); (case kmz28 => k_mem); (case kxz28 => exact len_empty)); intro t' tk')
  k_with "call ref" => (k_here; (with_reducible show wpAny _ _ (call (Value.ref 101) [Value.str _ _]) _ _ _); k_dflt (refine' ends_row _ _ _ _ ?hTz29 ?hxz29 _ _ _ _ _ _ _ _ _ _ _ _ _ _ _ _ _ _ _ _ _ ?k1z29 ?k2z29 ?k3z29 ?k4z29 ?k5z29 ?kKz29 ?kdz29 ?kuz29  ?_; (case k1z29 => k_asm); (case k2z29 => k_asm); (case k3z29 => k_in); (case k4z29 => k_asm); (case k5z29 => k_asm); (case kKz29 => first | exact rfl | assumption); (case kdz29 => ktr_room); (case kuz29 => ktr_units); (case hTz29 => with_reducible assumption); (case hxz29 => exact row_text (by with_reducible assumption)); intro t9 h9 tk9 F9 N9; (try dsimp only); (try k_fold)))
  k_with "call builtin:sorted" => (k_dflt (k_here; (with_reducible rename RowC _ => hT9'); (with_reducible rename (List.map _ _ = List.map one _) => hr9'); (with_unfolding_all refine' sort_rank hT9' hr9' ?kFz30 ?kNz30 ?kmz30 ?_ ?_; (case kFz30 => k_asm); (case kNz30 => k_asm); (case kmz30 => k_mem))); (all_goals first | (intro D' c h' tk' os hos' F' N' l1; (try k_lt l1)) | (intro x t hx9' h' tk own F' N')))
  k_with "subscriptTail" => (k_here; (with_reducible show wpAny _ _ (subscriptTail _ _ (Value.ref _) (Value.str _ _)) _ _ _); k_dflt (refine' rank_item ?kNz31 ?kmz31 ?klz31 ?kdz31 ?kfz31 ?kxz31 ?_; (case kNz31 => k_asm); (case kmz31 => k_mem); (case klz31 => assumption); (case kdz31 => with_reducible assumption); (case kfz31 => with_reducible assumption); (case kxz31 => with_reducible assumption)); intro t')
  k_with "call ref" => (k_here; kn_here; k_dflt (refine wpAny_call ?_; refine' kla_code ?k1z32 ?k2z32 ?k3z32 ?k4z32 ?k5z32 ?kAz32 ?kFz32 ?kKz32 ?k6z32 ?k7z32 ?k8z32 ?k9z32 ?kBz32 ?_ ?c2z32 ?c3z32 ?c4z32 ?c5z32; (case kAz32 => exact rfl); (case kFz32 => exact rfl); (case kKz32 => exact rfl); (case k1z32 => exact below_caller _); (case k2z32 => k_asm); (case k3z32 => k_asm); (case k4z32 => k_asm); (case k5z32 => k_asm); (case k6z32 => k_mem); (case k7z32 => exact codeRec_news (by k_asm) (by k_mem) (by assumption) (by assumption)); (case k8z32 => ktr_room); (case k9z32 => exact rfl); (case c5z32 => decide); (case kBz32 => exact locs rfl); (case c2z32 => exact rfl); (case c3z32 => exact rfl); (case c4z32 => exact rfl); k_whole; intro g' L' h' FG' F' N' B' X' T'; (try dsimp only); (try k_lift B'); (try k_fold)))
  k_with "IntK" => k_dflt (exact IntK.intro)
  k_with "exec Assign cons ListComp" => (k_here; (with_reducible show wpAny _ _ (exec (Stmt.Assign [Expr.Name (Str.ofString "names") _] _ _) _) _ _ _); k_dflt (refine wpAny_Assign_Name ?_))
  k_with "eval ListComp" => (k_here; (with_reducible show wpAny _ _ (eval (Expr.ListComp _ [⟨Expr.Tuple _ _ _, _, _, _⟩] _ _) _) _ _ _); k_dflt (refine ListComp_Z (by k_asm) (by with_unfolding_all rfl) (by decide) (by rfl) (by decide) (by rfl) (by rfl) (by decide) ?_))
  k_with "call type:enumerate" => (k_here; (with_reducible rename Fr _ _ _ _ => lF'); (with_reducible rename News _ _ _ _ => lN'); (with_reducible rename RowC _ => hT9'); (with_reducible rename (List.map _ _ = List.map one (ordC _)) => hos9'); k_dflt (refine' names_enum hT9' hos9' rfl ?hlz36 lF' lN' ?_ ?_; (case hlz36 => k_mem)); (all_goals first | (intro i t y ty ys own C oC D m₂ s₂ h' tk' E' hi' hi6' hy' hJ' hC' ha' hb' F' N' hDC' off'; clear lF' lN') | (intro D' h' tk' ts' hp' hn' hnm'; intro F' N'; clear lF' lN'; (try k_lt hn'); (with_reducible rw [List.nil_append] at N'))))
  k_with "binaryOp Mult str int" => (k_here; (with_reducible show wpAny _ _ (binaryOp Operator.Mult (Value.str _ _) (Value.int (List.getD _ _ _) _)) _ _ _); k_dflt (refine' name_mul ?hyz37 ?_; (case hyz37 => with_reducible assumption)); intro t' tk')
  k_with "pyIter ref!" => (k_here; (with_reducible show wpAny _ _ (pyIter (Value.ref _)) (fun it s₂ => NAt _ _ _ _ _ _ _ _ (Expr.Subscript _ _ _) _ _ _ _ _ _ it s₂) _ _); (with_reducible rename Fr _ _ _ _ => lF'); (with_reducible rename News _ _ _ _ => lN'); (with_reducible rename RowC _ => hT9'); (with_reducible rename (List.map _ _ = List.map one _) => hr9'); (with_reducible rename (List.map _ _ = nameL _) => hn9'); k_dflt (refine' called_comp hT9' ?hrz38 hn9' rfl ?hlz38 lF' lN' ?_ ?_; (case hlz38 => k_mem); (case hrz38 => with_reducible assumption)); (all_goals first | (intro i x t ys own C oC D' m₂ s₂ h' tk' E' hx' hg' hz' hJ' hC' ha' F' N' hDC' off'; clear lF' lN') | (intro D' h' tk' ts' hp' hn' hc'; intro F' N'; clear lF' lN'; (try k_lt hn'); (with_reducible rw [List.nil_append] at N'))))
  k_with "subscriptTail" => (k_here; (with_reducible show wpAny _ _ (subscriptTail _ _ (Value.ref _) (Value.int (Nat.cast (gOf _ _)) _)) _ _ _); k_dflt (refine' item_strs6 ?kNz39 ?kmz39 ?k1z39 ?k2z39 ?_; (case kNz39 => k_asm); (case kmz39 => k_mem); (case k1z39 => first | exact (by with_reducible assumption : _ ∧ _).1 | omega); (case k2z39 => first | exact (by with_reducible assumption : _ ∧ _).2 | omega)); intro nx' nt' hnx')
  k_with "subscriptTail" => (k_here; (with_reducible show wpAny _ _ (subscriptTail (Expr.Name _ _) (Expr.Constant (Const.int 6) _ _) (Value.ref _) (Value.int _ _)) _ _ _); k_dflt (refine' item_num6 (nums7 (by with_reducible assumption)) ?kNz40 ?kmz40 ?_; (case kNz40 => k_asm); (case kmz40 => k_mem)); intro n6' t6' h6')
  k_with "subscriptTail" => (k_here; (with_reducible show wpAny _ _ (subscriptTail _ _ (Value.ref _) (Value.int (Int.fmod _ 4) _)) _ _ _); k_dflt (refine' item_behind ?kNz41 ?kmz41 ?_; (case kNz41 => k_asm); (case kmz41 => exact List.Mem.head _)); intro tb' hb')
  k_with "eval ListComp" => (k_here; (with_reducible show wpAny _ _ (eval (Expr.ListComp _ [⟨Expr.Name _ _, _, _, _⟩] _ _) _) _ _ _); k_dflt (refine' ListComp_N ?k1z42 ?k4z42 ?k5z42 ?k6z42 ?k7z42 ?k8z42 ?_ ?k12z42; (case k1z42 => k_asm); (case k4z42 => with_unfolding_all rfl); (case k5z42 => decide); (case k6z42 => rfl); (case k7z42 => decide); (case k8z42 => rfl); (case k12z42 => (intro _; rfl))))
  k_with "pyIter ref!" => (k_here; (with_reducible show wpAny _ _ (pyIter (Value.ref _)) (fun it s₂ => NAt _ _ _ _ _ _ _ _ (Expr.Call (Expr.Name (Str.ofString "_build_localename") _) _ _ _) _ _ _ _ _ _ it s₂) _ _); (with_reducible rename Fr _ _ _ _ => lF'); (with_reducible rename News _ _ _ _ => lN'); k_dflt (refine' fronts_comp rfl ?hlz43 lF' lN' ?_ ?_; (case hlz43 => exact List.Mem.head _)); (all_goals first | (intro i p ys own C oC D' m₂ s₂ h' tk' E' hip' hJ' hC' ha' F' N' hDC' off'; clear lF' lN'; (rcases hip' with ⟨hi0', hp0'⟩ | ⟨hi0', hp0'⟩ | ⟨hi0', hp0'⟩ | ⟨hi0', hp0'⟩) <;> (subst hi0'; subst hp0')) | (intro D' h' tk' ts' hp' hn' hfr'; intro F' N'; clear lF' lN'; (try k_lt hn'); (with_reducible rw [List.nil_append] at N'); (have N8' := keepN [true, false, false, false, false, false] N'); (simp only [keepM] at N8'); clear N')))
  k_with "pyIter ref!" => (k_here; (with_reducible show wpAny _ _ (pyIter (Value.ref _)) (fun it s₂ => NAt _ _ _ _ _ _ _ _ (Expr.Call (Expr.Name (Str.ofString "_strip_exception_details") _) _ _ _) _ _ _ _ _ _ it s₂) _ _); (with_reducible rename Fr _ _ _ _ => lF'); (with_reducible rename News _ _ _ _ => lN'); (with_reducible rename ((BH _).length < 100) => hb9'); (with_reducible rename (List.map _ _ = FR) => hf9'); k_dflt (refine' strips_comp hb9' hf9' rfl ?hlz44 lF' lN' ?_ ?_; (case hlz44 => k_mem)); (all_goals first | (intro i x t ys own C oC D' m₂ s₂ h' tk' E' hx' hsp' hJ' hC' ha' F' N' hDC' off'; clear lF' lN') | (intro D' h' tk' ts' hp' hn' hst'; intro F' N'; clear lF' lN'; (try k_lt hn'); (with_reducible rw [List.nil_append] at N'))))
  k_with "compareOp NotEq ref ref" => (k_here; k_dflt (first | (refine' fronts_ne ?Nz45 ?az45 ?bz45 ?pz45 ?uz45 ?_; (case Nz45 => k_asm); (case bz45 => exact List.Mem.head _); (case az45 => k_mem); (case pz45 => with_reducible assumption); (case uz45 => ke_room)) | (refine' strips_ne ?Nz45 ?az45 ?bz45 ?pz45 ?uz45 ?_; (case Nz45 => k_asm); (case bz45 => exact List.Mem.head _); (case az45 => exact List.Mem.tail _ (List.Mem.head _)); (case pz45 => with_reducible assumption); (case uz45 => ke_room))))
  k_with "call ref" => (k_here; (with_reducible show wpAny _ _ (call (Value.ref 74) [Value.ref _]) _ _ _); k_dflt (refine' build_NN _ _ _ _ _ _ _ _ _ _ _ _ _ _ _ _ _ _ _ _ _ _ _ ?k1z46 ?k2z46 ?k3z46 ?k4z46 ?k5z46 ?kKz46 ?kdz46 ?kuz46 ?hqz46 ?_; (case k1z46 => k_asm); (case k2z46 => k_asm); (case k3z46 => k_in); (case k4z46 => k_asm); (case k5z46 => k_asm); (case kKz46 => first | exact rfl | assumption); (case kdz46 => ktr_room); (case kuz46 => ktr_units); (case hqz46 => k_mem); intro t9 h9 tk9 F9 N9; (try dsimp only); (try k_fold)))
  k_with "call ref" => (k_here; (with_reducible show wpAny _ _ (call (Value.ref 74) [Value.ref _]) _ _ _); k_dflt (refine' build_SS _ _ _ _ _ _ ?hxz47 ?hyz47 _ _ _ _ _ _ _ _ _ _ _ _ _ _ _ _ _ _ _ _ _ ?k1z47 ?k2z47 ?k3z47 ?k4z47 ?k5z47 ?kKz47 ?kdz47 ?kuz47 ?hqz47 ?_; (case k1z47 => k_asm); (case k2z47 => k_asm); (case k3z47 => k_in); (case k4z47 => k_asm); (case k5z47 => k_asm); (case kKz47 => first | exact rfl | assumption); (case kdz47 => ktr_room); (case kuz47 => ktr_units); (case hqz47 => k_mem); (case hxz47 => decide); (case hyz47 => decide); intro t9 h9 tk9 F9 N9; (try dsimp only); (try k_fold)))
  k_with "call ref" => (k_here; (with_reducible show wpAny _ _ (call (Value.ref 74) [Value.ref _]) _ _ _); k_dflt (refine' build_SN _ _ _ _ ?hxz48 _ _ _ _ _ _ _ _ _ _ _ _ _ _ _ _ _ _ _ _ _ ?k1z48 ?k2z48 ?k3z48 ?k4z48 ?k5z48 ?kKz48 ?kdz48 ?kuz48 ?hqz48 ?_; (case k1z48 => k_asm); (case k2z48 => k_asm); (case k3z48 => k_in); (case k4z48 => k_asm); (case k5z48 => k_asm); (case kKz48 => first | exact rfl | assumption); (case kdz48 => ktr_room); (case kuz48 => ktr_units); (case hqz48 => k_mem); (case hxz48 => decide); intro t9 h9 tk9 F9 N9; (try dsimp only); (try k_fold)))
  k_with "pyIter ref!" => (k_here; (with_reducible show wpAny _ _ (pyIter (Value.ref _)) (fun it s₂ => NAt _ _ _ _ _ _ _ _ (Expr.Call (Expr.Name (Str.ofString "ISTERMINAL") _) _ _ _) _ _ _ _ _ _ it s₂) _ _); (with_reducible rename Fr _ _ _ _ => lF'); (with_reducible rename News _ _ _ _ => lN'); k_dflt (refine' firsts_comp (nums7 (by with_reducible assumption)) rfl ?hlz49 lF' lN' ?_ ?_; (case hlz49 => k_mem)); (all_goals first | (intro i n t ys own C oC D' m₂ s₂ h' tk' E' hfl' hJ' hC' ha' F' N' hDC' off'; clear lF' lN') | (intro D' h' tk' hp' hn'; intro F' N'; clear lF' lN'; (try k_lt hn'); (with_reducible rw [List.nil_append] at N'))))
  k_with "call type:zip" => (k_here; (with_reducible rename Fr _ _ _ _ => lF'); (with_reducible rename News _ _ _ _ => lN'); k_dflt (refine' zip_check (nums7 (by with_reducible assumption)) rfl ?az50 ?bz50 lF' lN' ?_ ?_; (case az50 => k_mem); (case bz50 => k_mem)); (all_goals first | (intro i n t ys own C oC D m₂ s₂ h' tk' E' hi' hJ' hC' ha' hb' F' N' hDC' off'; clear lF' lN') | (intro D' h' tk' hp' hn'; intro F' N'; clear lF' lN'; (try k_lt hn'); (with_reducible rw [List.nil_append] at N'))))
  k_with "call ref" => (k_here; (with_reducible show wpAny _ _ (call (Value.ref 122) [Value.ref _, Value.ref _, Value.ref _]) _ _ _); (with_reducible rename RowC _ => hT9'); k_dflt (refine' lawfree _ _ _ _ _ _ (freeOk hT9' ?hrz51 ?hoz51 (FL_len (nums7 ?hzz51))) _ _ _ _ _ _ _ _ _ _ _ _ _ _ _ _ _ _ _ _ _ _ _ _ _ _ _ ?k1z51 ?k2z51 ?k3z51 ?k4z51 ?k5z51 ?kKz51 ?kdz51 ?kuz51 ?q1z51 ?q2z51 ?q3z51 ?_; (case k1z51 => exact below_caller _); (case k2z51 => k_asm); (case k3z51 => k_in); (case k4z51 => k_asm); (case k5z51 => k_asm); (case kKz51 => first | exact rfl | assumption); (case kdz51 => ktr_room); (case kuz51 => ktr_units); (case q1z51 => k_mem); (case q2z51 => k_mem); (case q3z51 => k_mem); (case hrz51 => with_reducible assumption); (case hoz51 => with_reducible assumption); (case hzz51 => with_reducible assumption)); intro t9 h9 tk9 F9 N9; (try dsimp only); (try k_fold))
  k_with "call ref" => (k_here; (with_reducible show wpAny _ _ (call (Value.ref 115) [Value.ref _, Value.ref _, Value.ref _, Value.str _ _]) _ _ _); (with_reducible rename RowC _ => hT9'); k_dflt (refine' run_due hT9' ?hcz52 ?hnz52 ?hfz52 _ _ _ ?hfrz52 _ _ _ _ _ _ _ _ _ _ _ _ _ _ _ _ _ _ _ _ _ _ _ _ _ _ _ _ ?k1z52 ?k2z52 ?k3z52 ?k4z52 ?k5z52 ?kKz52 ?kdz52 ?kuz52 ?q1z52 ?q2z52 ?q3z52 ?_; (case k1z52 => exact below_caller _); (case k2z52 => k_asm); (case k3z52 => k_in); (case k4z52 => k_asm); (case k5z52 => k_asm); (case kKz52 => first | exact rfl | assumption); (case kdz52 => ktr_room); (case kuz52 => ktr_units); (case q1z52 => k_mem); (case q2z52 => k_mem); (case q3z52 => k_mem); (case hcz52 => with_reducible assumption); (case hnz52 => with_reducible assumption); (case hfz52 => first | exact FL_len (nums7 (by with_reducible assumption)) | exact nots_len (FL_len (nums7 (by with_reducible assumption)))); (case hfrz52 => first | with_reducible exact free_not (FL_len (nums7 (by with_reducible assumption))) | exact rfl)); intro T9 o9 e9 tp9 tr9 h9 tk9 F9 N9; (try dsimp only); (try k_fold))
  k_with "call ref" => (k_here; (with_reducible show wpAny _ _ (call (Value.ref 127) [Value.ref _, Value.ref _, Value.ref _, Value.int _ _]) _ _ _); (with_reducible rename RowC _ => hT9'); k_dflt (refine' due_call hT9' ?hcz53 ?hnz53 ?hfz53 _ _ _ _ _ _ _ _ _ _ _ _ _ _ _ _ _ _ _ _ _ _ _ _ _ _ _ _ _ _ ?k1z53 ?k2z53 ?k3z53 ?k4z53 ?k5z53 ?kKz53 ?kdz53 ?kuz53 ?q1z53 ?q2z53 ?q3z53 ?_; (case k1z53 => exact below_caller _); (case k2z53 => k_asm); (case k3z53 => k_in); (case k4z53 => k_asm); (case k5z53 => k_asm); (case kKz53 => first | exact rfl | assumption); (case kdz53 => ktr_room); (case kuz53 => ktr_units); (case q1z53 => k_mem); (case q2z53 => k_mem); (case q3z53 => k_mem); (case hcz53 => with_reducible assumption); (case hnz53 => with_reducible assumption); (case hfz53 => first | exact FL_len (nums7 (by with_reducible assumption)) | exact nots_len (FL_len (nums7 (by with_reducible assumption))))); intro T9 o9 e9 tp9 tr9 h9 tk9 F9 N9; (try dsimp only); (try k_fold))
  k_with "compareOp NotEq ref ref" => (k_here; (with_reducible rename RowC _ => hT9'); k_dflt (refine' ne_due ?Nz54 ?m1z54 ?m2z54 ?m3z54 ?m4z54 ?hPz54 ?hRz54 ?hxz54 ?huz54 ?_; (case Nz54 => k_asm); (case m1z54 => k_mem); (case m2z54 => k_mem); (case m3z54 => k_mem); (case m4z54 => k_mem); (case hPz54 => refine' (PD_ok hT9' ?pcz54 ?pnz54 ?pfz54 _).1; (case pcz54 => with_reducible assumption); (case pnz54 => with_reducible assumption); (case pfz54 => first | with_reducible exact FL_len (nums7 (by with_reducible assumption)) | exact nots_len (FL_len (nums7 (by with_reducible assumption))))); (case hRz54 => refine' RD_ok hT9' ?pcz54 ?pnz54 ?pfz54 _; (case pcz54 => with_reducible assumption); (case pnz54 => with_reducible assumption); (case pfz54 => first | with_reducible exact FL_len (nums7 (by with_reducible assumption)) | exact nots_len (FL_len (nums7 (by with_reducible assumption))))); (case hxz54 => exact take_ok hT9' (by with_reducible assumption) _); (case huz54 => ke_room)); (with_reducible rename News _ _ _ _ => lN'); (have lN8' := keepN [false, false, false, false, true] lN'); (simp only [keepM] at lN8'); clear lN')
  k_with "pyIter ref!" => (k_here; (with_reducible show wpAny _ _ (pyIter (Value.ref _)) (fun it s₂ => NAt _ _ _ _ _ _ _ _ (Expr.UnaryOp _ _ _) _ _ _ _ _ _ it s₂) _ _); (with_reducible rename Fr _ _ _ _ => lF'); (with_reducible rename News _ _ _ _ => lN'); k_dflt (refine' nots_comp (FL_len (nums7 ?hzz55)) rfl ?hlz55 lF' lN' ?_ ?_; (case hzz55 => with_reducible assumption); (case hlz55 => k_mem)); (all_goals first | (intro i b ys own C oC D' m₂ s₂ h' tk' E' hfl' hJ' hC' ha' F' N' hDC' off'; clear lF' lN') | (intro D' h' tk' hp' hn'; intro F' N'; clear lF' lN'; (try k_lt hn'); (with_reducible rw [List.nil_append] at N'))))
  k_with "pyIter ref!" => (k_here; (with_reducible show wpAny _ _ (pyIter (Value.ref _)) (fun it s₂ => NAt _ _ _ _ _ _ _ _ (Expr.Call (Expr.Name (Str.ofString "_law_refused") _) _ _ _) _ _ _ _ _ _ it s₂) _ _); (with_reducible rename Fr _ _ _ _ => lF'); (with_reducible rename News _ _ _ _ => lN'); k_dflt (refine' refused_comp rfl ?hlz56 lF' lN' ?_ ?_; (case hlz56 => exact List.Mem.head _)); (all_goals first | (intro i v ys own C oC D' m₂ s₂ h' tk' E' hiv' hJ' hC' ha' F' N' hDC' off'; clear lF' lN'; (rcases hiv' with ⟨hi0', hv0'⟩ | ⟨hi0', hv0'⟩ | ⟨hi0', hv0'⟩) <;> (subst hi0'; subst hv0')) | (intro D' h' tk' hp' hn'; intro F' N'; clear lF' lN'; (try k_lt hn'); (with_reducible rw [List.nil_append] at N'))))
  k_with "UnrEnd" => (k_here; (with_reducible rename Fr _ _ _ _ => kF'); (with_reducible rename News _ _ _ _ => kN'); k_dflt (first | (refine' unrT2 kF' kN' rfl ?hitz57 ?offz57 ⟨?mmz57, ?_⟩; (case hitz57 => with_reducible assumption); (case offz57 => k_all); (case mmz57 => k_mem)) | (refine' unrT3 kF' kN' rfl ?hitz57 ?offz57 ⟨?mmz57, ?_⟩; (case hitz57 => with_reducible assumption); (case offz57 => k_all); (case mmz57 => k_mem))))
  k_with "call ref" => (k_here; (with_reducible show wpAny _ _ (call (Value.ref 108) [Value.ref _]) _ _ _); (with_reducible rename RowC _ => hT9'); k_dflt (first | (refine' refusedA _ _ _ _ _ _ _ _ _ _ _ _ _ _ _ _ _ _ _ _ _ _ _ _ _ _ _ ?k1z58 ?k2z58 ?k3z58 ?k4z58 ?k5z58 ?kKz58 ?kdz58 ?kuz58 ?q1z58 ?_; (case k1z58 => exact below_caller _); (case k2z58 => k_asm); (case k3z58 => k_in); (case k4z58 => k_asm); (case k5z58 => k_asm); (case kKz58 => first | exact rfl | assumption); (case kdz58 => ktr_room); (case kuz58 => ktr_units); (case q1z58 => k_mem)) | (refine' refusedB _ _ _ _ _ ?hxz58 _ _ _ _ _ _ _ _ _ _ _ _ _ _ _ _ _ _ _ ?k1z58 ?k2z58 ?k3z58 ?k4z58 ?k5z58 ?kKz58 ?kdz58 ?kuz58 ?q1z58 ?_; (case k1z58 => exact below_caller _); (case k2z58 => k_asm); (case k3z58 => k_in); (case k4z58 => k_asm); (case k5z58 => k_asm); (case kKz58 => first | exact rfl | assumption); (case kdz58 => ktr_room); (case kuz58 => ktr_units); (case q1z58 => k_mem); (case hxz58 => refine' (PD_ok hT9' ?pcz58 ?pnz58 ?pfz58 _).2; (case pcz58 => with_reducible assumption); (case pnz58 => with_reducible assumption); (case pfz58 => first | with_reducible exact FL_len (nums7 (by with_reducible assumption)) | exact nots_len (FL_len (nums7 (by with_reducible assumption))))))); intro t9 h9 tk9 F9 N9; (try dsimp only); (try k_fold))
  k_with "call ref" => (k_here; (with_reducible show wpAny _ _ (call (Value.ref 108) [Value.int _ _]) _ _ _); k_dflt (refine' refusedC _ _ _ _ _ _ _ _ _ _ _ _ _ _ _ _ _ _ _ _ _ ?k1z59 ?k2z59 ?k3z59 ?k4z59 ?k5z59 ?kKz59 ?kdz59 ?kuz59 ?_; (case k1z59 => exact below_caller _); (case k2z59 => k_asm); (case k3z59 => k_in); (case k4z59 => k_asm); (case k5z59 => k_asm); (case kKz59 => first | exact rfl | assumption); (case kdz59 => ktr_room); (case kuz59 => ktr_units)); intro t9 h9 tk9 F9 N9; (try dsimp only); (try k_fold))
  k_with "call builtin:len" => (k_here; (with_reducible show wpAny _ _ (call (Value.builtin "len") [Value.ref _]) _ _ _); (with_reducible rename RowC _ => hT9'); k_dflt (refine' len_take hT9' ?hnz60 ?kNz60 ?kmz60 ?_; (case kNz60 => k_asm); (case kmz60 => k_mem); (case hnz60 => with_reducible assumption)))
  trivial
theorem f6 : f5.1 := by
  have hP := True.intro
  dsimp only [f5, mkP]
  k_fill
  intros
  (with_reducible rename News _ _ _ _ => N9)
  have N8 := keepN [false, false, false, true, false, false, false, false, false] N9
  simp only [keepM] at N8
  clear N9
  k_steps
  all_goals ((with_reducible rename Fr _ _ _ _ => F9); with_reducible rename News _ _ _ _ => N9)
  all_goals first
    | ((with_reducible rename BoolJ (List.map _ _) _ _ _ => hJ9); exact cendB F9 N9 hJ9 (by with_reducible assumption) (fun p hp => hp))
    | ((with_reducible rename BoolJ T3b _ _ _ => hJ9); exact cendB F9 N9 hJ9 rfl (fun p hp => hp))
end Mine
end
theorem PySem.Challenge.cw_wr0036_01_holds : PySem.Challenge.rw_wr0036_01.Holds :=
  @PSigma.snd _ _ Mine.f1 (@PSigma.snd _ _ Mine.f2 (@PSigma.snd _ _ Mine.f3 (@PSigma.snd _ _ Mine.f4 (@PSigma.snd _ _ Mine.f5 Mine.f6))))
