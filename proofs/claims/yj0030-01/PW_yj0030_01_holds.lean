import PyProof.Rows.All
import Wide.All
import OpenK.AllK
import Wide.FinOn
import PySem.Challenge.RW_yj0030_01
open PySem PySem.W PyProof.Rows PySem.Spec PySem.Calls
set_option Elab.async false
set_option compiler.extract_closed false
set_option genInjectivity false
set_option genSizeOf false
set_option maxRecDepth 100000
set_option maxHeartbeats 4000000
set_option linter.unusedVariables false
namespace Mine
local macro_rules | `(tactic| walk_at $s:str) => `(tactic| k_extra $s)
local macro_rules | `(tactic| k_mem) => `(tactic| k_extra "mem")
local macro_rules | `(tactic| k_inst) => `(tactic| k_extra "inst")
local macro_rules | `(tactic| k_ne) => `(tactic| k_extra "ne")
section
set_option maxHeartbeats 0
section
local macro_rules | `(tactic| o_head $_) => `(tactic| skip)
theorem hd (h : PySem.Challenge.rw_yj0030_01.row.Holds) : PySem.Challenge.rw_yj0030_01.row.Holds := by
 k_head
 exact h
end
noncomputable def view1 : Program := view PySem.Challenge.rw_yj0030_01.row.prog [0, 1, 3, 4, 5, 6, 7, 9, 10, 11, 12, 14, 15, 16, 18, 20, 21, 22, 23, 24, 25, 26]
noncomputable def loose1 : List Str := [Str.ofString "_twin_re_1", Str.ofString "_Accumulator", Str.ofString "tspecials", Str.ofString "_name_disallowed_re", Str.ofString "_value_disallowed_re", Str.ofString "_formatparam"]
noncomputable def as1 : List Addr := [2, 3, 32, 34, 35, 37, 38, 42, 43, 51, 53, 54, 56, 57, 58, 60, 61, 63, 64, 65, 67, 68, 70, 71, 72, 74, 75, 77, 78, 79, 81, 82, 84, 85, 86, 88, 89, 91, 92, 93, 95, 96, 98, 99, 100, 102, 103, 105, 106, 107, 109, 110, 112, 113, 114, 115, 116, 117, 118, 121, 124, 129, 130, 131, 133, 134, 136, 137, 138, 140, 141, 143, 144, 145, 146, 148, 149, 151, 152, 153, 154, 156, 157, 159, 160, 161, 163, 164, 166, 167, 168, 170, 171, 173, 174, 175, 176, 178, 179, 181, 182, 183, 185, 186, 188, 189, 190, 191, 193, 194, 196, 197, 198, 199, 200, 201, 202, 205, 207, 208, 210, 211, 212, 214, 215, 217, 218, 219, 221, 222, 224, 225, 229, 230, 234, 235, 239, 240, 241, 242, 244, 245, 247, 248, 256, 257, 259, 260, 262, 263, 264, 266, 267, 269, 270, 271, 273, 274, 276, 277, 278, 280, 281, 283, 284, 285, 288, 289, 290, 292, 293, 295, 296, 297, 299, 300, 302, 303, 304, 307, 308, 309, 310, 312, 313, 315, 316, 317, 320, 321, 322, 325, 326, 327, 329, 330, 332, 333, 334, 336, 337, 339, 340, 341, 344, 345, 346, 348, 349, 351, 352, 353, 355, 356, 358, 359, 360, 362, 363, 365, 366, 367, 368, 369, 370, 371, 374, 376, 377, 379, 380, 381, 383, 384, 386, 387, 388, 390, 391, 393, 394, 395, 397, 398, 400, 401, 402, 404, 405, 407, 408, 409, 412, 413, 414, 417, 418]
theorem as1_eq : ∀ P, as1 = (hd.heap_1 P).map (·.1) := fun P => by kernel_rfl
noncomputable abbrev H1 : Hook := kmHook hd.heap_1 as1 as1_eq [162, 169]
theorem hl : LeftO PySem.Challenge.rw_yj0030_01.row.prog view1 loose1 (fun s => xlAt view1 [] s && recOk (RowW.records (OpenRow.toRowW PySem.Challenge.rw_yj0030_01.row)) s) (Hook.obs H1) (Hook.val H1) 5030 true := by
 intro w
 delta openEnds fencedOpening topFrom
 rw [PySem.W.Fast.te10274390034422433532, PySem.W.Fast.te14289696077712309145, PySem.W.Fast.te14082659384304107361, PySem.W.Fast.te4187177175401517315, PySem.W.Fast.te1435165496053646825, PySem.W.Fast.te14364793385576792824, PySem.W.Fast.te5923862056798008813]
 kernel_rfl
theorem said1 : PySem.Challenge.rw_yj0030_01.wellSaid = true := by kernel_rfl
end
theorem fill_once {h₀ : Heap} {w : World} (X : (hd.heap_1 w.params).In h₀) : True := by
 have hfill : (hd.heap_1 w.params).In h₀ ∧ Challenge.rw_yj0030_01 = Challenge.rw_yj0030_01 := ⟨X, rfl⟩
 revert hfill; k_fill; intro _
 k_with "ne" => (refine neN ?_; (try dsimp only); first | with_reducible (first | assumption | (refine Ne.symm ?_; assumption) | exact ne_1 | exact ne_1.symm | exact ne_2 | exact ne_2.symm | exact ne_3 | exact ne_3.symm | exact ne_4 | exact ne_4.symm) | exact (by with_reducible assumption : Apt _ _) | exact Ne.symm (by with_reducible assumption : Apt _ _) | omega)
 k_with "d2" => (repeat' (first | with_reducible (first | exact m_id | exact m_nil | exact m_lid | exact m_mapl | exact m_mapl2 | refine m_cons ?_ ?_ | refine m_app ?_ ?_ | refine m_map ?_ ?_ | refine m_map1 ?_ | exact m_hd | refine m_tl ?_ | exact m_mapr rfl | refine m_tail ?_ | refine m_right ?_ | refine m_inr ?_) | exact m_hd | refine m_tl ?_))
 k_with "d3" => (first | assumption | omega | ktr_room | ktr_units | (simp only [] at *; omega))
 trivial
theorem fl {h₀ : Heap} {w : World} (X : (hd.heap_1 w.params).In h₀) : (hd.heap_1 w.params).In h₀ ∧ Challenge.rw_yj0030_01 = Challenge.rw_yj0030_01 := ⟨X, rfl⟩
noncomputable section
noncomputable def wW : World := ⟨fun _ _ => 0, { strHash := fun _ => 0, shareClass := fun _ => 0, mergeTok := fun _ => 0, idOf := fun _ => 0, idOfShared := fun _ _ => 0, followText := fun _ => true, idOfImm := fun _ => 0 }⟩
structure Cl (F : Type) where
 T : Type
 n : Nonempty T
 v : F → T → Prop
 u : F → Prop
 k : ∀ f, (∀ t, v f t) → u f
noncomputable def aP : Cl Prop := ⟨Unit, ⟨()⟩, fun p _ => p, fun p => p, fun _ h => h ()⟩
noncomputable def aN {A B : Type} (e : Nonempty A) (c : Cl B) : Cl (A → B) := ⟨A × c.T, e.elim fun a => c.n.elim fun t => ⟨(a, t)⟩, fun f t => c.v (f t.1) t.2, fun f => ∀ a, c.u (f a), fun f h a => c.k (f a) fun t => h (a, t)⟩
noncomputable def hz {F : Type} {u : Cl F} (q : F) : u.T := @Classical.epsilon u.T u.n fun t => ¬u.v q t
theorem hy {F : Type} {u : Cl F} {q : F} (h : u.v q (hz q)) : u.u q := u.k q fun t => Classical.byContradiction fun n => @Classical.epsilon_spec u.T (fun t => ¬u.v q t) ⟨t, n⟩ h
theorem hG {P : Prop} (h : ∀ G : Prop, (P → G) → G) : P := h P id
noncomputable def hx0 {A0 T : Type} (t : A0 × T) : A0 := t.1
noncomputable def hx1 {A0 A1 T : Type} (t : A0 × A1 × T) : A1 := t.2.1
noncomputable def hx2 {A0 A1 A2 T : Type} (t : A0 × A1 × A2 × T) : A2 := t.2.2.1
noncomputable def hx3 {A0 A1 A2 A3 T : Type} (t : A0 × A1 × A2 × A3 × T) : A3 := t.2.2.2.1
noncomputable def hx4 {A0 A1 A2 A3 A4 T : Type} (t : A0 × A1 × A2 × A3 × A4 × T) : A4 := t.2.2.2.2.1
noncomputable def hx5 {A0 A1 A2 A3 A4 A5 T : Type} (t : A0 × A1 × A2 × A3 × A4 × A5 × T) : A5 := t.2.2.2.2.2.1
noncomputable def hx6 {A0 A1 A2 A3 A4 A5 A6 T : Type} (t : A0 × A1 × A2 × A3 × A4 × A5 × A6 × T) : A6 := t.2.2.2.2.2.2.1
noncomputable def hx7 {A0 A1 A2 A3 A4 A5 A6 A7 T : Type} (t : A0 × A1 × A2 × A3 × A4 × A5 × A6 × A7 × T) : A7 := t.2.2.2.2.2.2.2.1
noncomputable def ht {A B C D E F G H T : Type} (t : A × B × C × D × E × F × G × H × T) : T := t.2.2.2.2.2.2.2.2
noncomputable def Part1 {A1 : Type} (u1 : Cl A1) (G : Prop) : Type := {Q : A1 // u1.u Q → G}
noncomputable def Part1.mk {A1 : Type} {u1 : Cl A1} {G : Prop} (Q1 : A1) (h : u1.u Q1 → G) : Part1 u1 G := ⟨Q1, h⟩
noncomputable def Part1.Q1 {A1 : Type} {u1 : Cl A1} {G : Prop} (p : Part1 u1 G) : A1 := p.1
theorem Part1.h {A1 : Type} {u1 : Cl A1} {G : Prop} (p : Part1 u1 G) : u1.u p.Q1 → G := p.2
noncomputable def Part1.z1 {A1 : Type} {u1 : Cl A1} {G : Prop} (p : Part1 u1 G) : u1.T := hz p.Q1
noncomputable def Part1.U1 {A1 : Type} {u1 : Cl A1} {G : Prop} (p : Part1 u1 G) : Prop := u1.u p.Q1
noncomputable def Part2 {A1 A2 : Type} (u1 : Cl A1) (u2 : Cl A2) (G : Prop) : Type := {Q : A1 × A2 // u1.u Q.1 → u2.u Q.2 → G}
noncomputable def Part2.mk {A1 A2 : Type} {u1 : Cl A1} {u2 : Cl A2} {G : Prop} (Q1 : A1) (Q2 : A2) (h : u1.u Q1 → u2.u Q2 → G) : Part2 u1 u2 G := ⟨(Q1, Q2), h⟩
noncomputable def Part2.Q1 {A1 A2 : Type} {u1 : Cl A1} {u2 : Cl A2} {G : Prop} (p : Part2 u1 u2 G) : A1 := p.1.1
noncomputable def Part2.Q2 {A1 A2 : Type} {u1 : Cl A1} {u2 : Cl A2} {G : Prop} (p : Part2 u1 u2 G) : A2 := p.1.2
theorem Part2.h {A1 A2 : Type} {u1 : Cl A1} {u2 : Cl A2} {G : Prop} (p : Part2 u1 u2 G) : u1.u p.Q1 → u2.u p.Q2 → G := p.2
noncomputable def Part2.z1 {A1 A2 : Type} {u1 : Cl A1} {u2 : Cl A2} {G : Prop} (p : Part2 u1 u2 G) : u1.T := hz p.Q1
noncomputable def Part2.z2 {A1 A2 : Type} {u1 : Cl A1} {u2 : Cl A2} {G : Prop} (p : Part2 u1 u2 G) : u2.T := hz p.Q2
noncomputable def Part2.U1 {A1 A2 : Type} {u1 : Cl A1} {u2 : Cl A2} {G : Prop} (p : Part2 u1 u2 G) : Prop := u1.u p.Q1
noncomputable def Part2.U2 {A1 A2 : Type} {u1 : Cl A1} {u2 : Cl A2} {G : Prop} (p : Part2 u1 u2 G) : Prop := u2.u p.Q2
noncomputable def Cl.a {B : Type} (c : Cl B) : Cl (Nat → B) := aN inferInstance c
noncomputable def Cl.b {B : Type} (c : Cl B) : Cl (Heap → B) := aN ⟨{}⟩ c
noncomputable def Cl.c {B : Type} (c : Cl B) : Cl (Addr → B) := aN inferInstance c
noncomputable def Cl.d {B : Type} (c : Cl B) : Cl (Tok → B) := aN inferInstance c
noncomputable def Cl.e {B : Type} (c : Cl B) : Cl ((Str → Option Value) → B) := aN inferInstance c
noncomputable def Cl.f {B : Type} (c : Cl B) : Cl ((Value → Shared → Prop) → B) := aN inferInstance c
noncomputable def Cl.g {B : Type} (c : Cl B) : Cl (Obj → B) := aN inferInstance c
noncomputable def Cl.h {B : Type} (c : Cl B) : Cl (Value → B) := aN inferInstance c
noncomputable def Cl.i {B : Type} (c : Cl B) : Cl (Str → B) := aN inferInstance c
noncomputable def Cl.j {B : Type} (c : Cl B) : Cl (World → B) := aN ⟨wW⟩ c
noncomputable def Cl.l {B : Type} (c : Cl B) : Cl (Around → B) := aN ⟨{}⟩ c
noncomputable def Cl.m {B : Type} (c : Cl B) : Cl (Shared → B) := aN ⟨{}⟩ c
noncomputable def Cl.o {B : Type} (c : Cl B) : Cl (Option Value → B) := aN inferInstance c
noncomputable def Cl.p {B : Type} (c : Cl B) : Cl (Array GenState → B) := aN inferInstance c
noncomputable def Cl.q {B : Type} (c : Cl B) : Cl (List (Addr × Obj) → B) := aN inferInstance c
noncomputable def Cl.r {B : Type} (c : Cl B) : Cl (Scope → B) := aN inferInstance c
noncomputable def Cl.s {B : Type} (c : Cl B) : Cl (List (Str × Addr) → B) := aN inferInstance c
noncomputable def Cl.t {B : Type} (c : Cl B) : Cl ((ExcName → Option Value) → B) := aN inferInstance c
noncomputable def Cl.w {B : Type} (c : Cl B) : Cl (Option (List Code) → B) := aN inferInstance c
noncomputable def Cl.x {B : Type} (c : Cl B) : Cl (List Env → B) := aN inferInstance c
noncomputable def Cl.y {B : Type} (c : Cl B) : Cl (Array Value → B) := aN inferInstance c
noncomputable def Cl.z {B : Type} (c : Cl B) : Cl (Pos → B) := aN inferInstance c
noncomputable def Cl.A {B : Type} (c : Cl B) : Cl (List Value → B) := aN inferInstance c
noncomputable def Cl.C {B : Type} (c : Cl B) : Cl (Int → B) := aN inferInstance c
noncomputable def Cl.F {B : Type} (c : Cl B) : Cl (Program → B) := aN inferInstance c
noncomputable def Cl.H {B : Type} (c : Cl B) : Cl ((Obj → List (Addr × Obj)) → B) := aN inferInstance c
noncomputable def Cl.I {B : Type} (c : Cl B) : Cl (List (Str × Tok) → B) := aN inferInstance c
noncomputable def Cl.J {B : Type} (c : Cl B) : Cl (Expr → B) := aN inferInstance c
noncomputable def Cl.L {B : Type} (c : Cl B) : Cl (List (Int × Tok) → B) := aN inferInstance c
noncomputable def Cl.M {B : Type} (c : Cl B) : Cl ((Result → Shared → Prop) → B) := aN inferInstance c
noncomputable def Cl.N {B : Type} (c : Cl B) : Cl (Env → B) := aN inferInstance c
noncomputable def Cl.O {B : Type} (c : Cl B) : Cl (Option Int → B) := aN inferInstance c
noncomputable def Cl.R {B : Type} (c : Cl B) : Cl (Nat × Tok → B) := aN inferInstance c
noncomputable def Cl.U {B : Type} (c : Cl B) : Cl ((Flow → Shared → Prop) → B) := aN inferInstance c
noncomputable def Cl.V {B : Type} (c : Cl B) : Cl (Drawn → B) := aN ⟨{}⟩ c
noncomputable def Cl.W {B : Type} (c : Cl B) : Cl (OsState → B) := aN inferInstance c
noncomputable def Cl.X {B : Type} (c : Cl B) : Cl (List Int → B) := aN inferInstance c
noncomputable def Cl.Y {B : Type} (c : Cl B) : Cl (List (Nat × Tok) → B) := aN inferInstance c
noncomputable def Cl.Z {B : Type} (c : Cl B) : Cl ((Option Value → Shared → Prop) → B) := aN inferInstance c
noncomputable def Cl.y0 {B : Type} (c : Cl B) : Cl (Frag → B) := aN inferInstance c
noncomputable def Cl.y1 {B : Type} (c : Cl B) : Cl ((Unit → Shared → Prop) → B) := aN inferInstance c
noncomputable def Cl.y2 {B : Type} (c : Cl B) : Cl ((Obj → Obj → List (Addr × Obj)) → B) := aN inferInstance c
noncomputable def Cl.y4 {B : Type} (c : Cl B) : Cl (Option Obj → B) := aN inferInstance c
noncomputable def Cl.y8 {B : Type} (c : Cl B) : Cl (List Nat → B) := aN inferInstance c
section
open PySem PySem.Sre PySem.Sre.M
noncomputable abbrev cdS : Array Nat := #[14, 4, 0, 1, 4294967295, 17, 0, 24, 11, 1, 4294967295, 13, 6, 16, 32, 16, 9, 0, 1, 17, 1, 1]
noncomputable def stepN : Nat → M → M
 | 0, m => m
 | n + 1, m => stepN n m.step
theorem step_out {m : M} (h : m.outcome.isSome = true) : m.step = m := by unfold M.step; rw [if_pos h]
theorem stepN_out {m : M} (h : m.outcome.isSome = true) : ∀ n, stepN n m = m
 | 0 => rfl
 | n + 1 => by rw [stepN, step_out h, stepN_out h n]
theorem runFor_eq : ∀ n (m : M), M.runFor n m = stepN n m
 | 0, m => rfl
 | n + 1, m => by
  unfold M.runFor
  by_cases h : m.outcome.isSome = true
  ·rw [if_pos h, stepN_out h]
  ·rw [if_neg h, runFor_eq n, stepN]
theorem stepN_add (a b : Nat) : ∀ m, stepN (a + b) m = stepN b (stepN a m) := by
 induction a with
 | zero => intro m; simp [stepN]
 | succ a ih => intro m; rw [Nat.succ_add]; exact ih m.step
theorem stepN_past {m : M} {k n : Nat} (h : k ≤ n) (ho : (stepN k m).outcome.isSome = true) : stepN n m = stepN k m := by
 have e : n = k + (n - k) := by omega
 rw [e, stepN_add, stepN_out ho]
noncomputable abbrev stS (text : Array Nat) (lim i : Nat) (first : Bool) (mk : Array (Option Nat)) (sn : Sre.Seen) : M :=
  { code := cdS, text, lim, start := i, lastStart := lim, wholeText := false, mustAdvance := false, pc := 5, pos := i, handed := i, outermost := first, marks := mk, lastmark := -1, lastindex := -1, loops := #[], inner := none,
    frames := [{ wait := .nextStart, pc := 5, pos := i, outermost := first }], weight := 1, answer := none, seen := sn, outcome := none }
theorem acc_no {c : Nat} (h1 : c ≠ 32) (h2 : c ≠ 9) (sn : Sre.Seen) : accepts cdS 11 c sn = .ok (false, ((sn.add 16).add 16).add 0) := by
 have e1 : (c == 32) = false := by simpa using h1
 have e2 : (c == 9) = false := by simpa using h2
 show (if (c == 32) = true then Except.ok (true, sn.add 16) else (if (c == 9) = true then Except.ok (true, (sn.add 16).add 16) else Except.ok (false, ((sn.add 16).add 16).add 0))) = _
 rw [e1, e2]
 rfl
theorem acc_yes (sn : Sre.Seen) : ∃ sn', accepts cdS 11 32 sn = .ok (true, sn') := ⟨_, rfl⟩
section
variable {text : Array Nat} {lim i : Nat} {first : Bool} {mk : Array (Option Nat)} {sn : Sre.Seen}
noncomputable abbrev repS (m : M) : M :=
 let room : Int := (m.lim : Int) - m.pos
 let m := { m with seen := m.seen.add 24 }
 if ((1 : Nat) : Int) > room then m.say false else
 match PySem.Sre.run cdS m.text 11 (min 4294967295 room.toNat) m.pos 0 (m.seen.add 13) with
 | .error why => m.stick why
 | .ok (n, sn2) =>
  let m := { m with seen := sn2 }
  if n < 1 then m.say false else { m with pos := m.pos + n }.afterRun .giveBack n (m.keep m.inner.isSome)
theorem step_rep (mk : Array (Option Nat)) (sn : Sre.Seen) : M.step { stS text lim i first mk sn with pc := 7, lastmark := 0 } = repS { stS text lim i first mk sn with pc := 7, lastmark := 0 } := rfl
theorem run_none (hi : i < lim) (h1 : text.getD i 0 ≠ 32) (h2 : text.getD i 0 ≠ 9) (sn : Sre.Seen) : ∃ sn', PySem.Sre.run cdS text 11 (min 4294967295 ((lim : Int) - i).toNat) i 0 sn = .ok (0, sn') := by
 obtain ⟨n, hn⟩ : ∃ n, min 4294967295 ((lim : Int) - i).toNat = n + 1 := ⟨min 4294967295 ((lim : Int) - i).toNat - 1, by lia⟩
 refine ⟨((sn.add 16).add 16).add 0, ?_⟩
 rw [hn]
 unfold PySem.Sre.run
 rw [acc_no h1 h2]
 rfl
theorem stS_fail (hi : i < lim) (h1 : text.getD i 0 ≠ 32) (h2 : text.getD i 0 ≠ 9) : ∃ mk' sn', mk'.size = mk.size ∧ stepN 3 (stS text lim i first mk sn) = stS text lim (i + 1) false mk' sn' := by
 have s1 : (stS text lim i first mk sn).step = { stS text lim i first (mk.setIfInBounds 0 (some i)) (sn.add 17) with pc := 7, lastmark := 0 } := rfl
 obtain ⟨sn', e⟩ := run_none hi h1 h2 (((sn.add 17).add 24).add 13)
 refine ⟨mk.setIfInBounds 0 (some i), sn', by simp, ?_⟩
 show ((stS text lim i first mk sn).step).step.step = _
 rw [s1, step_rep]
 unfold repS
 dsimp only
 rw [if_neg (by lia), e]
 dsimp only
 rw [if_pos (by decide)]
 unfold M.say M.step
 dsimp only
 rw [if_neg (by decide)]
 show M.resume _ _ false = _
 unfold M.resume
 dsimp only
 rw [if_neg (by decide), if_pos hi]
 rfl
theorem run_one (hi : i < lim) (h1 : text.getD i 0 = 32) (h2 : i + 1 < lim → text.getD (i + 1) 0 ≠ 32 ∧ text.getD (i + 1) 0 ≠ 9) (sn : Sre.Seen) : ∃ sn', PySem.Sre.run cdS text 11 (min 4294967295 ((lim : Int) - i).toNat) i 0 sn = .ok (1, sn') := by
 obtain ⟨n, hn⟩ : ∃ n, min 4294967295 ((lim : Int) - i).toNat = n + 1 := ⟨min 4294967295 ((lim : Int) - i).toNat - 1, by lia⟩
 obtain ⟨sn1, e1⟩ := acc_yes sn
 rw [hn]
 unfold PySem.Sre.run
 rw [h1, e1]
 show ∃ sn', PySem.Sre.run cdS text 11 n (i + 1) (0 + 1) sn1 = _
 cases n with
 | zero => exact ⟨sn1, rfl⟩
 | succ n =>
  have hlt : i + 1 < lim := by lia
  obtain ⟨a, b⟩ := h2 hlt
  unfold PySem.Sre.run
  rw [acc_no a b]
  exact ⟨_, rfl⟩
theorem stS_hit (hi : i < lim) (h1 : text.getD i 0 = 32) (h2 : i + 1 < lim → text.getD (i + 1) 0 ≠ 32 ∧ text.getD (i + 1) 0 ≠ 9) (hm : mk.size = 2) :
  ∃ m', stepN 7 (stS text lim i first mk sn) = m' ∧ m'.outcome = some .matched ∧ m'.start = i ∧ m'.handed = i + 1 ∧ m'.lastmark = 1 ∧ m'.marks = #[some i, some (i + 1)] := by
 have s1 : (stS text lim i first mk sn).step = { stS text lim i first (mk.setIfInBounds 0 (some i)) (sn.add 17) with pc := 7, lastmark := 0 } := rfl
 obtain ⟨sn', e⟩ := run_one hi h1 h2 (((sn.add 17).add 24).add 13)
 refine ⟨_, rfl, ?_⟩
 have hmk : (mk.setIfInBounds 0 (some i)).setIfInBounds 1 (some (i + 1)) = #[some i, some (i + 1)] := by
  obtain ⟨l⟩ := mk
  match l, hm with
  | [a, b], _ => rfl
 have s2 : stepN 2 (stS text lim i first mk sn) = { stS text lim i first (mk.setIfInBounds 0 (some i)) sn' with pc := 19, pos := i + 1, handed := i + 1, lastmark := 0, weight := 2, frames := [{ wait := .giveBack, pc := 7, pos := i + 1, outermost := first, count := 1, kept := { lastmark := 0, lastindex := -1, whole := false, marks := #[] } }, { wait := .nextStart, pc := 5, pos := i, outermost := first }] } := by
  show ((stS text lim i first mk sn).step).step = _
  rw [s1, step_rep]
  unfold repS
  dsimp only
  rw [if_neg (by lia), e]
  rfl
 have s3 : M.step { stS text lim i first (mk.setIfInBounds 0 (some i)) sn' with pc := 19, pos := i + 1, handed := i + 1, lastmark := 0, weight := 2, frames := [{ wait := .giveBack, pc := 7, pos := i + 1, outermost := first, count := 1, kept := { lastmark := 0, lastindex := -1, whole := false, marks := #[] } }, { wait := .nextStart, pc := 5, pos := i, outermost := first }] }
   = { stS text lim i first ((mk.setIfInBounds 0 (some i)).setIfInBounds 1 (some (i + 1))) (sn'.add 17) with pc := 21, pos := i + 1, handed := i + 1, lastmark := 1, lastindex := 1, weight := 2, frames := [{ wait := .giveBack, pc := 7, pos := i + 1, outermost := first, count := 1, kept := { lastmark := 0, lastindex := -1, whole := false, marks := #[] } }, { wait := .nextStart, pc := 5, pos := i, outermost := first }] } := by kernel_rfl
 have s4 : ∀ sn2 mk2, M.step { stS text lim i first mk2 sn2 with pc := 21, pos := i + 1, handed := i + 1, lastmark := 1, lastindex := 1, weight := 2, frames := [{ wait := .giveBack, pc := 7, pos := i + 1, outermost := first, count := 1, kept := { lastmark := 0, lastindex := -1, whole := false, marks := #[] } }, { wait := .nextStart, pc := 5, pos := i, outermost := first }] }
   = { stS text lim i first mk2 (sn2.add 1) with pc := 21, pos := i + 1, handed := i + 1, lastmark := 1, lastindex := 1, weight := 2, answer := some true, frames := [{ wait := .giveBack, pc := 7, pos := i + 1, outermost := first, count := 1, kept := { lastmark := 0, lastindex := -1, whole := false, marks := #[] } }, { wait := .nextStart, pc := 5, pos := i, outermost := first }] } := fun sn2 mk2 => by cases first <;> rfl
 have s5 : ∀ sn2 mk2, M.step { stS text lim i first mk2 sn2 with pc := 21, pos := i + 1, handed := i + 1, lastmark := 1, lastindex := 1, weight := 2, answer := some true, frames := [{ wait := .giveBack, pc := 7, pos := i + 1, outermost := first, count := 1, kept := { lastmark := 0, lastindex := -1, whole := false, marks := #[] } }, { wait := .nextStart, pc := 5, pos := i, outermost := first }] }
   = { stS text lim i first mk2 sn2 with pc := 7, pos := i + 1, handed := i + 1, lastmark := 1, lastindex := 1, weight := 1, answer := some true } := fun sn2 mk2 => rfl
 have s6 : ∀ sn2 mk2, M.step { stS text lim i first mk2 sn2 with pc := 7, pos := i + 1, handed := i + 1, lastmark := 1, lastindex := 1, weight := 1, answer := some true }
   = { stS text lim i first mk2 sn2 with handed := i + 1, lastmark := 1, lastindex := 1, weight := 0, answer := some true, frames := [] } := fun sn2 mk2 => rfl
 have s7 : ∀ sn2 mk2, M.step { stS text lim i first mk2 sn2 with handed := i + 1, lastmark := 1, lastindex := 1, weight := 0, answer := some true, frames := [] }
   = { stS text lim i first mk2 sn2 with handed := i + 1, lastmark := 1, lastindex := 1, weight := 0, answer := some true, frames := [], outcome := some .matched } := fun sn2 mk2 => rfl
 have e7 : stepN 7 (stS text lim i first mk sn) = { stS text lim i first ((mk.setIfInBounds 0 (some i)).setIfInBounds 1 (some (i + 1))) ((sn'.add 17).add 1) with handed := i + 1, lastmark := 1, lastindex := 1, weight := 0, answer := some true, frames := [], outcome := some .matched } := by
  rw [show (7 : Nat) = 2 + 5 from rfl, stepN_add, s2]
  show M.step (M.step (M.step (M.step (M.step _)))) = _
  rw [s3, s4, s5, s6, s7]
 rw [e7]
 exact ⟨rfl, rfl, rfl, rfl, hmk⟩
theorem stS_end : ∃ m', stepN 4 (stS text lim lim first mk sn) = m' ∧ m'.outcome = some .failed := by
 refine ⟨_, rfl, ?_⟩
 have s1 : (stS text lim lim first mk sn).step = { stS text lim lim first (mk.setIfInBounds 0 (some lim)) (sn.add 17) with pc := 7, lastmark := 0 } := rfl
 show (((stS text lim lim first mk sn).step).step.step.step).outcome = _
 rw [s1, step_rep]
 unfold repS
 dsimp only
 rw [if_pos (by lia)]
 have r : ∀ sn2 mk2, M.step { stS text lim lim first mk2 sn2 with pc := 7, lastmark := 0, answer := some false } = { stS text lim lim first mk2 sn2 with lastmark := 0, answer := some false, weight := 0, frames := [] } := fun sn2 mk2 => by
  unfold M.step
  dsimp only
  rw [if_neg (by decide)]
  unfold M.resume
  dsimp only
  rw [if_neg (by decide), if_neg (Nat.lt_irrefl _)]
  rfl
 show (M.step (M.step { stS text lim lim first (mk.setIfInBounds 0 (some lim)) ((sn.add 17).add 24) with pc := 7, lastmark := 0, answer := some false })).outcome = _
 rw [r]
 rfl
theorem fresh_at (h : i < lim) : forSearch cdS text 1 i lim false = stS text lim i true (Array.replicate 2 none) (({} : Sre.Seen).add 14) := by
 unfold forSearch
 have e : ¬ ((decide (i > lim) || decide (lim - i < (header cdS).1)) = true) := by
  rw [show (header cdS).1 = 1 from rfl]
  simp
  lia
 dsimp only
 rw [if_neg e]
 rfl
theorem fresh_end : ∃ m', stepN 1 (forSearch cdS text 1 lim lim false) = m' ∧ m'.outcome = some .failed := by
 refine ⟨_, rfl, ?_⟩
 unfold forSearch
 have e : ((decide (lim > lim) || decide (lim - lim < (header cdS).1)) = true) := by
  rw [show (header cdS).1 = 1 from rfl]
  simp
 dsimp only
 rw [if_pos e]
 rfl
theorem walk_to : ∀ (d i : Nat) (first : Bool) (mk : Array (Option Nat)) (sn : Sre.Seen), i + d ≤ lim → (∀ j, i ≤ j → j < i + d → text.getD j 0 ≠ 32 ∧ text.getD j 0 ≠ 9) → mk.size = 2 →
  ∃ f' mk' sn', mk'.size = 2 ∧ stepN (3 * d) (stS text lim i first mk sn) = stS text lim (i + d) f' mk' sn'
 | 0, i, first, mr, sn, _, _, hm => ⟨first, mr, sn, hm, rfl⟩
 | d + 1, i, first, mr, sn, hd, hn, hm => by
  obtain ⟨a, b⟩ := hn i (Nat.le_refl _) (by lia)
  obtain ⟨mk1, sn1, e1, e2⟩ := stS_fail (first := first) (mk := mr) (sn := sn) (by lia : i < lim) a b
  obtain ⟨f', mk', sn', h1, h2⟩ := walk_to d (i + 1) false mk1 sn1 (by lia) (fun j h3 h4 => hn j (by lia) (by lia)) (e1.trans hm)
  refine ⟨f', mk', sn', h1, ?_⟩
  rw [show 3 * (d + 1) = 3 + 3 * d by lia, stepN_add, e2, h2, show i + (d + 1) = i + 1 + d by lia]
theorem search_hit {d : Nat} (hi : i + d < lim) (hn : ∀ j, i ≤ j → j < i + d → text.getD j 0 ≠ 32 ∧ text.getD j 0 ≠ 9) (h1 : text.getD (i + d) 0 = 32) (h2 : i + d + 1 < lim → text.getD (i + d + 1) 0 ≠ 32 ∧ text.getD (i + d + 1) 0 ≠ 9) :
  ∃ m', stepN (3 * d + 7) (forSearch cdS text 1 i lim false) = m' ∧ m'.outcome = some .matched ∧ m'.start = i + d ∧ m'.handed = i + d + 1 ∧ m'.lastmark = 1 ∧ m'.marks = #[some (i + d), some (i + d + 1)] := by
 rw [fresh_at (by lia)]
 obtain ⟨f', mk', sn', a, b⟩ := walk_to (text := text) (lim := lim) d i true (Array.replicate 2 none) (({} : Sre.Seen).add 14) (by lia) hn rfl
 rw [stepN_add, b]
 exact stS_hit hi h1 h2 a
theorem search_none {d : Nat} (hi : i + d = lim) (hn : ∀ j, i ≤ j → j < lim → text.getD j 0 ≠ 32 ∧ text.getD j 0 ≠ 9) :
  ∃ m', stepN (3 * d + 4) (forSearch cdS text 1 i lim false) = m' ∧ m'.outcome = some .failed := by
 cases d with
 | zero =>
  subst hi
  obtain ⟨m', e, h⟩ := fresh_end (text := text) (lim := i)
  refine ⟨m', ?_, h⟩
  rw [← e]
  exact stepN_past (by lia) (by show (stepN 1 (forSearch cdS text 1 i i false)).outcome.isSome = true; rw [e, h]; rfl)
 | succ d =>
  rw [fresh_at (by lia)]
  obtain ⟨f', mk', sn', a, b⟩ := walk_to (text := text) (lim := lim) (d + 1) i true (Array.replicate 2 none) (({} : Sre.Seen).add 14) (by lia) (fun j h3 h4 => hn j h3 (by lia)) rfl
  rw [stepN_add, b, hi]
  exact stS_end
end
end
section
open PySem.Sre (M)
section
variable {prog : Program} {w : World} {A : Around} {E : Value → Shared → Prop} {s : Shared}
theorem drive {Q : M → Shared → Prop} : ∀ (t k : Nat) (m : M), k ≤ 4 * t → (stepN k m).outcome.isSome = true → 0 < t → (∀ m', m' = stepN k m → Q m' s) → wpAny (model prog w) A (Builtin.Re.reDrive t m) Q E s
 | 0, k, m, hk, ho, ht, h => absurd ht (Nat.lt_irrefl _)
 | t + 1, k, m, hk, ho, ht, h => by
  unfold Builtin.Re.reDrive
  rw [show Builtin.Re.reTurnSteps = 4 from rfl, runFor_eq]
  by_cases h4 : (stepN 4 m).outcome.isSome = true
  ·rw [if_pos h4]
   refine wpAny_pure (h _ ?_)
   rcases Nat.le_total k 4 with hle | hle
   ·exact stepN_past hle ho
   ·exact (stepN_past hle h4).symm
  ·rw [if_neg h4]
   refine wpAny_bind (wpAny_rule ?_)
   have hle : 4 ≤ k := by
    rcases Nat.lt_or_ge k 4 with hlt | hge
    ·exact absurd (by rw [stepN_past (Nat.le_of_lt hlt) ho]; exact ho) h4
    ·exact hge
   have e : k = 4 + (k - 4) := by lia
   generalize k - 4 = r at e
   subst e
   rw [stepN_add] at ho h
   rcases Nat.eq_zero_or_pos t with rfl | hp
   ·have : r = 0 := by lia
    subst this
    exact absurd ho h4
   ·exact drive t r (stepN 4 m) (by lia) ho hp h
theorem told {seen : Nat → Bool} {Q : PUnit → Shared → Prop} : ∀ (l : List Nat), Q ⟨⟩ s → wpAny (model prog w) A (forIn l PUnit.unit fun i _ => do
   if seen i = true then rule (Sre.names.getD i "")
   pure (ForInStep.yield PUnit.unit)) Q E s
 | [], h => by rw [List.forIn_nil]; exact wpAny_pure h
 | i :: r, h => by
  rw [List.forIn_cons]
  refine wpAny_bind ?_
  by_cases hs : seen i = true
  ·rw [if_pos hs]
   exact wpAny_bind (wpAny_rule (wpAny_pure (told r h)))
  ·rw [if_neg hs]
   exact wpAny_pure (told r h)
end
section
variable {prog : Program} {w : World} {A : Around} {E : Value → Shared → Prop} {s : Shared} {Q : Option M → Shared → Prop}
theorem ranTo {m m' : M} {k : Nat} (hk : k ≤ 4 * 2 ^ 64) (he : stepN k m = m') (ho : m'.outcome = some .matched) (h : Q (some m') s) : wpAny (model prog w) A (Builtin.Re.reRunToEnd m) Q E s := by
 unfold Builtin.Re.reRunToEnd
 refine wpAny_bind (drive (2 ^ 64) k m hk (by rw [he, ho]; rfl) (Nat.two_pow_pos 64) fun m2 e2 => ?_)
 rw [he] at e2
 subst e2
 refine wpAny_bind (told _ ?_)
 rw [ho]
 exact wpAny_pure h
theorem ranOut {m m' : M} {k : Nat} (hk : k ≤ 4 * 2 ^ 64) (he : stepN k m = m') (ho : m'.outcome = some .failed) (h : Q none s) : wpAny (model prog w) A (Builtin.Re.reRunToEnd m) Q E s := by
 unfold Builtin.Re.reRunToEnd
 refine wpAny_bind (drive (2 ^ 64) k m hk (by rw [he, ho]; rfl) (Nat.two_pow_pos 64) fun m2 e2 => ?_)
 rw [he] at e2
 subst e2
 refine wpAny_bind (told _ ?_)
 rw [ho]
 exact wpAny_pure h
end
section
variable {prog : Program} {w : World} {A : Around} {E : Value → Shared → Prop} {s : Shared}
noncomputable def flatW : List (List Nat) → List Nat
 | [] => []
 | [w] => w
 | w :: v :: r => w ++ 32 :: flatW (v :: r)
noncomputable def partsW : List (List Nat) → List Str
 | [] => []
 | [w] => [⟨w.toArray⟩]
 | w :: v :: r => ⟨w.toArray⟩ :: Str.ofString " " :: partsW (v :: r)
noncomputable def CleanW (w : List Nat) : Prop := ∀ c ∈ w, c ≠ 32 ∧ c ≠ 9
noncomputable abbrev tgS (x : Str) (t : Tok) : Builtin.Re.ReTarget := { pattern := .ref 43, string := .str x t, code := cdS, text := x.cps, kind := 0, groups := 1, pos := 0, lim := x.cps.size }
noncomputable abbrev SSt := Array Value × Nat × Nat × Bool × Int × Bool
noncomputable def sfound (t : Builtin.Re.ReTarget) (st : SSt) (r : Option M) : Sem (ForInStep SSt) :=
 match r with
 | none => pure (ForInStep.yield (st.fst, st.snd.fst, st.snd.snd.fst, st.snd.snd.snd.fst, st.snd.snd.snd.snd.fst, true))
 | some m => Builtin.Re.reSlice t.text t.kind st.snd.snd.fst m.start >>= fun a =>
   (forIn (List.range t.groups) (st.fst.push a) fun g o => Builtin.Re.reMachineGroup t m (g + 1) (pure Value.none) >>= fun c => pure (ForInStep.yield (o.push c))) >>= fun b =>
   pure (ForInStep.yield (b, m.handed, m.handed, m.handed == m.start, st.snd.snd.snd.snd.fst + 1, st.snd.snd.snd.snd.snd))
noncomputable def sbody (t : Builtin.Re.ReTarget) (_ : Nat) (st : SSt) : Sem (ForInStep SSt) :=
 if (!st.snd.snd.snd.snd.snd) = true then
  (if (0 != 0 && decide (st.snd.snd.snd.snd.fst ≥ 0)) = true then pure none else Builtin.Re.reNextFound t st.snd.fst st.snd.snd.snd.fst) >>= sfound t st
 else pure (ForInStep.yield (st.fst, st.snd.fst, st.snd.snd.fst, st.snd.snd.snd.fst, st.snd.snd.snd.snd.fst, st.snd.snd.snd.snd.snd))
theorem sbody_go {t : Builtin.Re.ReTarget} {i p q : Nat} {n : Int} {o : Array Value} : sbody t i (o, p, q, false, n, false) = (Builtin.Re.reNextFound t p false >>= sfound t (o, p, q, false, n, false)) := rfl
theorem s_idle {t : Builtin.Re.ReTarget} {Q : SSt → Shared → Prop} {st : SSt} (ho : st.snd.snd.snd.snd.snd = true) : ∀ (rl : List Nat), Q st s → wpAny (model prog w) A (forIn rl st (sbody t)) Q E s
 | [], h => by rw [List.forIn_nil]; exact wpAny_pure h
 | i :: r, h => by
  rw [List.forIn_cons]
  refine wpAny_bind ?_
  unfold sbody
  rw [ho, if_neg (by decide)]
  refine wpAny_pure ?_
  have e : (st.fst, st.snd.fst, st.snd.snd.fst, st.snd.snd.snd.fst, st.snd.snd.snd.snd.fst, true) = st := by rw [← ho]
  dsimp only
  rw [e]
  exact s_idle ho r h
theorem getD_drop {x : Array Nat} {p k : Nat} : x.getD (p + k) 0 = ((x.toList.drop p)[k]?).getD 0 := by
 rw [List.getElem?_drop, Array.getElem?_toList, Array.getD_eq_getD_getElem?]
theorem extract_drop {x : Array Nat} {p k : Nat} : x.extract p (p + k) = ((x.toList.drop p).take k).toArray := by
 apply Array.toList_inj.mp
 simp [Array.toList_extract, List.extract_eq_take_drop]
theorem s_loop {x : Str} {t : Tok} {Q : SSt → Shared → Prop} (hz : x.cps.size < 1000) : ∀ (r : List (List Nat)) (wd : List Nat) (rl : List Nat) (l : List (Str × Tok)) (p : Nat) (n : Int) (s : Shared),
  x.cps.toList.drop p = flatW (wd :: r) → p ≤ x.cps.size → CleanW wd → (∀ v ∈ r, CleanW v ∧ v ≠ []) → r.length < rl.length →
  (∀ l2 tk q n', (l2.map (·.1)) ++ [⟨x.cps.extract q x.cps.size⟩] = (l.map (·.1)) ++ partsW (wd :: r) → Q ((strValues l2).toArray, q, q, false, n', true) { s with toks := tk }) →
  wpAny (model prog w) A (forIn rl ((strValues l).toArray, p, p, false, n, false) (sbody (tgS x t))) Q E s
 | _, _, [], _, _, _, _, _, _, _, _, hl, _ => absurd hl (Nat.not_lt_zero _)
 | [], wd, i :: rl, l, p, n, s, hd, hp, hc, hr, hl, h => by
  rw [List.forIn_cons]
  refine wpAny_bind ?_
  rw [sbody_go]
  refine wpAny_bind ?_
  have hd' : x.cps.toList.drop p = wd := hd
  have hlen : p + wd.length = x.cps.size := by
   have := congrArg List.length hd'
   simp at this
   lia
  obtain ⟨m', e1, e2⟩ := search_none (text := x.cps) (lim := x.cps.size) hlen (fun j h1 h2 => by
   obtain ⟨k, rfl⟩ := Nat.exists_eq_add_of_le h1
   rw [getD_drop, hd', List.getElem?_eq_getElem (by lia)]
   exact hc _ (List.getElem_mem _))
  refine ranOut (by lia) e1 e2 (wpAny_pure ?_)
  dsimp only
  refine s_idle rfl rl ?_
  refine h l s.toks p n ?_
  congr 1
  show [_] = [_]
  congr 2
  rw [← hlen, extract_drop, hd', List.take_of_length_le (Nat.le_refl _)]
 | v :: r, wd, i :: rl, l, p, n, s, hd, hp, hc, hr, hl, h => by
  rw [List.forIn_cons]
  refine wpAny_bind ?_
  rw [sbody_go]
  refine wpAny_bind ?_
  have hd' : x.cps.toList.drop p = wd ++ 32 :: flatW (v :: r) := hd
  have hlen : p + wd.length + 1 + (flatW (v :: r)).length = x.cps.size := by
   have := congrArg List.length hd'
   simp at this
   lia
  have hv := hr v (.head _)
  obtain ⟨m', e1, e2, e3, e4, e5, e6⟩ := search_hit (text := x.cps) (lim := x.cps.size) (i := p) (d := wd.length) (by lia) (fun j h1 h2 => by
   obtain ⟨k, rfl⟩ := Nat.exists_eq_add_of_le h1
   have hk : k < wd.length := by lia
   rw [getD_drop, hd', List.getElem?_append_left hk, List.getElem?_eq_getElem hk]
   exact hc _ (List.getElem_mem _)) (by rw [getD_drop, hd', List.getElem?_append_right (Nat.le_refl _)]; simp) (fun _ => by
   rw [Nat.add_assoc, getD_drop, hd', List.getElem?_append_right (by lia), Nat.add_sub_cancel_left]
   obtain ⟨c, v', rfl⟩ := List.exists_cons_of_ne_nil hv.2
   have hcc := hv.1 c (.head _)
   cases r <;> exact hcc)
  refine ranTo (by lia) e1 e2 ?_
  unfold sfound
  dsimp only
  have w1 : (⟨x.cps.extract p (p + wd.length)⟩ : Str) = ⟨wd.toArray⟩ := by rw [extract_drop, hd']; simp
  have w2 : (⟨x.cps.extract (p + wd.length) (p + wd.length + 1)⟩ : Str) = Str.ofString " " := by
   have e : x.cps.toList.drop (p + wd.length) = 32 :: flatW (v :: r) := by rw [← List.drop_drop, hd']; simp
   rw [extract_drop, e]; rfl
  have hle : ∀ y : Str, y.cps.size ≤ x.cps.size → y.length ≤ sizeLine := fun y hy => by
   show y.cps.size ≤ _
   simp [sizeLine]; lia
  refine wpAny_bind ?_
  show wpAny _ _ (mkStr ⟨x.cps.extract p m'.start⟩) _ _ _
  rw [e3, w1]
  refine wpAny_mkStr ?_ (hle _ (by rw [← congrArg Str.cps w1]; simp; lia))
  refine wpAny_bind ?_
  show wpAny _ _ (forIn [0] ((strValues l).toArray.push _) _) _ _ _
  rw [List.forIn_cons]
  refine wpAny_bind (wpAny_bind ?_)
  unfold Builtin.Re.reMachineGroup
  rw [if_neg (by rw [e5]; decide), e6]
  show wpAny _ _ (if p + wd.length + 1 < p + wd.length then _ else mkStr ⟨x.cps.extract (p + wd.length) (p + wd.length + 1)⟩) _ _ _
  rw [if_neg (by lia), w2]
  refine wpAny_mkStr (wpAny_pure ?_) (by decide)
  dsimp only
  rw [List.forIn_nil]
  refine wpAny_pure (wpAny_pure ?_)
  dsimp only
  rw [e4, show (p + wd.length + 1 == p + wd.length) = false from by simp]
  have es : ((strValues l).toArray.push (.str ⟨wd.toArray⟩ s.toks)).push (.str (Str.ofString " ") (s.toks + 1)) = (strValues (l ++ [(⟨wd.toArray⟩, s.toks), (Str.ofString " ", s.toks + 1)])).toArray := by simp [strValues]
  rw [es]
  refine s_loop hz r v rl _ _ _ _ ?_ (by lia) hv.1 (fun u hu => hr u (.tail _ hu)) (by simp at hl; lia) fun l2 tk q n' e => ?_
  ·rw [show p + wd.length + 1 = p + (wd.length + 1) by lia, ← List.drop_drop, hd', List.drop_append]
   simp
  ·refine h l2 tk q n' ?_
   rw [e]
   simp [partsW]
end
section
variable {prog : Program} {w : World} {A : Around} {E : Value → Shared → Prop} {s : Shared}
noncomputable abbrev intsO (l : List Int) : Obj := { cls := .type "tuple", data := .seq (l.map fun i => Value.int i 0).toArray }
theorem whole_target {x : Str} {t : Tok} {p : Str} {tp tf : Tok} {Q : Builtin.Re.ReTarget → Shared → Prop}
  (hP : s.heap.get? 43 = some { cls := .type "re.Pattern", data := .fields #[.str p tp, .int 32 tf, .int 1 0, .none, .none, .ref 42, .int 0 0] })
  (hC : s.heap.get? 42 = some (intsO [14, 4, 0, 1, 4294967295, 17, 0, 24, 11, 1, 4294967295, 13, 6, 16, 32, 16, 9, 0, 1, 17, 1, 1])) (h : Q (tgS x t) s) :
  wpAny (model prog w) A (Builtin.Re.reWholeTarget (.ref 43) (.str x t)) Q E s := by
 unfold Builtin.Re.reWholeTarget
 refine wpAny_bind (wpAny_fieldsOf hP rfl ?_)
 refine wpAny_bind (wpAny_of_eq (a := (x.cps, 0)) rfl ?_)
 dsimp only
 have hw : Builtin.Re.reRawNat ((#[.str p tp, .int 32 tf, .int 1 0, .none, .none, .ref 42, .int 0 0] : Array Value).getD 6 .none) = 0 := rfl
 rw [hw, if_neg (show ¬ (((0 : Nat) == 0 && (0 : Nat) == 1) = true) from by decide), if_neg (show ¬ (((0 : Nat) == 1 && (0 : Nat) == 0) = true) from by decide)]
 refine wpAny_bind (wpAny_of_eq (a := ()) rfl ?_)
 refine wpAny_bind ?_
 show wpAny _ _ (Builtin.Re.reRawItems (.ref 42)) _ _ _
 unfold Builtin.Re.reRawItems
 refine wpAny_bind (wpAny_seqItems hC rfl (wpAny_pure (wpAny_pure ?_)))
 have e : Array.map (fun x => x.toNat) (Array.map Builtin.Re.reRawOf ((some (List.map (fun i => Value.int i 0) [14, 4, 0, 1, 4294967295, 17, 0, 24, 11, 1, 4294967295, 13, 6, 16, 32, 16, 9, 0, 1, 17, 1, 1]).toArray).getD #[])) = cdS := by kernel_rfl
 rw [e]
 exact h
theorem split_run {x : Str} {t : Tok} {p : Str} {tp tf : Tok} {wd : List Nat} {r : List (List Nat)} {Q : Value → Shared → Prop}
  (hP : s.heap.get? 43 = some { cls := .type "re.Pattern", data := .fields #[.str p tp, .int 32 tf, .int 1 0, .none, .none, .ref 42, .int 0 0] })
  (hC : s.heap.get? 42 = some (intsO [14, 4, 0, 1, 4294967295, 17, 0, 24, 11, 1, 4294967295, 13, 6, 16, 32, 16, 9, 0, 1, 17, 1, 1]))
  (hx : x.cps.toList = flatW (wd :: r)) (hz : x.cps.size < 1000) (hc : CleanW wd) (hr : ∀ v ∈ r, CleanW v ∧ v ≠ [])
  (h : ∀ l tk, l.map (·.1) = partsW (wd :: r) → Q (.ref s.heap.objs.size) { s with heap := s.heap.push (listOf (strValues l).toArray 0), toks := tk }) :
  wpAny (model prog w) A (Builtin.«re.Pattern.split» ⟨[.ref 43, .str x t], []⟩) (fun fin s' => ∃ v, fin = .done (.ret v) ∧ Q v s') E s := by
 unfold Builtin.«re.Pattern.split»
 refine wpAny_bind (wpAny_of_eq (a := [some (.str x t), none]) (by kernel_rfl) ?_)
 dsimp only
 refine wpAny_bind (wpAny_pure ?_)
 refine wpAny_bind (whole_target hP hC ?_)
 have hlen : (wd :: r).length ≤ x.cps.size + 1 := by
  have e := congrArg List.length hx
  rw [Array.length_toList] at e
  rw [e]
  clear hP hC hx hz h e
  induction r generalizing wd with
  | nil => simp
  | cons v r ih =>
   have := ih (hr v (.head _)).1 fun u hu => hr u (.tail _ hu)
   simp only [flatW, List.length_append, List.length_cons] at this ⊢
   lia
 show wpAny _ _ (forIn (List.range (2 * x.cps.size + 3)) ((strValues []).toArray, 0, 0, false, (0 : Int), false) (sbody (tgS x t)) >>= _) _ _ _
 refine wpAny_bind (s_loop hz r wd _ [] 0 0 s hx (Nat.zero_le _) hc hr (by simp at hlen ⊢; lia) fun l2 tk q n' e => ?_)
 dsimp only
 rw [if_neg (by decide)]
 refine wpAny_bind ?_
 show wpAny _ _ (mkStr ⟨x.cps.extract q x.cps.size⟩) _ _ _
 have hsz : (⟨x.cps.extract q x.cps.size⟩ : Str).length ≤ sizeLine := by
  show (x.cps.extract q x.cps.size).size ≤ _
  simp [sizeLine]; lia
 refine wpAny_mkStr ?_ hsz
 have e2 : (strValues l2).toArray.push (.str ⟨x.cps.extract q x.cps.size⟩ tk) = (strValues (l2 ++ [((⟨x.cps.extract q x.cps.size⟩ : Str), tk)])).toArray := by simp [strValues]
 have hn : (l2 ++ [((⟨x.cps.extract q x.cps.size⟩ : Str), tk)]).length < 3000 := by
  have := congrArg List.length e
  have hp : ∀ ws : List (List Nat), (partsW ws).length ≤ 2 * ws.length := fun ws => by
   induction ws with
   | nil => simp [partsW]
   | cons a b ih =>
    cases b with
    | nil => simp [partsW]
    | cons c d => simp only [partsW, List.length_cons] at ih ⊢; lia
  have h3 := hp (wd :: r)
  simp at this hlen h3 ⊢
  lia
 dsimp only
 rw [e2]
 refine wpAny_bind ?_
 unfold newList
 refine wpAny_newObj_type ?_ (by show (strValues _).toArray.toList.toArray.size ≤ sizeLine; rw [sizeLine_eq]; simp [strValues] at hn ⊢; lia)
 refine wpAny_pure ⟨_, rfl, ?_⟩
 exact h (l2 ++ [(⟨x.cps.extract q x.cps.size⟩, tk)]) _ (by rw [List.map_append]; exact e)
end
end
theorem pat_attrs : PlainAttrs "re.Pattern" :=
 ⟨⟨"object.__getattribute__", by rw [typeLookup_type, builtinLookup_eq_fast]; kernel_rfl, by decide +kernel⟩, by rw [typeLookup_type, builtinLookup_eq_fast]; kernel_rfl⟩
theorem slot_split : Slot "re.Pattern" "split" "re.Pattern.split" := .of (owner := "re.Pattern") (n := "split") (by rw [typeLookup_type, builtinLookup_eq_fast]; kernel_rfl) (by decide +kernel) (by decide +kernel) (by decide +kernel)
 (by first | exact .inl (by decide +kernel) | exact .inr (by decide +kernel)) (by rw [isSubtype_type]; kernel_rfl)
theorem slot_search : Slot "re.Pattern" "search" "re.Pattern.search" := .of (owner := "re.Pattern") (n := "search") (by rw [typeLookup_type, builtinLookup_eq_fast]; kernel_rfl) (by decide +kernel) (by decide +kernel) (by decide +kernel)
 (by first | exact .inl (by decide +kernel) | exact .inr (by decide +kernel)) (by rw [isSubtype_type]; kernel_rfl)
theorem type_split : typeOf (.builtin "re.Pattern.split") = pure (.type "method_descriptor") := by show builtinType _ = _; rw [builtinType_eq_fast]; kernel_rfl
theorem type_search : typeOf (.builtin "re.Pattern.search") = pure (.type "method_descriptor") := by show builtinType _ = _; rw [builtinType_eq_fast]; kernel_rfl
theorem entry_split : entryFor table "re.Pattern.split" = some Builtin.«re.Pattern.split» := entryFor_of_tree (by kernel_rfl)
theorem entry_search : entryFor table "re.Pattern.search" = some Builtin.«re.Pattern.search» := entryFor_of_tree (by kernel_rfl)
theorem args_split (a b : Value) : argsOk "re.Pattern.split" ⟨[a, b], []⟩ := by unfold argsOk; kernel_rfl
theorem args_search (a b : Value) : argsOk "re.Pattern.search" ⟨[a, b], []⟩ := by unfold argsOk; kernel_rfl
section
variable {prog : Program} {w : World} {A : Around} {E : Value → Shared → Prop} {s : Shared}
theorem pat_method {a : Addr} {fs : Array Value} {name : Str} {id : String} {pl : Sem Bool} {Q : Value × List Value → Shared → Prop} (ha : s.heap.get? a = some { cls := .type "re.Pattern", data := .fields fs })
  (S : Slot "re.Pattern" name id) (ty : typeOf (.builtin id) = pure (.type "method_descriptor")) (h : Q (.builtin id, [.ref a]) s) : wpAny (model prog w) A (getMethod (.ref a) name pl) Q E s := by
 have hT : s.TypeIs (.ref a) "re.Pattern" := ⟨_, ha, rfl⟩
 obtain ⟨g, hg, hcan⟩ := pat_attrs.ga
 unfold getMethod
 refine wpAny_bind (wpAny_specialOf hT hg ?_)
 dsimp only
 rw [hcan, if_neg (by decide)]
 refine wpAny_bind (wpAny_specialOf hT pat_attrs.noGetattr ?_)
 refine wpAny_bind (wpAny_specialOf hT S.lookup ?_)
 refine wpAny_bind (wpAny_of_eq ty ?_)
 rw [if_neg (by decide)]
 refine wpAny_bind (wpAny_loadPart ha ?_)
 exact wpAny_bind (wpAny_rule (wpAny_pure h))
theorem pat43 {w : World} {h : Heap} (X : (hd.heap_1 w.params).In h) : h.get? 43 = some { cls := .type "re.Pattern", data := .fields #[.str ⟨#[40, 91, 32, 9, 93, 43, 41]⟩ 292, .int 32 317, .int 1 0, .none, .none, .ref 42, .int 0 0] } ∧
  h.get? 42 = some (intsO [14, 4, 0, 1, 4294967295, 17, 0, 24, 11, 1, 4294967295, 13, 6, 16, 32, 16, 9, 0, 1, 17, 1, 1]) :=
 ⟨X _ _ (by kernel_rfl), X _ _ (by kernel_rfl)⟩
theorem split_call {h₀ : Heap} {L : Addr} {m : Str → Option Value} {led : List (Addr × Obj)} {x : Str} {t : Tok} {wd : List Nat} {r : List (List Nat)} {Q : Value → Shared → Prop} (X : (hd.heap_1 w.params).In h₀) (F : Fr h₀ L s.heap m) (N : News h₀ L s.heap led)
  (hx : x.cps.toList = flatW (wd :: r)) (hz : x.length < 1000) (hc : CleanW wd) (hr : ∀ v ∈ r, CleanW v ∧ v ≠ [])
  (h : ∀ D l h' tk, l.map (·.1) = partsW (wd :: r) → Fr h₀ L h' m → News h₀ L h' ((D, listOf (strValues l).toArray 0) :: led) → (∀ p ∈ led, p.1 < D) → Q (.ref D) { s with heap := h', toks := tk }) :
  wpAny (model prog w) A (call (.builtin "re.Pattern.split") [.ref 43, .str x t]) Q E s :=
 wpAny_call_entry slot_split ⟨_, (pat43 (X.keeps F.keep)).1, rfl⟩ entry_split (split_run (pat43 (X.keeps F.keep)).1 (pat43 (X.keeps F.keep)).2 hx hz hc hr fun l tk hl => h _ l _ tk hl (F.push _) (N.push F _) fun p hp => Heap.lt_size (N p hp).1) (args_split _ _)
end
section
variable {α : Type} {a b : α} {A A' B C : List α} {P : α → Prop}
theorem m_id : ∀ p ∈ A, p ∈ A := fun _ h => h
theorem m_hd : a ∈ a :: B := .head _
theorem m_tl (h : a ∈ B) : a ∈ b :: B := .tail _ h
theorem m_use (h : ∀ p ∈ A, p ∈ B) : ∀ p ∈ A, p ∈ B := h
@[elab_as_elim] theorem m_el {p : α} (hp : p ∈ A) (h : ∀ q ∈ A, P q) : P p := h p hp
theorem m_nil : ∀ p ∈ ([] : List α), P p := fun _ h => nomatch h
theorem m_lid : ∀ p ∈ A, p ∈ A ++ C := fun _ h => List.mem_append_left _ h
theorem m_all (h : P a) (t : ∀ p ∈ A, P p) : ∀ p ∈ a :: A, P p := List.forall_mem_cons.mpr ⟨h, t⟩
theorem m_cons (h : a ∈ B) (t : ∀ p ∈ A, p ∈ B) : ∀ p ∈ a :: A, p ∈ B := List.forall_mem_cons.mpr ⟨h, t⟩
theorem m_app (h : ∀ p ∈ A, p ∈ B) (t : ∀ p ∈ A', p ∈ B) : ∀ p ∈ A ++ A', p ∈ B := fun p q => (List.mem_append.mp q).elim (h p) (t p)
theorem m_allapp (h : ∀ p ∈ A, P p) (t : ∀ p ∈ A', P p) : ∀ p ∈ A ++ A', P p := fun p q => (List.mem_append.mp q).elim (h p) (t p)
theorem m_map {β : Type} {f : β → α} {x y : List β} (h : ∀ p ∈ x.map f, p ∈ B) (t : ∀ p ∈ y.map f, p ∈ B) : ∀ p ∈ (x ++ y).map f, p ∈ B := fun p q => by rw [List.map_append] at q; exact (List.mem_append.mp q).elim (h p) (t p)
theorem m_mapl {β : Type} {f : β → α} {x y : List β} : ∀ p ∈ x.map f, p ∈ (x ++ y).map f ++ C := fun p q => by rw [List.map_append]; exact List.mem_append_left _ (List.mem_append_left _ q)
theorem m_mapl2 {β : Type} {f : β → α} {x y : List β} : ∀ p ∈ y.map f, p ∈ (x ++ y).map f ++ C := fun p q => by rw [List.map_append]; exact List.mem_append_left _ (List.mem_append_right _ q)
theorem m_mapr {β : Type} {f : β → α} {x : List β} {z : β} (h : a = f z) : a ∈ (x ++ [z]).map f ++ C := by subst h; rw [List.map_append]; exact List.mem_append_left _ (List.mem_append_right _ (.head _))
theorem m_map1 {β : Type} {f : β → α} {z : β} (h : f z ∈ B) : ∀ p ∈ [z].map f, p ∈ B := fun p q => by
 rw [List.map_cons, List.map_nil, List.mem_singleton] at q; subst q; exact h
theorem m_tail (t : ∀ p ∈ A, p ∈ B) : ∀ p ∈ A, p ∈ b :: B := fun p h => .tail _ (t p h)
theorem m_right (t : ∀ p ∈ A, p ∈ B) : ∀ p ∈ A, p ∈ C ++ B := fun p h => List.mem_append_right _ (t p h)
theorem m_inr (h : a ∈ B) : a ∈ C ++ B := List.mem_append_right _ h
noncomputable def Supp (ks : List Str) (m : Str → Option Value) : Prop := ∀ z, ks.contains z = false → m z = none
theorem supp_ite {ks : List Str} {x : Str} {v : Option Value} {m : Str → Option Value} (h : ks.contains x = true) (t : Supp ks m) : Supp ks (fun y => if y = x then v else m y) := fun z hz => by
 show (if z = x then v else m z) = none
 rw [if_neg (fun e => by rw [e, h] at hz; cases hz)]
 exact t z hz
theorem supp_none {ks : List Str} : Supp ks (fun _ => none) := fun _ _ => rfl
theorem supp_look {ks : List Str} {l : List (Str × Value)} (h : (l.all fun p => ks.contains p.1) = true) : Supp ks (fun y => l.lookup y) := fun z hz => by
 show l.lookup z = none
 induction l with
 | nil => rfl
 | cons p r ih =>
  rw [List.all_cons, Bool.and_eq_true] at h
  rw [List.lookup_cons]
  have : (z == p.1) = false := by
   cases e : z == p.1
   ·rfl
   ·rw [← eq_of_beq e] at h; rw [h.1] at hz; cases hz
  rw [this]; exact ih h.2
theorem frk {ks : List Str} {m m' : Str → Option Value} (a : Supp ks m) (b : Supp ks m') (e : ks.map m = ks.map m') : ∀ z, m z = m' z := fun z => by
 cases h : ks.contains z
 ·rw [a z h, b z h]
 ·exact List.map_inj_left.mp e z (List.contains_iff_mem.mp h)
end
theorem ne_of_none {h : Heap} {a c : Addr} {o : Obj} (n : h.get? a = none) (e : h.get? c = some o) : c ≠ a := fun q => by rw [q, n] at e; cases e
theorem dims50 {wd many : Nat} (hw : wd = 2 ∨ wd = 3) (hm : many = 2 ∨ many = 3 ∨ many = 4 ∨ many = 5) : wd * many < 50 := by
 rcases hw with rfl | rfl <;> rcases hm with rfl | rfl | rfl | rfl <;> decide
theorem wd_pos {wd : Nat} (hw : wd = 2 ∨ wd = 3) : 0 < wd := by lia
theorem wd_127 {wd : Nat} (hw : wd = 2 ∨ wd = 3) : wd < 127 := by omega
theorem many_1000 {many : Nat} (hm : many = 2 ∨ many = 3 ∨ many = 4 ∨ many = 5) : many < 1000 := by lia
theorem many_ne1 {many : Nat} (hm : many = 2 ∨ many = 3 ∨ many = 4 ∨ many = 5) : ¬ 1 = many := by lia
theorem dims_ne {wd many : Nat} (hw : wd = 2 ∨ wd = 3) (hm : many = 2 ∨ many = 3 ∨ many = 4 ∨ many = 5) : wd * many ≠ 0 := by
 rcases hw with rfl | rfl <;> rcases hm with rfl | rfl | rfl | rfl <;> decide
theorem many_pos {many : Nat} (hm : many = 2 ∨ many = 3 ∨ many = 4 ∨ many = 5) : 1 ≤ many := by lia
theorem ints_ok {wd many : Nat} (hw : wd = 2 ∨ wd = 3) (hm : many = 2 ∨ many = 3 ∨ many = 4 ∨ many = 5) : ((wd : Int) ≠ 0 ∧ (wd : Int) ≠ 127) ∧ ((many : Int) ≠ 0 ∧ (many : Int) ≠ 127) ∧ ((many : Int) + 2 ≠ 0 ∧ (many : Int) + 2 ≠ 127) := by lia
noncomputable def Apt (a b : Nat) : Prop := a ≠ b
theorem ne_1 {a : Nat} : a + 1 ≠ a := Nat.succ_ne_self a
theorem ne_2 {a : Nat} : a + 1 + 1 ≠ a := by lia
theorem ne_3 {a : Nat} : a + 1 + 1 + 1 ≠ a := by lia
theorem ne_4 {a : Nat} : a + 1 + 1 + 1 + 1 ≠ a := by lia
section
variable {prog : Program} {w : World} {A : Around} {E : Value → Shared → Prop} {s : Shared} {env : Env} {target : Expr} {it : Value} {body orelse : List Stmt} {Q : Flow → Shared → Prop}
noncomputable def FRest (prog : Program) (w : World) (A : Around) (E : Value → Shared → Prop) (env : Env) (target : Expr) (it : Value) (body orelse : List Stmt) (Q : Flow → Shared → Prop) (s : Shared) : Prop :=
 codeAny (model prog w) A (.forLoop target it body orelse env) (fun r s' => match r with | .ok f => Q f s' | .error e => cameBackBy (model prog w) A env E e s') s
noncomputable def FPost (prog : Program) (w : World) (A : Around) (E : Value → Shared → Prop) (env : Env) (target : Expr) (it : Value) (body orelse : List Stmt) (Q : Flow → Shared → Prop) (f : Flow) (s : Shared) : Prop :=
 match f with
 | .next => FRest prog w A E env target it body orelse Q s
 | .cont => FRest prog w A E env target it body orelse Q s
 | .brk => Q .next s
 | .ret v => Q (.ret v) s
noncomputable def FItem (prog : Program) (w : World) (A : Around) (E : Value → Shared → Prop) (env : Env) (target : Expr) (it : Value) (body orelse : List Stmt) (Q : Flow → Shared → Prop) (r : Option Value) (s : Shared) : Prop :=
 match r with
 | none => wpAny (model prog w) A (execs orelse env) Q E s
 | some v => wpAny (model prog w) A (letOwnedTupleGo target it v) (fun _ s₁ => wpAny (model prog w) A (assign target env v)
   (fun _ s₂ => wpAny (model prog w) A (execs body env) (FPost prog w A E env target it body orelse Q) E s₂) E s₁) E s
theorem frest_turn (hE : PassesOwn (model prog w) A env E) (h : wpAny (model prog w) A (pyNext it) (FItem prog w A E env target it body orelse Q) E s) :
  FRest prog w A E env target it body orelse Q s := by
 refine codeAny_of_tree ?_
 show wpAny _ A ((forTurn target it body orelse env).onRaise (fun x => do noteFrame x env; theTreesLotGoes x)) _ _ s
 refine wpAny_noted ?_
 simp only [forTurn]
 refine wpAny_bind (wpAny_standAt (wpAny_bind (wpAny_onRaise (wpAny_mono h (fun r s₁ h₁ => ?_) fun e s' he => wpAny_standAt (hE e s' he)))))
 cases r with
 | none => exact wpAny_pure ⟨rfl, codeAny_block (wpAny_mono h₁ (fun _ _ x => x) hE)⟩
 | some v =>
  refine wpAny_bind (wpAny_mono h₁ (fun _ s₁' h₁' => ?_) hE)
  refine wpAny_bind (wpAny_mono h₁' (fun _ s₂ h₂ => wpAny_bind (wpAny_mono h₂ (fun f s₃ h₃ => ?_) hE)) hE)
  cases f with
  | next => exact wpAny_pure ⟨rfl, h₃⟩
  | cont => exact wpAny_pure ⟨rfl, h₃⟩
  | brk => exact wpAny_pure h₃
  | ret v => exact wpAny_pure h₃
theorem frest_start {iter : Expr} {pos : Pos}
  (h : wpAny (model prog w) A (eval iter env) (fun x s₁ => wpAny (model prog w) A (pyIter x) (fun it s₂ => FRest prog w A E env target it body orelse Q s₂) E s₁) E s)
  (hs : ∀ x, foldedSetIterable iter env x = pure x := by intro _; rfl) : wpAny (model prog w) A (exec (.For target iter body orelse pos) env) Q E s := wpAny_For h hs
end
noncomputable def ItObj (l : Addr) (i : Nat) (o : Obj) : Prop := o.cls = .type "list_iterator" ∧ o.data = .fields #[.ref l, .int i 0]
theorem ItObj.at {l I : Addr} {i : Nat} {o : Obj} {h : Heap} (x : ItObj l i o) (e : h.get? I = some o) : h.IsListIter I l i := ⟨o, e, x.1, x.2⟩
section
variable {prog : Program} {w : World} {A : Around} {E : Value → Shared → Prop} {env : Env} {s : Shared}
variable {h₀ : Heap} {L : Addr} {m : Str → Option Value} {I l : Addr} {items : Array Value} {i : Nat} {led : List (Addr × Obj)} {oI : Obj}
theorem list_iter (F : Fr h₀ L s.heap m) (N : News h₀ L s.heap led) (hl : s.heap.IsList l items) {Q : Value → Shared → Prop}
  (hQ : ∀ I oI h', ItObj l 0 oI → Fr h₀ L h' m → News h₀ L h' ((I, oI) :: led) → (∀ p ∈ led, p.1 < I) → l < I → h'.IsList l items → Q (.ref I) { s with heap := h' }) :
  wpAny (model prog w) A (pyIter (.ref l)) Q E s := by
 have hlt : l < s.heap.objs.size := let ⟨_, ho, _⟩ := hl; Heap.lt_size ho
 refine wpAny_pyIter_list hl (hQ _ _ _ ⟨rfl, rfl⟩ (F.push _) (N.push F _) (fun p hp => Heap.lt_size (N p hp).1) hlt ?_)
 obtain ⟨o, ho, r⟩ := hl
 exact ⟨o, Heap.get?_push_of_some _ ho, r⟩
theorem list_iterS (F : Fr h₀ L s.heap m) (N : News h₀ L s.heap led) (hl : s.heap.IsList l items) {Q : Value → Shared → Prop}
  (hQ : ∀ oI h', ItObj l 0 oI → Fr h₀ L h' m → News h₀ L h' ((s.heap.objs.size, oI) :: led) → (∀ p ∈ led, p.1 < s.heap.objs.size) → l < s.heap.objs.size → h'.IsList l items → Q (.ref s.heap.objs.size) { s with heap := h' }) :
  wpAny (model prog w) A (pyIter (.ref l)) Q E s := by
 have hlt : l < s.heap.objs.size := let ⟨_, ho, _⟩ := hl; Heap.lt_size ho
 refine wpAny_pyIter_list hl (hQ _ _ ⟨rfl, rfl⟩ (F.push _) (N.push F _) (fun p hp => Heap.lt_size (N p hp).1) hlt ?_)
 obtain ⟨o, ho, r⟩ := hl
 exact ⟨o, Heap.get?_push_of_some _ ho, r⟩
theorem list_next (F : Fr h₀ L s.heap m) (N : News h₀ L s.heap ((I, oI) :: led)) (hI : ItObj l i oI) (hap : ∀ p ∈ led, p.1 ≠ I) (hlI : l ≠ I) (hl : s.heap.IsList l items) {v : Value} (hv : items[i]? = some v)
  {Q : Option Value → Shared → Prop}
  (hQ : ∀ oI h', ItObj l (i + 1) oI → Fr h₀ L h' m → News h₀ L h' ((I, oI) :: led) → h'.IsList l items → Q (some v) { s with heap := h' }) :
  wpAny (model prog w) A (pyNext (.ref I)) Q E s := by
 have nI := N _ (List.Mem.head _)
 refine wpAny_pyNext_list_item (hI.at nI.1) hl hv fun h' hi hs => ?_
 obtain ⟨o, ho, hc, hd⟩ := hi
 refine hQ o h' ⟨hc, hd⟩ (F.change hs nI.2.1 nI.2.2) (N.setHead hap hs ho) ?_
 obtain ⟨ol, hol, r⟩ := hl
 exact ⟨ol, (hs.2 l hlI).trans hol, r⟩
theorem list_end (hh : A.handled = none) (F : Fr h₀ L s.heap m) (N : News h₀ L s.heap ((I, oI) :: led)) (hI : ItObj l i oI) (hap : ∀ p ∈ led, p.1 ≠ I) (hl : s.heap.IsList l items) (hv : items[i]? = none)
  {Q : Option Value → Shared → Prop} (hQ : ∀ h', Fr h₀ L h' m → News h₀ L h' led → Q none { s with heap := h' }) :
  wpAny (model prog w) A (pyNext (.ref I)) Q E s := by
 have nI := N _ (List.Mem.head _)
 refine wpAny_pyNext_list_end hh (hI.at nI.1) hl hv fun h' hs => ?_
 refine hQ h' ⟨F.ns.at' fun o e => hs L o (Ne.symm nI.2.1) e, fun b o e => hs b o (fun q => ?_) (F.keep b o e), F.above⟩ fun p hp => ⟨hs p.1 p.2 (hap p hp) (N p (.tail _ hp)).1, (N p (.tail _ hp)).2⟩
 subst q
 rw [nI.2.2] at e; cases e
end
noncomputable def TEnd (h₀ : Heap) (L : Addr) (G : Array GenState → Prop) (d : Drawn) (os : OsState) (I : Addr) (oI : Obj) (J : (Str → Option Value) → List (Addr × Obj) → Prop) (s' : Shared) : Prop :=
 ∃ h' tk' g' m' led', s' = ⟨h', g', d, tk', os⟩ ∧ G g' ∧ Fr h₀ L h' m' ∧ News h₀ L h' ((I, oI) :: led') ∧ (∀ p ∈ led', p.1 ≠ I) ∧ J m' led'
noncomputable def TPost (h₀ : Heap) (L : Addr) (G : Array GenState → Prop) (d : Drawn) (os : OsState) (I : Addr) (oI : Obj) (J : (Str → Option Value) → List (Addr × Obj) → Prop) (Q : Flow → Shared → Prop) (f : Flow) (s' : Shared) : Prop :=
 match f with
 | .next => TEnd h₀ L G d os I oI J s'
 | .cont => TEnd h₀ L G d os I oI J s'
 | .brk => Q .next s'
 | .ret v => Q (.ret v) s'
section
variable {prog : Program} {w : World} {A : Around} {E : Value → Shared → Prop} {env : Env} {x : Str} {px : Pos} {body : List Stmt} {Q : Flow → Shared → Prop}
variable {h₀ h : Heap} {g : Array GenState} {d : Drawn} {tk : Nat} {os : OsState} {m : Str → Option Value} {l : Addr} {items : Array Value} {led : List (Addr × Obj)}
theorem for_list (G : Array GenState → Prop) (J : Nat → (Str → Option Value) → List (Addr × Obj) → Prop) (hE : PassesOwn (model prog w) A env E) (hh : A.handled = none)
    (hx : env.kindOf x = some .local) (hp : (env.scope.kind == .class || (env.scope.kind == .module && env.locals != env.globals)) = false)
    (F : Fr h₀ env.locals h m) (N : News h₀ env.locals h led) (hg : G g) (h0 : J 0 m led)
    (hl : ∀ i m led h, J i m led → Fr h₀ env.locals h m → News h₀ env.locals h led → h.IsList l items)
    (turn : ∀ i v m led h tk g I oI, items[i]? = some v → J i m led → (∀ p ∈ led, p.1 ≠ I) → G g → Fr h₀ env.locals h (fun y => if y = x then some v else m y) → News h₀ env.locals h ((I, oI) :: led) →
      wpAny (model prog w) A (execs body env) (TPost h₀ env.locals G d os I oI (J (i + 1)) Q) E ⟨h, g, d, tk, os⟩)
    (done : ∀ m led h tk g, J items.size m led → G g → Fr h₀ env.locals h m → News h₀ env.locals h led → Q .next ⟨h, g, d, tk, os⟩) :
    wpAny (model prog w) A (pyIter (.ref l)) (fun it s₂ => FRest prog w A E env (.Name x px) it body [] Q s₂) E ⟨h, g, d, tk, os⟩ := by
  refine list_iter (s := ⟨h, g, d, tk, os⟩) F N (hl 0 m led h h0 F N) fun I oI h' hI F' N' hap hlI _ => ?_
  have key : ∀ k i m led h tk g oI, items.size - i = k → i ≤ items.size → J i m led → ItObj l i oI → (∀ p ∈ led, p.1 ≠ I) → G g → Fr h₀ env.locals h m → News h₀ env.locals h ((I, oI) :: led) →
      FRest prog w A E env (.Name x px) (.ref I) body [] Q ⟨h, g, d, tk, os⟩ := by
    intro k
    induction k with
    | zero =>
      intro i m led h tk g oI hk hi hJ hI hap hg F N
      have hl' := hl i m led h hJ F fun p hp => N p (.tail _ hp)
      refine frest_turn hE (list_end (s := ⟨h, g, d, tk, os⟩) hh F N hI hap hl' (by simp; omega) fun h' F' N' => ?_)
      have : i = items.size := by omega
      subst this
      exact wpAny_execs_nil (done m led h' tk g hJ hg F' N')
    | succ k ih =>
      intro i m led h tk g oI hk hi hJ hI hap hg F N
      have hl' := hl i m led h hJ F fun p hp => N p (.tail _ hp)
      have hlt : i < items.size := by omega
      refine frest_turn hE (list_next (s := ⟨h, g, d, tk, os⟩) (v := items[i]) F N hI hap (Nat.ne_of_lt hlI) hl' (by simp [hlt]) fun oI' h' hI' F' N' hl'' => ?_)
      refine wpAny_of_eq (a := ()) rfl ?_
      refine wpAny_assign_Name (wpAny_storeName_local hx F'.ns (fun h₂ hn₂ hs₂ => ?_) hp)
      refine wpAny_mono (turn i items[i] m led h₂ _ g I oI' (by simp [hlt]) hJ hap hg (F'.set hn₂ hs₂) (N'.set hs₂)) (fun f s₃ h₃ => ?_) fun _ _ e => e
      have fin : TEnd h₀ env.locals G d os I oI' (J (i + 1)) s₃ → FRest prog w A E env (.Name x px) (.ref I) body [] Q s₃ := by
        rintro ⟨h', tk', g', m', led', rfl, hg', F'', N'', hap', hJ'⟩
        exact ih (i + 1) m' led' h' tk' g' oI' (by omega) hlt hJ' hI' hap' hg' F'' N''
      cases f with
      | next => exact fin h₃
      | cont => exact fin h₃
      | brk => exact h₃
      | ret v => exact h₃
  exact key _ 0 m led h' tk g oI rfl (Nat.zero_le _) h0 hI (fun p hp => Nat.ne_of_lt (hap p hp)) hg F' N'
end
noncomputable def WEnd (h₀ : Heap) (L : Addr) (G : Array GenState → Prop) (d : Drawn) (os : OsState) (k : Nat) (J : Nat → (Str → Option Value) → List (Addr × Obj) → Prop) (s' : Shared) : Prop :=
 ∃ k' h' tk' g' m' led', k' < k ∧ s' = ⟨h', g', d, tk', os⟩ ∧ G g' ∧ Fr h₀ L h' m' ∧ News h₀ L h' led' ∧ J k' m' led'
noncomputable def WPost (h₀ : Heap) (L : Addr) (G : Array GenState → Prop) (d : Drawn) (os : OsState) (k : Nat) (J : Nat → (Str → Option Value) → List (Addr × Obj) → Prop) (Q : Flow → Shared → Prop) (f : Flow) (s' : Shared) : Prop :=
 match f with
 | .next => WEnd h₀ L G d os k J s'
 | .cont => WEnd h₀ L G d os k J s'
 | .brk => Q .next s'
 | .ret v => Q (.ret v) s'
section
variable {prog : Program} {w : World} {A : Around} {E : Value → Shared → Prop} {env : Env} {test : Expr} {pos : Pos} {body : List Stmt} {Q : Flow → Shared → Prop}
variable {h₀ h : Heap} {g : Array GenState} {d : Drawn} {tk : Nat} {os : OsState} {m : Str → Option Value} {led : List (Addr × Obj)}
theorem while_by (G : Array GenState → Prop) (J : Nat → (Str → Option Value) → List (Addr × Obj) → Prop) (hE : PassesOwn (model prog w) A env E)
    {k : Nat} (F : Fr h₀ env.locals h m) (N : News h₀ env.locals h led) (hg : G g) (h0 : J k m led)
    (turn : ∀ k m led h tk g, J k m led → G g → Fr h₀ env.locals h m → News h₀ env.locals h led →
      wpAny (model prog w) A (isTrue test env (eval test env)) (fun b s₂ => WhlIf b (wpAny (model prog w) A (execs body env) (WPost h₀ env.locals G d os k J Q) E s₂) (wpAny (model prog w) A (execs [] env) Q E s₂)) E ⟨h, g, d, tk, os⟩) :
    wpAny (model prog w) A (exec (.While test body [] pos) env) Q E ⟨h, g, d, tk, os⟩ := by
  refine whl_start 0 ?_
  have key : ∀ n k m led h tk g j, k < n → J k m led → G g → Fr h₀ env.locals h m → News h₀ env.locals h led → WhlRest prog w A E env test body [] Q j ⟨h, g, d, tk, os⟩ := by
    intro n
    induction n with
    | zero => intro k m led h tk g j hk; exact absurd hk (Nat.not_lt_zero _)
    | succ n ih =>
      intro k m led h tk g j hk hJ hg F N
      refine (whl_turn (k := j) hE (wpAny_mono (turn k m led h tk g hJ hg F N) (fun b s₂ h₂ => ?_) fun _ _ e => e) :)
      unfold WhlIf at h₂ ⊢
      by_cases hb : b = true
      · rw [if_pos hb] at h₂ ⊢
        refine wpAny_mono h₂ (fun f s₃ h₃ => ?_) fun _ _ e => e
        have fin : WEnd h₀ env.locals G d os k J s₃ → WhlRest prog w A E env test body [] Q j s₃ := by
          rintro ⟨k', h', tk', g', m', led', hlt, rfl, hg', F', N', hJ'⟩
          exact ih k' m' led' h' tk' g' j (by lia) hJ' hg' F' N'
        cases f with
        | next => exact fin h₃
        | cont => exact fin h₃
        | brk => exact h₃
        | ret v => exact h₃
      · rw [if_neg hb] at h₂ ⊢
        exact h₂
  exact key (k + 1) k m led h tk g 0 (Nat.lt_succ_self _) h0 hg F N
end
theorem Fr.same {h₀ h : Heap} {L : Addr} {m m' : Str → Option Value} (F : Fr h₀ L h m) (e : ∀ z, m z = m' z) : Fr h₀ L h m' := by
 have : m = m' := funext e
 rw [← this]; exact F
theorem tpost_next {h₀ h' : Heap} {L : Addr} {G : Array GenState → Prop} {d : Drawn} {os : OsState} {I : Addr} {oI : Obj} {J : (Str → Option Value) → List (Addr × Obj) → Prop} {Q : Flow → Shared → Prop} {g' : Array GenState} {tk' : Nat} {m' : Str → Option Value} {led' : List (Addr × Obj)}
  (F : Fr h₀ L h' m') (N : News h₀ L h' ((I, oI) :: led')) (hg : G g') (hap : ∀ p ∈ led', p.1 ≠ I) (hJ : J m' led') : TPost h₀ L G d os I oI J Q .next ⟨h', g', d, tk', os⟩ :=
 ⟨h', tk', g', m', led', rfl, hg, F, N, hap, hJ⟩
theorem wpost_next {h₀ h' : Heap} {L : Addr} {G : Array GenState → Prop} {d : Drawn} {os : OsState} {k : Nat} {J : Nat → (Str → Option Value) → List (Addr × Obj) → Prop} {Q : Flow → Shared → Prop} {g' : Array GenState} {tk' : Nat} {m' : Str → Option Value} {led' : List (Addr × Obj)}
  (k' : Nat) (F : Fr h₀ L h' m') (N : News h₀ L h' led') (hk : k' < k) (hg : G g') (hJ : J k' m' led') : WPost h₀ L G d os k J Q .next ⟨h', g', d, tk', os⟩ :=
 ⟨k', h', tk', g', m', led', hk, rfl, hg, F, N, hJ⟩
noncomputable def Halt (P : Prop) : Prop := P
theorem Halt.out {P : Prop} (h : Halt P) : P := h
theorem codeD {prog : Program} {w : World} {A A₀ : Around} {s : Shared} {K : Frag} {L : Addr} {h₀ base : Heap} {m mg mb : Str → Option Value} {news : List (Addr × Obj)} {p : Program} {loose : List Str} {mean : ExcName → Option Value} {env : Env} {outer : List Env} {R : Result → Shared → Prop} {name qual : Str} {params : Arguments} {body : List Stmt} {scope : Scope} {dV kV doc pm cdv ct oc : Value} {an od : Option Addr} {osl : Array (Option Value)} {f : Addr} {args : Args} {binds : List (Str × Value)}
    (hA : A.frames = some (env :: outer) := by exact rfl) (hf : env.frame = some L := by exact rfl) (hke : env.scope.kind = .function := by assumption) (B : Below A₀ base outer h₀ := by k_asm) (F : Fr h₀ L s.heap m := by k_asm) (X₀ : K.In h₀ := by k_asm) (N : News h₀ L s.heap news := by k_asm) (T : Top p loose mean mg mb h₀ := by k_asm) (ho : K.lookup f = some ⟨oc, od, .func (fnOf name qual params body scope dV kV doc pm an cdv ct), osl⟩ := by k_is) (hcd : codeIn K cdv qual = true := by k_is) (hroom : A.depth < recursionLimit := by ktr_room) (hbind : BindsTo s (fnOf name qual params body scope dV kV doc pm an cdv ct) args binds := by exact BindsTo.of_eq rfl) (hcell : ∀ x ∈ scope.names, x.2 ≠ .cell := by decide) (hloc : ∀ y ∈ binds, scope.names.lookup y.1 = some .local := by exact locs rfl) (hco : scope.isCoroutine = false := by exact rfl) (hgen : scope.isGenerator = false := by exact rfl) (hk : scope.kind = .function := by exact rfl) (h : let m' := fun y => binds.reverse.lookup y
      ∀ (g : Heap) (L' : Addr) (h₁ : Heap) (tk : Nat), Fr h₀ L g m → Fr g L' h₁ m' → News g L' h₁ news → Below A base (env :: outer) g → K.In g → Top p loose mean mg mb g →
      wpAny (model prog w) (A.deeper (envOf qual scope L' f cdv)) (execs body (envOf qual scope L' f cdv))
        (fun fl s' => LeaveK h₀ L m g R (match fl with | .ret v => v | _ => .none) s')
        (fun e s' => wpAny (model prog w) (A.deeper (envOf qual scope L' f cdv)) (leaving (envOf qual scope L' f cdv) e) (fun _ s'' => R (.error e) s'') (fun e' s'' => R (.error e') s'') s')
        { s with heap := h₁, toks := tk }) 
    : codeAny (model prog w) A (.call (.ref f) args) R s :=
  code_def B F X₀ N T hA hf hke ho hcd hroom hbind hloc (fun g L' h₁ => h g L' h₁ _) hco hgen hk hcell
section
variable {prog : Program} {w : World} {A : Around} {E : Value → Shared → Prop} {s : Shared} {h₀ : Heap} {L : Addr} {m : Str → Option Value} {news news' : List (Addr × Obj)}
end
namespace J31
def pt : Part1 (aP.y1.O.O.h.h.a.a.a.a.A.A.c.c.e.c.b.m.f.l.j.F) (∀ {prog : Program} {w : World} {A : Around} {E : Value → Shared → Prop} {s : Shared} {h₀ : Heap} {L : Addr} {m : Str → Option Value} {news : List (Addr × Obj)} {news' : List (Addr × Obj)} {x l : Addr} {vs ws zs : List Value} {n n' nl a b : Nat} {vl vu : Value} {lo hi : Option Int} {Q : Unit → Shared → Prop}
  (F : Fr h₀ L s.heap m) (N : News h₀ L s.heap news) (h1 : (x, listOf vs.toArray n) ∈ news) (h2 : (l, listOf ws.toArray nl) ∈ news) (hne : x ≠ l) (pl : IsPart vl lo) (pu : IsPart vu hi)
  (hbd : sliceBounds lo hi none vs.length = ((a : Int), (b : Int), 1)) (hz : vs.length < 500) (hz2 : ws.length < 500) (hzs : vs.take a ++ ws ++ vs.drop (max a b) = zs) (hzl : zs.length < 1000) (hn : n' = if zs.length = vs.length then n else n + 1)
  (U : Upd x (listOf vs.toArray n) (listOf zs.toArray n') news news') (h : ∀ h', Fr h₀ L h' m → News h₀ L h' news' → Q () { s with heap := h' }), wpAny (model prog w) A (setItem (.ref x) (.ref s.heap.objs.size) (.ref l)) Q E { s with heap := s.heap.push { cls := .type "slice", data := .fields #[vl, vu, .none] } }) := by
 apply Part1.mk
 case h => intro hS1 prog w A E s h₀ L m news news' x l vs ws zs n n' nl a b vl vu lo hi Q F N h1 h2 hne pl pu hbd hz hz2 hzs hzl hn U h; revert news news' zs n' F N h1 h2 hne pl pu hbd hz hz2 hzs hzl hn U h; exact @hS1 prog w A E s h₀ L m x l vs ws n nl a b vl vu lo hi Q
def Z0 := pt.z1
def prog := hx0 Z0
def w := hx1 Z0
def A := hx2 Z0
def E := hx3 Z0
def s := hx4 Z0
def h₀ := hx5 Z0
def L := hx6 Z0
def m := hx7 Z0
def Z1 := ht Z0
def x := hx0 Z1
def l := hx1 Z1
def vs := hx2 Z1
def ws := hx3 Z1
def n := hx4 Z1
def nl := hx5 Z1
def a := hx6 Z1
def b := hx7 Z1
def Z2 := ht Z1
def vl := hx0 Z2
def vu := hx1 Z2
def lo := hx2 Z2
def hi := hx3 Z2
def Q := hx4 Z2
theorem eq_1 : pt.Q1 prog w A E s h₀ L m x l vs ws n nl a b vl vu lo hi Q := by
 intro news news' zs n' F N h1 h2 hne pl pu hbd hz hz2 hzs hzl hn U h
 have Fs := F.push { cls := .type "slice", data := .fields #[vl, vu, .none] }
 have Ns := N.push F { cls := .type "slice", data := .fields #[vl, vu, .none] }
 have Ns' : News h₀ L (s.heap.push { cls := .type "slice", data := .fields #[vl, vu, .none] }) news := fun p hp => Ns p (.tail _ hp)
 have hx := Ns'.isList h1
 obtain ⟨ox, hox, hcx, nx, hdx⟩ := id hx
 obtain ⟨ol, hol, hcl, nl', hdl⟩ := id (Ns'.isList h2)
 have hos := (Ns _ (.head _)).1
 have hTs : ({ s with heap := s.heap.push { cls := .type "slice", data := .fields #[vl, vu, .none] } } : Shared).TypeIs (.ref s.heap.objs.size) "slice" := ⟨_, hos, rfl⟩
 unfold setItem
 refine wpAny_holding (wpAny_bind (wpAny_sequenceKey (Heap.IsList.typeIs (s := { s with heap := s.heap.push { cls := .type "slice", data := .fields #[vl, vu, .none] } }) hx) (by decide) ?_))
 refine wpAny_bind (wpAny_callSpecial?_slot (name := Str.ofString "__setitem__") (Heap.IsList.typeIs (s := { s with heap := s.heap.push { cls := .type "slice", data := .fields #[vl, vu, .none] } }) hx) PySem.F.slot_list_setitem
  (wpAny_call_entry PySem.F.slot_list_setitem (Heap.IsList.typeIs (s := { s with heap := s.heap.push { cls := .type "slice", data := .fields #[vl, vu, .none] } }) hx) PySem.F.entry_list_setitem ?_ (PySem.F.args_list_setitem_3 _ _ _)))
 show wpAny _ _ (Builtin.List.listSubscript? (.ref s.heap.objs.size) >>= _) _ _ _
 refine wpAny_bind ?_
 unfold Builtin.List.listSubscript?
 refine wpAny_bind (wpAny_specialOf hTs slice_no_index ?_)
 simp only [Option.isNone_none, if_true]
 refine wpAny_pure ?_
 show wpAny _ _ (typeOf (.ref s.heap.objs.size) >>= _) _ _ _
 refine wpAny_bind (wpAny_typeOf hTs ?_)
 rw [if_neg (by decide)]
 rw [listSliceParts_eq]
 refine wpAny_bind (wpAny_bind (wpAny_field hos rfl (x := .none) rfl (wpAny_bind (wpAny_listPart .none ?_))))
 rw [if_neg (show ¬ ((rawPart none == rawInt 0) = true) from Bool.false_ne_true)]
 refine wpAny_bind (wpAny_field hos rfl (x := vl) rfl (wpAny_bind (wpAny_listPart pl ?_)))
 refine wpAny_bind (wpAny_field hos rfl (x := vu) rfl (wpAny_bind (wpAny_listPart pu (wpAny_pure ?_))))
 dsimp only
 rw [if_neg (show ¬ (Builtin.List.listSameRef (.ref x) (.ref l) = true) from by simp [Builtin.List.listSameRef, hne])]
 unfold Builtin.List.listAllItems
 refine wpAny_bind (wpAny_bind (wpAny_typeOf (T := "list") ⟨ol, hol, hcl⟩ ?_))
 rw [if_pos (by decide)]
 unfold Builtin.List.listItems
 refine wpAny_bind (wpAny_seqItems hol hdl (wpAny_pure ?_))
 refine wpAny_bind (wpAny_bind (wpAny_seqItems hox hdx (wpAny_pure ?_)))
 refine wpAny_bind (wpAny_of_eq (sliceIndices_raw lo hi none vs.toArray.size (by simp)) ?_)
 rw [List.size_toArray, hbd]
 dsimp only
 rw [if_pos (by decide)]
 refine wpAny_bind (wpAny_rule ?_)
 rw [if_neg (by simp [Builtin.List.listTooLong, sizeLine]; lia)]
 show wpAny _ _ (updateSeq x _ >>= _) _ _ _
 obtain ⟨pre, post, rfl, rfl, ha, hb⟩ := U.split
 have z := Ns' (x, listOf vs.toArray n) (List.mem_append.mpr (.inr (.head _)))
 have e : (max (a : Int) b).toNat = max a b := by lia
 have hval : vs.toArray.extract 0 a ++ ws.toArray ++ vs.toArray.extract (max a b) vs.toArray.size = zs.toArray := by
  rw [← hzs]
  apply Array.toList_inj.mp
  simp
  exact List.take_of_length_le (by simp)
 refine wpAny_bind (wpAny_updateSeq z.1 rfl ?_ (by simp [sizeLine]; lia) (by rw [e]; show (vs.toArray.extract 0 a ++ ws.toArray ++ vs.toArray.extract (max a b) vs.toArray.size).size ≤ _; rw [hval]; simp [sizeLine]; lia))
 refine wpAny_bind (wpAny_letGo (wpAny_pure ⟨.none, rfl, wpAny_pure ?_⟩))
 refine h _ (Fs.change (Heap.SameBut.update ..) z.2.1 z.2.2) (news_set Ns' ha hb (Heap.SameBut.update ..) ?_)
 rw [Heap.get?_update_self _ z.1 rfl]
 congr 1
 rw [e]
 subst hn
 show Obj.mapSeq (fun xs => xs.extract 0 a ++ ws.toArray ++ xs.extract (max a b) xs.size) (listOf vs.toArray n) = _
 simp only [Obj.mapSeq, List.size_toArray, beq_iff_eq]
 rw [List.size_toArray] at hval
 rw [hval, List.size_toArray]
theorem eq_2 : pt.U1 := hy @eq_1
end J31
theorem list_setsl : type_of% (@Part1.h _ _ _ J31.pt J31.eq_2) := @Part1.h _ _ _ J31.pt J31.eq_2
section
end
section
variable {prog : Program} {w : World} {A : Around} {E : Value → Shared → Prop} {s : Shared} {h₀ : Heap} {L : Addr} {m : Str → Option Value} {news news' : List (Addr × Obj)}
theorem iter_list {D : Addr} {items : Array Value} {n : Nat} {Q : Value → Shared → Prop} (F : Fr h₀ L s.heap m) (N : News h₀ L s.heap news) (hl : (D, listOf items n) ∈ news)
  (h : ∀ I oI h', ItObj D 0 oI → Fr h₀ L h' m → News h₀ L h' ((I, oI) :: news) → (∀ p ∈ news, p.1 < I) → Q (.ref I) { s with heap := h' }) : wpAny (model prog w) A (call (.builtin "iter") [.ref D]) Q E s := by
 refine Calls.call_function_entry (by decide +kernel) (by decide +kernel) kdk_entry_iter (kdk_args_iter _) ?_
 unfold Builtin.«iter»
 refine wpAny_bind (wpAny_of_eq (a := [Value.ref D]) (by kernel_rfl) ?_)
 dsimp only
 refine wpAny_bind (list_iter F N (N.isList hl) fun I oI h' hI F' N' hap hlt _ => wpAny_pure ⟨_, rfl, h I oI h' hI F' N' hap⟩)
end
section
variable {M : Model} {A : Around} {E : Value → Shared → Prop} {s : Shared} {env : Env} {pos p : Pos} {first : List Value} {Q : Value → Shared → Prop} {e : PySem.Expr}
theorem callWith_ST {T : String} (h : wpAny M A (eval e env) (fun v s₁ => StarOf M A E v (fun vs s₂ => wpAny M A (call (.type T) (first ++ vs)) Q E s₂) s₁) E s)
  (he : starEach [.Starred e p] env = [(true, eval e env)] := by rfl) :
  wpAny M A (callWith pos (.type T) first (backTo pos (starEach [.Starred e p] env)) []) Q E s := by
 rw [he]
 refine ks_call (P := fun _ => True) rfl (fun h _ => ⟨.machine, .inr (.inl rfl), .now⟩) (ks_lone (wpAny_mono h (fun v s₁ h₁ => ?_) fun _ _ x => x))
 exact wpAny_mono h₁ (fun b s₂ h₂ => ⟨h₂.1, wpAny_mono h₂.2 (fun vs s₃ h₃ => ⟨trivial, h₃⟩) fun _ _ x => x⟩) fun _ _ x => x
end
noncomputable abbrev loose0 : List Str := [Str.ofString "_twin_re_1", Str.ofString "_Accumulator", Str.ofString "tspecials",
   Str.ofString "_name_disallowed_re", Str.ofString "_value_disallowed_re", Str.ofString "_formatparam"]
noncomputable abbrev pv : Program := topProg
noncomputable abbrev lv : List Str := [Str.ofString "NL", Str.ofString "EMPTYSTRING", Str.ofString "CHAR_MAX", Str.ofString "tspecials", Str.ofString "_twin_re_1", Str.ofString "_name_disallowed_re", Str.ofString "_value_disallowed_re", Str.ofString "__name__", Str.ofString "_wall", Str.ofString "_ValueFormatter", Str.ofString "_Accumulator", Str.ofString "_strcoll", Str.ofString "_grouping_intervals", Str.ofString "_strip_padding", Str.ofString "_formatparam", Str.ofString "Headers", Str.ofString "_law_cells", Str.ofString "_law_digits", Str.ofString "_law_in_order", Str.ofString "_law_to_and_fro", Str.ofString "_law_sizes", Str.ofString "_law_columns", Str.ofString "law", Str.ofString "_sre"]
noncomputable def lts (ps : List (Nat × Tok)) : List Value := ps.map fun p => Value.str ⟨#[p.1]⟩ p.2
theorem c_strcoll {w : World} {mean : ExcName → Option Value} {mg mb : Str → Option Value} {x y : Str} {tx ty : Tok} {led : List (Addr × Obj)}
  (dp un : Nat) (gd : Option (List Code)) (cn : Str) (cs : Scope) (a : Addr) (ccd : Value) (cl : List (Str × Addr)) (outer : List Env) (A₀ : Around) (base h₀ : Heap) (L : Addr) (m : Str → Option Value) (s : Shared) (Q E : Value → Shared → Prop)
  (B : Below A₀ base outer h₀) (F : Fr h₀ L s.heap m) (X : (hd.heap_1 w.params).In h₀) (N : News h₀ L s.heap led) (T : Top pv lv mean mg mb h₀) (hk : cs.kind = .function)
  (hd : dp + 10 < recursionLimit) (hu : un + 80 < cLine)
  (hret : ∀ (t : Tok) (h' : Heap) (tk' : Nat), Fr h₀ L h' m → News h₀ L h' led → Q (.int (b2i (decide (y.cps.toList < x.cps.toList)) - b2i (decide (x.cps.toList < y.cps.toList))) t) { s with heap := h', toks := tk' }) :
  wpAny (model Challenge.rw_yj0030_01.row.prog w) (ktrTop dp un gd cn cs L a ccd cl outer) (call (.ref 211) [.str x tx, .str y ty]) Q E s := by
 k_with_none
 k_with "ne" => (refine neN ?_; (try dsimp only); first | with_reducible (first | assumption | (refine Ne.symm ?_; assumption) | exact ne_1 | exact ne_1.symm | exact ne_2 | exact ne_2.symm | exact ne_3 | exact ne_3.symm | exact ne_4 | exact ne_4.symm) | exact (by with_reducible assumption : Apt _ _) | exact Ne.symm (by with_reducible assumption : Apt _ _) | omega)
 k_with "d2" => (repeat' (first | with_reducible (first | exact m_id | exact m_nil | exact m_lid | exact m_mapl | exact m_mapl2 | refine m_cons ?_ ?_ | refine m_app ?_ ?_ | refine m_map ?_ ?_ | refine m_map1 ?_ | exact m_hd | refine m_tl ?_ | exact m_mapr rfl | refine m_tail ?_ | refine m_right ?_ | refine m_inr ?_) | exact m_hd | refine m_tl ?_))
 k_with "d3" => (first | assumption | omega | ktr_room | ktr_units | (simp only [] at *; omega))
 revert X; k_fill; intro X
 refine wpAny_call ?_
 k_dflt cell_enter
 k_steps
 refine hret _ _ _ ?_ ?_ <;> assumption
theorem lts_get {ps : List (Nat × Tok)} {i : Nat} {v : Value} (h : (lts ps).toArray[i]? = some v) : ∃ p, ps[i]? = some p ∧ v = .str ⟨#[p.1]⟩ p.2 := by
 simp only [List.getElem?_toArray, lts, List.getElem?_map, Option.map_eq_some_iff] at h
 obtain ⟨p, h1, h2⟩ := h
 exact ⟨p, h1, h2.symm⟩
@[simp] theorem lts_length (ps : List (Nat × Tok)) : (lts ps).length = ps.length := by simp [lts]
theorem one_lt (x y : Nat) : ((⟨#[x]⟩ : Str).cps.toList < (⟨#[y]⟩ : Str).cps.toList) ↔ x < y := by
 show ([x] < [y]) ↔ _
 rw [List.cons_lt_cons_iff]
 simp
theorem two_lt (x y : Nat) : ([x] < [y]) ↔ x < y := by
 rw [List.cons_lt_cons_iff]
 simp
theorem coll_pos (x y : Nat) : (0 < b2i (decide ([y] < [x])) - b2i (decide ([x] < [y]))) ↔ y < x := by
 by_cases h1 : y < x
 ·have h2 : ¬ x < y := by lia
  rw [decide_eq_true ((two_lt y x).mpr h1), decide_eq_false (fun h => h2 ((two_lt x y).mp h))]
  exact ⟨fun _ => h1, fun _ => by decide⟩
 ·rw [decide_eq_false (fun h => h1 ((two_lt y x).mp h))]
  refine ⟨fun h => ?_, fun h => absurd h h1⟩
  by_cases h2 : x < y
  ·rw [decide_eq_true ((two_lt x y).mpr h2)] at h; exact absurd h (by decide)
  ·rw [decide_eq_false (fun h => h2 ((two_lt x y).mp h))] at h; exact absurd h (by decide)
noncomputable abbrev Row := List (Nat × Tok)
noncomputable def Cl.D {B : Type} (c : Cl B) : Cl (Row → B) := aN inferInstance c
noncomputable def Cl.K {B : Type} (c : Cl B) : Cl (List (Addr × Row) → B) := aN inferInstance c
noncomputable def Cl.Q {B : Type} (c : Cl B) : Cl (List (Addr × Row × Nat) → B) := aN inferInstance c
noncomputable def insAt (row : Row) (k : Nat) (p : Nat × Tok) : Row := row.take k ++ p :: row.drop k
theorem ins_perm (row : Row) (k : Nat) (p : Nat × Tok) : (insAt row k p).Perm (p :: row) := by
 unfold insAt
 refine List.perm_middle.trans ?_
 rw [List.take_append_drop]
theorem ins_take {row ps : Row} {i k : Nat} {p : Nat × Tok} (h : row.Perm (ps.take i)) (hp : ps[i]? = some p) : (insAt row k p).Perm (ps.take (i + 1)) := by
 refine (ins_perm row k p).trans ?_
 rw [List.take_add_one, hp]
 refine (List.Perm.cons p h).trans ?_
 simpa using (List.perm_append_singleton p (ps.take i)).symm
theorem ins_sorted {row : Row} {k : Nat} {p : Nat × Tok} (hs : row.Pairwise fun a b => a.1 ≤ b.1) (h1 : ∀ q ∈ row.drop k, p.1 < q.1) (h2 : ∀ q, row[k - 1]? = some q → 0 < k → q.1 ≤ p.1) (hk : k ≤ row.length) :
  (insAt row k p).Pairwise fun a b => a.1 ≤ b.1 := by
 unfold insAt
 have hs' := hs
 rw [← List.take_append_drop k row, List.pairwise_append] at hs'
 obtain ⟨ht, hd, htd⟩ := hs'
 have le : ∀ a ∈ row.take k, a.1 ≤ p.1 := by
  intro a ha
  obtain ⟨j, hj, rfl⟩ := List.mem_iff_getElem.mp ha
  rw [List.length_take] at hj
  have hk0 : 0 < k := by lia
  have hk1 : k - 1 < row.length := by lia
  have e := h2 row[k - 1] (by simp [hk1]) hk0
  rw [List.getElem_take]
  by_cases hjk : j = k - 1
  ·subst hjk; exact e
  ·exact Nat.le_trans (List.pairwise_iff_getElem.mp hs j (k - 1) (by lia) hk1 (by lia)) e
 rw [List.pairwise_append]
 refine ⟨ht, List.pairwise_cons.mpr ⟨fun q hq => Nat.le_of_lt (h1 q hq), hd⟩, fun a ha b hb => ?_⟩
 rcases List.mem_cons.mp hb with rfl | hb
 ·exact le a ha
 ·exact htd a ha b hb
theorem drop_pred {row : Row} {k : Nat} {q : Nat × Tok} (hk : 0 < k) (hq : row[k - 1]? = some q) : row.drop (k - 1) = q :: row.drop k := by
 obtain ⟨h, rfl⟩ := List.getElem?_eq_some_iff.mp hq
 rw [List.drop_eq_getElem_cons h]
 have : k - 1 + 1 = k := by lia
 rw [this]
section
variable {prog : Program} {w : World} {A : Around} {E : Value → Shared → Prop} {s : Shared}
theorem len_lts {l : Addr} {ps : List (Nat × Tok)} {Q : Value → Shared → Prop} (hl : s.heap.IsList l (lts ps).toArray) (hz : ps.length < 1000) (h : Q (.int ps.length (s.toks + 1)) { s with toks := s.toks + 1 + 1 }) :
  wpAny (model prog w) A (call (.builtin "len") [.ref l]) Q E s := by
 have e : (lts ps).toArray.size = ps.length := by simp
 refine len_list hl (by rw [e]; lia) ?_
 rw [e]; exact h
theorem item_lts {value slice : Expr} {l : Addr} {ps : List (Nat × Tok)} {k : Int} {u : Tok} {Q : Value → Shared → Prop} (hl : s.heap.IsList l (lts ps).toArray) (h0 : 0 ≤ k) (hk : k < ps.length) (hz : ps.length < 1000)
  (h : ∀ p, ps[k.toNat]? = some p → Q (.str ⟨#[p.1]⟩ p.2) s)
  (hs : subscripted slice false (.ref l) (.int k u) = operate [.ref l, .int k u] (getItem (.ref l) (.int k u)) := by with_unfolding_all rfl) (hg : ∀ r, letTemporaryGo value (.ref l) r = pure () := by intro _; with_unfolding_all rfl) :
  wpAny (model prog w) A (subscriptTail value slice (.ref l) (.int k u)) Q E s := by
 have hk' : k.toNat < ps.length := by lia
 refine item_list hl h0 (by lia) (x := .str ⟨#[(ps[k.toNat]).1]⟩ (ps[k.toNat]).2) (by simp [lts, hk']) (h _ (by simp [hk'])) hs hg
end
section
variable {prog : Program} {w : World} {A : Around} {E : Value → Shared → Prop} {s : Shared} {h₀ : Heap} {L D : Addr} {m : Str → Option Value} {news news' : List (Addr × Obj)}
theorem ins_lts {ps : Row} {n k : Nat} {u t : Tok} {c : Nat} {Q : Value → Shared → Prop} (F : Fr h₀ L s.heap m) (N : News h₀ L s.heap news) (hk : k ≤ ps.length) (hz : ps.length < 1000)
  (U : Upd D (listOf (lts ps).toArray n) (listOf (lts (insAt ps k (c, t))).toArray (n + 1)) news news') (h : ∀ h', Fr h₀ L h' m → News h₀ L h' news' → Q .none { s with heap := h' }) :
  wpAny (model prog w) A (call (.builtin "list.insert") [.ref D, .int (k : Int) u, .str ⟨#[c]⟩ t]) Q E s := by
 refine kl_insert F N ?_ ?_ U (by simp [sizeLine]; lia) h
 ·unfold Builtin.List.listFitsIndex
  simp
  lia
 ·unfold kl_ins insAt lts
  rw [if_neg (by lia)]
  have e : min (k : Int).toNat (List.map (fun p : Nat × Tok => Value.str ⟨#[p.1]⟩ p.2) ps).toArray.toList.length = k := by simp; lia
  rw [e]
  simp [List.map_take, List.map_drop]
end
theorem lts_take (ps : Row) (k : Nat) : lts (ps.take k) = (lts ps).take k := by simp [lts, List.map_take]
theorem lts_drop (ps : Row) (k : Nat) : lts (ps.drop k) = (lts ps).drop k := by simp [lts, List.map_drop]
theorem lts_reverse (ps : Row) : lts ps.reverse = (lts ps).reverse := by simp [lts]
theorem lts_append (ps qs : Row) : lts (ps ++ qs) = lts ps ++ lts qs := by simp [lts]
theorem pick_upto (vs : List Value) (k : Nat) : kms_pick vs none (some (k : Int)) = vs.take k := by
 unfold kms_pick kms_lo kms_hi
 simp only [List.drop_zero, Nat.sub_zero]
 rw [if_neg (by lia), Int.toNat_natCast, kmk_take_min]
theorem pick_from (vs : List Value) (k : Nat) : kms_pick vs (some (k : Int)) none = vs.drop k := by
 unfold kms_pick kms_lo kms_hi
 simp only
 rw [if_neg (by omega), Int.toNat_natCast, kmk_drop_min]
 exact List.take_of_length_le (by simp; omega)
theorem pick_run (vs : List Value) (a b : Nat) : kms_pick vs (some (a : Int)) (some (b : Int)) = (vs.drop a).take (b - a) := by
 unfold kms_pick kms_lo kms_hi
 simp only
 rw [if_neg (by lia), if_neg (by lia), Int.toNat_natCast, Int.toNat_natCast, kmk_drop_min]
 by_cases h : b ≤ vs.length
 ·rw [Nat.min_eq_left h]
  by_cases h2 : a ≤ vs.length
  ·rw [Nat.min_eq_left h2]
  ·rw [List.drop_of_length_le (by lia)]; simp
 ·rw [Nat.min_eq_right (by lia)]
  rw [List.take_of_length_le (by simp; lia), List.take_of_length_le (by simp; lia)]
section
variable {prog : Program} {w : World} {A : Around} {E : Value → Shared → Prop} {s : Shared} {h₀ : Heap} {L l : Addr} {m : Str → Option Value} {news : List (Addr × Obj)} {value slice : PySem.Expr} {ps : Row} {n k : Nat} {vl vu vk : Value} {Q : Value → Shared → Prop}
theorem upto_lts (F : Fr h₀ L s.heap m) (N : News h₀ L s.heap news) (hl : (l, listOf (lts ps).toArray n) ∈ news) (pl : IsPart vl none) (pu : IsPart vu (some (k : Int))) (hz : ps.length < 1000)
  (h : ∀ D h', Fr h₀ L h' m → News h₀ L h' ((D, listOf (lts (ps.take k)).toArray 0) :: news) → (∀ p ∈ news, p.1 < D) → Q (.ref D) { s with heap := h' })
  (hs : subscripted slice false (.ref l) (.ref s.heap.objs.size) = operate [.ref s.heap.objs.size, .ref l] (getItem (.ref l) (.ref s.heap.objs.size))) (ht : ∀ r, letTemporaryGo value (.ref l) r = pure ()) :
  wpAny (model prog w) A (subscriptTail value slice (.ref l) (.ref s.heap.objs.size)) Q E { s with heap := s.heap.push { cls := .type "slice", data := .fields #[vl, vu, .none] } } := by
 refine kms_slice_lit F N (N.isList hl) pl pu ((pick_upto _ k).trans (lts_take ps k).symm) h hs ht (by simp [sizeLine]; lia)
theorem from_lts (F : Fr h₀ L s.heap m) (N : News h₀ L s.heap news) (hl : (l, listOf (lts ps).toArray n) ∈ news) (pl : IsPart vl (some (k : Int))) (pu : IsPart vu none) (hz : ps.length < 1000)
  (h : ∀ D h', Fr h₀ L h' m → News h₀ L h' ((D, listOf (lts (ps.drop k)).toArray 0) :: news) → (∀ p ∈ news, p.1 < D) → Q (.ref D) { s with heap := h' })
  (hs : subscripted slice false (.ref l) (.ref s.heap.objs.size) = operate [.ref s.heap.objs.size, .ref l] (getItem (.ref l) (.ref s.heap.objs.size))) (ht : ∀ r, letTemporaryGo value (.ref l) r = pure ()) :
  wpAny (model prog w) A (subscriptTail value slice (.ref l) (.ref s.heap.objs.size)) Q E { s with heap := s.heap.push { cls := .type "slice", data := .fields #[vl, vu, .none] } } := by
 refine kms_slice_lit F N (N.isList hl) pl pu ((pick_from _ k).trans (lts_drop ps k).symm) h hs ht (by simp [sizeLine]; lia)
theorem run_lts {a b : Nat} (F : Fr h₀ L s.heap m) (N : News h₀ L s.heap news) (hl : (l, listOf (lts ps).toArray n) ∈ news) (pl : IsPart vl (some (a : Int))) (pu : IsPart vu (some (b : Int))) (hz : ps.length < 1000)
  (h : ∀ D h', Fr h₀ L h' m → News h₀ L h' ((D, listOf (lts ((ps.drop a).take (b - a))).toArray 0) :: news) → (∀ p ∈ news, p.1 < D) → Q (.ref D) { s with heap := h' })
  (hs : subscripted slice false (.ref l) (.ref s.heap.objs.size) = operate [.ref s.heap.objs.size, .ref l] (getItem (.ref l) (.ref s.heap.objs.size))) (ht : ∀ r, letTemporaryGo value (.ref l) r = pure ()) :
  wpAny (model prog w) A (subscriptTail value slice (.ref l) (.ref s.heap.objs.size)) Q E { s with heap := s.heap.push { cls := .type "slice", data := .fields #[vl, vu, .none] } } := by
 refine kms_slice_lit F N (N.isList hl) pl pu ((pick_run _ a b).trans ?_) h hs ht (by simp [sizeLine]; omega)
 rw [lts_take, lts_drop]
theorem rev_lts {ops : List Value} (F : Fr h₀ L s.heap m) (N : News h₀ L s.heap news) (hl : (l, listOf (lts ps).toArray n) ∈ news) (pk : IsPart vk (some (-1))) (hz : ps.length < 1000)
  (h : ∀ D h', Fr h₀ L h' m → News h₀ L h' ((D, listOf (lts ps.reverse).toArray 0) :: news) → (∀ p ∈ news, p.1 < D) → Q (.ref D) { s with heap := h' })
  (hs : subscripted slice false (.ref l) (.ref s.heap.objs.size) = operate ops (getItem (.ref l) (.ref s.heap.objs.size))) (ht : ∀ r, letTemporaryGo value (.ref l) r = pure ()) :
  wpAny (model prog w) A (subscriptTail value slice (.ref l) (.ref s.heap.objs.size)) Q E { s with heap := s.heap.push { cls := .type "slice", data := .fields #[.none, .none, vk] } } :=
 krv_lit F N (N.isList hl) pk (lts_reverse ps).symm h hs ht (by simp [sizeLine]; lia)
end
inductive FroRel (w : Nat) : Bool → Row → Row → Prop
 | nil (b : Bool) : FroRel w b [] []
 | cons {b : Bool} {ps line rest : Row} : ps ≠ [] → line.Perm (ps.take w) → line.Pairwise (fun a b => a.1 ≤ b.1) → FroRel w (!b) (ps.drop w) rest → FroRel w b ps ((if b then line.reverse else line) ++ rest)
section
open PySem PySem.W PyProof.Rows PySem.Spec PySem.Calls PySem.SeqAt
noncomputable def Low (ps : Row) : Prop := ∀ p ∈ ps, p.1 < 128
theorem strOk_low {x : Str} (h : ∀ c ∈ x.cps.toList, c < 128) : PyData.strOk x = true := by
 unfold PyData.strOk
 simp only [Array.all_eq_true]
 intro i hi
 have := h x.cps[i] (by simp)
 simp
 lia
theorem str_lay : ∀ ss : List Str, (∀ s ∈ ss, PyData.strOk s = true) → PyData.canLayAll0 (ss.map PyData.str) = true
 | [], _ => rfl
 | s :: r, h => by simp [PyData.canLayAll0, PyData.canLay0, str_lay r fun x hx => h x (List.mem_cons_of_mem _ hx), h s (List.mem_cons_self ..)]
theorem ones_ok {ps : Row} (h : Low ps) : ∀ s ∈ ps.map fun p => (⟨#[p.1]⟩ : Str), PyData.strOk s = true := by
 intro s hs
 obtain ⟨p, hp, rfl⟩ := List.mem_map.mp hs
 exact strOk_low (by simpa using h p hp)
theorem str_depth : ∀ ss : List Str, PyData.depthAll (ss.map PyData.str) = 0
 | [] => rfl
 | s :: r => by simp [PyData.depthAll, PyData.depth, str_depth r]
theorem str_shaped {ss : List Str} (h : ∀ s ∈ ss, PyData.strOk s = true) : SeqAt.shaped (.list (ss.map PyData.str)) = true := by
 simp [SeqAt.shaped, PyData.canLay0, str_lay _ h, PyData.depth, str_depth]
theorem str_same : ∀ ss ts : List Str, PySem.Spec.sameAll (ss.map PyData.str) (ts.map PyData.str) = decide (ss = ts)
 | [], [] => by simp [PySem.Spec.sameAll]
 | [], _ :: _ => by simp [PySem.Spec.sameAll]
 | _ :: _, [] => by simp [PySem.Spec.sameAll]
 | a :: r, b :: t => by
  simp only [List.map_cons, PySem.Spec.sameAll, PySem.Spec.same, str_same r t]
  by_cases h : a = b <;> by_cases h' : r = t <;> simp [h, h']
theorem str_carried : ∀ {ps : Row}, CarriedAll (lts ps) ((ps.map fun p => (⟨#[p.1]⟩ : Str)).map PyData.str)
 | [] => .nil
 | _ :: _ => .cons (.str _ _) str_carried
theorem one_inj (x y : Nat) : ((⟨#[x]⟩ : Str) = ⟨#[y]⟩) ↔ x = y := by
 constructor
 ·intro h; simpa using congrArg Str.cps h
 ·rintro rfl; rfl
theorem ones_inj : ∀ ps qs : Row, (ps.map fun p => (⟨#[p.1]⟩ : Str)) = (qs.map fun p => (⟨#[p.1]⟩ : Str)) ↔ ps.map (·.1) = qs.map (·.1)
 | [], [] => by simp
 | [], _ :: _ => by simp
 | _ :: _, [] => by simp
 | p :: r, q :: t => by
  simp only [List.map_cons, List.cons.injEq, ones_inj r t, one_inj]
section
variable {prog : Program} {w : World} {A : Around} {E : Value → Shared → Prop} {s : Shared} {a b : Addr} {ps qs : Row} {Q : Value → Shared → Prop}
theorem eq_lts (hp : Low ps) (hq : Low qs) (ha : s.heap.IsList a (lts ps).toArray) (hb : s.heap.IsList b (lts qs).toArray) (hu : A.units + 64 < cLine) (h : Q (.bool (decide (ps.map (·.1) = qs.map (·.1)))) s) :
  wpAny (model prog w) A (compareOp .Eq (.ref a) (.ref b)) Q E s :=
 eq_dataH_same (reads_newData ha str_carried) (reads_newData hb str_carried) (str_shaped (ones_ok hp)) (str_shaped (ones_ok hq)) hu (SeqAt.noMix_of_shape (.list .str) rfl _ _ (list_map_has fun _ => rfl) (list_map_has fun _ => rfl))
  (by simp only [PySem.Spec.same]; rw [str_same, decide_eq_decide.mpr (ones_inj ps qs)]; exact h)
theorem ne_lts (hp : Low ps) (hq : Low qs) (ha : s.heap.IsList a (lts ps).toArray) (hb : s.heap.IsList b (lts qs).toArray) (hu : A.units + 64 < cLine) (h : Q (.bool (!decide (ps.map (·.1) = qs.map (·.1)))) s) :
  wpAny (model prog w) A (compareOp .NotEq (.ref a) (.ref b)) Q E s :=
 ne_dataH_same (reads_newData ha str_carried) (reads_newData hb str_carried) (str_shaped (ones_ok hp)) (str_shaped (ones_ok hq)) hu (SeqAt.noMix_of_shape (.list .str) rfl _ _ (list_map_has fun _ => rfl) (list_map_has fun _ => rfl))
  (by simp only [PySem.Spec.same]; rw [str_same, decide_eq_decide.mpr (ones_inj ps qs)]; exact h)
theorem eq_nil (hp : Low ps) (ha : s.heap.IsList a (lts ps).toArray) (hb : s.heap.IsList b #[]) (hu : A.units + 64 < cLine) (h : Q (.bool (decide (ps = []))) s) :
  wpAny (model prog w) A (compareOp .Eq (.ref a) (.ref b)) Q E s := by
 refine eq_lts (qs := []) hp (fun _ h => by cases h) ha hb hu ?_
 have : decide (ps.map (·.1) = List.map (·.1) ([] : Row)) = decide (ps = []) := decide_eq_decide.mpr (by simp)
 rw [this]; exact h
theorem add_lts {h₀ : Heap} {L : Addr} {m : Str → Option Value} {news : List (Addr × Obj)} {n k : Nat} (F : Fr h₀ L s.heap m) (N : News h₀ L s.heap news) (ha : (a, listOf (lts ps).toArray n) ∈ news) (hb : (b, listOf (lts qs).toArray k) ∈ news)
  (hz : ps.length + qs.length < 2000) (h : ∀ D h', Fr h₀ L h' m → News h₀ L h' ((D, listOf (lts (ps ++ qs)).toArray 0) :: news) → (∀ p ∈ news, p.1 < D) → Q (.ref D) { s with heap := h' }) :
  wpAny (model prog w) A (binaryOp .Add (.ref a) (.ref b)) Q E s :=
 kmk_add_lit F N (N.isList ha) (N.isList hb) (lts_append ps qs).symm h (by simp [sizeLine]; lia)
end
end
section
variable {prog : Program} {w : World} {A : Around} {R : GenEnd} {Y : Protocol} {n : Nat} {s₀ : Shared} {c : Code} {fs : List Frame} {s : Shared} {env : Env}
 {K : Flow → Sem Fin} {H : Value → Sem Fin} {gd : Bool → Bool} {lv : List Value → List Value}
theorem seg_plain {α : Type} {M : Model} {m : Sem α} {K : α → Sem Fin} {H : Value → Sem Fin} {gd : Bool → Bool} {lv : List Value → List Value}
  (h : wpAny M (A.over c fs) m (fun a s' => Seg M A R Y n s₀ c (K a) fs s') (fun _ _ => False) s) : Seg M A R Y n s₀ c (m.wrap K H gd lv) fs s :=
 seg_wrap (wpAny_mono h (fun _ _ x => x) fun _ _ x => x.elim)
theorem seg_bindF {α : Type} {M : Model} {m : Sem α} {f : α → Sem Flow}
  (h : wpAny M (A.over c fs) m (fun a s' => Seg M A R Y n s₀ c ((f a).wrap K H gd lv) fs s') (fun _ _ => False) s) : Seg M A R Y n s₀ c ((m >>= f).wrap K H gd lv) fs s := by
 rw [Sem.bind_eq_wrap', Sem.wrap_wrap]
 exact seg_plain h
theorem seg_standAt {M : Model} {pos : Pos} {f : Unit → Sem Flow} (h : Seg M A R Y n s₀ c ((f ()).wrap K H gd lv) fs s) : Seg M A R Y n s₀ c ((standAt pos >>= f).wrap K H gd lv) fs s :=
 seg_bindF (wpAny_standAt h)
theorem seg_If {M : Model} {test : Expr} {body orelse : List Stmt} {pos : Pos}
  (h : wpAny M (A.over c fs) (isTrue test env (eval test env)) (fun b s' => WhlIf b (Seg M A R Y n s₀ c ((execs body env).wrap K H gd lv) fs s') (Seg M A R Y n s₀ c ((execs orelse env).wrap K H gd lv) fs s')) (fun _ _ => False) s) :
  Seg M A R Y n s₀ c ((exec (.If test body orelse pos) env).wrap K H gd lv) fs s := by
 rw [exec_If]
 refine seg_standAt (seg_bindF (wpAny_mono h (fun b s' hb => ?_) fun _ _ x => x))
 unfold WhlIf at hb
 cases b with
 | true => rw [if_pos rfl] at hb; exact hb
 | false => rw [if_neg Bool.false_ne_true] at hb; exact hb
theorem seg_Return {M : Model} {pos : Pos} (h : Seg M A R Y n s₀ c (K (.ret .none)) fs s) : Seg M A R Y n s₀ c ((exec (.Return none pos) env).wrap K H gd lv) fs s := by
 rw [exec_Return_none]
 exact seg_standAt h
theorem seg_Assign {M : Model} {st : Stmt} (h : wpAny M (A.over c fs) (exec st env) (fun f s' => Seg M A R Y n s₀ c (K f) fs s') (fun _ _ => False) s) : Seg M A R Y n s₀ c ((exec st env).wrap K H gd lv) fs s := seg_plain h
theorem seg_For {M : Model} {target iter : Expr} {body orelse : List Stmt} {pos : Pos}
    (h : wpAny M (A.over c fs) (eval iter env) (fun x s₁ => wpAny M (A.over c fs) (pyIter x) (fun it s₂ => ∀ p, Seg M A R Y n s₀ (.forLoop target it body orelse env) (M.den (.forLoop target it body orelse env))
      (.ret (fun r => ((match r with | .ok f => (.pure f : Sem Flow) | .error e => .raise e).onRaise fun (x : Value) => do
        if (← field x 1) == Value.none then unsupported "frame.own-activation:exception-without-traceback"
        setFlight x env.frame).wrap K H gd lv) none (gd false) (lv []) c p [] :: fs) s₂) (fun _ _ => False) s₁) (fun _ _ => False) s)
    (hs : ∀ x, foldedSetIterable iter env x = pure x := by intro _; rfl) :
    Seg M A R Y n s₀ c ((exec (.For target iter body orelse pos) env).wrap K H gd lv) fs s := by
  rw [exec_For]
  refine seg_standAt (seg_bindF (wpAny_mono h (fun x s₁ h₁ => ?_) fun _ _ x => x))
  refine seg_bindF (wpAny_of_eq (hs x) ?_)
  refine seg_standAt (seg_bindF (wpAny_holding (wpAny_mono h₁ (fun it s₂ h₂ => ?_) fun _ _ x => x)))
  exact seg_call h₂
end
section
variable {prog : Program} {w : World} {A : Around} {R : GenEnd} {Y : Protocol} {n : Nat} {s₀ : Shared} {fs : List Frame} {s : Shared} {env : Env}
theorem seg_forLoop {target : Expr} {it : Value} {body orelse : List Stmt}
    (h : wpAny (model prog w) (A.over (.forLoop target it body orelse env) fs) (pyNext it) (fun r s' => match r with
        | none => Seg (model prog w) A R Y n s₀ (.block orelse env) ((model prog w).den (.block orelse env)) fs s'
        | some v => wpAny (model prog w) (A.over (.forLoop target it body orelse env) fs) (letOwnedTupleGo target it v) (fun _ s₁ => wpAny (model prog w) (A.over (.forLoop target it body orelse env) fs) (assign target env v) (fun _ s₂ =>
          Seg (model prog w) A R Y n s₀ (.forLoop target it body orelse env) ((execs body env).wrap (fun f => match f with
            | .next | .cont => .pure (.again (.forLoop target it body orelse env))
            | .brk => .pure (.done .next)
            | .ret v => .pure (.done (.ret v))) (fun e => (do noteFrame e env; theTreesLotGoes e : Sem Unit).wrap (fun _ => .raise e) .raise id id) id id) fs s₂) (fun _ _ => False) s₁) (fun _ _ => False) s')
      (fun _ _ => False) s) :
    Seg (model prog w) A R Y n s₀ (.forLoop target it body orelse env) ((model prog w).den (.forLoop target it body orelse env)) fs s := by
  show Seg _ A R Y n s₀ _ ((forTurn target it body orelse env).onRaise (fun x => do noteFrame x env; theTreesLotGoes x)) fs s
  unfold forTurn
  rw [Sem.onRaise_eq_wrap, Sem.bind_eq_wrap', Sem.wrap_wrap]
  refine seg_plain (wpAny_standAt ?_)
  rw [Sem.bind_eq_wrap', Sem.wrap_wrap]
  refine seg_plain (wpAny_onRaise (wpAny_mono h (fun r s' hr => ?_) fun _ _ x => x.elim))
  cases r with
  | none => exact seg_again rfl hr
  | some v =>
    show Seg _ A R Y n s₀ _ (Sem.wrap _ _ _ _ (letOwnedTupleGo target it v >>= _)) fs s'
    rw [Sem.bind_eq_wrap', Sem.wrap_wrap]
    refine seg_plain (wpAny_mono hr (fun _ s₁ h₁ => ?_) fun _ _ x => x)
    rw [Sem.bind_eq_wrap', Sem.wrap_wrap]
    refine seg_plain (wpAny_mono h₁ (fun _ s₂ h₂ => ?_) fun _ _ x => x)
    rw [Sem.bind_eq_wrap', Sem.wrap_wrap]
    rw [Sem.wrap_congr (execs body env) _ _ (K' := fun f => match f with
            | .next | .cont => .pure (.again (.forLoop target it body orelse env))
            | .brk => .pure (.done .next)
            | .ret v => .pure (.done (.ret v))) (H' := (fun e => (do noteFrame e env; theTreesLotGoes e : Sem Unit).wrap (fun _ => .raise e) .raise id id))
        (fun f => by cases f <;> rfl)
        (fun e => by first | exact Sem.bind_eq_wrap _ _ | (show (do noteFrame e env; theTreesLotGoes e : Sem Unit).bind (fun _ => .raise e) = _; rw [Sem.bind_eq_wrap]))]
    exact h₂
end
noncomputable abbrev theProg : Program := Challenge.rw_yj0030_01.row.prog
noncomputable def intVs (pre : List (Int × Tok)) : List Value := pre.map fun p => Value.int p.1 p.2
noncomputable def giVal (pre : List (Int × Tok)) (j : Nat) : Option Value := match pre[j]? with
 | some p => some (.int p.1 p.2)
 | none => pre.getLast?.map fun p => .int p.1 p.2
noncomputable def GKeep (Lg Ir : Addr) (s s' : Shared) : Prop :=
 (∀ b o, b ≠ Lg → b ≠ Ir → s.heap.get? b = some o → s'.heap.get? b = some o) ∧ s'.gens = s.gens ∧ s'.drawn = s.drawn ∧ s'.os = s.os
noncomputable def GReady (h₀ : Heap) (Lg Ir lr : Addr) (items : Array Value) (oL oI : Obj) (s : Shared) : Prop :=
 s.heap.get? Lg = some oL ∧ s.heap.get? Ir = some oI ∧ s.heap.IsList lr items ∧ ∀ b o, h₀.get? b = some o → s.heap.get? b = some o
noncomputable def Yg (h₀ : Heap) (Lg Ir lr : Addr) (items : Array Value) (pre : List (Int × Tok)) (z : Int) (N : Nat) : Protocol := fun n s₀ v s₁ kap =>
 some v = giVal pre (N - 1 - n) ∧ (N - 1 - n < pre.length ∨ z = 0) ∧ ∃ oL oI, GKeep Lg Ir s₀ s₁ ∧ s₁.heap.get? Lg = some oL ∧ s₁.heap.get? Ir = some oI ∧
  (0 < n → ∀ s'', GReady h₀ Lg Ir lr items oL oI s'' → kap (.send .none) s'')
noncomputable def Pg (Lg Ir : Addr) (pre : List (Int × Tok)) (z : Int) (N : Nat) (n : Nat) (s₀ s₁ : Shared) : Prop := N - n = pre.length ∧ z ≠ 0 ∧ GKeep Lg Ir s₀ s₁
noncomputable def GFresh (w : World) (h₀ : Heap) (lr : Addr) (items : Array Value) (pre : List (Int × Tok)) (z : Int) (gs : GenState) (Lg : Addr) (oL : Obj) : Prop :=
 ∀ (A : Around) (N : Nat) (s : Shared), 0 < N → A.handled = none → s.heap.get? Lg = some oL → s.heap.IsList lr items → (∀ b o, h₀.get? b = some o → s.heap.get? b = some o) →
  gs.Goes (model theProg w) A (fun n s₀ r s₁ => r = .ok (.ret .none) ∧ Pg Lg s.heap.objs.size pre z N n s₀ s₁) (Yg h₀ Lg s.heap.objs.size lr items pre z N) N (.send .none) s
noncomputable def giLast (pre : List (Int × Tok)) (i : Nat) : Value := if i = 0 then .none else match pre[i - 1]? with
 | some p => .int p.1 p.2
 | none => .none
structure GInv (h₀ : Heap) (Lg Ir lr : Addr) (items : Array Value) (pre : List (Int × Tok)) (M i n : Nat) (s₀ : Shared) (h : Heap) (u : Option Value) (oI : Obj) (led : List (Addr × Obj)) : Prop where
 num : n + i = M
 pos : 0 < n
 le : i ≤ pre.length
 old : ∀ b o, h₀.get? b = some o → s₀.heap.get? b = some o
 fr : Fr h₀ Lg h (fun x => if x = Str.ofString "interval" then u else if x = Str.ofString "last_interval" then some (giLast pre i) else if x = Str.ofString "grouping" then some (.ref lr) else none)
 nw : News h₀ Lg h ((Ir, oI) :: led)
 ap : ∀ p ∈ led, p.1 ≠ Ir
 it : ItObj lr i oI
 ne : lr ≠ Ir
 li : h.IsList lr items
 all : ∀ b o, b ≠ Lg → b ≠ Ir → s₀.heap.get? b = some o → h₀.get? b = none → (b, o) ∈ led
theorem keep_of {h₀ h : Heap} {Lg Ir : Addr} {oI : Obj} {led : List (Addr × Obj)} {s₀ : Shared} {tk : Nat} {m : Str → Option Value} (old : ∀ b o, h₀.get? b = some o → s₀.heap.get? b = some o) (F : Fr h₀ Lg h m) (N : News h₀ Lg h ((Ir, oI) :: led))
  (all : ∀ b o, b ≠ Lg → b ≠ Ir → s₀.heap.get? b = some o → h₀.get? b = none → (b, o) ∈ led) : GKeep Lg Ir s₀ ⟨h, s₀.gens, s₀.drawn, tk, s₀.os⟩ := by
 refine ⟨fun b o h1 h2 e => ?_, rfl, rfl, rfl⟩
 cases q : h₀.get? b with
 | none => exact (N _ (.tail _ (all b o h1 h2 e q))).1
 | some o' =>
  have := old b o' q
  rw [e] at this
  cases this
  exact F.keep b o q
noncomputable def besides (h₀ : Heap) (Lg Ir : Addr) (h : Heap) : List (Addr × Obj) := ownOf h₀ ((List.range h.objs.size).filter (fun b => b != Lg && b != Ir)) h
theorem besides_news {h₀ h : Heap} {Lg Ir : Addr} {oI : Obj} (hI : h.get? Ir = some oI) (hne : Ir ≠ Lg) (hn : h₀.get? Ir = none) : News h₀ Lg h ((Ir, oI) :: besides h₀ Lg Ir h) := by
 intro p hp
 refine m_el hp (m_all ?_ ?_)
 ·exact ⟨hI, hne, hn⟩
 ·intro p hp; exact news_ownOf (by simp) p hp
theorem besides_ap {h₀ h : Heap} {Lg Ir : Addr} : ∀ p ∈ besides h₀ Lg Ir h, p.1 ≠ Ir := fun p hp => by
 have := ownOf_sub p hp
 simp at this
 exact this.2.2
theorem besides_all {h₀ h : Heap} {Lg Ir : Addr} : ∀ b o, b ≠ Lg → b ≠ Ir → h.get? b = some o → h₀.get? b = none → (b, o) ∈ besides h₀ Lg Ir h := fun b o h1 h2 h3 h4 =>
 mem_ownOf (by simp [h1, h2, Heap.lt_size h3]) h4 h3
namespace J1
def pt : Part1 (aP.M.a.A.d.L.e.e.t.c.q.e.c.b.m.l.j) (∀ {w : World} {A : Around} {s : Shared} {h₀ : Heap} {L : Addr} {m : Str → Option Value} {led : List (Addr × Obj)} {lr : Addr} {mean : ExcName → Option Value} {mg mb : Str → Option Value}
    {pre : List (Int × Tok)} {z : Int} {tz : Tok} {rest : List Value} {nr : Nat} {R : Result → Shared → Prop}
    (hm : (lr, listOf (intVs pre ++ .int z tz :: rest).toArray nr) ∈ led)
    (F : Fr h₀ L s.heap m) (N : News h₀ L s.heap led) (X : (hd.heap_1 w.params).In h₀) (T : Top pv lv mean mg mb h₀) (hroom : A.depth < recursionLimit)
    (hpre : ∀ p ∈ pre, p.1 ≠ 0 ∧ p.1 ≠ 127) (hz : z = 0 ∨ z = 127) (hne : pre ≠ [])
    (hret : ∀ (G Lg : Addr) (oG oL : Obj) (gs : GenState) (h' : Heap) (tk' : Nat), Fr h₀ L h' m → News h₀ L h' ((G, oG) :: (Lg, oL) :: led) → (∀ p ∈ led, p.1 < Lg) → Lg < G → L < Lg →
      (∀ h : Heap, h.get? G = some oG → h.IsGen G s.gens.size) → gs.bare = true → GFresh w h₀ lr (intVs pre ++ .int z tz :: rest).toArray pre z gs Lg oL → R (.ok (.ret (.ref G))) ⟨h', s.gens.push gs, s.drawn, tk', s.os⟩), codeAny (model theProg w) A (.call (.ref 218) ⟨[.ref lr], []⟩) R s) := by
  apply Part1.mk
  case h => intro hS1 w A s h₀ L m led lr mean mg mb pre z tz rest nr R hm F N X T hroom hpre hz hne hret; revert z hm F N X T hroom hpre hz hne hret; exact @hS1 w A s h₀ L m led lr mean mg mb pre tz rest nr R
def Z0 := pt.z1
def w := hx0 Z0
def A := hx1 Z0
def s := hx2 Z0
def h₀ := hx3 Z0
def L := hx4 Z0
def m := hx5 Z0
def led := hx6 Z0
def lr := hx7 Z0
def Z1 := ht Z0
def mean := hx0 Z1
def mg := hx1 Z1
def mb := hx2 Z1
def pre := hx3 Z1
def tz := hx4 Z1
def rest := hx5 Z1
def nr := hx6 Z1
def R := hx7 Z1
theorem eq_1 : pt.Q1 w A s h₀ L m led lr mean mg mb pre tz rest nr R := by
 intro z hm F N X T hroom hpre hz hne hret
 have _ := fl X
 have ho := (X.keeps F.keep) 218 _ rfl
 refine codeAny_call_generator hroom ho rfl rfl rfl rfl ?_ ?_
 ·exact codeRec_of (X.keeps F.keep) (by with_unfolding_all rfl)
 ·refine (BindsTo.of_eq (binds := [(Str.ofString "grouping", .ref lr)]) ?_) _ _ _ _ ?_
  ·rfl
  ·refine wpAny_newFunctionEnv (by decide) (fun x hx => by rw [List.mem_singleton.mp hx]; rfl) (fun h' hns hsb => ?_) rfl
   have hlim : s.heap.NoLimit := T.nolimit.keeps F.keep
   refine ⟨hlim.fresh _ hsb, ?_⟩
   obtain ⟨oL, es, ep, hoL, hd, hk, hfind⟩ := hns
   have N1 := N.push F { cls := .type "frame", data := .dict #[] }
   have F1 := F.push { cls := .type "frame", data := .dict #[] }
   have hLg := (N1 _ (.head _)).2
   have hlt : ∀ p ∈ led, p.1 < s.heap.objs.size := fun p hp => Heap.lt_size (N p hp).1
   have F2 := F1.change hsb hLg.1 hLg.2
   have N2 := N1.setHead (fun p hp => Nat.ne_of_lt (hlt p hp)) hsb hoL
   have hsz : s.heap.objs.size < h'.objs.size := Heap.lt_size hoL
   refine hret h'.objs.size s.heap.objs.size _ oL _ _ _ (F2.push _) (N2.push F2 _) hlt hsz F.ns.lt (fun h hg => ?_) rfl ?_
   ·exact ⟨_, _, _, hg, rfl, rfl, rfl⟩
   ·intro A' M s' hM hh hgL hlist hkeep
    refine ⟨rfl, seg_func ?_⟩
    have F4 : Fr h₀ s.heap.objs.size s'.heap (fun x => [(Str.ofString "grouping", Value.ref lr)].reverse.lookup x) := by
     refine ⟨⟨oL, es, ep, hgL, hd, hk, hfind⟩, hkeep, ?_⟩
     exact Nat.le_of_lt (Nat.lt_of_le_of_lt F.above F.ns.lt)
    generalize hled : ownOf h₀ ((List.range s'.heap.objs.size).filter (fun b => b != s.heap.objs.size)) s'.heap = led4
    have N4 : News h₀ s.heap.objs.size s'.heap led4 := hled ▸ news_ownOf (by simp)
    have hall : ∀ b o, b ≠ s.heap.objs.size → s'.heap.get? b = some o → h₀.get? b = none → (b, o) ∈ led4 := fun b o h1 h2 h3 =>
     hled ▸ mem_ownOf (by simp [h1, Heap.lt_size h2]) h3 h2
    generalize s.heap.objs.size = Lg at *
    refine seg_execs_cons (seg_Assign (wpAny_Assign_Name (wpAny_Constant_none (wpAny_storeName_local rfl F4.ns (fun h5 hn5 hs5 => ?_)))))
    have F5 := F4.set hn5 hs5
    have N5 := N4.set hs5
    have hl5 : h5.IsList lr (intVs pre ++ Value.int z tz :: rest).toArray := by
     obtain ⟨o, ho, r⟩ := hlist
     exact ⟨o, (hs5.2 lr (Nat.ne_of_lt (hlt _ hm))).trans ho, r⟩
    have hsz5 : h5.objs.size = s'.heap.objs.size := hs5.1
    clear F1 F2 N1 N2
    refine seg_execs_cons (seg_For ?_)
    change wpAny _ _ (eval _ (envOf (Str.ofString "_grouping_intervals") _ Lg 218 (Value.ref 217))) _ _ _
    k_steps
    refine list_iterS F5 N5 hl5 (fun oI h6 hI F6 N6 hlt6 hlI hl6 => ?_)
    intro p
    dsimp only at hlt6 hlI N6 F6 hl6 ⊢
    rw [hsz5] at hlt6 hlI N6 ⊢
    generalize hfs : [Frame.ret _ _ _ _ _ _ _] = fs
    have hsp : splitAtGen fs = none := by rw [← hfs]; rfl
    have hgd : fs.any Frame.guarded = false := by rw [← hfs]; rfl
    generalize hY : Yg h₀ Lg s'.heap.objs.size lr (intVs pre ++ Value.int z tz :: rest).toArray pre z M = Y
    generalize hR : (fun (n : Nat) (s₀ : Shared) (r : Result) (s₁ : Shared) => r = Except.ok (Flow.ret Value.none) ∧ Pg Lg s'.heap.objs.size pre z M n s₀ s₁) = R
    have hleaf : ∀ n s₀ c s₁, R n s₀ (.ok (.ret .none)) s₁ → Seg (model theProg w) A' R Y n s₀ c (.pure (.done (.ret .none))) fs s₁ := by
     intro n s₀ c s₁ h
     rw [← hfs]
     exact seg_leaf (.ok (.ret .none)) (seg_end (.ok (.ret .none)) h)
    clear hfs
    generalize hIr : s'.heap.objs.size = Ir at *
    have hap6 : ∀ p ∈ led4, p.1 ≠ Ir := fun p hp => Nat.ne_of_lt (hlt6 p hp)
    have F7 := Fr.same F6 (m' := fun x => if x = Str.ofString "interval" then none else if x = Str.ofString "last_interval" then some (giLast pre 0) else if x = Str.ofString "grouping" then some (.ref lr) else none) (by
     intro x
     show (if x = Str.ofString "last_interval" then some Value.none else List.lookup x [(Str.ofString "grouping", Value.ref lr)]) = _
     by_cases e1 : x = Str.ofString "last_interval"
     ·subst e1; rfl
     ·by_cases e2 : x = Str.ofString "grouping"
      ·subst e2; rfl
      ·rw [if_neg e1, if_neg e1, if_neg e2]
       have : (x == Str.ofString "grouping") = false := by simpa using e2
       simp only [List.lookup, this, ite_self])
    have hinv : GInv h₀ Lg Ir lr (intVs pre ++ Value.int z tz :: rest).toArray pre M 0 M s' h6 none oI led4 :=
     ⟨rfl, hM, Nat.zero_le _, hkeep, F7, N6, hap6, hI, Nat.ne_of_lt hlI, hl6, fun b o h1 _ h3 h4 => hall b o h1 h3 h4⟩
    generalize hc : Code.forLoop _ _ _ _ _ = c
    refine (fun (key : ∀ (k i n : Nat) (s₀ : Shared) (h : Heap) (tk : Nat) (u : Option Value) (oI : Obj) (led : List (Addr × Obj)), pre.length - i = k → GInv h₀ Lg Ir lr (intVs pre ++ Value.int z tz :: rest).toArray pre M i n s₀ h u oI led →
     Seg (model theProg w) A' R Y n s₀ c ((model theProg w).den c) fs ⟨h, s₀.gens, s₀.drawn, tk, s₀.os⟩) => key _ 0 M s' h6 _ _ _ _ rfl hinv) ?_
    clear hinv F7 F6 N6 hI hl6 hap6 hlt6 F5 N5 hl5 hsz5 F4 N4 hall hled hgL hlist hkeep hIr
    intro k
    induction k with
    | zero =>
     intro i n s₀ h tk u oI led hk V
     have hi : i = pre.length := by have := V.le; lia
     have hv : (intVs pre ++ Value.int z tz :: rest).toArray[i]? = some (.int z tz) := by
      subst hi
      simp only [List.getElem?_toArray]
      rw [List.getElem?_append_right (by simp [intVs])]
      simp [intVs]
     obtain ⟨l, tl, hgl, hlast⟩ : ∃ l tl, pre.getLast? = some (l, tl) ∧ giLast pre i = .int l tl := by
      have hlt0 : pre.length - 1 < pre.length := by have := List.length_pos_iff.mpr hne; lia
      refine ⟨pre[pre.length - 1].1, pre[pre.length - 1].2, ?_, ?_⟩
      ·rw [List.getLast?_eq_getElem?, List.getElem?_eq_getElem hlt0]
      ·subst hi
       unfold giLast
       rw [if_neg (by lia), List.getElem?_eq_getElem hlt0]
     subst hc
     refine seg_forLoop (list_next (s := ⟨h, s₀.gens, s₀.drawn, tk, s₀.os⟩) V.fr V.nw V.it V.ap V.ne V.li hv fun oI' h' hI' F' N' hl' => ?_)
     refine wpAny_of_eq (a := ()) rfl (wpAny_assign_Name (wpAny_storeName_local rfl F'.ns (fun h2 hn2 hs2 => ?_)))
     rw [hlast] at hn2
     have F2 := Fr.same (F'.set hn2 hs2) (m' := fun x => if x = Str.ofString "interval" then some (Value.int z tz) else if x = Str.ofString "last_interval" then some (.int l tl) else if x = Str.ofString "grouping" then some (.ref lr) else none) (by
      intro x
      by_cases e1 : x = Str.ofString "interval"
      ·simp only [if_pos e1]
      ·simp only [if_neg e1])
     have N2 := N'.set hs2
     clear F' N' hn2 hs2 hl'
     refine seg_execs_cons (seg_If ?_)
     change wpAny _ _ (isTrue _ (envOf (Str.ofString "_grouping_intervals") _ Lg 218 (Value.ref 217)) (eval _ (envOf (Str.ofString "_grouping_intervals") _ Lg 218 (Value.ref 217)))) _ _ _
     k_steps
     rcases hz with hz | hz
     ·subst hz
      refine WhlIf.no rfl (seg_execs_nil ?_)
      refine seg_execs_cons (seg_If ?_)
      change wpAny _ _ (isTrue _ (envOf (Str.ofString "_grouping_intervals") _ Lg 218 (Value.ref 217)) (eval _ (envOf (Str.ofString "_grouping_intervals") _ Lg 218 (Value.ref 217)))) _ _ _
      k_steps
      refine seg_execs_cons (seg_If ?_)
      change wpAny _ _ (isTrue _ (envOf (Str.ofString "_grouping_intervals") _ Lg 218 (Value.ref 217)) (eval _ (envOf (Str.ofString "_grouping_intervals") _ Lg 218 (Value.ref 217)))) _ _ _
      k_steps
      refine seg_execs_nil ?_
      refine seg_execs_cons (seg_While fun p2 => ?_)
      generalize hfs2 : Frame.ret _ _ _ _ _ _ _ :: fs = fs2
      have hsp2 : splitAtGen fs2 = none := by
       rw [← hfs2]
       show (splitAtGen fs).map _ = none
       rw [hsp]; rfl
      have hgd2 : fs2.any Frame.guarded = false := by
       rw [← hfs2]
       show (false || fs.any Frame.guarded) = false
       rw [hgd]; rfl
      clear hfs2
      generalize hcw : Code.whileLoop _ _ _ _ = cw
      have nI := V.nw _ (.head _)
      refine (fun (key : ∀ (n : Nat) (s₀ : Shared) (h : Heap) (tk : Nat) (led : List (Addr × Obj)), 0 < n → n + pre.length ≤ M → (∀ b o, h₀.get? b = some o → s₀.heap.get? b = some o) →
        Fr h₀ Lg h (fun x => if x = Str.ofString "interval" then some (Value.int 0 tz) else if x = Str.ofString "last_interval" then some (.int l tl) else if x = Str.ofString "grouping" then some (.ref lr) else none) →
        News h₀ Lg h ((Ir, oI') :: led) → (∀ b o, b ≠ Lg → b ≠ Ir → s₀.heap.get? b = some o → h₀.get? b = none → (b, o) ∈ led) →
        Seg (model theProg w) A' R Y n s₀ cw ((model theProg w).den cw) fs2 ⟨h, s₀.gens, s₀.drawn, tk, s₀.os⟩) => key n s₀ h2 _ _ V.pos (by have := V.num; lia) V.old F2 N2 V.all) ?_
      clear F2 N2 V hI' hv hk
      intro n
      induction n with
      | zero => intro s₀ h tk led h0; exact absurd h0 (Nat.lt_irrefl _)
      | succ n ihW =>
       intro s₀ h tk led _ hM2 old F2 N2 all
       subst hcw
       refine seg_whileLoop ?_
       change wpAny _ _ (isTrue _ (envOf (Str.ofString "_grouping_intervals") _ Lg 218 (Value.ref 217)) (eval _ (envOf (Str.ofString "_grouping_intervals") _ Lg 218 (Value.ref 217)))) _ _ _
       k_steps
       refine seg_execs_cons (seg_Expr_Yield hsp2 rfl hgd2 ?_)
       change wpAny _ _ (eval _ (envOf (Str.ofString "_grouping_intervals") _ Lg 218 (Value.ref 217))) _ _ _
       k_steps
       rename_i kap hkap
       obtain ⟨oL2, es2, ep2, hoL2, hd2, hk2, hf2⟩ := F2.ns
       have hnum : pre.length ≤ M - 1 - n := by lia
       rw [← hY]
       refine ⟨?_, .inr rfl, oL2, oI', keep_of old F2 N2 all, hoL2, (N2 _ (.head _)).1, fun hn s'' hr => hkap .none s'' ?_⟩
       ·unfold giVal
        rw [List.getElem?_eq_none hnum, hgl]
        rfl
       ·obtain ⟨r1, r2, r3, r4⟩ := hr
        dsimp only
        have F3 : Fr h₀ Lg s''.heap _ := ⟨⟨oL2, es2, ep2, r1, hd2, hk2, hf2⟩, r4, F2.above⟩
        have N3 : News h₀ Lg s''.heap ((Ir, oI') :: besides h₀ Lg Ir s''.heap) := besides_news r2 nI.2.1 nI.2.2
        refine seg_execs_nil (seg_again rfl ?_)
        exact ihW s'' s''.heap s''.toks _ hn (by lia) r4 F3 N3 besides_all
     ·subst hz
      refine WhlIf.yes rfl (seg_execs_cons (seg_Return ?_))
      refine hleaf _ _ _ _ ?_
      rw [← hR]
      exact ⟨rfl, by have := V.num; lia, by decide, keep_of V.old F2 N2 V.all⟩
    | succ k ih =>
     intro i n s₀ h tk u oI led hk V
     have hi : i < pre.length := by lia
     obtain ⟨n, rfl⟩ : ∃ n', n = n' + 1 := ⟨n - 1, by have := V.pos; lia⟩
     have hp := hpre pre[i] (List.getElem_mem hi)
     have hv : (intVs pre ++ Value.int z tz :: rest).toArray[i]? = some (.int pre[i].1 pre[i].2) := by simp [intVs, hi, List.getElem?_append_left]
     subst hc
     refine seg_forLoop (list_next (s := ⟨h, s₀.gens, s₀.drawn, tk, s₀.os⟩) V.fr V.nw V.it V.ap V.ne V.li hv fun oI' h' hI' F' N' hl' => ?_)
     refine wpAny_of_eq (a := ()) rfl (wpAny_assign_Name (wpAny_storeName_local rfl F'.ns (fun h2 hn2 hs2 => ?_)))
     have F2 := Fr.same (F'.set hn2 hs2) (m' := fun x => if x = Str.ofString "interval" then some (Value.int pre[i].1 pre[i].2) else if x = Str.ofString "last_interval" then some (giLast pre i) else if x = Str.ofString "grouping" then some (.ref lr) else none) (by
      intro x
      by_cases e1 : x = Str.ofString "interval"
      ·simp only [if_pos e1]
      ·simp only [if_neg e1])
     have N2 := N'.set hs2
     have hl2 : h2.IsList lr (intVs pre ++ Value.int z tz :: rest).toArray := by
      obtain ⟨o, ho, r⟩ := hl'
      exact ⟨o, (hs2.2 lr (Nat.ne_of_lt (hlt _ hm))).trans ho, r⟩
     obtain ⟨hp0, hp127⟩ := hp
     clear F' N' hn2 hs2 hl'
     generalize hx : pre[i].fst = x at *
     generalize ht : pre[i].snd = t at *
     refine seg_execs_cons (seg_If ?_)
     change wpAny _ _ (isTrue _ (envOf (Str.ofString "_grouping_intervals") _ Lg 218 (Value.ref 217)) (eval _ (envOf (Str.ofString "_grouping_intervals") _ Lg 218 (Value.ref 217)))) _ _ _
     k_steps
     refine WhlIf.no (by simpa using hp127) (seg_execs_nil ?_)
     refine seg_execs_cons (seg_If ?_)
     change wpAny _ _ (isTrue _ (envOf (Str.ofString "_grouping_intervals") _ Lg 218 (Value.ref 217)) (eval _ (envOf (Str.ofString "_grouping_intervals") _ Lg 218 (Value.ref 217)))) _ _ _
     k_steps
     refine WhlIf.no (by simpa using hp0) (seg_execs_nil ?_)
     refine seg_execs_cons (seg_Expr_Yield hsp rfl hgd ?_)
     change wpAny _ _ (eval _ (envOf (Str.ofString "_grouping_intervals") _ Lg 218 (Value.ref 217))) _ _ _
     k_steps
     rename_i kap hkap
     have nI := V.nw _ (.head _)
     obtain ⟨oL2, es2, ep2, hoL2, hd2, hk2, hf2⟩ := F2.ns
     have hnum : M - 1 - n = i := by have := V.num; lia
     rw [← hY]
     refine ⟨?_, .inl (by lia), oL2, oI', keep_of V.old F2 N2 V.all, hoL2, (N2 _ (.head _)).1, fun hn s'' hr => hkap .none s'' ?_⟩
     ·rw [hnum]
      unfold giVal
      rw [List.getElem?_eq_getElem hi, ← hx, ← ht]
     ·obtain ⟨r1, r2, r3, r4⟩ := hr
      dsimp only
      have F3 : Fr h₀ Lg s''.heap _ := ⟨⟨oL2, es2, ep2, r1, hd2, hk2, hf2⟩, r4, F2.above⟩
      have N3 : News h₀ Lg s''.heap ((Ir, oI') :: besides h₀ Lg Ir s''.heap) := besides_news r2 nI.2.1 nI.2.2
      refine seg_execs_cons (seg_Assign ?_)
      change wpAny _ _ (exec _ (envOf (Str.ofString "_grouping_intervals") _ Lg 218 (Value.ref 217))) _ _ _
      k_steps
      rename_i h4 F4 N4
      have hl4 : h4.IsList lr (intVs pre ++ Value.int z tz :: rest).toArray := by
       obtain ⟨o, ho, r⟩ := r3
       cases q : h₀.get? lr with
       | some o' => 
        have := r4 _ _ q
        rw [ho] at this; cases this
        exact ⟨o, F4.keep _ _ q, r⟩
       | none => exact ⟨o, (N4 _ (.tail _ (besides_all lr o (Nat.ne_of_lt (hlt _ hm)) V.ne ho q))).1, r⟩
      refine seg_execs_nil (seg_again rfl ?_)
      have hlast : giLast pre (i + 1) = .int x t := by
       unfold giLast
       rw [if_neg (Nat.succ_ne_zero i), Nat.add_sub_cancel, List.getElem?_eq_getElem hi, ← hx, ← ht]
      refine ih (i + 1) n s'' h4 _ (some (.int x t)) oI' _ (by lia) ⟨by have := V.num; lia, hn, by lia, r4, Fr.same F4 (fun y => ?_), N4, besides_ap, hI', V.ne, hl4, besides_all⟩
      rw [hlast]
      (repeat' split) <;> first | rfl | (rename_i q1 q2; exact absurd (q1.symm.trans q2) (by decide)) | (simp_all; done)
theorem eq_2 : pt.U1 := hy @eq_1
end J1
theorem codeAny_gi : type_of% (@Part1.h _ _ _ J1.pt J1.eq_2) := @Part1.h _ _ _ J1.pt J1.eq_2
section
variable {prog : Program} {w : World} {A : Around} {E : Value → Shared → Prop} {s : Shared}
theorem next_def_gen {a : Addr} {g n : Nat} {gs : GenState} {P : Nat → Shared → Shared → Prop} {Y : Protocol} {Q : Option Value → Shared → Prop} (hh : A.handled = none) (hl : s.heap.NoLimit) (hroom : A.depth < recursionLimit)
  (hg : s.heap.IsGen a g) (hgs : s.gens[g]? = some gs)
  (hgo : gs.Goes (model prog w) A.in1 (fun n s₀ r s₁ => r = .ok (.ret .none) ∧ P n s₀ s₁) Y (n + 1) (.send .none) (s.setGen g .running))
  (hY : ∀ v s₁ gs', gs'.bare = true → Y n (s.setGen g .running) v s₁ (fun r' s'' => gs'.Goes (model prog w) A.in1 (fun n s₀ r s₁ => r = .ok (.ret .none) ∧ P n s₀ s₁) Y n r' s'') → Q (some v) (s₁.setGen g gs'))
  (hP : ∀ s₁, P (n + 1) (s.setGen g .running) s₁ → ∀ h', (∀ b o, s₁.heap.get? b = some o → h'.get? b = some o) → Q none { s₁.setGen g .finished with heap := h' }) :
  wpAny (model prog w) A (pyNext (.ref a)) Q E s := by
 unfold pyNext
 refine wpAny_bind (wpAny_attempt (wpAny_callSpecial?_slot (name := Str.ofString "__next__") hg.typeIs slot_gen_next (wpAny_call_entry slot_gen_next hg.typeIs entry_gen_next ?_ (args_gen_next _))))
 show wpAny _ A.in1 (Builtin.Generator.genWake (.ref a) (.send .none)) _ _ s
 unfold Builtin.Generator.genWake
 refine wpAny_bind (wpAny_holding (wpAny_genNumber hg (wpAny_bind (wpAny_genState hgs ?_))))
 cases gs with
 | running => exact hgo.elim
 | finished => exact hgo.elim
 | _ =>
  refine wpAny_bind (wpAny_roomToWake hl hroom ?_)
  show wpAny _ A.in1 (.resume g (.send .none) [] _) _ _ s
  refine wpAny_resumeQ hgs hgo (fun x s₁ hx => ?_) (fun v s₁ gs' hb hv => wpAny_pure ⟨v, rfl, wpAny_pure (hY v s₁ gs' hb hv)⟩)
  obtain ⟨rfl, hp⟩ := hx
  show wpAny _ A.in1 (newExc (.type "StopIteration") [] >>= _) _ _ _
  simp only [newExc, newTuple]
  refine wpAny_bind (wpAny_bind (wpAny_newObj_type ?_ (by size_fits)))
  refine wpAny_bind (m := firstArgMember _ _) (wpAny_of_eq (a := Value.none) (by first | rfl | (simp only [firstArgMember]; rfl)) ?_)
  refine wpAny_newObj_type ?_ (by size_fits)
  simp only [raiseNew]
  refine wpAny_bind (wpAny_bind (wpAny_handled ?_))
  first | rw [show A.in1.handled = none from hh] | rw [hh]
  refine wpAny_throw (wpAny_bind (wpAny_isInstance (T := "StopIteration") (b := true) ⟨_, Heap.get?_push_size _ rfl, rfl⟩ isSubtype_stop ?_))
  exact wpAny_pure (hP s₁ hp _ fun b o hb => Heap.get?_push_of_some _ (Heap.get?_push_of_some _ hb))
end
noncomputable def GSet (g : Nat) (x : GenState) (a b : Array GenState) : Prop := b.size = a.size ∧ b[g]? = some x ∧ ∀ i, i ≠ g → b[i]? = a[i]?
theorem GSet.bare {g : Nat} {x : GenState} {a b : Array GenState} (h : GSet g x a b) (ha : AllBare a) (hx : x.bare = true) : AllBare b := by
 intro y hy
 obtain ⟨i, hi, rfl⟩ := Array.mem_iff_getElem.mp hy
 by_cases e : i = g
 ·subst e
  have := h.2.1
  rw [Array.getElem?_eq_getElem hi] at this
  cases this; exact hx
 ·have := h.2.2 i e
  rw [Array.getElem?_eq_getElem hi] at this
  exact ha _ (Array.mem_of_getElem? this.symm)
theorem gset_of {g : Nat} {x y z : GenState} {a : Array GenState} (h : a[g]? = some z) : GSet g x a ((a.setIfInBounds g y).setIfInBounds g x) := by
 have hlt : g < a.size := (Array.getElem?_eq_some_iff.mp h).1
 refine ⟨by simp, by simp [hlt], fun i hi => ?_⟩
 rw [Array.getElem?_setIfInBounds, if_neg (Ne.symm hi), Array.getElem?_setIfInBounds, if_neg (Ne.symm hi)]
noncomputable def GLater (w : World) (A : Around) (h₀ : Heap) (Lg Ir lr : Addr) (items : Array Value) (pre : List (Int × Tok)) (z : Int) (j : Nat) (gs : GenState) (oL oI : Obj) : Prop :=
 ∀ s, GReady h₀ Lg Ir lr items oL oI s → gs.Goes (model theProg w) A.in1 (fun n s₀ r s₁ => r = .ok (.ret .none) ∧ Pg Lg Ir pre z 100 n s₀ s₁) (Yg h₀ Lg Ir lr items pre z 100) (100 - j) (.send .none) s
noncomputable def GOk (w : World) (A : Around) (h₀ : Heap) (lr : Addr) (items : Array Value) (pre : List (Int × Tok)) (z : Int) (g : Nat) (G : Addr) (j : Nat) (gs : GenState) (gled : List (Addr × Obj)) : Prop :=
 ∃ oG Lg oL, (∀ h : Heap, h.get? G = some oG → h.IsGen G g) ∧ G ≠ Lg ∧
  ((j = 0 ∧ gled = [(G, oG), (Lg, oL)] ∧ GFresh w h₀ lr items pre z gs Lg oL) ∨ ∃ Ir oI, G ≠ Ir ∧ lr ≠ Ir ∧ gled = [(G, oG), (Lg, oL), (Ir, oI)] ∧ GLater w A h₀ Lg Ir lr items pre z j gs oL oI)
theorem gi_next {w : World} {A : Around} {E : Value → Shared → Prop} {s : Shared} {h₀ : Heap} {L : Addr} {m : Str → Option Value} {led gled : List (Addr × Obj)} {lr G : Addr} {items : Array Value} {pre : List (Int × Tok)} {z : Int} {g j : Nat} {gs : GenState} {Q : Option Value → Shared → Prop}
    (hh : A.handled = none) (hroom : A.depth < recursionLimit) (hlim : h₀.NoLimit) (hj : j < 99)
    (F : Fr h₀ L s.heap m) (N : News h₀ L s.heap (gled ++ led)) (hap : ∀ p ∈ led, ∀ q ∈ gled, p.1 ≠ q.1) (hl : s.heap.IsList lr items) (hlg : ∀ q ∈ gled, lr ≠ q.1) (hgs : s.gens[g]? = some gs) (ok : GOk w A h₀ lr items pre z g G j gs gled)
    (hsome : ∀ v gs' gled' h' tk' gens', some v = giVal pre j → (j < pre.length ∨ z = 0) → gs'.bare = true → GSet g gs' s.gens gens' → Fr h₀ L h' m → News h₀ L h' (gled' ++ led) → (∀ p ∈ led, ∀ q ∈ gled', p.1 ≠ q.1) → (∀ q ∈ gled', lr ≠ q.1) → h'.IsList lr items →
      GOk w A h₀ lr items pre z g G (j + 1) gs' gled' → Q (some v) ⟨h', gens', s.drawn, tk', s.os⟩)
    (hnone : ∀ h' tk' gens', j = pre.length → z ≠ 0 → GSet g .finished s.gens gens' → Fr h₀ L h' m → News h₀ L h' led → Q none ⟨h', gens', s.drawn, tk', s.os⟩) :
    wpAny (model theProg w) A (pyNext (.ref G)) Q E s := by
  obtain ⟨oG, Lg, oL, hG, hGL, ok⟩ := ok
  have main : ∀ Ir n, n + 1 = 100 - j → (∀ p ∈ led, p.1 ≠ Lg ∧ p.1 ≠ Ir) → G ≠ Ir → lr ≠ Ir → lr ≠ Lg → L ≠ Ir → L ≠ Lg → h₀.get? Ir = none → h₀.get? Lg = none → s.heap.get? G = some oG → G ≠ L → h₀.get? G = none → (∀ p ∈ led, p.1 ≠ G) → lr ≠ G →
      gs.Goes (model theProg w) A.in1 (fun n s₀ r s₁ => r = .ok (.ret .none) ∧ Pg Lg Ir pre z 100 n s₀ s₁) (Yg h₀ Lg Ir lr items pre z 100) (n + 1) (.send .none) (s.setGen g .running) →
      wpAny (model theProg w) A (pyNext (.ref G)) Q E s := by
    intro Ir n hn hled hGI hlI hlL hLIr hLLg hIn hLn hGat hGL' hGn hledG hlG hgo
    have keepsAll : ∀ s₁ : Shared, GKeep Lg Ir (s.setGen g .running) s₁ → Fr h₀ L s₁.heap m ∧ News h₀ L s₁.heap led ∧ s₁.heap.IsList lr items ∧ s₁.heap.get? G = some oG := by
      rintro s₁ ⟨hk, -, -, -⟩
      have old : ∀ b o, h₀.get? b = some o → b ≠ Lg ∧ b ≠ Ir := fun b o e => ⟨fun q => (by rw [q, hLn] at e; cases e), fun q => (by rw [q, hIn] at e; cases e)⟩
      refine ⟨⟨F.ns.at' fun o e => hk L o hLLg hLIr e, fun b o e => hk b o (old b o e).1 (old b o e).2 (F.keep b o e), F.above⟩, fun p hp => ?_, ?_, hk G _ hGL hGI hGat⟩
      · have np := N p (List.mem_append_right _ hp)
        exact ⟨hk _ _ (hled p hp).1 (hled p hp).2 np.1, np.2⟩
      · obtain ⟨o, ho, r⟩ := hl
        exact ⟨o, hk lr o hlL hlI ho, r⟩
    refine next_def_gen hh (hlim.keeps F.keep) hroom (hG _ hGat) hgs hgo (fun v s₁ gs' hb hy => ?_) (fun s₁ hp h' hk' => ?_)
    · obtain ⟨hv, hcond, oL', oI', hkeep, hL', hI', hkap⟩ := hy
      obtain ⟨F', N', hl', hG'⟩ := keepsAll s₁ hkeep
      have e : 100 - 1 - n = j := by lia
      rw [e] at hv hcond
      obtain ⟨h1, gens1, d1, tk1, os1⟩ := s₁
      obtain ⟨-, e1, e2, e3⟩ := hkeep
      simp only at e1 e2 e3
      subst e1 e2 e3
      refine hsome v gs' [(G, oG), (Lg, oL'), (Ir, oI')] h1 tk1 _ hv hcond hb (gset_of hgs) F' ?_ ?_ ?_ hl' ⟨oG, Lg, oL', hG, hGL, .inr ⟨Ir, oI', hGI, hlI, rfl, ?_⟩⟩
      · intro p hp
        rcases List.mem_append.mp hp with hp | hp
        · refine m_el hp ?_; refine m_all ?_ (m_all ?_ (m_all ?_ m_nil))
          · exact ⟨hG', hGL', hGn⟩
          · exact ⟨hL', Ne.symm hLLg, hLn⟩
          · exact ⟨hI', Ne.symm hLIr, hIn⟩
        · exact N' p hp
      · intro p hp q hq
        refine m_el hq ?_; refine m_all ?_ (m_all ?_ (m_all ?_ m_nil))
        · exact hledG p hp
        · exact (hled p hp).1
        · exact (hled p hp).2
      · intro q hq
        refine m_el hq ?_; refine m_all ?_ (m_all ?_ (m_all ?_ m_nil))
        · exact hlG
        · exact hlL
        · exact hlI
      · intro s'' hr
        have e : 100 - (j + 1) = n := by lia
        rw [e]
        exact hkap (by lia) s'' hr
    · obtain ⟨hp1, hp2, hkeep⟩ := hp
      obtain ⟨F', N', hl', hG'⟩ := keepsAll s₁ hkeep
      obtain ⟨h1, gens1, d1, tk1, os1⟩ := s₁
      obtain ⟨-, e1, e2, e3⟩ := hkeep
      simp only at e1 e2 e3
      subst e1 e2 e3
      have hp1' : j = pre.length := by lia
      exact hnone h' tk1 _ hp1' hp2 (gset_of hgs) ⟨F'.ns.at' fun o e => hk' _ _ e, fun b o e => hk' _ _ (F'.keep b o e), F'.above⟩ fun p hp => ⟨hk' _ _ (N' p hp).1, (N' p hp).2⟩
  have nG : ∀ oL rest, gled = (G, oG) :: (Lg, oL) :: rest → s.heap.get? G = some oG ∧ G ≠ L ∧ h₀.get? G = none ∧ s.heap.get? Lg = some oL ∧ Lg ≠ L ∧ h₀.get? Lg = none := by
    rintro oL rest rfl
    have a := N _ (List.mem_append_left _ (.head _))
    have b := N _ (List.mem_append_left _ (.tail _ (.head _)))
    exact ⟨a.1, a.2.1, a.2.2, b.1, b.2.1, b.2.2⟩
  rcases ok with ⟨hj0, rfl, hfresh⟩ | ⟨Ir, oI, hGI, hlI, rfl, hlater⟩
  · subst hj0
    obtain ⟨a1, a2, a3, a4, a5, a6⟩ := nG oL _ rfl
    have lt := fun (b : Addr) (o : Obj) (e : s.heap.get? b = some o) => Heap.lt_size e
    have hll : lr < s.heap.objs.size := let ⟨o, ho, _⟩ := hl; lt _ _ ho
    refine main s.heap.objs.size 99 rfl (fun p hp => ⟨hap p hp _ (.tail _ (.head _)), Nat.ne_of_lt (lt _ _ (N p (List.mem_append_right _ hp)).1)⟩) (Nat.ne_of_lt (lt _ _ a1)) (Nat.ne_of_lt hll) (hlg _ (.tail _ (.head _)))
      (Nat.ne_of_lt F.ns.lt) (Ne.symm a5) ?_ a6 a1 a2 a3 (fun p hp => hap p hp _ (.head _)) (hlg _ (.head _)) ?_
    · cases q : h₀.get? s.heap.objs.size with
      | none => rfl
      | some o => exact absurd (lt _ _ (F.keep _ _ q)) (Nat.lt_irrefl _)
    · exact hfresh A.in1 100 (s.setGen g .running) (by decide) hh a4 hl F.keep
  · obtain ⟨a1, a2, a3, a4, a5, a6⟩ := nG oL _ rfl
    have nI := N _ (List.mem_append_left _ (.tail _ (.tail _ (.head _))))
    refine main Ir (99 - j) (by lia) (fun p hp => ⟨hap p hp _ (.tail _ (.head _)), hap p hp _ (.tail _ (.tail _ (.head _)))⟩) hGI hlI (hlg _ (.tail _ (.head _))) (Ne.symm nI.2.1) (Ne.symm a5) nI.2.2 a6 a1 a2 a3 (fun p hp => hap p hp _ (.head _)) (hlg _ (.head _)) ?_
    · have e : 99 - j + 1 = 100 - j := by lia
      rw [e]
      exact hlater (s.setGen g .running) ⟨a4, nI.1, hl, F.keep⟩
theorem AllBare.push {a : Array GenState} {x : GenState} (h : AllBare a) (hx : x.bare = true) : AllBare (a.push x) := by
 intro y hy
 rcases Array.mem_push.mp hy with hy | rfl
 ·exact h y hy
 ·exact hx
theorem c_gi {w : World} {mean : ExcName → Option Value} {mg mb : Str → Option Value} {lr : Addr} {led : List (Addr × Obj)} {pre : List (Int × Tok)} {z : Int} {tz : Tok} {rest : List Value} {nr : Nat}
   (hm : (lr, listOf (intVs pre ++ .int z tz :: rest).toArray nr) ∈ led)
   (dp un : Nat) (gd : Option (List Code)) (cn : Str) (cs : Scope) (a : Addr) (ccd : Value) (cl : List (Str × Addr)) (outer : List Env) (A₀ : Around) (base h₀ : Heap) (L : Addr) (m : Str → Option Value) (s : Shared) (Q E : Value → Shared → Prop)
   (B : Below A₀ base outer h₀) (F : Fr h₀ L s.heap m) (X : (hd.heap_1 w.params).In h₀) (N : News h₀ L s.heap led) (T : Top pv lv mean mg mb h₀) (hk : cs.kind = .function)
   (hd : dp + 10 < recursionLimit) (hpre : ∀ p ∈ pre, p.1 ≠ 0 ∧ p.1 ≠ 127) (hz : z = 0 ∨ z = 127) (hne : pre ≠ [])
   (hret : ∀ (G : Addr) (gs : GenState) (h' : Heap) (tk' : Nat) (gled : List (Addr × Obj)), Fr h₀ L h' m → News h₀ L h' (gled ++ led) → (∀ p ∈ led, ∀ q ∈ gled, p.1 < q.1) → h'.IsGen G s.gens.size →
      GOk w (ktrTop dp un gd cn cs L a ccd cl outer) h₀ lr (intVs pre ++ .int z tz :: rest).toArray pre z s.gens.size G 0 gs gled → gs.bare = true → Q (.ref G) ⟨h', s.gens.push gs, s.drawn, tk', s.os⟩) :
   wpAny (model theProg w) (ktrTop dp un gd cn cs L a ccd cl outer) (call (.ref 218) [.ref lr]) Q E s := by
  have hroom : (ktrTop dp un gd cn cs L a ccd cl outer).depth < recursionLimit := by
    show dp < recursionLimit
    lia
  refine wpAny_call (codeAny_gi hm F N X T hroom hpre hz hne fun G Lg oG oL gs h' tk' F' N' hap hGL hL hG hb hfr => ?_)
  refine hret G gs h' tk' [(G, oG), (Lg, oL)] F' N' ?_ (hG _ (N' _ (.head _)).1) ⟨oG, Lg, oL, hG, Ne.symm (Nat.ne_of_lt hGL), .inl ⟨rfl, rfl, hfr⟩⟩ hb
  · intro p hp q hq
    have := hap p hp
    refine m_el hq ?_; refine m_all ?_ (m_all ?_ m_nil)
    · exact Nat.lt_trans this hGL
    · exact this
noncomputable def GEnd (h₀ : Heap) (L : Addr) (d : Drawn) (os : OsState) (g : Array GenState) (gled : List (Addr × Obj)) (J : (Str → Option Value) → List (Addr × Obj) → Prop) (s' : Shared) : Prop :=
 ∃ h' tk' m' led', s' = ⟨h', g, d, tk', os⟩ ∧ Fr h₀ L h' m' ∧ News h₀ L h' (led' ++ gled) ∧ (∀ p ∈ led', ∀ q ∈ gled, p.1 ≠ q.1) ∧ J m' led'
noncomputable def GPost (h₀ : Heap) (L : Addr) (d : Drawn) (os : OsState) (g : Array GenState) (gled : List (Addr × Obj)) (J : (Str → Option Value) → List (Addr × Obj) → Prop) (Q : Flow → Shared → Prop) (f : Flow) (s' : Shared) : Prop :=
 match f with
 | .next => GEnd h₀ L d os g gled J s'
 | .cont => GEnd h₀ L d os g gled J s'
 | .brk => Q .next s'
 | .ret v => Q (.ret v) s'
theorem gpost_next {h₀ h' : Heap} {L : Addr} {d : Drawn} {os : OsState} {gled : List (Addr × Obj)} {J : (Str → Option Value) → List (Addr × Obj) → Prop} {Q : Flow → Shared → Prop} {g' : Array GenState} {tk' : Nat} {m' : Str → Option Value} {led' : List (Addr × Obj)}
  (F : Fr h₀ L h' m') (N : News h₀ L h' (led' ++ gled)) (hap : ∀ p ∈ led', ∀ q ∈ gled, p.1 ≠ q.1) (hJ : J m' led') : GPost h₀ L d os g' gled J Q .next ⟨h', g', d, tk', os⟩ :=
 ⟨h', tk', m', led', rfl, F, N, hap, hJ⟩
theorem for_gi {w : World} {A : Around} {E : Value → Shared → Prop} {env : Env} {x : Str} {px : Pos} {body : List Stmt} {Q : Flow → Shared → Prop}
    {h₀ h : Heap} {g : Array GenState} {d : Drawn} {tk : Nat} {os : OsState} {m : Str → Option Value} {lr G : Addr} {items : Array Value} {led gled : List (Addr × Obj)} {pre : List (Int × Tok)} {z : Int} {gi : Nat} {gs : GenState}
    (J : Nat → (Str → Option Value) → List (Addr × Obj) → Prop) (hE : PassesOwn (model theProg w) A env E) (hh : A.handled = none) (hroom : A.depth < recursionLimit) (hlim : h₀.NoLimit)
    (hx : env.kindOf x = some .local) (hp : (env.scope.kind == .class || (env.scope.kind == .module && env.locals != env.globals)) = false)
    (F : Fr h₀ env.locals h m) (N : News h₀ env.locals h (gled ++ led)) (hap : ∀ p ∈ led, ∀ q ∈ gled, p.1 < q.1) (hlg : ∃ o, (lr, o) ∈ led) (hg : AllBare g) (hgs : g[gi]? = some gs) (hG : h.IsGen G gi)
    (ok : GOk w A h₀ lr items pre z gi G 0 gs gled) (h0 : J 0 m led) (hj : ∀ j m led, J j m led → j < 99)
    (hl : ∀ j m led h, J j m led → Fr h₀ env.locals h m → News h₀ env.locals h led → h.IsList lr items)
    (turn : ∀ j v m led gled h tk g, some v = giVal pre j → (j < pre.length ∨ z = 0) → J j m led → (∀ p ∈ led, ∀ q ∈ gled, p.1 ≠ q.1) → AllBare g → Fr h₀ env.locals h (fun y => if y = x then some v else m y) → News h₀ env.locals h (led ++ gled) →
      wpAny (model theProg w) A (execs body env) (GPost h₀ env.locals d os g gled (J (j + 1)) Q) E ⟨h, g, d, tk, os⟩)
    (done : ∀ m led h tk g, J pre.length m led → z ≠ 0 → AllBare g → Fr h₀ env.locals h m → News h₀ env.locals h led → Q .next ⟨h, g, d, tk, os⟩) :
    wpAny (model theProg w) A (pyIter (.ref G)) (fun it s₂ => FRest theProg w A E env (.Name x px) it body [] Q s₂) E ⟨h, g, d, tk, os⟩ := by
  refine wpAny_pyIter_gen hG ?_
  have key : ∀ k j m led gled h tk g gs, 99 - j = k → J j m led → (∀ p ∈ led, ∀ q ∈ gled, p.1 ≠ q.1) → (∀ q ∈ gled, lr ≠ q.1) → AllBare g → g[gi]? = some gs → GOk w A h₀ lr items pre z gi G j gs gled → Fr h₀ env.locals h m → News h₀ env.locals h (gled ++ led) →
      FRest theProg w A E env (.Name x px) (.ref G) body [] Q ⟨h, g, d, tk, os⟩ := by
    intro k
    induction k with
    | zero =>
      intro j m led gled h tk g gs hk hJ
      have := hj _ _ _ hJ
      omega
    | succ k ih =>
      intro j m led gled h tk g gs hk hJ hap hlg hg hgs ok F N
      have hl' := hl j m led h hJ F fun p hp => N p (List.mem_append_right _ hp)
      refine frest_turn hE (gi_next (s := ⟨h, g, d, tk, os⟩) hh hroom hlim (hj _ _ _ hJ) F N hap hl' hlg hgs ok (fun v gs' gled' h' tk' gens' hv hc hb hset F' N' hap' hlg' hl'' ok' => ?_) (fun h' tk' gens' hj' hz hset F' N' => ?_))
      · refine wpAny_of_eq (a := ()) rfl ?_
        refine wpAny_assign_Name (wpAny_storeName_local hx F'.ns (fun h₂ hn₂ hs₂ => ?_) hp)
        have N2 : News h₀ env.locals h₂ (led ++ gled') := fun p hp => (N'.set hs₂) p (by rcases List.mem_append.mp hp with q | q <;> simp [q])
        refine wpAny_mono (turn j v m led gled' h₂ _ gens' hv hc hJ hap' (hset.bare hg hb) (F'.set hn₂ hs₂) N2) (fun f s₃ h₃ => ?_) fun _ _ e => e
        have fin : GEnd h₀ env.locals d os gens' gled' (J (j + 1)) s₃ → FRest theProg w A E env (.Name x px) (.ref G) body [] Q s₃ := by
          rintro ⟨h3, tk3, m3, led3, rfl, F3, N3, hap3, hJ3⟩
          exact ih (j + 1) m3 led3 gled' h3 tk3 gens' gs' (by omega) hJ3 hap3 hlg' (hset.bare hg hb) hset.2.1 ok' F3 fun p hp => N3 p (by rcases List.mem_append.mp hp with q | q <;> simp [q])
        cases f with
        | next => exact fin h₃
        | cont => exact fin h₃
        | brk => exact h₃
        | ret v => exact h₃
      · subst hj'
        exact wpAny_execs_nil (done m led h' tk' gens' hJ hz (hset.bare hg rfl) F' N')
  exact key _ 0 m led gled h tk g gs rfl h0 (fun p hp q hq => Nat.ne_of_lt (hap p hp q hq)) (fun q hq => let ⟨o, ho⟩ := hlg; Nat.ne_of_lt (hap _ ho q hq)) hg hgs ok F N
section
namespace J10
def pt : Part1 (aP.f.f.m.e.c.b.b.l.x.s.h.c.r.i.w.a.a.q.a.Y.c.e.e.t.j) (∀ {w : World} {mean : ExcName → Option Value} {mg mb : Str → Option Value} {l : Addr} {ps : List (Nat × Tok)} {n : Nat} {led : List (Addr × Obj)} (hm : (l, listOf (lts ps).toArray n) ∈ led) (hz : ps.length < 100)
  (dp un : Nat) (gd : Option (List Code)) (cn : Str) (cs : Scope) (a : Addr) (ccd : Value) (cl : List (Str × Addr)) (outer : List Env) (A₀ : Around) (base h₀ : Heap) (L : Addr) (m : Str → Option Value) (s : Shared) (Q E : Value → Shared → Prop)
  (B : Below A₀ base outer h₀) (F : Fr h₀ L s.heap m) (X : (hd.heap_1 w.params).In h₀) (N : News h₀ L s.heap led) (T : Top pv lv mean mg mb h₀) (hk : cs.kind = .function)
  (hd : dp + 20 < recursionLimit) (hu : un + 160 < cLine)
  (hret : ∀ (r : Addr) (qs : List (Nat × Tok)) (n' : Nat) (h' : Heap) (tk' : Nat), Fr h₀ L h' m → News h₀ L h' ((r, listOf (lts qs).toArray n') :: led) → (∀ p ∈ led, p.1 < r) → qs.Perm ps → qs.Pairwise (fun a b => a.1 ≤ b.1) → Q (.ref r) { s with heap := h', toks := tk' }), wpAny (model Challenge.rw_yj0030_01.row.prog w) (ktrTop dp un gd cn cs L a ccd cl outer) (call (.ref 394) [.ref l]) Q E s) := by
 apply Part1.mk
 case h => intro hS1 w mean mg mb l ps n led hm hz dp un gd cn cs a ccd cl outer A₀ base h₀ L m s Q E B F X N T hk hd hu hret; revert hm hz B F X N T hk hd hu hret; exact @hS1 w mean mg mb l ps n led dp un gd cn cs a ccd cl outer A₀ base h₀ L m s Q E
def Z0 := pt.z1
def w := hx0 Z0
def mean := hx1 Z0
def mg := hx2 Z0
def mb := hx3 Z0
def l := hx4 Z0
def ps := hx5 Z0
def n := hx6 Z0
def led := hx7 Z0
def Z1 := ht Z0
def dp := hx0 Z1
def un := hx1 Z1
def gd := hx2 Z1
def cn := hx3 Z1
def cs := hx4 Z1
def a := hx5 Z1
def ccd := hx6 Z1
def cl := hx7 Z1
def Z2 := ht Z1
def outer := hx0 Z2
def A₀ := hx1 Z2
def base := hx2 Z2
def h₀ := hx3 Z2
def L := hx4 Z2
def m := hx5 Z2
def s := hx6 Z2
def Q := hx7 Z2
def Z3 := ht Z2
def E := hx0 Z3
theorem eq_1 : pt.Q1 w mean mg mb l ps n led dp un gd cn cs a ccd cl outer A₀ base h₀ L m s Q E := by
 intro hm hz B F X N T hk hd hu hret
 k_with "exec For Name Name cons nil" => (k_here; (refine frest_start ?_))
 k_with "exec While" => (k_here; (with_reducible show wpAny _ _ (exec (Stmt.While _ _ _ _) _) _ _ _); (refine Halt.out ?_))
 k_with "call builtin:len" => (k_here; (with_reducible show wpAny _ _ (call (Value.builtin "len") [Value.ref _]) _ _ _); (refine len_lts (News.isList (by k_asm) (by k_mem)) (by lia) ?_))
 k_with "call builtin:list.insert" => (k_here; (with_reducible show wpAny _ _ (call (Value.builtin _) [Value.ref _, Value.int _ _, _]) _ _ _); (refine ins_lts (by k_asm) (by k_asm) (by assumption) (by lia) (by first | k_upd | assumption) ?_); intro _ _ _)
 k_with "subscriptTail" => (k_here; (with_reducible show wpAny _ _ (subscriptTail _ _ (Value.ref _) (Value.int _ _)) _ _ _); (refine item_lts (News.isList (by k_asm) (by k_mem)) (by lia) (by lia) (by lia) ?_); intro _ _)
 k_with "call ref" => (k_here; (with_reducible show wpAny _ _ (call (Value.ref 211) _) _ _ _); k_dflt (refine' c_strcoll _ _ _ _ _ _ _ _ _ _ _ _ _ _ _ _ _ ?kB16z ?kF16z ?kX16z ?kN16z ?kT16z ?kk16z ?kd16z ?ku16z ?_; (case kB16z => k_asm); (case kF16z => k_asm); (case kX16z => k_asm); (case kN16z => k_asm); (case kT16z => k_asm); (case kk16z => rfl); (case kd16z => (first | assumption | (simp only [] at *; lia))); (case ku16z => (first | assumption | (simp only [] at *; lia)))); intro _ _ _ _ _; (try dsimp only))
 revert X; k_fill; intro X
 refine wpAny_call ?_
 k_dflt cell_enter
 k_steps
 rename_i g1 L1 h1 F0 B1 X1 T1 l1 h2 l1lt h3 F1 N1
 have F2 := Fr.same F1 (m' := fun z => if z = Str.ofString "sign" then none else if z = Str.ofString "place" then none else if z = Str.ofString "row" then some (.ref l1) else if z = Str.ofString "signs" then some (.ref l) else none) (by
  intro z
  show (if z = Str.ofString "row" then some (Value.ref l1) else List.lookup z [(Str.ofString "signs", Value.ref l)]) = _
  by_cases e1 : z = Str.ofString "row"
  ·subst e1; rfl
  ·by_cases e2 : z = Str.ofString "signs"
   ·subst e2; rfl
   ·rw [if_neg e1, if_neg e1, if_neg e2]
    have : (z == Str.ofString "signs") = false := by simpa using e2
    simp only [List.lookup, this, ite_self])
 refine for_list (fun g => g = s.gens) (fun i m led' => ∃ (row : List (Nat × Tok)) (nr : Nat) (u1 u2 : Option Value), led' = (l1, listOf (lts row).toArray nr) :: led ∧ row.Perm (ps.take i) ∧ row.Pairwise (fun a b => a.1 ≤ b.1) ∧
   m = fun z => if z = Str.ofString "sign" then u1 else if z = Str.ofString "place" then u2 else if z = Str.ofString "row" then some (.ref l1) else if z = Str.ofString "signs" then some (.ref l) else none)
  (items := (lts ps).toArray) (by passes_own) rfl (by rfl) (by rfl) F2 N1 rfl ⟨[], 0, none, none, rfl, by simp, by simp, rfl⟩ ?_ ?_ ?_
 ·intro i m' led' h y94 F3 N3; refine hG fun G9 hG9 => ?_; obtain ⟨row, nr, u1, u2, rfl, -, -, -⟩ := y94; refine hG9 ?_; clear hG9 G9
  exact ⟨_, (N3 _ (.tail _ hm)).1, rfl, _, rfl⟩
 ·intro i v m' led' h tk' g I oI hv y910 hap y912 F3 N3; refine hG fun G9 hG9 => ?_; obtain ⟨row, nr, u1, u2, rfl, hperm, hsort, rfl⟩ := y910; obtain rfl := y912; refine hG9 ?_; clear hG9 G9
  refine hG fun G9 hG9 => ?_; obtain ⟨⟨c, t⟩, hp, rfl⟩ := lts_get hv; refine hG9 ?_; clear hG9 G9
  have hrl : row.length < 100 := by have := hperm.length_eq; rw [List.length_take] at this; lia
  change Fr g1 L1 h _ at F3
  change News g1 L1 h _ at N3
  k_steps
  rename_i h4 F4 N4
  have F5 := Fr.same F4 (m' := fun z => if z = Str.ofString "place" then some (.int (row.length : Int) (tk' + 1)) else if z = Str.ofString "sign" then some (.str ⟨#[c]⟩ t) else if z = Str.ofString "row" then some (.ref l1) else if z = Str.ofString "signs" then some (.ref l) else none) (by
   intro z
   by_cases e1 : z = Str.ofString "place"
   ·simp only [if_pos e1]
   ·by_cases e2 : z = Str.ofString "sign"
    ·simp only [if_neg e1, if_pos e2]
    ·simp only [if_neg e1, if_neg e2])
  unfold Halt
  refine while_by (G := fun g => g = s.gens) (fun k m led' => ∃ (pl : Nat) (tp : Tok), k = pl ∧ pl ≤ row.length ∧ (∀ q ∈ row.drop pl, c < q.1) ∧ led' = (I, oI) :: (l1, listOf (lts row).toArray nr) :: led ∧
   m = fun z => if z = Str.ofString "place" then some (.int (pl : Int) tp) else if z = Str.ofString "sign" then some (.str ⟨#[c]⟩ t) else if z = Str.ofString "row" then some (.ref l1) else if z = Str.ofString "signs" then some (.ref l) else none)
   (by passes_own) F5 N4 rfl ⟨row.length, _, rfl, Nat.le_refl _, by simp, rfl, rfl⟩ ?_
  intro k m' led' h tk' g y96 y97 F6 N6; refine hG fun G9 hG9 => ?_; obtain ⟨pl, tp, rfl, hpl, hgt, rfl, rfl⟩ := y96; obtain rfl := y97; refine hG9 ?_; clear hG9 G9
  change Fr g1 L1 h _ at F6
  change News g1 L1 h _ at N6
  have U0 : Upd l1 (listOf (lts row).toArray nr) (listOf (lts (insAt row k (c, t))).toArray (nr + 1)) ((I, oI) :: (l1, listOf (lts row).toArray nr) :: led) ((I, oI) :: (l1, listOf (lts (insAt row k (c, t))).toArray (nr + 1)) :: led) :=
   .tail (Ne.symm (hap _ (.head _))) (.head fun p hp => Nat.ne_of_lt (l1lt p hp))
  k_steps
  ·rename_i p9 hp9 t9 h9 tk9 hpos h10 F9 N9
   have hc : c < p9.1 := (coll_pos _ _).mp hpos
   have hk0 : 0 < k := by lia
   refine wpost_next (k - 1) F9 N9 (by lia) rfl ⟨k - 1, tk + 1, rfl, by lia, ?_, rfl, ?_⟩
   ·have e : (k : Int) - 1 = ((k - 1 : Nat) : Int) := by lia
    rw [e, Int.toNat_natCast] at hp9
    rw [drop_pred hk0 hp9]
    intro q hq
    refine m_el hq (m_all ?_ ?_)
    ·exact hc
    ·intro q hq; exact hgt q hq
   ·have e : (k : Int) - 1 = ((k - 1 : Nat) : Int) := by lia
    rw [← e]
    funext z
    (try dsimp only)
    (repeat' split) <;> first | rfl | (rename_i q1 q2; exact absurd (q1.symm.trans q2) (by decide)) | (simp_all; done)
  ·rename_i hk0 p9 hp9' t9 h9 tk9 F9 N9 hpos tk10 h10 F10 N10
   have hc : p9.1 ≤ c := Nat.le_of_not_lt fun q => hpos ((coll_pos _ _).mpr q)
   refine tpost_next F10 N10 rfl (fun p hp => ?_) ⟨insAt row k (c, t), nr + 1, some (.str ⟨#[c]⟩ t), some (.int k tp), rfl, ins_take hperm hp, ins_sorted hsort hgt (fun q hq hk => ?_) hpl, ?_⟩
   ·refine m_el hp (m_all ?_ ?_)
    ·exact hap (l1, listOf (lts row).toArray nr) (.head _)
    ·intro p hp; exact hap _ (.tail _ hp)
   ·have e : (k : Int) - 1 = ((k - 1 : Nat) : Int) := by lia
    rw [e, Int.toNat_natCast, hq] at hp9'
    cases hp9'; exact hc
   ·funext z
    (try dsimp only)
    (repeat' split) <;> first | rfl | (rename_i q1 q2; exact absurd (q1.symm.trans q2) (by decide)) | (simp_all; done)
  ·rename_i hk0 tk10 h10 F10 N10
   refine tpost_next F10 N10 rfl (fun p hp => ?_) ⟨insAt row k (c, t), nr + 1, some (.str ⟨#[c]⟩ t), some (.int k tp), rfl, ins_take hperm hp, ins_sorted hsort hgt (fun q hq hk => absurd hk (by lia)) hpl, ?_⟩
   ·refine m_el hp (m_all ?_ ?_)
    ·exact hap (l1, listOf (lts row).toArray nr) (.head _)
    ·intro p hp; exact hap _ (.tail _ hp)
   ·funext z
    (try dsimp only)
    (repeat' split) <;> first | rfl | (rename_i q1 q2; exact absurd (q1.symm.trans q2) (by decide)) | (simp_all; done)
 ·intro m' led' h tk' g y95 y96 F3 N3; refine hG fun G9 hG9 => ?_; obtain ⟨row, nr, u1, u2, rfl, hperm, hsort, rfl⟩ := y95; obtain rfl := y96; refine hG9 ?_; clear hG9 G9
  change Fr g1 L1 h _ at F3
  change News g1 L1 h _ at N3
  k_steps
  have hall : ps.take (lts ps).toArray.size = ps := by simp
  rw [hall] at hperm
  refine hret l1 row nr h tk' (by assumption) (by assumption) l1lt hperm hsort
theorem eq_2 : pt.U1 := hy @eq_1
end J10
theorem c_in_order : type_of% (@Part1.h _ _ _ J10.pt J10.eq_2) := @Part1.h _ _ _ J10.pt J10.eq_2
end
section
theorem lookup_neg {z a : Str} {v : Value} {r : List (Str × Value)} (h : ¬ z = a) : List.lookup z ((a, v) :: r) = List.lookup z r := by
 simp only [List.lookup, beq_false_of_ne h]
theorem par_succ (j : Nat) : decide ((j + 1) % 2 = 1) = !decide (j % 2 = 1) := by
 by_cases h : j % 2 = 1
 ·rw [decide_eq_true h, decide_eq_false (by lia)]; rfl
 ·rw [decide_eq_false h, decide_eq_true (by lia)]; rfl
theorem giVal_all {pre : List (Int × Tok)} {wd : Nat} (hw : ∀ p ∈ pre, p.1 = (wd : Int)) {j : Nat} {v : Value} (h : some v = giVal pre j) : ∃ t, v = .int (wd : Int) t := by
 unfold giVal at h
 split at h
 ·rename_i p hp
  cases h
  exact ⟨p.2, by rw [hw p (List.mem_of_getElem? hp)]⟩
 ·cases e : pre.getLast? with
  | none => rw [e] at h; cases h
  | some p =>
   rw [e] at h; cases h
   exact ⟨p.2, by show Value.int p.1 p.2 = _; rw [hw p (List.mem_of_getLast? e)]⟩
namespace J3
def pt : Part1 (aP.f.f.m.e.c.b.b.l.x.s.h.c.r.i.w.a.a.a.A.d.C.a.L.q.a.D.c.c.e.e.t.j) (∀ {w : World} {mean : ExcName → Option Value} {mg mb : Str → Option Value} {l lr : Addr} {ps : Row} {n : Nat} {led : List (Addr × Obj)} {pre : List (Int × Tok)} {wd : Nat} {z : Int} {tz : Tok} {rest : List Value} {nr : Nat}
  (hm : (l, listOf (lts ps).toArray n) ∈ led) (hmr : (lr, listOf (intVs pre ++ .int z tz :: rest).toArray nr) ∈ led) (hz : ps.length < 50) (hlow : Low ps) (hw : ∀ p ∈ pre, p.1 = (wd : Int)) (hw0 : 0 < wd) (hw1 : wd < 127) (hzz : z = 0 ∨ z = 127) (hne : pre ≠ []) (henough : z = 0 ∨ ps.length ≤ wd * pre.length)
(dp un : Nat) (gd : Option (List Code)) (cn : Str) (cs : Scope) (a : Addr) (ccd : Value) (cl : List (Str × Addr)) (outer : List Env) (A₀ : Around) (base h₀ : Heap) (L : Addr) (m : Str → Option Value) (s : Shared) (Q E : Value → Shared → Prop)
  (B : Below A₀ base outer h₀) (F : Fr h₀ L s.heap m) (X : (hd.heap_1 w.params).In h₀) (N : News h₀ L s.heap led) (T : Top pv lv mean mg mb h₀) (hk : cs.kind = .function)
  (hdp : dp + 40 < recursionLimit) (hu : un + 320 < cLine)
  (hg : AllBare s.gens)
  (hret : ∀ (r : Addr) (qs : Row) (n' : Nat) (h' : Heap) (tk' : Nat) (g' : Array GenState), AllBare g' → Fr h₀ L h' m → News h₀ L h' ((r, listOf (lts qs).toArray n') :: led) → (∀ p ∈ led, p.1 < r) → FroRel wd false ps qs → Q (.ref r) { s with heap := h', toks := tk', gens := g' }), wpAny (model theProg w) (ktrTop dp un gd cn cs L a ccd cl outer) (call (.ref 401) [.ref l, .ref lr]) Q E s) := by
 apply Part1.mk
 case h => intro hS1 w mean mg mb l lr ps n led pre wd z tz rest nr hm hmr hz hlow hw hw0 hw1 hzz hne henough dp un gd cn cs a ccd cl outer A₀ base h₀ L m s Q E B F X N T hk hdp hu hg hret; revert hm hmr hz hlow hw hw0 hw1 hzz hne henough B F X N T hk hdp hu hg hret; exact @hS1 w mean mg mb l lr ps n led pre wd z tz rest nr dp un gd cn cs a ccd cl outer A₀ base h₀ L m s Q E
def Z0 := pt.z1
def w := hx0 Z0
def mean := hx1 Z0
def mg := hx2 Z0
def mb := hx3 Z0
def l := hx4 Z0
def lr := hx5 Z0
def ps := hx6 Z0
def n := hx7 Z0
def Z1 := ht Z0
def led := hx0 Z1
def pre := hx1 Z1
def wd := hx2 Z1
def z := hx3 Z1
def tz := hx4 Z1
def rest := hx5 Z1
def nr := hx6 Z1
def dp := hx7 Z1
def Z2 := ht Z1
def un := hx0 Z2
def gd := hx1 Z2
def cn := hx2 Z2
def cs := hx3 Z2
def a := hx4 Z2
def ccd := hx5 Z2
def cl := hx6 Z2
def outer := hx7 Z2
def Z3 := ht Z2
def A₀ := hx0 Z3
def base := hx1 Z3
def h₀ := hx2 Z3
def L := hx3 Z3
def m := hx4 Z3
def s := hx5 Z3
def Q := hx6 Z3
def E := hx7 Z3
theorem eq_1 : pt.Q1 w mean mg mb l lr ps n led pre wd z tz rest nr dp un gd cn cs a ccd cl outer A₀ base h₀ L m s Q E := by
 intro hm hmr hz hlow hw hw0 hw1 hzz hne henough B F X N T hk hdp hu hg hret
 k_with_none
 k_with "ne" => (refine neN ?_; (try dsimp only); first | with_reducible (first | assumption | (refine Ne.symm ?_; assumption) | exact ne_1 | exact ne_1.symm | exact ne_2 | exact ne_2.symm | exact ne_3 | exact ne_3.symm | exact ne_4 | exact ne_4.symm) | exact (by with_reducible assumption : Apt _ _) | exact Ne.symm (by with_reducible assumption : Apt _ _) | omega)
 k_with "d2" => (repeat' (first | with_reducible (first | exact m_id | exact m_nil | exact m_lid | exact m_mapl | exact m_mapl2 | refine m_cons ?_ ?_ | refine m_app ?_ ?_ | refine m_map ?_ ?_ | refine m_map1 ?_ | exact m_hd | refine m_tl ?_ | exact m_mapr rfl | refine m_tail ?_ | refine m_right ?_ | refine m_inr ?_) | exact m_hd | refine m_tl ?_))
 k_with "d3" => (first | assumption | omega | ktr_room | ktr_units | (simp only [] at *; omega))
 k_with "mem" => assumption
 k_with "subscriptTail Name Slice ref ref" => (k_here; (with_reducible show wpAny _ _ (subscriptTail _ (PySem.Expr.Slice none (some _) none _) (Value.ref _) (Value.ref _)) _ _ _); k_dflt (refine' upto_lts ?F17z ?N17z ?l17z ?p17z ?q17z ?z17z ?_ ?s17z ?t17z; (case F17z => k_asm); (case N17z => k_asm); (case l17z => k_mem); (case p17z => exact IsPart.none); (case q17z => exact IsPart.int _ _); (case z17z => (first | lia | (simp only [List.length_drop, List.length_take, List.length_append, List.length_reverse] at *; lia))); (case s17z => with_unfolding_all rfl); (case t17z => kmk_pure)); intro _ _ _ _ _)
 k_with "subscriptTail Name Slice ref ref" => (k_here; (with_reducible show wpAny _ _ (subscriptTail _ (PySem.Expr.Slice (some _) none none _) (Value.ref _) (Value.ref _)) _ _ _); k_dflt (refine' from_lts ?F18z ?N18z ?l18z ?p18z ?q18z ?z18z ?_ ?s18z ?t18z; (case F18z => k_asm); (case N18z => k_asm); (case l18z => k_mem); (case p18z => exact IsPart.int _ _); (case q18z => exact IsPart.none); (case z18z => (first | lia | (simp only [List.length_drop, List.length_take, List.length_append, List.length_reverse] at *; lia))); (case s18z => with_unfolding_all rfl); (case t18z => kmk_pure)); intro _ _ _ _ _)
 k_with "subscriptTail Name Slice ref ref" => (k_here; (with_reducible show wpAny _ _ (subscriptTail _ (PySem.Expr.Slice (some _) (some _) none _) (Value.ref _) (Value.ref _)) _ _ _); k_dflt (refine' run_lts ?F19z ?N19z ?l19z ?p19z ?q19z ?z19z ?_ ?s19z ?t19z; (case F19z => k_asm); (case N19z => k_asm); (case l19z => k_mem); (case p19z => exact IsPart.int _ _); (case q19z => exact IsPart.int _ _); (case z19z => (first | lia | (simp only [List.length_drop, List.length_take, List.length_append, List.length_reverse] at *; lia))); (case s19z => with_unfolding_all rfl); (case t19z => kmk_pure)); intro _ _ _ _ _)
 k_with "subscriptTail Name Slice ref ref" => (k_here; (with_reducible show wpAny _ _ (subscriptTail _ (PySem.Expr.Slice none none (some _) _) (Value.ref _) (Value.ref _)) _ _ _); k_dflt (refine' rev_lts ?F20z ?N20z ?l20z ?k20z ?z20z ?_ ?s20z ?t20z; (case F20z => k_asm); (case N20z => k_asm); (case l20z => k_mem); (case k20z => exact IsPart.int _ _); (case z20z => (first | lia | (simp only [List.length_drop, List.length_take, List.length_append, List.length_reverse] at *; lia))); (case s20z => with_unfolding_all rfl); (case t20z => kmk_pure)); intro _ _ _ _ _)
 k_with "binaryOp Add ref ref" => (k_here; (with_reducible show wpAny _ _ (binaryOp _ (Value.ref _) (Value.ref _)) _ _ _); k_dflt (refine' add_lts ?F21z ?N21z ?a21z ?b21z ?z21z ?_; (case F21z => k_asm); (case N21z => k_asm); (case a21z => k_mem); (case b21z => k_mem); (case z21z => (first | lia | (simp only [List.length_drop, List.length_take, List.length_append, List.length_reverse] at *; lia)))); intro _ _ _ _ _)
 k_with "compareOp Eq ref ref" => (k_here; (with_reducible show wpAny _ _ (compareOp CmpOp.Eq (Value.ref _) (Value.ref _)) _ _ _); k_dflt (refine' eq_nil ?p22z ?a22z ?b22z ?u22z ?_; (case a22z => exact News.isList (by k_asm) (by k_mem)); (case b22z => exact News.isList (by k_asm) (by k_mem)); (case p22z => assumption); (case u22z => units_room)); k_whole)
 k_with "call ref" => (k_here; (with_reducible show wpAny _ _ (call (Value.ref 394) _) _ _ _); k_dflt (refine' c_in_order ?km23z ?kz23z _ _ _ _ _ _ _ _ _ _ _ _ _ _ _ _ _ ?kB23z ?kF23z ?kX23z ?kN23z ?kT23z ?kk23z ?kd23z ?ku23z ?_; (case kB23z => k_asm); (case kF23z => k_asm); (case kX23z => k_asm); (case kN23z => k_asm); (case km23z => k_mem); (case kz23z => (first | lia | (simp only [List.length_drop, List.length_take, List.length_append, List.length_reverse] at *; lia))); (case kT23z => k_asm); (case kk23z => rfl); (case kd23z => walk_at "d3"); (case ku23z => walk_at "d3")); intro r9 qs9 n9 h9 tk9 F9 N9 lt9 hp9 hs9; (have hl9 := hp9.length_eq); (try simp only [List.length_take, List.length_drop] at hl9); (try dsimp only))
 k_with "call ref" => (k_here; (with_reducible show wpAny _ _ (call (Value.ref 218) _) _ _ _); (refine Halt.out ?_))
 k_with "exec For Name Call cons nil" => (k_here; (refine Halt.out ?_))
 have _ := fl X
 refine wpAny_call ?_
 k_dflt cell_enter
 k_steps
 unfold Halt
 refine frest_start ?_
 k_steps
 unfold Halt
 rename_i g1 L1 h1 F0 B1 X1 T1 tkA l1 h2 l1lt h2b h3 F1 N1
 refine c_gi (.tail _ hmr) _ _ _ _ _ _ _ _ _ _ _ g1 L1 _ _ _ _ B1 F1 (by k_asm) N1 T1 rfl (by simp only [] at *; lia) (fun p hp => by rw [hw p hp]; lia) hzz hne fun G gs h4 tk4 gled F4 N4 hap hG ok hb => ?_
 have F5 := Fr.same F4 (m' := (fun z => if z = Str.ofString "line" then none else if z = Str.ofString "size" then none else if z = Str.ofString "turned" then some (.bool false) else if z = Str.ofString "page" then some (.ref l1) else if z = Str.ofString "ruler" then some (.ref lr) else if z = Str.ofString "signs" then some (.ref l) else none)) (by refine frk (ks := [Str.ofString "line", Str.ofString "size", Str.ofString "turned", Str.ofString "page", Str.ofString "ruler", Str.ofString "signs"]) ?_ ?_ ?_; (focus (repeat (first | with_reducible exact supp_none | with_reducible refine supp_ite (by kernel_rfl) ?_ | with_reducible exact supp_look (by kernel_rfl)))); (focus (repeat (first | with_reducible exact supp_none | with_reducible refine supp_ite (by kernel_rfl) ?_ | with_reducible exact supp_look (by kernel_rfl)))); kernel_rfl)
 refine for_gi (fun j m led' => ∃ (ls lp : Addr) (ys : Row) (ns np : Nat) (u1 u2 : Option Value), (∀ p ∈ led, p ∈ led') ∧ (∀ p ∈ led, p.1 < lp) ∧ (ls, listOf (lts (ps.drop (j * wd))).toArray ns) ∈ led' ∧ (lp, listOf (lts ys).toArray np) ∈ led' ∧
   ys.length + (ps.drop (j * wd)).length = ps.length ∧ (j = 0 ∨ (j - 1) * wd < ps.length) ∧ (∀ rest, FroRel wd (decide (j % 2 = 1)) (ps.drop (j * wd)) rest → FroRel wd false ps (ys ++ rest)) ∧
   m = (fun z => if z = Str.ofString "line" then u1 else if z = Str.ofString "size" then u2 else if z = Str.ofString "turned" then some (.bool (decide (j % 2 = 1))) else if z = Str.ofString "page" then some (.ref lp) else if z = Str.ofString "ruler" then some (.ref lr) else if z = Str.ofString "signs" then some (.ref ls) else none))
  (by passes_own) rfl (show dp + 1 < recursionLimit by lia) T1.nolimit (by rfl) (by rfl) F5 N4 hap ⟨_, .tail _ hmr⟩ (hg.push hb) (by simp) hG ok ⟨l, l1, [], n, 0, none, none, ?_⟩ ?_ ?_ ?_ ?_
 ·refine ⟨fun p hp => .tail _ hp, l1lt, List.mem_cons_of_mem _ (by simpa using hm), .head _, by simp, .inl rfl, by simp, rfl⟩
 ·rintro j m' led' ⟨ls, lp, ys, ns, np, u1, u2, -, -, -, -, -, hj, -⟩
  rcases hj with hj | hj
  ·lia
  ·have : (j - 1) * 1 ≤ (j - 1) * wd := Nat.mul_le_mul_left _ hw0
   lia
 ·rintro j m' led' h ⟨ls, lp, ys, ns, np, u1, u2, hsub, -⟩ F6 N6
  exact N6.isList (hsub _ hmr)
 ·rintro j v m' led' gled' h tk' g hv hc ⟨ls, lp, ys, ns, np, u1, u2, hsub, hlt, hls, hlp, hlen, hj, hrel, rfl⟩ hap' hg' F6 N6
  obtain ⟨t, rfl⟩ := giVal_all hw hv
  change Fr g1 L1 h _ at F6
  change News g1 L1 h _ at N6
  have hls' := List.mem_append_left gled' hls
  have hlp' := List.mem_append_left gled' hlp
  have hlow' : Low (ps.drop (j * wd)) := fun p hp => hlow p (List.mem_of_mem_drop hp)
  generalize hled : led' ++ gled' = ledA at *
  generalize hxs : ps.drop (j * wd) = xs at *
  k_steps
  ·rename_i hnil
   unfold GPost
   dsimp only
   k_steps
   have hr := hrel [] (by rw [hnil]; exact .nil _)
   rw [List.append_nil] at hr
   refine hret lp ys np _ tk g hg' (by assumption) (fun p hp => ‹News h₀ L _ _› p (.tail _ ?_)) hlt hr
   refine m_el hp (m_all ?_ ?_)
   ·exact hlp'
   ·intro p hp; rw [← hled]
    exact List.mem_append_left _ (hsub p hp)
  ·rename_i l' h8 lt4 hne' tkx D3 h7 lt3 h6 hodd D2 h5 lt2 D1 h4' lt1 h3' h2' D0 h1' lt0 h0 F' N'
   have hd1 : decide ((j + 1) % 2 = 1) = !decide (j % 2 = 1) := par_succ j
   have hdr : ps.drop ((j + 1) * wd) = xs.drop wd := by rw [← hxs, List.drop_drop, Nat.succ_mul]
   have hjl : j * wd < ps.length := by
    refine Nat.lt_of_not_le fun hcon => hne' ?_
    rw [← hxs]
    exact List.drop_eq_nil_of_le hcon
   have hlx : (xs.drop wd).length = xs.length - wd := List.length_drop
   have hle := hled.symm
   subst hle
   have inA : ∀ p ∈ led, p ∈ led' ++ gled' := fun p hp => List.mem_append_left _ (hsub p hp)
   refine gpost_next (led' := _ :: _ :: _ :: _ :: _ :: _ :: led') (m' := (fun z => if z = Str.ofString "line" then some (.ref r9) else if z = Str.ofString "size" then some (.int wd t) else if z = Str.ofString "turned" then some (.bool (decide ((j + 1) % 2 = 1))) else if z = Str.ofString "page" then some (.ref D1) else if z = Str.ofString "ruler" then some (.ref lr) else if z = Str.ofString "signs" then some (.ref D0) else none)) (Fr.same F' fun z => ?_) N' ?_
    ⟨D0, D1, ys ++ qs9.reverse, 0, 0, some (.ref r9), some (.int wd t), fun p hp => ?_, fun p hp => lt1 p ?_, ?_, ?_, ?_, .inr (by simpa using hjl), ?_, rfl⟩
   ·rw [hd1]
    revert z; refine frk (ks := [Str.ofString "line", Str.ofString "size", Str.ofString "turned", Str.ofString "page", Str.ofString "ruler", Str.ofString "signs"]) ?_ ?_ ?_; (focus (repeat (first | with_reducible exact supp_none | with_reducible refine supp_ite (by kernel_rfl) ?_ | with_reducible exact supp_look (by kernel_rfl)))); (focus (repeat (first | with_reducible exact supp_none | with_reducible refine supp_ite (by kernel_rfl) ?_ | with_reducible exact supp_look (by kernel_rfl)))); kernel_rfl
   ·intro p hp q hq
    have hq' : q ∈ led' ++ gled' := List.mem_append_right _ hq
    repeat' (rcases List.mem_cons.mp hp with rfl | hp)
    ·exact Ne.symm (Nat.ne_of_lt (lt0 q (by repeat (first | exact hq' | apply List.mem_cons_of_mem))))
    ·exact Ne.symm (Nat.ne_of_lt (lt1 q (by repeat (first | exact hq' | apply List.mem_cons_of_mem))))
    ·exact Ne.symm (Nat.ne_of_lt (lt2 q (by repeat (first | exact hq' | apply List.mem_cons_of_mem))))
    ·exact Ne.symm (Nat.ne_of_lt (lt9 q (by repeat (first | exact hq' | apply List.mem_cons_of_mem))))
    ·exact Ne.symm (Nat.ne_of_lt (lt3 q (by repeat (first | exact hq' | apply List.mem_cons_of_mem))))
    ·exact Ne.symm (Nat.ne_of_lt (lt4 q (by repeat (first | exact hq' | apply List.mem_cons_of_mem))))
    ·exact hap' p hp q hq
   ·repeat (first | exact hsub p hp | apply List.mem_cons_of_mem)
   ·repeat (first | exact inA p hp | apply List.mem_cons_of_mem)
   ·rw [hdr]; exact .head _
   ·exact .tail _ (.head _)
   ·rw [hdr]
    simp only [List.length_append, List.length_reverse]
    lia
   ·intro rest hrest
    rw [hdr, hd1, decide_eq_true hodd] at hrest
    have hst : FroRel wd true xs (qs9.reverse ++ rest) := FroRel.cons (b := true) hne' hp9 hs9 hrest
    rw [List.append_assoc]
    exact hrel _ (by rw [decide_eq_true hodd]; exact hst)
  ·rename_i l' h8 lt4 hne' tkx D3 h7 lt3 h6 hodd D1 h4' lt1 h3' h2' D0 h1' lt0 h0 F' N'
   have hd1 : decide ((j + 1) % 2 = 1) = !decide (j % 2 = 1) := par_succ j
   have hdr : ps.drop ((j + 1) * wd) = xs.drop wd := by rw [← hxs, List.drop_drop, Nat.succ_mul]
   have hjl : j * wd < ps.length := by
    refine Nat.lt_of_not_le fun hcon => hne' ?_
    rw [← hxs]
    exact List.drop_eq_nil_of_le hcon
   have hlx : (xs.drop wd).length = xs.length - wd := List.length_drop
   have hle := hled.symm
   subst hle
   have inA : ∀ p ∈ led, p ∈ led' ++ gled' := fun p hp => List.mem_append_left _ (hsub p hp)
   refine gpost_next (led' := _ :: _ :: _ :: _ :: _ :: led') (m' := (fun z => if z = Str.ofString "line" then some (.ref r9) else if z = Str.ofString "size" then some (.int wd t) else if z = Str.ofString "turned" then some (.bool (decide ((j + 1) % 2 = 1))) else if z = Str.ofString "page" then some (.ref D1) else if z = Str.ofString "ruler" then some (.ref lr) else if z = Str.ofString "signs" then some (.ref D0) else none)) (Fr.same F' fun z => ?_) N' ?_
    ⟨D0, D1, ys ++ qs9, 0, 0, some (.ref r9), some (.int wd t), fun p hp => ?_, fun p hp => lt1 p ?_, ?_, ?_, ?_, .inr (by simpa using hjl), ?_, rfl⟩
   ·rw [hd1]
    revert z; refine frk (ks := [Str.ofString "line", Str.ofString "size", Str.ofString "turned", Str.ofString "page", Str.ofString "ruler", Str.ofString "signs"]) ?_ ?_ ?_; (focus (repeat (first | with_reducible exact supp_none | with_reducible refine supp_ite (by kernel_rfl) ?_ | with_reducible exact supp_look (by kernel_rfl)))); (focus (repeat (first | with_reducible exact supp_none | with_reducible refine supp_ite (by kernel_rfl) ?_ | with_reducible exact supp_look (by kernel_rfl)))); kernel_rfl
   ·intro p hp q hq
    have hq' : q ∈ led' ++ gled' := List.mem_append_right _ hq
    repeat' (rcases List.mem_cons.mp hp with rfl | hp)
    ·exact Ne.symm (Nat.ne_of_lt (lt0 q (by repeat (first | exact hq' | apply List.mem_cons_of_mem))))
    ·exact Ne.symm (Nat.ne_of_lt (lt1 q (by repeat (first | exact hq' | apply List.mem_cons_of_mem))))
    ·exact Ne.symm (Nat.ne_of_lt (lt9 q (by repeat (first | exact hq' | apply List.mem_cons_of_mem))))
    ·exact Ne.symm (Nat.ne_of_lt (lt3 q (by repeat (first | exact hq' | apply List.mem_cons_of_mem))))
    ·exact Ne.symm (Nat.ne_of_lt (lt4 q (by repeat (first | exact hq' | apply List.mem_cons_of_mem))))
    ·exact hap' p hp q hq
   ·repeat (first | exact hsub p hp | apply List.mem_cons_of_mem)
   ·repeat (first | exact inA p hp | apply List.mem_cons_of_mem)
   ·rw [hdr]; exact .head _
   ·exact .tail _ (.head _)
   ·rw [hdr]
    simp only [List.length_append, List.length_reverse]
    lia
   ·intro rest hrest
    rw [hdr, hd1, decide_eq_false hodd] at hrest
    have hst : FroRel wd false xs (qs9 ++ rest) := FroRel.cons (b := false) hne' hp9 hs9 hrest
    rw [List.append_assoc]
    exact hrel _ (by rw [decide_eq_false hodd]; exact hst)
 ·rintro m' led' h tk' g ⟨ls, lp, ys, ns, np, u1, u2, hsub, hlt, hls, hlp, hlen, hj, hrel, rfl⟩ hz0 hg' F6 N6
  change Fr g1 L1 h _ at F6
  change News g1 L1 h _ at N6
  have hnil : ps.drop (pre.length * wd) = [] := by
   rcases henough with h | h
   ·exact absurd h hz0
   ·exact List.drop_eq_nil_of_le (by rw [Nat.mul_comm]; exact h)
  rw [hnil] at hrel
  have hr := hrel [] (.nil _)
  rw [List.append_nil] at hr
  k_steps
  exact hret lp ys np h tk' g hg' (by assumption) (fun p hp => ‹News h₀ L _ led'› p (by refine m_el hp (m_all ?_ fun p hp => ?_); exact hlp; exact hsub p hp)) hlt hr
theorem eq_2 : pt.U1 := hy @eq_1
end J3
theorem c_fro : type_of% (@Part1.h _ _ _ J3.pt J3.eq_2) := @Part1.h _ _ _ J3.pt J3.eq_2
end
noncomputable abbrev accObj (AD : Addr) (vs : List Value) (n : Nat) : Obj := { cls := .ref 200, dict := some AD, data := .seq vs.toArray n }
noncomputable abbrev accDict (w : World) (t1 t2 : Tok) (k : Nat) : Obj := dictOf [⟨PyData.keyHash w.params (Str.ofString "_initial_size"), .str (Str.ofString "_initial_size") t1, .int 0 t2⟩] k
section
variable {prog : Program} {w : World} {A : Around} {E : Value → Shared → Prop} {s : Shared} {h₀ : Heap} {L x AD C : Addr} {m : Str → Option Value} {news news' : List (Addr × Obj)} {K : Frag} {ox : Obj} {od : Option Obj} {vs : List Value} {n k : Nat} {es : List DictEntry}
theorem acc_inst {h : Heap} (N : News h₀ L h news) (h1 : (x, accObj AD vs n) ∈ news) (h2 : (AD, dictOf es k) ∈ news) : InstAt h x (accObj AD vs n) 200 (some (dictOf es k)) :=
 ⟨(N _ h1).1, rfl, rfl, (N _ h2).1⟩
theorem method_base {name : Str} {id : String} {pl : Sem Bool} {Q : Value × List Value → Shared → Prop} (X : K.In s.heap) (I : InstAt s.heap x ox C od) (hga : findIn K (.ref C) "__getattribute__" = some (some (.builtin "list.__getattribute__"))) (hk : findIn K (.ref C) "__getattr__" = some none)
  (hf : findIn K (.ref C) name = some (some (.builtin id))) (ht : typeIn K (.builtin id) = some (.type "method_descriptor")) (hs : shadowIn od name = some false) (h : Q (.builtin id, [.ref x]) s) :
  wpAny (model prog w) A (getMethod (.ref x) name pl) Q E s := by
 have hcan : Manifest.canonical "list.__getattribute__" = "object.__getattribute__" := by decide +kernel
 unfold getMethod specialOf
 refine wpAny_bind (wpAny_bind (I.type.here ((looks_findIn X hga).here ?_)))
 dsimp only
 rw [hcan, if_neg (by decide)]
 refine wpAny_bind (wpAny_bind (I.type.here ((looks_findIn X hk).here ?_)))
 refine wpAny_bind (wpAny_bind (I.type.here ((looks_findIn X hf).here (wpAny_bind ((looks_typeIn X ht).here ?_)))))
 rw [if_neg (by decide +kernel)]
 refine wpAny_bind (wpAny_loadPart I.at_ ?_)
 have hd := I.dict
 cases e : ox.dict with
 | none => exact wpAny_bind (wpAny_rule (wpAny_pure h))
 | some dx =>
  cases od with
  | none => rw [e] at hd; exact hd.elim
  | some o =>
   rw [e] at hd
   obtain ⟨r, a, b⟩ := Option.map_eq_some_iff.mp hs
   refine wpAny_bind (wpAny_bind (wpAny_loadPart hd ?_))
   rw [nsLook_of a]
   refine wpAny_pure ?_
   rw [b]
   exact wpAny_bind (wpAny_rule (wpAny_pure h))
theorem base_entry {id owner nm : String} {b : Builtin} {rest : List Value} {Q : Value → Shared → Prop} (X : K.In s.heap) (I : InstAt s.heap x ox C od) (hm : mroIn K C (.type owner) = some true)
  (hsplit : splitId id = some (owner, nm)) (hkind : (Manifest.find? owner).bind (·.attrs.lookup nm) = some .slot ∨ (Manifest.find? owner).bind (·.attrs.lookup nm) = some .method)
  (hq : plainId id = true) (hb : entryFor table id = some b)
  (hc : wpAny (model prog w) A.in1 (b ⟨.ref x :: rest, []⟩) (fun fin s' => ∃ v, fin = .done (.ret v) ∧ Q v s') E s)
  (ha : argsOk id ⟨.ref x :: rest, []⟩) :
  wpAny (model prog w) A (call (.builtin id) (.ref x :: rest)) Q E s := by
 have hk : builtinKind id = (Manifest.find? owner).bind (·.attrs.lookup nm) := by simp only [builtinKind, hsplit]
 have isI : Looks (model prog w) s.heap (isInstance (.ref x) (.type owner)) true := I.type.andThen (looks_mroIn X hm)
 have chk : ∀ (Q' : Unit → Shared → Prop) (E' : Value → Shared → Prop), Q' () s → wpAny (model prog w) A.in1 (checkBuiltinCall id ⟨.ref x :: rest, []⟩) Q' E' s := by
  intro Q' E' hQ
  rcases hkind with h | h <;>
  ·simp only [checkBuiltinCall, hk, h, hsplit]
   refine wpAny_bind (isI.here ?_)
   simp only [Bool.not_true, Bool.false_eq_true, if_false]
   cases hsig : Manifest.signature? id with
   | none => exact wpAny_pure hQ
   | some sig =>
    simp only [argsOk, hsig] at ha
    have h2 : Bind.checkArgs id sig ⟨.ref x :: rest, []⟩ = pure () := ha
    show wpAny _ _ (Bind.checkArgs id sig ⟨.ref x :: rest, []⟩) Q' E' s
    rw [h2]; exact wpAny_pure hQ
 refine wpAny_call (codeAny_call_builtin hq hb (chk _ _ (wpAny_mono hc (fun fin s' h' => ?_) fun _ _ h' => h')))
 obtain ⟨v, rfl, hv⟩ := h'; exact hv
theorem acc_update {f : Array Value → Array Value} {vs' : List Value} {n' : Nat} {Q : Unit → Shared → Prop} (F : Fr h₀ L s.heap m) (N : News h₀ L s.heap news) (hf : f vs.toArray = vs'.toArray) (hn : n' = if vs'.length = vs.length then n else n + 1)
  (U : Upd x (accObj AD vs n) (accObj AD vs' n') news news') (hz : vs.length < 1000) (hz' : vs'.length < 1000) (h : ∀ h', Fr h₀ L h' m → News h₀ L h' news' → Q () { s with heap := h' }) :
  wpAny (model prog w) A (updateSeq x f) Q E s := by
 obtain ⟨pre, post, rfl, rfl, a, b⟩ := U.split
 have z := N (x, accObj AD vs n) (List.mem_append.mpr (.inr (.head _)))
 refine wpAny_updateSeq z.1 rfl (h _ (F.change (Heap.SameBut.update ..) z.2.1 z.2.2) (news_set N a b (Heap.SameBut.update ..) ?_)) (by simp [sizeLine]; lia) (by rw [hf]; simp [sizeLine]; lia)
 rw [Heap.get?_update_self _ z.1 rfl]
 congr 1
 show Obj.mapSeq f (accObj AD vs n) = _
 subst hn
 simp only [Obj.mapSeq, hf, List.size_toArray, beq_iff_eq]
theorem acc_append {y : Value} {Q : Value → Shared → Prop} (X : K.In h₀) (F : Fr h₀ L s.heap m) (N : News h₀ L s.heap news) (h2 : (AD, dictOf es k) ∈ news) (hm : mroIn K 200 (.type "list") = some true)
  (U : Upd x (accObj AD vs n) (accObj AD (vs ++ [y]) (n + 1)) news news') (hz : vs.length < 900) (h : ∀ h', Fr h₀ L h' m → News h₀ L h' news' → Q .none { s with heap := h' }) :
  wpAny (model prog w) A (call (.builtin "list.append") [.ref x, y]) Q E s := by
 have h1 : (x, accObj AD vs n) ∈ news := by
  obtain ⟨pre, post, rfl, rfl, a, b⟩ := U.split
  exact List.mem_append.mpr (.inr (.head _))
 refine base_entry (X.keeps F.keep) (acc_inst N h1 h2) hm (by decide +kernel : splitId "list.append" = some ("list", "append")) (by decide +kernel) (by decide +kernel) PySem.F.entry_list_append ?_ (PySem.F.args_list_append_2 _ _)
 show wpAny _ _ (updateSeq x (·.push y) >>= fun _ => ret .none) _ _ s
 refine wpAny_bind (acc_update F N (vs' := vs ++ [y]) (by simp) (by simp) U (by lia) (by simp; lia) fun h' F' N' => wpAny_pure ⟨.none, rfl, h h' F' N'⟩)
end
noncomputable def Holds (h : Heap) (a : Addr) (items : Array Value) : Prop := ∃ o n, h.get? a = some o ∧ o.data = .seq items n
theorem Holds.keep {h h' : Heap} {a : Addr} {items : Array Value} (x : Holds h a items) (k : ∀ o, h.get? a = some o → h'.get? a = some o) : Holds h' a items :=
 let ⟨o, n, e, d⟩ := x; ⟨o, n, k o e, d⟩
section
variable {prog : Program} {w : World} {A : Around} {E : Value → Shared → Prop} {s : Shared}
theorem holds_next {I a : Addr} {i : Nat} {items : Array Value} {v : Value} {Q : Option Value → Shared → Prop} (hI : s.heap.IsListIter I a i) (ha : Holds s.heap a items) (hv : items[i]? = some v)
  (hQ : ∀ h', h'.IsListIter I a (i + 1) → Heap.SameBut I s.heap h' → Q (some v) { s with heap := h' }) :
  wpAny (model prog w) A (pyNext (.ref I)) Q E s := by
 obtain ⟨o, ho, hc, hd⟩ := id hI
 obtain ⟨oa, na, hoa, hda⟩ := ha
 unfold pyNext
 refine wpAny_bind (wpAny_attempt (wpAny_callSpecial?_slot (name := Str.ofString "__next__") hI.typeIs slot_listiter_next (wpAny_call_entry slot_listiter_next hI.typeIs entry_listiter_next ?_ (args_listiter_next _))))
 have t : (Value.ref a == Value.none) = false := rfl
 show wpAny _ _ (field (.ref I) 0 >>= _) _ _ s
 refine wpAny_bind (wpAny_field ho hd (x := .ref a) rfl ?_)
 dsimp only
 rw [t]
 show wpAny _ _ (field (.ref I) 1 >>= _) _ _ s
 refine wpAny_bind (wpAny_field ho hd (x := .int i 0) rfl ?_)
 show wpAny _ _ (seqItems? (.ref a) >>= _) _ _ s
 refine wpAny_bind (wpAny_seqItems hoa hda ?_)
 simp only [Int.toNat_natCast, hv]
 refine wpAny_bind (wpAny_setField ho hd (by simp) (wpAny_pure ⟨v, rfl, wpAny_pure (hQ _ ?_ (Heap.SameBut.update ..))⟩))
 refine ⟨_, Heap.get?_update_self _ ho (Obj.isFreed_of_fields (Obj.data_mapFields hd _)), (Obj.cls_mapFields ..).trans hc, ?_⟩
 rw [Obj.data_mapFields hd]
 simp [rawInt]
theorem holds_end {I a : Addr} {i : Nat} {items : Array Value} {Q : Option Value → Shared → Prop} (hh : A.handled = none) (hI : s.heap.IsListIter I a i) (ha : Holds s.heap a items) (hv : items[i]? = none)
  (hQ : ∀ h', Heap.ExtBut I s.heap h' → Q none { s with heap := h' }) : wpAny (model prog w) A (pyNext (.ref I)) Q E s := by
 obtain ⟨o, ho, hc, hd⟩ := id hI
 obtain ⟨oa, na, hoa, hda⟩ := ha
 unfold pyNext
 refine wpAny_bind (wpAny_attempt (wpAny_callSpecial?_slot (name := Str.ofString "__next__") hI.typeIs slot_listiter_next (wpAny_call_entry slot_listiter_next hI.typeIs entry_listiter_next ?_ (args_listiter_next _))))
 have t : (Value.ref a == Value.none) = false := rfl
 show wpAny _ _ (field (.ref I) 0 >>= _) _ _ s
 refine wpAny_bind (wpAny_field ho hd (x := .ref a) rfl ?_)
 dsimp only
 rw [t]
 show wpAny _ _ (field (.ref I) 1 >>= _) _ _ s
 refine wpAny_bind (wpAny_field ho hd (x := .int i 0) rfl ?_)
 show wpAny _ _ (seqItems? (.ref a) >>= _) _ _ s
 refine wpAny_bind (wpAny_seqItems hoa hda ?_)
 simp only [Int.toNat_natCast, hv]
 refine wpAny_bind (wpAny_rule (wpAny_bind (wpAny_setField ho hd (by simp) ?_)))
 show wpAny _ _ (newExc (.type "StopIteration") [] >>= _) _ _ _
 refine wpAny_bind ?_
 simp only [newExc, newTuple]
 refine wpAny_bind (wpAny_newObj_type ?_ (by size_fits))
 refine wpAny_bind (m := firstArgMember _ _) (wpAny_of_eq (a := Value.none) (by first | rfl | (simp only [firstArgMember]; rfl)) ?_)
 refine wpAny_newObj_type ?_ (by size_fits)
 simp only [raiseNew]
 refine wpAny_bind (wpAny_handled ?_)
 rw [show A.in1.handled = none from hh]
 refine wpAny_bind (wpAny_pure (wpAny_throw ?_))
 refine wpAny_bind (wpAny_isInstance (T := "StopIteration") (b := true) ⟨_, Heap.get?_push_size _ rfl, rfl⟩ isSubtype_stop ?_)
 exact wpAny_pure (hQ _ (((Heap.SameBut.update ..).extBut.push _).push _))
end
theorem holds_walks {prog : Program} {w : World} {A : Around} (hh : A.handled = none) (I ax : Addr) (hne : ax ≠ I) (items : Array Value) (Ts : Nat → Addr) (vals : Nat → Array Value)
    (hit : ∀ j, j < items.size → items[j]? = some (.ref (Ts j))) (hTI : ∀ j, j < items.size → Ts j ≠ I) :
    WalksU prog w A I (I :: ax :: (List.range items.size).map Ts) [I] items.size (fun j v => v = vals j)
      (fun j h => h.IsListIter I ax j ∧ Holds h ax items ∧ ∀ k, k < items.size → h.IsTuple (Ts k) (vals k))
      (fun j T h => (j < items.size ∧ T = Ts j) ∧ h.IsListIter I ax (j + 1) ∧ Holds h ax items ∧ ∀ k, k < items.size → h.IsTuple (Ts k) (vals k)) := by
  have out : ∀ b, b ∉ [I] → b ≠ I := fun b hb e => hb (e ▸ List.mem_singleton.mpr rfl)
  refine ⟨fun b hb => ?_, fun j h h' st hk => ⟨st.1.at fun o e => hk I (.head _) o e, st.2.1.keep fun o e => hk ax (.tail _ (.head _)) o e, fun k hk' => (st.2.2 k hk').at fun o e => hk _ (.tail _ (.tail _ (List.mem_map_of_mem (List.mem_range.mpr hk')))) o e⟩,
    fun i s Q E hi st hQ => ?_, fun elts k pos i T s Q E hm hQ => wpAny_letOwnedTupleGo_listiter hm.2.1 (hQ s.heap hm.2 fun _ _ _ e => e), fun j T h hm hmem => ?_, fun s Q E st hQ => ?_, fun i s Q E st hQ => wpAny_pyIter_listiter st.1 hQ⟩
  · rw [List.mem_singleton] at hb
    rw [hb]; exact .head _
  · refine holds_next st.1 st.2.1 (hit i hi) fun h' hI' hs' => ?_
    have ht : ∀ k, k < items.size → h'.IsTuple (Ts k) (vals k) := fun k hk' => (st.2.2 k hk').extBut hs'.extBut (hTI k hk')
    exact hQ _ _ h' s.toks rfl (ht i hi) ⟨⟨hi, rfl⟩, hI', st.2.1.keep fun o e => hs'.extBut ax o hne e, ht⟩ fun b o hb e => hs'.extBut b o (out b hb) e
  · rw [List.mem_singleton] at hmem
    exact hTI j hm.1.1 (hm.1.2.symm.trans hmem)
  · exact holds_end hh st.1 st.2.1 (by simp) fun h' he' => hQ h' s.toks fun b o hb e => he' b o (out b hb) e
section
variable {prog : Program} {w : World} {A : Around} {E : Value → Shared → Prop} {s : Shared} {K : Frag} {x C : Addr} {ox : Obj} {od : Option Obj}
theorem inst_special {name : Str} {r : Option Value} {Q : Option Value → Shared → Prop} (X : K.In s.heap) (I : InstAt s.heap x ox C od) (hf : findIn K (.ref C) name = some r) (h : Q r s) : wpAny (model prog w) A (specialOf (.ref x) name) Q E s := by
 unfold specialOf
 exact wpAny_bind (I.type.here ((looks_findIn X hf).here h))
theorem inst_unlessNone {name : Str} {id : String} {refuse : Sem Value} {Q : Option Value → Shared → Prop} (X : K.In s.heap) (I : InstAt s.heap x ox C od) (hf : findIn K (.ref C) name = some (some (.builtin id)))
  (hb : ∀ self, bindSpecial (.builtin id) self = pure (.builtin id, [self])) (hc : wpAny (model prog w) A (call (.builtin id) [.ref x]) (fun v => Q (some v)) E s) :
  wpAny (model prog w) A (callSpecialIfBoundUnlessNone? (.ref x) name refuse) Q E s := by
 unfold callSpecialIfBoundUnlessNone? bindSpecialIfBound?
 refine wpAny_holding (wpAny_bind (wpAny_bind (inst_special X I hf ?_)))
 simp only [hb]
 refine wpAny_bind (wpAny_askSetting (wpAny_ite ?_))
 have go : wpAny (model prog w) A (if (Value.builtin id == Value.none) = true then (refuse >>= fun v => pure (some v)) else (call (.builtin id) [.ref x] >>= fun v => pure (some v))) Q E s := by
  rw [if_neg (by rw [builtin_beq_none]; exact Bool.false_ne_true)]
  exact wpAny_bind (wpAny_mono hc (fun v s' h' => wpAny_pure h') fun _ _ h' => h')
 split
 ·exact wpAny_bind (wpAny_pure (wpAny_pure go))
 ·exact wpAny_tryCatch (wpAny_bind (wpAny_pure (wpAny_pure go)))
theorem acc_iter {Q : Value → Shared → Prop} (X : K.In s.heap) (I : InstAt s.heap x ox C od) (hf : findIn K (.ref C) "__iter__" = some (some (.builtin "list.__iter__"))) (hm : mroIn K C (.type "list") = some true)
  (h : Q (.ref s.heap.objs.size) { s with heap := s.heap.push { cls := .type "list_iterator", data := .fields #[.ref x, .int 0 0] } }) :
  wpAny (model prog w) A (pyIter (.ref x)) Q E s := by
 unfold pyIter
 refine wpAny_bind (inst_special X I hf ?_)
 dsimp only
 refine wpAny_bind (inst_unlessNone X I hf slot_list_iter.bind ?_)
 refine base_entry X I hm (by decide +kernel : splitId "list.__iter__" = some ("list", "__iter__")) (by decide +kernel) (by decide +kernel) entry_list_iter ?_ (args_list_iter _)
 show wpAny _ _ (do ret (← newFields "list_iterator" [.ref x, rawInt 0])) _ _ s
 refine wpAny_bind (wpAny_newObj_type (wpAny_pure ⟨_, rfl, ?_⟩))
 dsimp only
 exact wpAny_bind (wpAny_specialOf (T := "list_iterator") ⟨_, Heap.get?_push_size _ rfl, rfl⟩ slot_listiter_next.lookup (wpAny_pure h))
end
section
variable {prog : Program} {w : World} {A : Around} {E : Value → Shared → Prop} {s : Shared} {K : Frag} {x C : Addr} {ox : Obj} {od : Option Obj}
theorem inst_call {name : Str} {id : String} {args : List Value} {Q : Option Value → Shared → Prop} (X : K.In s.heap) (I : InstAt s.heap x ox C od) (hf : findIn K (.ref C) name = some (some (.builtin id)))
  (hb : ∀ self, bindSpecial (.builtin id) self = pure (.builtin id, [self])) (hc : wpAny (model prog w) A (call (.builtin id) (.ref x :: args)) (fun v => Q (some v)) E s) :
  wpAny (model prog w) A (callSpecial? (.ref x) name args) Q E s := by
 simp only [callSpecial?]
 refine wpAny_bind (inst_special X I hf ?_)
 simp only [hb]
 exact wpAny_holding (wpAny_bind (wpAny_pure (wpAny_bind (wpAny_mono hc (fun v s' h' => wpAny_pure h') fun _ _ h' => h'))))
theorem inst_seqKey {name : Str} {k : Value} {Q : Value → Shared → Prop} (X : K.In s.heap) (I : InstAt s.heap x ox C od) (hq : noSeq K C = true) (h : Q k s) : wpAny (model prog w) A (sequenceKey (.ref x) k name) Q E s := by
 unfold sequenceKey
 refine wpAny_bind (I.type.here ?_)
 refine wpAny_bind ((anyM_none X hq).here ?_)
 rw [if_pos (show (!false) = true from rfl)]
 exact wpAny_pure h
end
namespace J15
def pt : Part1 (aP.y1.a.a.O.O.h.h.a.A.A.c.c.y4.g.c.c.y0.m.f.l.j.F) (∀ {prog : Program} {w : World} {A : Around} {E : Value → Shared → Prop} {s : Shared} {K : Frag} {x : Addr} {C : Addr} {ox : Obj} {od : Option Obj} {l sl : Addr} {vs ws : List Value} {n : Nat} {vl vu : Value} {lo hi : Option Int} {a b : Nat} {Q : Unit → Shared → Prop} (X : K.In s.heap) (I : InstAt s.heap x ox C od) (hq : noSeq K C = true) (hm : mroIn K C (.type "list") = some true)
  (hf : findIn K (.ref C) "__setitem__" = some (some (.builtin "list.__setitem__"))) (hd : ox.data = .seq vs.toArray n) (hl : s.heap.IsList l ws.toArray) (hne : x ≠ l) (hs : s.heap.IsSliceOf sl vl vu .none) (pl : IsPart vl lo) (pu : IsPart vu hi)
  (hbd : sliceBounds lo hi none vs.length = ((a : Int), (b : Int), 1)) (hz : vs.length < 500) (hz2 : ws.length < 500)
  (h : wpAny (model prog w) A.in1 (updateSeq x fun xs => xs.extract 0 a ++ ws.toArray ++ xs.extract (max (a : Int) b).toNat xs.size) (fun _ s' => Q () s') E s), wpAny (model prog w) A (setItem (.ref x) (.ref sl) (.ref l)) Q E s) := by
 apply Part1.mk
 case h => intro hS1 prog w A E s K x C ox od l sl vs ws n vl vu lo hi a b Q X I hq hm hf hd hl hne hs pl pu hbd hz hz2 h; revert X I hq hm hf hd hl hne hs pl pu hbd hz hz2 h; exact @hS1 prog w A E s K x C ox od l sl vs ws n vl vu lo hi a b Q
def Z0 := pt.z1
def prog := hx0 Z0
def w := hx1 Z0
def A := hx2 Z0
def E := hx3 Z0
def s := hx4 Z0
def K := hx5 Z0
def x := hx6 Z0
def C := hx7 Z0
def Z1 := ht Z0
def ox := hx0 Z1
def od := hx1 Z1
def l := hx2 Z1
def sl := hx3 Z1
def vs := hx4 Z1
def ws := hx5 Z1
def n := hx6 Z1
def vl := hx7 Z1
def Z2 := ht Z1
def vu := hx0 Z2
def lo := hx1 Z2
def hi := hx2 Z2
def a := hx3 Z2
def b := hx4 Z2
def Q := hx5 Z2
theorem eq_1 : pt.Q1 prog w A E s K x C ox od l sl vs ws n vl vu lo hi a b Q := by
 intro X I hq hm hf hd hl hne hs pl pu hbd hz hz2 h
 obtain ⟨os, hos, hcs, hds⟩ := id hs
 obtain ⟨ol, hol, hcl, nl, hdl⟩ := id hl
 have hTs : s.TypeIs (.ref sl) "slice" := ⟨os, hos, hcs⟩
 unfold setItem
 refine wpAny_holding (wpAny_bind (inst_seqKey X I hq ?_))
 refine wpAny_bind (inst_call X I hf PySem.F.slot_list_setitem.bind ?_)
 refine base_entry X I hm (by decide +kernel : splitId "list.__setitem__" = some ("list", "__setitem__")) (by decide +kernel) (by decide +kernel) PySem.F.entry_list_setitem ?_ (PySem.F.args_list_setitem_3 _ _ _)
 show wpAny _ _ (Builtin.List.listSubscript? (.ref sl) >>= _) _ _ s
 refine wpAny_bind ?_
 unfold Builtin.List.listSubscript?
 refine wpAny_bind (wpAny_specialOf hTs slice_no_index ?_)
 simp only [Option.isNone_none, if_true]
 refine wpAny_pure ?_
 show wpAny _ _ (typeOf (.ref sl) >>= _) _ _ s
 refine wpAny_bind (wpAny_typeOf hTs ?_)
 rw [if_neg (by decide)]
 rw [listSliceParts_eq]
 refine wpAny_bind (wpAny_bind (wpAny_field hos hds (x := .none) rfl (wpAny_bind (wpAny_listPart .none ?_))))
 rw [if_neg (show ¬ ((rawPart none == rawInt 0) = true) from Bool.false_ne_true)]
 refine wpAny_bind (wpAny_field hos hds (x := vl) rfl (wpAny_bind (wpAny_listPart pl ?_)))
 refine wpAny_bind (wpAny_field hos hds (x := vu) rfl (wpAny_bind (wpAny_listPart pu (wpAny_pure ?_))))
 dsimp only
 rw [if_neg (show ¬ (Builtin.List.listSameRef (.ref x) (.ref l) = true) from by simp [Builtin.List.listSameRef, hne])]
 unfold Builtin.List.listAllItems
 refine wpAny_bind (wpAny_bind (wpAny_typeOf (T := "list") ⟨ol, hol, hcl⟩ ?_))
 rw [if_pos (by decide)]
 have rd : ∀ (y : Addr) (o : Obj) (its : Array Value) (k : Nat) (Q' : Array Value → Shared → Prop) (E' : Value → Shared → Prop), s.heap.get? y = some o → o.data = .seq its k → Q' its s → wpAny (model prog w) A.in1 (Builtin.List.listItems (.ref y)) Q' E' s := by
  intro y o its k Q' E' h1 h2 h3
  unfold Builtin.List.listItems
  exact wpAny_bind (wpAny_seqItems h1 h2 (wpAny_pure h3))
 refine rd l _ _ _ _ _ hol hdl ?_
 refine wpAny_bind (m := Builtin.List.listItems (.ref x)) (rd x _ _ _ _ _ I.at_ hd ?_)
 refine wpAny_bind (wpAny_of_eq (sliceIndices_raw lo hi none vs.toArray.size (by simp)) ?_)
 rw [List.size_toArray, hbd]
 dsimp only
 rw [if_pos (by decide)]
 refine wpAny_bind (wpAny_rule ?_)
 rw [if_neg (by simp [Builtin.List.listTooLong, sizeLine]; lia)]
 show wpAny _ _ (updateSeq x _ >>= _) _ _ _
 refine wpAny_bind (wpAny_mono h (fun u s' hq' => ?_) fun _ _ e => e)
 exact wpAny_bind (wpAny_letGo (wpAny_pure ⟨.none, rfl, wpAny_pure hq'⟩))
theorem eq_2 : pt.U1 := hy @eq_1
end J15
theorem base_setsl : type_of% (@Part1.h _ _ _ J15.pt J15.eq_2) := @Part1.h _ _ _ J15.pt J15.eq_2
section
end
section
variable {prog : Program} {w : World} {A : Around} {E : Value → Shared → Prop} {s : Shared} {K : Frag} {x C : Addr} {ox : Obj} {od : Option Obj}
theorem inst_tail {value slice : PySem.Expr} {i : Value} {ops : List Value} {Q : Value → Shared → Prop} (X : K.In s.heap) (I : InstAt s.heap x ox C od) (hf : findIn K (.ref C) "__getitem__" = some (some (.builtin "list.__getitem__")))
  (h : wpAny (model prog w) A (getItem (.ref x) i) Q E s) (hs : subscripted slice false (.ref x) i = operate ops (getItem (.ref x) i)) (ht : ∀ r, letTemporaryGo value (.ref x) r = pure ()) :
  wpAny (model prog w) A (subscriptTail value slice (.ref x) i) Q E s := by
 unfold subscriptTail
 refine wpAny_bind ?_
 rw [getitemInPython_of_ne (by intro q; cases q)]
 refine wpAny_bind (inst_special X I hf ?_)
 have fin : wpAny (model prog w) A (subscripted slice false (.ref x) i) (fun r s₃ => wpAny (model prog w) A (letTemporaryGo value (.ref x) r >>= fun _ => pure r) Q E s₃) E s := by
  rw [hs]
  exact wpAny_operating (wpAny_mono h (fun r s₃ h₃ => wpAny_bind (wpAny_of_eq (ht r) (wpAny_pure h₃))) fun _ _ x => x)
 first
  | exact wpAny_pure (wpAny_bind fin)
  | exact wpAny_bind (wpAny_pure (wpAny_bind fin))
  | exact wpAny_bind fin
theorem base_getsl {sl : Addr} {vs : List Value} {n : Nat} {vl vu : Value} {lo hi : Option Int} {Q : Value → Shared → Prop} (X : K.In s.heap) (I : InstAt s.heap x ox C od) (hq : noSeq K C = true) (hm : mroIn K C (.type "list") = some true)
  (hf : findIn K (.ref C) "__getitem__" = some (some (.builtin "list.__getitem__"))) (hd : ox.data = .seq vs.toArray n) (hs : s.heap.IsSliceOf sl vl vu .none) (pl : IsPart vl lo) (pu : IsPart vu hi) (hz : vs.length < 500)
  (h : Q (.ref s.heap.objs.size) { s with heap := s.heap.push { cls := .type "list", data := .seq (kms_pick vs lo hi).toArray } }) :
  wpAny (model prog w) A (getItem (.ref x) (.ref sl)) Q E s := by
 obtain ⟨os, hos, hcs, hds⟩ := id hs
 have hTs : s.TypeIs (.ref sl) "slice" := ⟨os, hos, hcs⟩
 unfold getItem
 try with_reducible refine wpAny_holding ?_
 first | refine wpAny_bind (wpAny_pure ?_) | skip
 refine wpAny_bind (inst_seqKey X I hq ?_)
 refine wpAny_bind (inst_call X I hf slot_list_getitem.bind ?_)
 refine base_entry X I hm (by decide +kernel : splitId "list.__getitem__" = some ("list", "__getitem__")) (by decide +kernel) (by decide +kernel) entry_list_getitem ?_ (args_list_getitem _ _)
 show wpAny _ _ (Builtin.List.listSubscript? (.ref sl) >>= _) _ _ s
 refine wpAny_bind ?_
 unfold Builtin.List.listSubscript?
 refine wpAny_bind (wpAny_specialOf hTs slice_no_index ?_)
 simp only [Option.isNone_none, if_true]
 refine wpAny_pure ?_
 show wpAny _ _ (typeOf (.ref sl) >>= _) _ _ s
 refine wpAny_bind (wpAny_typeOf hTs ?_)
 rw [if_neg (by decide)]
 rw [listSliceParts_eq]
 refine wpAny_bind (wpAny_bind (wpAny_field hos hds (x := .none) rfl (wpAny_bind (wpAny_listPart .none ?_))))
 rw [if_neg (show ¬ ((rawPart none == rawInt 0) = true) from Bool.false_ne_true)]
 refine wpAny_bind (wpAny_field hos hds (x := vl) rfl (wpAny_bind (wpAny_listPart pl ?_)))
 refine wpAny_bind (wpAny_field hos hds (x := vu) rfl (wpAny_bind (wpAny_listPart pu (wpAny_pure ?_))))
 unfold Builtin.List.listItems
 refine wpAny_bind (wpAny_bind (wpAny_seqItems I.at_ hd (wpAny_pure ?_)))
 refine wpAny_bind (wpAny_of_eq (sliceIndices_raw lo hi none vs.toArray.size (by simp)) ?_)
 have e := kms_pick_eq vs.toArray lo hi
 have hsz := slicePick_size_le vs.toArray lo hi none
 rw [show vs.toArray.toList = vs from rfl] at e
 rw [← e] at h
 refine wpAny_bind (wpAny_newObj_type (wpAny_pure ⟨_, rfl, wpAny_pure h⟩) (Nat.le_trans hsz (by simp [sizeLine]; lia)))
theorem acc_getsl {AD L : Addr} {h₀ : Heap} {m : Str → Option Value} {news : List (Addr × Obj)} {value slice : PySem.Expr} {vs zs : List Value} {n k : Nat} {es : List DictEntry} {vl vu : Value} {lo hi : Option Int} {ops : List Value} {Q : Value → Shared → Prop}
  (X : K.In h₀) (F : Fr h₀ L s.heap m) (N : News h₀ L s.heap news) (h1 : (x, accObj AD vs n) ∈ news) (h2 : (AD, dictOf es k) ∈ news) (hf : findIn K (.ref 200) "__getitem__" = some (some (.builtin "list.__getitem__")))
  (hq : noSeq K 200 = true) (hm : mroIn K 200 (.type "list") = some true) (pl : IsPart vl lo) (pu : IsPart vu hi) (hz : vs.length < 500) (e : kms_pick vs lo hi = zs)
  (h : ∀ D h', Fr h₀ L h' m → News h₀ L h' ((D, listOf zs.toArray 0) :: news) → (∀ p ∈ news, p.1 < D) → Q (.ref D) { s with heap := h' })
  (hs : subscripted slice false (.ref x) (.ref s.heap.objs.size) = operate ops (getItem (.ref x) (.ref s.heap.objs.size))) (ht : ∀ r, letTemporaryGo value (.ref x) r = pure ()) :
  wpAny (model prog w) A (subscriptTail value slice (.ref x) (.ref s.heap.objs.size)) Q E { s with heap := s.heap.push { cls := .type "slice", data := .fields #[vl, vu, .none] } } := by
 have Fs := F.push { cls := .type "slice", data := .fields #[vl, vu, .none] }
 have Ns := N.push F { cls := .type "slice", data := .fields #[vl, vu, .none] }
 have Ns' : News h₀ L (s.heap.push { cls := .type "slice", data := .fields #[vl, vu, .none] }) news := fun p hp => Ns p (.tail _ hp)
 have I1 := acc_inst Ns' h1 h2
 refine inst_tail (s := { s with heap := s.heap.push { cls := .type "slice", data := .fields #[vl, vu, .none] } }) (X.keeps Fs.keep) I1 hf
  (base_getsl (X.keeps Fs.keep) I1 hq hm hf rfl ⟨_, (Ns _ (.head _)).1, rfl, rfl⟩ pl pu hz ?_) hs ht
 rw [e]
 exact h _ _ (Fs.push _) (Ns'.push Fs _) fun p hp => Heap.lt_size (Ns' p hp).1
theorem acc_setsl {AD L l : Addr} {h₀ : Heap} {m : Str → Option Value} {news news' : List (Addr × Obj)} {vs ws zs : List Value} {n n' nl k a b : Nat} {es : List DictEntry} {vl vu : Value} {lo hi : Option Int} {Q : Unit → Shared → Prop}
  (X : K.In h₀) (F : Fr h₀ L s.heap m) (N : News h₀ L s.heap news) (h1 : (x, accObj AD vs n) ∈ news) (h2 : (AD, dictOf es k) ∈ news) (hl : (l, listOf ws.toArray nl) ∈ news) (hne : x ≠ l)
  (hf : findIn K (.ref 200) "__setitem__" = some (some (.builtin "list.__setitem__"))) (hq : noSeq K 200 = true) (hm : mroIn K 200 (.type "list") = some true) (pl : IsPart vl lo) (pu : IsPart vu hi)
  (hbd : sliceBounds lo hi none vs.length = ((a : Int), (b : Int), 1)) (hz : vs.length < 500) (hz2 : ws.length < 500) (hzs : vs.take a ++ ws ++ vs.drop (max a b) = zs) (hzl : zs.length < 1000) (hn : n' = if zs.length = vs.length then n else n + 1)
  (U : Upd x (accObj AD vs n) (accObj AD zs n') news news') (h : ∀ h', Fr h₀ L h' m → News h₀ L h' news' → Q () { s with heap := h' }) :
  wpAny (model prog w) A (setItem (.ref x) (.ref s.heap.objs.size) (.ref l)) Q E { s with heap := s.heap.push { cls := .type "slice", data := .fields #[vl, vu, .none] } } := by
 have Fs := F.push { cls := .type "slice", data := .fields #[vl, vu, .none] }
 have Ns := N.push F { cls := .type "slice", data := .fields #[vl, vu, .none] }
 have Ns' : News h₀ L (s.heap.push { cls := .type "slice", data := .fields #[vl, vu, .none] }) news := fun p hp => Ns p (.tail _ hp)
 have I1 := acc_inst Ns' h1 h2
 refine base_setsl (s := { s with heap := s.heap.push { cls := .type "slice", data := .fields #[vl, vu, .none] } }) (X.keeps Fs.keep) I1 hq hm hf rfl (Ns'.isList hl) hne ⟨_, (Ns _ (.head _)).1, rfl, rfl⟩ pl pu hbd hz hz2 ?_
 refine acc_update (vs' := zs) Fs Ns' ?_ hn U (by omega) hzl fun h5 F5 N5 => h h5 F5 N5
 rw [← hzs]
 have e : (max (a : Int) b).toNat = max a b := by omega
 rw [e]
 apply Array.toList_inj.mp
 simp
 exact List.take_of_length_le (by simp)
end
section
variable {prog : Program} {w : World} {A : Around} {E : Value → Shared → Prop} {s : Shared} {K : Frag} {x C : Addr} {ox : Obj} {od : Option Obj}
theorem base_getit {vs : List Value} {n : Nat} {k : Int} {u : Tok} {y : Value} {Q : Value → Shared → Prop} (X : K.In s.heap) (I : InstAt s.heap x ox C od) (hq : noSeq K C = true) (hm : mroIn K C (.type "list") = some true)
  (hf : findIn K (.ref C) "__getitem__" = some (some (.builtin "list.__getitem__"))) (hd : ox.data = .seq vs.toArray n) (h0 : 0 ≤ k) (hfit : k < 2 ^ 63) (hy : vs[k.toNat]? = some y) (h : Q y s) :
  wpAny (model prog w) A (getItem (.ref x) (.int k u)) Q E s := by
 unfold getItem
 try with_reducible refine wpAny_holding ?_
 first | refine wpAny_bind (wpAny_pure ?_) | skip
 refine wpAny_bind (inst_seqKey X I hq ?_)
 refine wpAny_bind (inst_call X I hf slot_list_getitem.bind ?_)
 refine base_entry X I hm (by decide +kernel : splitId "list.__getitem__" = some ("list", "__getitem__")) (by decide +kernel) (by decide +kernel) entry_list_getitem ?_ (args_list_getitem _ _)
 show wpAny _ _ (Builtin.List.listSubscript? (.int k u) >>= _) _ _ s
 refine wpAny_bind (wpAny_listSubscript_int (fitsIndex_of h0 hfit) ?_)
 clear hfit
 obtain ⟨j, rfl⟩ := Int.eq_ofNat_of_zero_le h0
 have hx' : vs.toArray[j]? = some y := by simpa using hy
 show wpAny _ _ ((seqItemAt x j >>= fun r => pure (r.map (j, ·))) >>= _) _ _ s
 refine wpAny_bind (wpAny_bind (wpAny_seqItemAt I.at_ hd (wpAny_pure ?_)))
 rw [hx']
 first
  | exact wpAny_bind (wpAny_pure (wpAny_pure ⟨y, rfl, wpAny_pure h⟩))
  | exact wpAny_pure ⟨y, rfl, wpAny_pure h⟩
theorem acc_item {AD L : Addr} {h₀ : Heap} {m : Str → Option Value} {news : List (Addr × Obj)} {value slice : PySem.Expr} {vs : List Value} {n k i : Nat} {z : Int} {es : List DictEntry} {u : Tok} {y : Value} {ops : List Value} {Q : Value → Shared → Prop}
  (X : K.In h₀) (F : Fr h₀ L s.heap m) (N : News h₀ L s.heap news) (h1 : (x, accObj AD vs n) ∈ news) (h2 : (AD, dictOf es k) ∈ news) (hf : findIn K (.ref 200) "__getitem__" = some (some (.builtin "list.__getitem__")))
  (hq : noSeq K 200 = true) (hm : mroIn K 200 (.type "list") = some true) (hi : i < 500) (hzi : z = i) (hy : vs[i]? = some y) (h : Q y s)
  (hs : subscripted slice false (.ref x) (.int z u) = operate ops (getItem (.ref x) (.int z u))) (ht : ∀ r, letTemporaryGo value (.ref x) r = pure ()) :
  wpAny (model prog w) A (subscriptTail value slice (.ref x) (.int z u)) Q E s := by
 subst hzi
 have I1 := acc_inst N h1 h2
 exact inst_tail (X.keeps F.keep) I1 hf (base_getit (X.keeps F.keep) I1 hq hm hf rfl (by lia) (by lia) (by simpa using hy) h) hs ht
end
section
variable {prog : Program} {w : World} {A : Around} {E : Value → Shared → Prop} {s : Shared} {K : Frag} {x C : Addr} {ox : Obj} {od : Option Obj} {name : Str} {expr : Bool}
theorem args_list_ga2 (a b : Value) : argsOk "list.__getattribute__" ⟨[a, b], []⟩ := by unfold argsOk; kernel_rfl
theorem acc_get {v : Value} {Q : Value → Shared → Prop} (X : K.In s.heap) (I : InstAt s.heap x ox C od) (hga : findIn K (.ref C) "__getattribute__" = some (some (.builtin "list.__getattribute__")))
  (hk : findIn K (.ref C) "__getattr__" = some none) (hm : mroIn K C (.type "list") = some true)
  (hf : findObj K C od name = some (.value v)) (hh : handedIn v = true) (h : Q v { s with toks := s.toks + 1 }) : wpAny (model prog w) A (getAttr (.ref x) name expr) Q E s := by
 obtain ⟨hp, g, d, t, os⟩ := s
 have L0 := I.type (M := model prog w)
 have L1 := looks_findIn (M := model prog w) X hga
 have L2 := looks_find (M := model prog w) X I hf
 have L3 : Looks (model prog w) hp (hookBefore (.ref C)) none := looks_hook X hk
 unfold getAttr getAttrBy
 refine wpAny_bind (wpAny_mkText (wpAny_holding (wpAny_bind (L0.at (wpAny_bind (L1.at ?_))))))
 show wpAny _ _ (if (onTheHeap (Value.ref C) && Value.builtin "list.__getattribute__" == Value.builtin "object.__getattribute__") = true then _ else _) _ _ _
 rw [show (Value.builtin "list.__getattribute__" == Value.builtin "object.__getattribute__") = false from by decide +kernel, Bool.and_false, if_neg Bool.false_ne_true]
 unfold getAttrByItsOwn
 refine wpAny_bind (L3.at ?_)
 refine wpAny_bind (wpAny_attempt (wpAny_holding ?_))
 unfold callGetattribute
 rw [if_neg (by cases expr <;> decide)]
 unfold boundAndCalled
 rw [PySem.F.slot_list_getattribute.bind]
 refine wpAny_bind (wpAny_pure ?_)
 refine base_entry (s := ⟨hp, g, d, t + 1, os⟩) X I hm (by decide +kernel : splitId "list.__getattribute__" = some ("list", "__getattribute__")) (by decide +kernel) (by decide +kernel) am_entry_list_getattribute ?_ (args_list_ga2 _ _)
 refine wpAny_bind (wpAny_pure (wpAny_bind (wpAny_pure (wpAny_bind (L0.at (wpAny_bind (L2.at ?_)))))))
 refine wpAny_pure ⟨v, rfl, ?_⟩
 show wpAny _ _ (handedOut v) _ _ _
 rw [handedOut_of hh]; exact wpAny_pure h
end
section
open Builtin Builtin.ObjectAttr
noncomputable def overList (K : Frag) (C : Addr) : Bool := (clsIn K C).any fun cd => cd.mro == [.ref C, .type "list", .type "object"] && cd.hasDict
theorem list_lets (self : Value) : refuseLoop self "__setattr__" [.type "list", .type "object"] = pure () := by kernel_rfl
theorem updF_upd {d : Addr} {o o' : Obj} : ∀ {l : List (Addr × Obj)} {g : Obj → List (Addr × Obj)}, UpdF d o l g → Upd d o o' l (g o')
 | _, _, .head h => .head h
 | _, _, .tail h r => .tail h (updF_upd r)
section
variable {prog : Program} {w : World} {A : Around} {E : Value → Shared → Prop} {s : Shared} {K : Frag} {x C L AD : Addr} {h₀ : Heap} {m : Str → Option Value} {news news' : List (Addr × Obj)} {R : Result → Shared → Prop}
theorem acc_osa {vs : List Value} {n k k' : Nat} {es es' : List DictEntry} {name : Str} {tn : Tok} {v : Value} (X : K.In s.heap) (F : Fr h₀ L s.heap m) (N : News h₀ L s.heap news) (h1 : (x, accObj AD vs n) ∈ news)
  (ho : overList K 200 = true) (ha : findIn K (.ref 200) name = some none) (hr : aRefKeyMayBeTheName name es.toArray = false) (hz : es'.length ≤ 1000)
  (e : putL name (PyData.keyHash w.params name) (.str name s.toks) v es = es') (ek : putN name es k = k') (U : Upd AD (dictOf es k) (dictOf es' k') news news')
  (h : ∀ h' tk', Fr h₀ L h' m → News h₀ L h' news' → R (.ok (.ret .none)) { s with heap := h', toks := tk' }) :
  codeAny (model prog w) A (.call (.builtin "object.__setattr__") ⟨[.ref x, .str name tn, v], []⟩) R s := by
 obtain ⟨cd, hc, hm⟩ := any_some ho
 obtain ⟨hm, hdict⟩ := Bool.and_eq_true_iff.mp hm
 have hm := beq_iff_eq.mp hm
 obtain ⟨pre, post, rfl, rfl, a, b⟩ := U.split
 have D := N (AD, dictOf es k) (by simp)
 have I : InstAt s.heap x (accObj AD vs n) 200 (some (dictOf es k)) := ⟨(N _ h1).1, rfl, rfl, D.1⟩
 have SF := PySem.F.store_object
 have mro : Looks (model prog w) s.heap (mroOf (.ref 200)) [.ref 200, .type "list", .type "object"] := hm ▸ (looks_clsIn X hc).andThen .now
 have isO : Looks (model prog w) s.heap (isInstance (.ref x) (.type "object")) true := I.type.andThen (looks_mroIn X (by unfold mroIn; rw [hc, Option.bind_some, hm]; rfl))
 refine codeAny_call_builtin SF.slot.plain SF.entry (@check_slot (model prog w) _ _ _ "object.__setattr__" "object" "__setattr__" (.ref x) _ [] _ SF.kind SF.split isO (SF.args (.ref x) _ v) ?_)
 rw [osa_eq, refuse_eq]
 refine wpAny_bind (wpAny_bind (I.type.here (wpAny_bind (mro.here ?_))))
 rw [refuseLoop_ref, list_lets]
 refine wpAny_pure (wpAny_bind (I.type.here (wpAny_bind ((looks_findIn X ha).here (wpAny_bind (wpAny_pure ?_))))))
 show wpAny _ _ (storeInOwnDict _ _ _ _ _ _) _ _ _
 unfold storeInOwnDict
 refine wpAny_bind (wpAny_pure (wpAny_bind (wpAny_bind (wpAny_loadPart (N _ h1).1 (wpAny_bind ((looks_clsIn X hc).here ?_))))))
 rw [hdict]
 refine wpAny_pure (a := some AD) ?_
 show wpAny _ _ (storeInDict _ _ _ _) _ _ _
 unfold storeInDict
 refine wpAny_bind (wpAny_pure (wpAny_bind ?_))
 unfold nsSet
 refine wpAny_bind (wpAny_bind (wpAny_askSetting (wpAny_pure (wpAny_bind (wpAny_mkText (wpAny_bind (wpAny_loadPart D.1 ?_)))))))
 dsimp only
 rw [hr]
 have U2 := news_upd (f := Obj.putName name (PyData.keyHash w.params name) (.str name s.toks) v) F N a b (by rw [putName_dict, e, ek]) rfl
 refine wpAny_updatePart D.1 ?_
 refine wpAny_bind (wpAny_lookBehind (U2.2 (AD, dictOf es' k') (by simp)).1 (pastItsLine_dict (by rw [List.size_toArray, sizeLine_eq]; lia)) ?_)
 exact wpAny_pure (h _ _ U2.1 U2.2)
theorem acc_set {vs : List Value} {n k k' : Nat} {es es' : List DictEntry} {name : Str} {v : Value} {Q : Unit → Shared → Prop} (X : K.In h₀) (F : Fr h₀ L s.heap m) (N : News h₀ L s.heap news) (h1 : (x, accObj AD vs n) ∈ news) (h2 : (AD, dictOf es k) ∈ news)
  (hs : findIn K (.ref 200) "__setattr__" = some (some (.builtin "object.__setattr__"))) (ho : overList K 200 = true) (ha : findIn K (.ref 200) name = some none)
  (hr : aRefKeyMayBeTheName name es.toArray = false) (hz : es'.length ≤ 1000)
  (e : putL name (PyData.keyHash w.params name) (.str name (s.toks + 1)) v es = es') (ek : putN name es k = k') (U : Upd AD (dictOf es k) (dictOf es' k') news news')
  (h : ∀ h' tk', Fr h₀ L h' m → News h₀ L h' news' → Q () { s with heap := h', toks := tk' }) :
  wpAny (model prog w) A (setAttr (.ref x) name v) Q E s :=
 set_plain (X.keeps F.keep) (od := some (dictOf es k)) ⟨(N _ h1).1, rfl, rfl, (N _ h2).1⟩ hs (acc_osa (s := { s with toks := s.toks + 1 }) (X.keeps F.keep) F N h1 ho ha hr hz e ek U fun h' tk' F' N' => h h' tk' F' N')
end
end
theorem sb_slot_w : Slot "wrapper_descriptor" "__get__" "wrapper_descriptor.__get__" := .of (owner := "wrapper_descriptor") (n := "__get__") (by rw [typeLookup_type, builtinLookup_eq_fast]; kernel_rfl) (by decide +kernel) (by decide +kernel) (by decide +kernel)
 (by first | exact .inl (by decide +kernel) | exact .inr (by decide +kernel)) (by rw [isSubtype_type]; kernel_rfl)
theorem sb_slot_m : Slot "method_descriptor" "__get__" "method_descriptor.__get__" := .of (owner := "method_descriptor") (n := "__get__") (by rw [typeLookup_type, builtinLookup_eq_fast]; kernel_rfl) (by decide +kernel) (by decide +kernel) (by decide +kernel)
 (by first | exact .inl (by decide +kernel) | exact .inr (by decide +kernel)) (by rw [isSubtype_type]; kernel_rfl)
theorem sb_entry_w : entryFor table "wrapper_descriptor.__get__" = some Builtin.«wrapper_descriptor.__get__» := entryFor_of_tree (by kernel_rfl)
theorem sb_entry_m : entryFor table "method_descriptor.__get__" = some Builtin.«method_descriptor.__get__» := entryFor_of_tree (by kernel_rfl)
theorem sb_args_w (a b c : Value) : argsOk "wrapper_descriptor.__get__" ⟨[a, b, c], []⟩ := by unfold argsOk; kernel_rfl
theorem sb_args_m (a b c : Value) : argsOk "method_descriptor.__get__" ⟨[a, b, c], []⟩ := by unfold argsOk; kernel_rfl
noncomputable abbrev boundObj (B id : String) (x : Addr) : Obj := { cls := .type B, dict := none, data := .fields #[.builtin id, .ref x], slots := #[] }
noncomputable def BoundBy (id T gid B : String) : Prop := ∃ Bi, Slot T "__get__" gid ∧ entryFor table gid = some Bi ∧ (∀ a b c : Value, argsOk gid ⟨[a, b, c], []⟩) ∧ (∀ {M : Model} (s : Shared), s.TypeIs (.builtin id) T) ∧
 ∀ {prog : Program} {w : World} {A : Around} {E : Value → Shared → Prop} {s : Shared} {x C : Addr} {Q : Fin → Shared → Prop}, (∀ M : Model, Looks M s.heap (isInstance (.ref x) (.type "list")) true) →
  Q (.done (.ret (.ref s.heap.objs.size))) { s with heap := s.heap.push (boundObj B id x) } → wpAny (model prog w) A (Bi ⟨[.builtin id, .ref x, .ref C], []⟩) Q E s
theorem sb_len : BoundBy "list.__len__" "wrapper_descriptor" "wrapper_descriptor.__get__" "method-wrapper" := by
 refine ⟨_, sb_slot_w, sb_entry_w, sb_args_w, fun {M} s => ?_, ?_⟩
 ·show typeOf (.builtin "list.__len__") = pure (.type "wrapper_descriptor")
  kernel_rfl
 ·intro prog w A E s x C Q hi hq
  unfold Builtin.«wrapper_descriptor.__get__»
  refine wpAny_bind (wpAny_of_eq (a := (Value.builtin "list.__len__", some (Value.ref x), some (Value.ref C))) (by kernel_rfl) ?_)
  dsimp only
  k_delta "bindBuiltin"
  dsimp only
  k_delta "checkInstance"
  refine wpAny_bind (wpAny_bind (wpAny_of_eq (a := (Str.ofString "__len__", Value.type "list")) (by kernel_rfl) ?_))
  dsimp only
  refine wpAny_bind ((hi _).here ?_)
  simp only [Bool.not_true, Bool.false_eq_true, if_false]
  exact wpAny_pure (wpAny_bind (wpAny_newObj_type (wpAny_pure hq) (by size_fits)))
theorem sb_init : BoundBy "list.__init__" "wrapper_descriptor" "wrapper_descriptor.__get__" "method-wrapper" := by
 refine ⟨_, sb_slot_w, sb_entry_w, sb_args_w, fun {M} s => ?_, ?_⟩
 ·show typeOf (.builtin "list.__init__") = pure (.type "wrapper_descriptor")
  kernel_rfl
 ·intro prog w A E s x C Q hi hq
  unfold Builtin.«wrapper_descriptor.__get__»
  refine wpAny_bind (wpAny_of_eq (a := (Value.builtin "list.__init__", some (Value.ref x), some (Value.ref C))) (by kernel_rfl) ?_)
  dsimp only
  k_delta "bindBuiltin"
  dsimp only
  k_delta "checkInstance"
  refine wpAny_bind (wpAny_bind (wpAny_of_eq (a := (Str.ofString "__init__", Value.type "list")) (by kernel_rfl) ?_))
  dsimp only
  refine wpAny_bind ((hi _).here ?_)
  simp only [Bool.not_true, Bool.false_eq_true, if_false]
  exact wpAny_pure (wpAny_bind (wpAny_newObj_type (wpAny_pure hq) (by size_fits)))
theorem sb_pop : BoundBy "list.pop" "method_descriptor" "method_descriptor.__get__" "builtin_function_or_method" := by
 refine ⟨_, sb_slot_m, sb_entry_m, sb_args_m, fun {M} s => ?_, ?_⟩
 ·show typeOf (.builtin "list.pop") = pure (.type "method_descriptor")
  kernel_rfl
 ·intro prog w A E s x C Q hi hq
  unfold Builtin.«method_descriptor.__get__»
  refine wpAny_bind (wpAny_of_eq (a := (Value.builtin "list.pop", some (Value.ref x), some (Value.ref C))) (by kernel_rfl) ?_)
  dsimp only
  rw [if_neg (by decide +kernel)]
  k_delta "bindBuiltin"
  dsimp only
  k_delta "checkInstance"
  refine wpAny_bind (wpAny_bind (wpAny_of_eq (a := (Str.ofString "pop", Value.type "list")) (by kernel_rfl) ?_))
  dsimp only
  refine wpAny_bind ((hi _).here ?_)
  simp only [Bool.not_true, Bool.false_eq_true, if_false]
  exact wpAny_pure (wpAny_bind (wpAny_newObj_type (wpAny_pure hq) (by size_fits)))
section
variable {prog : Program} {w : World} {A : Around} {E : Value → Shared → Prop} {s : Shared} {h₀ : Heap} {L so D x C : Addr} {m : Str → Option Value} {news : List (Addr × Obj)} {K : Frag} {ox : Obj} {odx : Option Obj} {id T gid B : String} {name : Str}
theorem sup_ga {cd : ClassData} {tk : Tok} {Q : Fin → Shared → Prop} (hso : s.heap.get? so = some (ks_superObj D x C)) (X : K.In s.heap) (I : InstAt s.heap x ox C odx) (hb : BoundBy id T gid B) (ho : nsIn K cStatics "thirdparty.any" = some none)
  (hc : clsIn K C = some cd) (hm : alongIn K name ((cd.mro.dropWhile (· != .ref D)).drop 1) = some (some (.builtin id))) (hml : mroIn K C (.type "list") = some true) (hn : (name == ("__class__" : Str)) = false)
  (hq : Q (.done (.ret (.ref s.heap.objs.size))) { s with heap := s.heap.push (boundObj B id x) }) :
  wpAny (model prog w) A (Builtin.«super.__getattribute__» ⟨[.ref so, .str name tk], []⟩) Q E s := by
 obtain ⟨Bi, sl, en, ar, ty, run⟩ := hb
 obtain ⟨h, g, d, t, os⟩ := s
 have hno := looks_opaque (M := model prog w) X ho (C := C)
 have hC : Looks (model prog w) h (mroOf (.ref C)) cd.mro := (looks_clsIn X hc).andThen .now
 have hlk := sl.lookup
 have hne : (Value.ref x == Value.ref C) = false := by simp [ks_ne X I hc]
 have hTf : (⟨h, g, d, t, os⟩ : Shared).TypeIs (.builtin id) T := ty (M := model prog w) _
 have hL : ∀ M : Model, Looks M h (isInstance (.ref x) (.type "list")) true := fun M => I.type.andThen (looks_mroIn X hml)
 have hdt : (ks_superObj D x C).data = .fields #[.ref D, .ref x, .ref C] := rfl
 have f0 : (#[.ref D, .ref x, .ref C] : Array Value)[0]? = some (.ref D) := rfl
 have f1 : (#[.ref D, .ref x, .ref C] : Array Value)[1]? = some (.ref x) := rfl
 have f2 : (#[.ref D, .ref x, .ref C] : Array Value)[2]? = some (.ref C) := rfl
 unfold Builtin.«super.__getattribute__»
 repeat (first
  | (with_reducible refine wpAny_field hso hdt f0 ?_) | (with_reducible refine wpAny_field hso hdt f1 ?_) | (with_reducible refine wpAny_field hso hdt f2 ?_)
  | (with_reducible refine ks_wpAny_notOpaque hno ?_)
  | (with_reducible refine Looks.at hC ?_)
  | (refine ks_forIn_along X (fun _ _ => rfl) rfl ?_ hm)
  | (with_reducible refine wpAny_typeOf hTf ?_)
  | (with_reducible refine wpAny_call_entry sl hTf en ?_ (ar _ _ _))
  | (refine run (s := ⟨h, g, d, t, os⟩) hL ?_)
  | (with_reducible refine ⟨_, rfl, ?_⟩)
  | (simp only [hn, hne, Bool.or_false, Bool.false_eq_true, if_false])
  | wp_step
  | dsimp only)
 all_goals exact hq
theorem sup_method {pl : Sem Bool} {Q : Value × List Value → Shared → Prop} (F : Fr h₀ L s.heap m) (X₀ : K.In h₀) (N : News h₀ L s.heap news) (hso : (so, ks_superObj D x C) ∈ news) (I : InstAt s.heap x ox C odx) (hb : BoundBy id T gid B)
  (ho : nsIn K cStatics "thirdparty.any" = some none) (hm : ks_superIn K C D name = some (some (.builtin id))) (hml : mroIn K C (.type "list") = some true) (hn : (name == ("__class__" : Str)) = false)
  (h : ∀ q h', Fr h₀ L h' m → News h₀ L h' ((q, boundObj B id x) :: news) → (∀ p ∈ news, p.1 < q) → Q (.ref q, []) { s with heap := h', toks := s.toks + 1 }) :
  wpAny (model prog w) A (getMethod (.ref so) name pl) Q E s := by
 have X : K.In s.heap := X₀.keeps F.keep
 obtain ⟨hh, g, d, t, os⟩ := s
 unfold ks_superIn at hm
 cases hc : clsIn K C with
 | none => rw [hc] at hm; cases hm
 | some cd =>
  rw [hc] at hm
  have hT : ∀ t', (⟨hh, g, d, t', os⟩ : Shared).TypeIs (.ref so) "super" := fun _ => ⟨_, (N _ hso).1, rfl⟩
  have hlk := PySem.F.ks_slot_super_ga.lookup
  unfold getMethod
  refine wpAny_bind (wpAny_specialOf (hT _) hlk ?_)
  dsimp only
  rw [if_pos PySem.F.ks_canon_super_ga]
  unfold getAttr getAttrBy
  refine wpAny_bind (wpAny_bind (wpAny_mkText (wpAny_holding (wpAny_bind (wpAny_typeOf (hT _) (wpAny_bind (wpAny_of_eq hlk ?_)))))))
  show wpAny _ _ (getAttrByItsOwn (.ref so) (.str name t) (.type "super") (.builtin "super.__getattribute__") true false) _ _ _
  unfold getAttrByItsOwn hookBefore callGetattribute boundAndCalled
  refine wpAny_bind (wpAny_of_eq (show (if onTheHeap (.type "super") then typeLookup (.type "super") "__getattr__" else pure none) = pure none from rfl) ?_)
  refine wpAny_bind (wpAny_attempt (wpAny_holding ?_))
  show wpAny _ _ (bindSpecial (.builtin "super.__getattribute__") (.ref so) >>= _) _ _ _
  refine wpAny_bind (wpAny_of_eq (PySem.F.ks_slot_super_ga.bind _) ?_)
  refine wpAny_mono (Q := fun v s' => v = .ref hh.objs.size ∧ s' = ⟨hh.push (boundObj B id x), g, d, t + 1, os⟩) (E := fun _ _ => False)
   (wpAny_call_entry PySem.F.ks_slot_super_ga (hT _) PySem.F.ks_entry_super_ga (sup_ga (s := ⟨hh, g, d, t + 1, os⟩) (N _ hso).1 X I hb ho hc hm hml hn ⟨_, rfl, rfl, rfl⟩) (PySem.F.ks_gaArgs_super _ _)) (fun v s' hv => ?_) fun _ _ z => z.elim
  obtain ⟨rfl, rfl⟩ := hv
  refine wpAny_pure (wpAny_pure ?_)
  obtain ⟨F', N', l'⟩ := ks_newsPush (s := ⟨hh, g, d, t, os⟩) (o := boundObj B id x) F N rfl (Heap.get?_push_at rfl rfl) (fun b o e => Heap.get?_push_of_some _ e)
  exact h _ _ F' N' l'
theorem bound_call {b : Addr} {args : List Value} {Q : Value → Shared → Prop} (hb : s.heap.get? b = some (boundObj B id x)) (hB : B = "method-wrapper" ∨ B = "builtin_function_or_method")
  (hk : ∀ (A : Around) (Q' : Unit → Shared → Prop) (E' : Value → Shared → Prop), Q' () s → wpAny (model prog w) A (checkBoundCall id ⟨.ref x :: args, []⟩) Q' E' s) (hq : plainId id = true) {bi : Builtin} (he : entryFor table id = some bi)
  (hc : wpAny (model prog w) A.in1 (bi ⟨.ref x :: args, []⟩) (fun fin s' => ∃ v, fin = .done (.ret v) ∧ Q v s') E s) :
  wpAny (model prog w) A (call (.ref b) args) Q E s := by
 refine wpAny_call (codeAny_of_tree ?_)
 show wpAny _ A.in1 (callAny (.ref b) ⟨args, []⟩) _ _ s
 unfold callAny
 refine wpAny_bind (wpAny_load hb ?_)
 dsimp only
 rw [if_pos (by rcases hB with rfl | rfl <;> decide)]
 show wpAny _ _ (if (Value.type B != Value.type "method") = true then (checkBoundCall id ⟨.ref x :: args, []⟩ >>= fun _ => again (.builtin id ⟨.ref x :: args, []⟩)) else _) _ _ _
 rw [if_pos (by rcases hB with rfl | rfl <;> decide)]
 refine wpAny_bind (hk _ _ _ (wpAny_pure ⟨plainId_quiet hq _, codeAny_builtin he ?_⟩))
 rw [Around.under_plainId hq _]
 refine wpAny_mono hc (fun fin s' h' => ?_) fun _ _ h' => h'
 obtain ⟨v, rfl, hv⟩ := h'; exact hv
end
section
variable {prog : Program} {w : World} {A : Around} {E : Value → Shared → Prop} {s : Shared} {h₀ : Heap} {L x AD : Addr} {m : Str → Option Value} {news news' : List (Addr × Obj)} {K : Frag} {vs : List Value} {n : Nat} {od : Option Obj}
theorem sb_plain_len : plainId "list.__len__" = true := by decide +kernel
theorem sb_plain_pop : plainId "list.pop" = true := by decide +kernel
theorem sb_plain_init : plainId "list.__init__" = true := by decide +kernel
theorem bnd_len (A : Around) (Q' : Unit → Shared → Prop) (E' : Value → Shared → Prop) (h : Q' () s) : wpAny (model prog w) A (checkBoundCall "list.__len__" ⟨[.ref x], []⟩) Q' E' s :=
 wpAny_of_eq (a := ()) (by kernel_rfl) h
theorem bnd_init (A : Around) (Q' : Unit → Shared → Prop) (E' : Value → Shared → Prop) (h : Q' () s) : wpAny (model prog w) A (checkBoundCall "list.__init__" ⟨[.ref x], []⟩) Q' E' s :=
 wpAny_of_eq (a := ()) (by kernel_rfl) h
theorem run_len {o : Obj} {Q : Value → Shared → Prop} (hx : s.heap.get? x = some o) (hd : o.data = .seq vs.toArray n) (h : Q (.int vs.length s.toks) { s with toks := s.toks + 1 }) :
  wpAny (model prog w) A (Builtin.«list.__len__» ⟨[.ref x], []⟩) (fun fin s' => ∃ v, fin = .done (.ret v) ∧ Q v s') E s := by
 unfold Builtin.«list.__len__»
 refine wpAny_bind (wpAny_of_eq (a := (Value.ref x, [])) (by kernel_rfl) ?_)
 dsimp only
 refine wpAny_bind (wpAny_bind (wpAny_loadPart hx ?_))
 rw [hd]
 refine wpAny_pure ?_
 unfold retInt
 refine wpAny_bind (wpAny_mkInt ?_)
 refine wpAny_pure ⟨_, rfl, ?_⟩
 rw [List.size_toArray]; exact h
theorem run_init {Q : Value → Shared → Prop} (F : Fr h₀ L s.heap m) (N : News h₀ L s.heap news) (h1 : (x, accObj AD [] n) ∈ news) (h : ∀ h', Fr h₀ L h' m → News h₀ L h' news → Q .none { s with heap := h' }) :
  wpAny (model prog w) A (Builtin.«list.__init__» ⟨[.ref x], []⟩) (fun fin s' => ∃ v, fin = .done (.ret v) ∧ Q v s') E s := by
 unfold Builtin.«list.__init__»
 dsimp only
 rw [if_neg (by decide), if_neg (by decide)]
 unfold Builtin.List.listItems
 refine wpAny_bind (wpAny_bind (wpAny_seqItems (N _ h1).1 rfl (wpAny_pure ?_)))
 refine wpAny_bind ?_
 show wpAny _ _ (updateSeq x _) _ _ _
 have N1 : News h₀ L s.heap ((x, accObj AD [] n) :: news.filter (fun p => p.1 != x)) := fun p hp => by
  refine m_el hp (m_all ?_ ?_)
  ·exact N _ h1
  ·intro p hp; exact N _ ((List.mem_filter.mp hp).1)
 refine acc_update (vs' := []) (n' := n) (news' := (x, accObj AD [] n) :: news.filter (fun p => p.1 != x)) F N1 rfl rfl (.head fun p hp => bne_iff_ne.mp (List.mem_filter.mp hp).2) (by decide) (by decide) fun h' F' N' => ?_
 refine wpAny_bind (wpAny_letGo ?_)
 refine wpAny_pure ⟨_, rfl, h h' F' fun p hp => ?_⟩
 by_cases e : p.1 = x
 ·have e1 := (N _ hp).1
  rw [e, (N _ h1).1] at e1
  have : p = (x, accObj AD [] n) := Prod.ext e (Option.some.inj e1).symm
  exact N' p (this ▸ .head _)
 ·exact N' p (.tail _ (List.mem_filter.mpr ⟨hp, bne_iff_ne.mpr e⟩))
theorem run_pop {p : List Value} {y : Value} {Q : Value → Shared → Prop} (F : Fr h₀ L s.heap m) (N : News h₀ L s.heap news) (U : Upd x (accObj AD (p ++ [y]) n) (accObj AD p (n + 1)) news news') (hz : p.length < 500)
  (h : ∀ h', Fr h₀ L h' m → News h₀ L h' news' → Q y { s with heap := h' }) :
  wpAny (model prog w) A (Builtin.«list.pop» ⟨[.ref x], []⟩) (fun fin s' => ∃ v, fin = .done (.ret v) ∧ Q v s') E s := by
 have h1 : (x, accObj AD (p ++ [y]) n) ∈ news := by
  obtain ⟨pre, post, rfl, rfl, a, b⟩ := U.split
  exact List.mem_append.mpr (.inr (.head _))
 unfold Builtin.«list.pop»
 refine wpAny_bind (wpAny_of_eq (a := (Value.ref x, [])) (by kernel_rfl) ?_)
 dsimp only
 refine wpAny_bind (wpAny_pure ?_)
 rw [if_neg (by decide)]
 unfold Builtin.List.listItems
 refine wpAny_bind (wpAny_bind (wpAny_seqItems (N _ h1).1 rfl (wpAny_pure ?_)))
 rw [if_neg (by simp)]
 have hk : seqIndex? (-1) (p ++ [y]).toArray.size = some p.length := by
  rw [PySem.MeetsSeq.seqIndex_neg (by lia) (by simp; lia)]; simp; lia
 have hy : (p ++ [y]).toArray[p.length]? = some y := by simp
 simp only [hk, hy, Option.bind_some, Option.map_some]
 refine wpAny_bind ?_
 show wpAny _ _ (updateSeq x _) _ _ _
 refine acc_update (vs' := p) F N ?_ ?_ U (by simp; lia) (by lia) fun h' F' N' => wpAny_pure ⟨_, rfl, h h' F' N'⟩
 ·rw [kl_erase, List.append_nil]
 ·simp
theorem method_fn {C f : Addr} {ox : Obj} {name : Str} {pl : Sem Bool} {Q : Value × List Value → Shared → Prop} (X : K.In s.heap) (I : InstAt s.heap x ox C od) (hga : findIn K (.ref C) "__getattribute__" = some (some (.builtin "list.__getattribute__"))) (hk : findIn K (.ref C) "__getattr__" = some none)
  (hf : findIn K (.ref C) name = some (some (.ref f))) (ht : typeIn K (.ref f) = some (.type "function")) (hs : shadowIn od name = some false) (h : Q (.ref f, [.ref x]) s) :
  wpAny (model prog w) A (getMethod (.ref x) name pl) Q E s := by
 have hcan : Manifest.canonical "list.__getattribute__" = "object.__getattribute__" := by decide +kernel
 unfold getMethod specialOf
 refine wpAny_bind (wpAny_bind (I.type.here ((looks_findIn X hga).here ?_)))
 dsimp only
 rw [hcan, if_neg (by decide)]
 refine wpAny_bind (wpAny_bind (I.type.here ((looks_findIn X hk).here ?_)))
 refine wpAny_bind (wpAny_bind (I.type.here ((looks_findIn X hf).here (wpAny_bind ((looks_typeIn X ht).here ?_)))))
 rw [if_neg (by decide +kernel)]
 refine wpAny_bind (wpAny_loadPart I.at_ ?_)
 have hd := I.dict
 cases e : ox.dict with
 | none => exact wpAny_bind (wpAny_rule (wpAny_pure h))
 | some dx =>
  cases od with
  | none => rw [e] at hd; exact hd.elim
  | some o =>
   rw [e] at hd
   obtain ⟨r, a, b⟩ := Option.map_eq_some_iff.mp hs
   refine wpAny_bind (wpAny_bind (wpAny_loadPart hd ?_))
   rw [nsLook_of a]
   refine wpAny_pure ?_
   rw [b]
   exact wpAny_bind (wpAny_rule (wpAny_pure h))
theorem keeps_B {M : Model} {q : Addr} {B id : String} (hB : B = "method-wrapper" ∨ B = "builtin_function_or_method") (h : Heap) (X : h.get? q = some (boundObj B id x)) :
  ∃ k, (k = Keeper.frame ∨ k = Keeper.machine ∨ k = Keeper.boundFrame) ∧ Looks M h (keeperOf (.ref q)) k := by
 refine ⟨.machine, .inr (.inl rfl), (Looks.ld (part := none) X).andThen ?_⟩
 rcases hB with rfl | rfl <;> exact .now
theorem callWith_B0 {M : Model} {env : Env} {pos : Pos} {first : List Value} {q : Addr} {B id : String} {Q : Value → Shared → Prop} (X : s.heap.get? q = some (boundObj B id x)) (hB : B = "method-wrapper" ∨ B = "builtin_function_or_method") (h : wpAny M A (call (.ref q) (first ++ [])) Q E s) :
  wpAny M A (callWith pos (.ref q) first (backTo pos (starEach [] env)) []) Q E s :=
 callWith_of rfl (keeps_B hB) (evalArgs_nil3 ⟨X, h⟩)
theorem bnd_pop {C : Addr} {ox : Obj} (X : K.In s.heap) (I : InstAt s.heap x ox C od) (hq : (clsIn K C).map (fun cd => cd.qualname.toString) = some "_Accumulator") (hm : mroIn K C (.type "module") = some false) (ht : typeIn K (.ref C) = some (.type "type"))
  (A : Around) (Q' : Unit → Shared → Prop) (E' : Value → Shared → Prop) (h : Q' () s) : wpAny (model prog w) A (checkBoundCall "list.pop" ⟨[.ref x], []⟩) Q' E' s := by
 have isM : Looks (model prog w) s.heap (isInstance (.ref x) (.type "module")) false := I.type.andThen (looks_mroIn X hm)
 have nocls : ∀ c, ox.data ≠ .cls c := fun c e => by have := I.no; unfold notCls at this; rw [e] at this; exact Bool.noConfusion this
 obtain ⟨cd, hc, hn⟩ := Option.map_eq_some_iff.mp hq
 have lt := (looks_typeIn X ht : Looks (model prog w) s.heap _ _)
 obtain ⟨hh, g, d, t, os⟩ := s
 have e1 : Manifest.signature? "list.pop" = some ⟨.positional, "list.pop", "pop", .self, [⟨"index", .posOnly, false⟩]⟩ := by kernel_rfl
 have e2 : builtinKind "list.pop" = some .method := by decide +kernel
 unfold checkBoundCall
 rw [e1, e2]
 dsimp only
 rw [if_neg (by decide)]
 refine wpAny_bind (isM.at ?_)
 rw [if_neg (by decide +kernel)]
 refine wpAny_bind (ks_wpAny_isType_inst I.at_ nocls ?_)
 rw [if_neg (by decide)]
 refine wpAny_bind (I.type.at ?_)
 dsimp only
 refine wpAny_bind ?_
 unfold clsIn at hc
 split at hc
 ·rename_i ho
  cases hc
  refine wpAny_bind (wpAny_load (X _ _ ho) (wpAny_pure ?_))
  refine wpAny_bind (lt.at ?_)
  rw [if_pos (by decide)]
  rw [hn]
  exact wpAny_of_eq (a := ()) (by kernel_rfl) h
 ·cases hc
end
section
variable {prog : Program} {w : World} {A : Around} {E : Value → Shared → Prop} {s : Shared} {K : Frag} {x C f L : Addr} {ox : Obj} {od : Option Obj} {name : Str} {expr : Bool} {h₀ : Heap} {m : Str → Option Value} {news : List (Addr × Obj)}
theorem acc_getm {Q : Value → Shared → Prop} (F : Fr h₀ L s.heap m) (N : News h₀ L s.heap news) (X : K.In s.heap) (I : InstAt s.heap x ox C od) (hga : findIn K (.ref C) "__getattribute__" = some (some (.builtin "list.__getattribute__")))
  (hk : findIn K (.ref C) "__getattr__" = some none) (hm : mroIn K C (.type "list") = some true) (ht : typeIn K (.ref f) = some (.type "function"))
  (hf : findObj K C od name = some (.bind (.builtin "function.__get__") (.ref f)))
  (h : ∀ q h', Fr h₀ L h' m → News h₀ L h' ((q, methodObj (.ref f) (.ref x)) :: news) → (∀ p ∈ news, p.1 < q) → Q (.ref q) { s with heap := h', toks := s.toks + 1 }) : wpAny (model prog w) A (getAttr (.ref x) name expr) Q E s := by
 obtain ⟨hp, g, d, t, os⟩ := s
 have L0 := I.type (M := model prog w)
 have L1 := looks_findIn (M := model prog w) X hga
 have L2 := looks_find (M := model prog w) X I hf
 have L3 : Looks (model prog w) hp (hookBefore (.ref C)) none := looks_hook X hk
 have L4 := looks_findIn (M := model prog w) X hk
 have hTf : (⟨hp, g, d, t + 1, os⟩ : Shared).TypeIs (.ref f) "function" := by
  have ht' : (K.lookup f).map (·.cls) = some (.type "function") := ht
  cases z : K.lookup f with
  | none => rw [z] at ht'; cases ht'
  | some o => rw [z] at ht'; exact ⟨o, X _ _ z, Option.some.inj ht'⟩
 unfold getAttr getAttrBy
 refine wpAny_bind (wpAny_mkText (wpAny_holding (wpAny_bind (L0.at (wpAny_bind (L1.at ?_))))))
 show wpAny _ _ (if (onTheHeap (Value.ref C) && Value.builtin "list.__getattribute__" == Value.builtin "object.__getattribute__") = true then _ else _) _ _ _
 rw [show (Value.builtin "list.__getattribute__" == Value.builtin "object.__getattribute__") = false from by decide +kernel, Bool.and_false, if_neg Bool.false_ne_true]
 unfold getAttrByItsOwn
 refine wpAny_bind (L3.at ?_)
 refine wpAny_bind (wpAny_attempt (wpAny_holding ?_))
 unfold callGetattribute
 rw [if_neg (by cases expr <;> decide)]
 unfold boundAndCalled
 rw [PySem.F.slot_list_getattribute.bind]
 refine wpAny_bind (wpAny_pure ?_)
 refine base_entry (s := ⟨hp, g, d, t + 1, os⟩) X I hm (by decide +kernel : splitId "list.__getattribute__" = some ("list", "__getattribute__")) (by decide +kernel) (by decide +kernel) am_entry_list_getattribute ?_ (args_list_ga2 _ _)
 refine wpAny_bind (wpAny_pure (wpAny_bind (wpAny_pure (wpAny_bind (L0.at (wpAny_bind (L2.at ?_)))))))
 dsimp only
 show wpAny _ _ (Builtin.ObjectAttr.bindTo _ _ _ _) _ _ _
 unfold Builtin.ObjectAttr.bindTo
 show wpAny _ _ (holding [Value.ref f] (call (.builtin "function.__get__") [Value.ref f, .ref x, .ref C]) >>= ret) _ _ _
 refine wpAny_bind (wpAny_holding ?_)
 refine wpAny_call_entry PySem.F.ks_slot_function_get hTf PySem.F.ks_entry_function_get ?_ (PySem.F.ks_getArgs_function _ _ _)
 unfold Builtin.«function.__get__»
 refine wpAny_bind (wpAny_of_eq (a := (Value.ref f, some (Value.ref x), some (Value.ref C))) (by kernel_rfl) ?_)
 dsimp only
 refine wpAny_bind (wpAny_newObj_type (wpAny_pure ⟨_, rfl, wpAny_pure ⟨_, rfl, ?_⟩⟩) (by size_fits))
 show wpAny _ _ (handedOut _) _ _ _
 rw [handedOut_of rfl]
 refine wpAny_pure ?_
 exact h _ _ (F.push _) (N.push F _) fun p hp => Heap.lt_size (N p hp).1
end
section
variable {M : Model} {A : Around} {E : Value → Shared → Prop} {s : Shared} {K : Frag} {env : Env} {pos p apos : Pos} {name : Str} {first : List Value} {Q : Value → Shared → Prop} {e o : PySem.Expr}
theorem star_method (h : wpAny M A (eval o env) (fun ov s₁ => wpAny M A (getAttr ov name true) (fun f s₂ => wpAny M A (callWith pos f [] (backTo pos (starEach [.Starred e p] env)) []) Q E s₂) E s₁) E s)
    (he : eval (.Call (.Attribute o name apos) [.Starred e p] [] pos) env = (do
      let ov ← eval o env
      standAt apos.atName
      let (f, first) ← holding [ov] (do pure (← getAttr ov name true, []))
      callWith pos f first (backTo pos (starEach [.Starred e p] env)) []) := by rfl) :
    wpAny M A (eval (.Call (.Attribute o name apos) [.Starred e p] [] pos) env) Q E s := by
  rw [he]
  refine wpAny_bind (wpAny_mono h (fun ov s₁ h₁ => wpAny_bind (wpAny_standAt (wpAny_bind (wpAny_holding (wpAny_bind (wpAny_mono h₁ (fun f s₂ h₂ => wpAny_pure ?_) fun _ _ x => x)))))) fun _ _ x => x)
  exact h₂
theorem callWith_SM {q g L : Addr} {self : Value} {h₀ : Heap} {news : List (Addr × Obj)} (X : K.In s.heap) (_N : News h₀ L s.heap news) (_q : (q, methodObj (.ref g) self) ∈ news) (hf : fnIn K g = true) (h : wpAny M A (eval e env) (fun v s₁ => StarOf M A E v (fun vs s₂ => MethP K q g self s₂.heap ∧ wpAny M A (call (.ref q) (first ++ vs)) Q E s₂) s₁) E s)
  (he : starEach [.Starred e p] env = [(true, eval e env)] := by rfl) :
  wpAny M A (callWith pos (.ref q) first (backTo pos (starEach [.Starred e p] env)) []) Q E s := by
 rw [he]
 exact ks_call rfl (keeps_M hf) (ks_lone h)
end
noncomputable abbrev Pr := Addr × (Str × Tok) × (Str × Tok)
noncomputable def Cl.E {B : Type} (c : Cl B) : Cl (List Pr → B) := aN inferInstance c
noncomputable def Cl.y3 {B : Type} (c : Cl B) : Cl (Pr → B) := aN inferInstance c
noncomputable abbrev prVals (t : Pr) : Array Value := #[.str t.2.1.1 t.2.1.2, .str t.2.2.1 t.2.2.2]
noncomputable abbrev prObj (t : Pr) : Obj := { cls := .type "tuple", data := .seq (prVals t) }
noncomputable abbrev prRefs (ts : List Pr) : List Value := ts.map fun t => .ref t.1
noncomputable def prAt (ts : List Pr) (j : Nat) : Pr := ts.getD j (0, ("", 0), ("", 0))
theorem prAt_mem {ts : List Pr} {j : Nat} (h : j < ts.length) : prAt ts j ∈ ts := by
 unfold prAt
 rw [List.getD_eq_getElem?_getD, List.getElem?_eq_getElem h]
 exact List.getElem_mem h
theorem prRefs_get {ts : List Pr} {j : Nat} (h : j < (prRefs ts).toArray.size) : (prRefs ts).toArray[j]? = some (.ref (prAt ts j).1) := by
 have h' : j < ts.length := by simpa using h
 simp [prAt, h', List.getD_eq_getElem?_getD]
noncomputable def OneTab (pos : Pos) (ps : Array Value) : Prop := ps = #[] ∨ ∃ cv, ps = #[rawInt pos.line, rawInt pos.col, cv]
theorem OneTab.triples {pos : Pos} {ps : Array Value} (h : OneTab pos ps) : TriplesOk ps.toList := by
 rcases h with rfl | ⟨cv, rfl⟩ <;> simp [TriplesOk, rawInt]
section
variable {prog : Program} {w : World} {A : Around} {E : Value → Shared → Prop} {s : Shared} {h₀ : Heap} {L : Addr} {m : Str → Option Value} {news : List (Addr × Obj)} {K : Frag}
theorem genCode_any {env : Env} {c P : Addr} {ps : Array Value} {pos : Pos} {qualname : Str} {scope : Scope} {g : Obj → List (Addr × Obj)} {Q : Value → Shared → Prop} (F : Fr h₀ L s.heap m) (N : News h₀ L s.heap news) (CH : CodeHd h₀ c P) (hc : env.code = .ref c)
  (hU : UpdF P (tabObj ps) news g) (hps : OneTab pos ps)
  (h : ∀ cv ps' h' tk, OneTab pos ps' → Fr h₀ L h' m → News h₀ L h' (g (tabObj ps')) → Heap.ExtBut P s.heap h' → s.heap.objs.size ≤ h'.objs.size → Q cv { s with heap := h', toks := tk }) :
  wpAny (model prog w) A (genexprCode env pos qualname scope) Q E s := by
 obtain ⟨pre, post, rfl, hg, a, b⟩ := hU.split
 have hm := N (P, tabObj ps) (List.mem_append_right _ (.head _))
 have C' := CH.keeps F.keep
 have hcode := C'.code hm.1 hps.triples
 have htab := C'.tab hm.1
 rcases hps with rfl | ⟨cv, rfl⟩
 ·refine wpAny_genexprCodeX hc hcode htab rfl fun c' h' tk hx hge hlt _ _ htb _ => ?_
  have hsz : s.heap.objs.size ≤ h'.objs.size := Nat.le_trans hge (Nat.le_of_lt hlt)
  refine h (.ref c') #[rawInt pos.line, rawInt pos.col, .ref c'] h' tk (.inr ⟨_, rfl⟩) ⟨F.ns.at' fun o e => hx L o (Ne.symm hm.2.1) e, fun b' o e => hx b' o (fun q => ?_) (F.keep b' o e), F.above⟩ ?_ hx hsz
  ·subst q
   have := hm.2.2
   rw [this] at e
   cases e
  ·rw [hg]
   intro p hp
   rcases List.mem_append.mp hp with hp | hp
   ·have q := N p (List.mem_append_left _ hp)
    exact ⟨hx _ _ (a p hp) q.1, q.2⟩
   ·refine m_el hp (m_all ?_ ?_)
    ·exact ⟨htb.2, hm.2⟩
    ·intro p hp; have q := N p (List.mem_append_right _ (.tail _ hp))
     exact ⟨hx _ _ (b p hp) q.1, q.2⟩
 ·refine wpAny_genexprCode_hit hc hcode (c' := cv) (by simp [codeAmong, rawInt]) ?_
  have e : g (tabObj #[rawInt pos.line, rawInt pos.col, cv]) = pre ++ (P, tabObj #[rawInt pos.line, rawInt pos.col, cv]) :: post := hg _
  exact h cv _ s.heap s.toks (.inr ⟨cv, rfl⟩) F (e ▸ N) (fun _ _ _ q => q) (Nat.le_refl _)
theorem pass_all (n : Nat) : passing (fun _ => true) n 0 = List.range n := by simp [passing]
theorem gen_pairs {mean : ExcName → Option Value} {mg mb : Str → Option Value} {env : Env} {elt iter : Expr} {xa xb : Str} {pa pb pt : Pos} {kt : Nat} {scope : Scope} {pos : Pos} {Q : Value → Shared → Prop} {x AD c P : Addr} {ts : List Pr} {n k : Nat} {es : List DictEntry} {ps : Array Value} {g : Obj → List (Addr × Obj)}
    (hh : A.handled = none) (hroom : A.depth < recursionLimit) (hco : scope.isCoroutine = false) (hclos : closureFor scope env = pure []) (hcell : ∀ y ∈ scope.names, y.2 ≠ .cell) (h0 : scope.names.lookup (".0" : Str) = some NameKind.local)
    (hxa : scope.names.lookup xa = some .local) (hxb : scope.names.lookup xb = some .local) (hab : xa ≠ xb) (hkind : scope.kind = .function) (hs : ∀ x, genFold iter env x = pure x)
    (hge : env.globals = mainGlobals) (hcode : env.code = .ref c)
    (F : Fr h₀ L s.heap m) (N : News h₀ L s.heap news) (T : Top pv lv mean mg mb h₀) (X : K.In h₀) (CH : CodeHd h₀ c P) (U : UpdF P (tabObj ps) news g) (hps : OneTab pos ps)
    (hx : (x, accObj AD (prRefs ts) n) ∈ news) (hd : (AD, dictOf es k) ∈ news) (hts : ∀ t ∈ ts, (t.1, prObj t) ∈ news) (hsz : ts.length < 1000)
    (hfi : findIn K (.ref 200) "__iter__" = some (some (.builtin "list.__iter__"))) (hmr : mroIn K 200 (.type "list") = some true)
    (hiter : ∀ Q' : Value → Shared → Prop, (∀ tk, Q' (.ref x) { s with toks := tk }) → wpAny (model prog w) A (eval iter env) Q' E s)
    (Fv : Nat → Value → Prop)
    (helt : ∀ (C : Addr) (code : Value) (A' : Around) (E' : Value → Shared → Prop) (i : Nat) (s₂ : Shared) (m₂ : Str → Option Value), A'.handled = none → i < ts.length → s₂.heap.Ns C m₂ →
      m₂ xa = some (.str (prAt ts i).2.1.1 (prAt ts i).2.1.2) → m₂ xb = some (.str (prAt ts i).2.2.1 (prAt ts i).2.2.2) → (∀ b o, h₀.get? b = some o → s₂.heap.get? b = some o) → h₀.objs.size ≤ C →
      wpAny (model prog w) A' (eval elt (genEnv scope [] C code builtinsNs env)) (fun y s₃ => Fv i y ∧ Keeps s₂ s₃) E' s₂)
    (hQ : ∀ (a C I : Addr) (h5 : Heap) (tk : Nat) (gs : GenState) (ps' : Array Value) (St : Nat → Shared → Prop) (fp : List Addr), gs.bare = true → OneTab pos ps' → Fr h₀ L h5 m → News h₀ L h5 (g (tabObj ps')) →
      s.heap.objs.size ≤ C → s.heap.objs.size ≤ I → (∀ b ∈ fp, b < h5.objs.size) → a ∈ fp → (∀ i s', St i s' → s'.TypeIs (.ref a) "generator") →
      WalksS prog w A.in4 a fp [C, I] (GenOnlyQ s.gens.size) ts.length (fun j y => ∃ i, (List.range ts.length)[j]? = some i ∧ Fv i y) St → St 0 { s with gens := s.gens.push gs, toks := tk, heap := h5 } →
      Q (.ref a) { s with gens := s.gens.push gs, toks := tk, heap := h5 }) :
    wpAny (model prog w) A (eval (.GeneratorExp elt [⟨.Tuple [.Name xa pa, .Name xb pb] kt pt, iter, [], 0⟩] scope pos) env) Q E s := by
  obtain ⟨h, gens, d, tok, os⟩ := s
  have hlt : ∀ p ∈ news, p.1 < h.objs.size := fun p hp => Heap.lt_size (N p hp).1
  have hmP : (P, tabObj ps) ∈ news := by
    obtain ⟨pre, post, e1, -, -, -⟩ := U.split
    rw [e1]; exact List.mem_append_right _ (.head _)
  have neP : ∀ p ∈ news, p.2.cls ≠ .none → p.1 ≠ P := fun p hp hc q => by
    have a1 := (N p hp).1
    have a2 := (N _ hmP).1
    rw [q] at a1
    dsimp only at a2
    rw [a1] at a2
    exact hc (by rw [Option.some.inj a2])
  have hxP : x ≠ P := neP _ hx (by intro q; cases q)
  refine wpAny_GeneratorExp_walksQT hh hco hclos hcell h0 hxa hxb hab hkind hroom (hiter _ fun tk => ?_) hs
  refine acc_iter (s := ⟨h, gens, d, tk, os⟩) (X.keeps F.keep) (acc_inst N hx hd) hfi hmr ?_
  have F1 := F.push { cls := .type "list_iterator", data := .fields #[.ref x, .int 0 0] }
  have N1 := N.push F { cls := .type "list_iterator", data := .fields #[.ref x, .int 0 0] }
  have N1' : News h₀ L (h.push { cls := .type "list_iterator", data := .fields #[.ref x, .int 0 0] }) news := fun p hp => N1 p (.tail _ hp)
  refine ⟨T.nolimit.keeps F1.keep, genCode_any (s := ⟨h.push _, gens, d, tk, os⟩) F1 N1' CH hcode U hps fun cv ps' h4 tk4 hps' F4 N4 hx4 hs4 => ?_⟩
  have nI := N1 _ (.head _)
  have hIP : h.objs.size ≠ P := Ne.symm (Nat.ne_of_lt (hlt _ hmP))
  obtain ⟨bm, ob, b1, b2, b3, b4, b5, b6⟩ := T.bmain
  have hg4 : h4.Ns mainGlobals mg := T.g.keeps F4.keep
  rw [hge]
  refine wpAny_builtinsFor (s := ⟨h4, gens, d, tk4, os⟩) hg4 b1 b2 (F4.keep _ _ b3) b4 b5 b6 ?_
  have hIlt : h.objs.size < h4.objs.size := Nat.lt_of_lt_of_le (by rw [Heap.size_push]; lia) hs4
  have keep : ∀ b o, b ≠ P → h.get? b = some o → h4.get? b = some o := fun b o hb e => hx4 b o hb (Heap.get?_push_of_some _ e)
  have hIat : h4.IsListIter h.objs.size x 0 := ⟨_, hx4 _ _ hIP nI.1, rfl, rfl⟩
  have hHolds : Holds h4 x (prRefs ts).toArray := ⟨_, _, keep x _ hxP (N _ hx).1, rfl⟩
  have hTs : ∀ j, j < (prRefs ts).toArray.size → h4.IsTuple (prAt ts j).1 (prVals (prAt ts j)) := fun j hj => by
    have hm := hts _ (prAt_mem (by simpa using hj))
    exact ⟨_, keep _ _ (neP _ hm (by intro q; cases q)) (N _ hm).1, rfl, _, rfl⟩
  have hTlt : ∀ j, j < (prRefs ts).toArray.size → (prAt ts j).1 < h.objs.size := fun j hj => hlt _ (hts _ (prAt_mem (by simpa using hj)))
  have hsize : (prRefs ts).toArray.size = ts.length := by simp
  refine ⟨h.objs.size, _, _, _, _, _, _, fun _ => true, Fv, rfl, fun A' hA' => holds_walks hA' h.objs.size x (Nat.ne_of_lt (hlt _ hx)) (prRefs ts).toArray (fun j => (prAt ts j).1) (fun j => prVals (prAt ts j)) (fun j hj => prRefs_get hj) (fun j hj => Nat.ne_of_lt (hTlt j hj)) |>.bound,
    fun i vals hv => ⟨_, _, hv.2⟩, ⟨hIat, hHolds, hTs⟩, ?_, T.nolimit.keeps F4.keep, ?_, fun href hk => ⟨?_, ?_⟩, fun a h5 tk5 gs hgb ha1 ha2 hk5 W hSt => ?_⟩
  · intro b hb
    rcases List.mem_cons.mp hb with rfl | hb
    · exact hIlt
    · rcases List.mem_cons.mp hb with rfl | hb
      · exact Nat.lt_trans (hlt _ hx) hIlt
      · obtain ⟨j, hj, rfl⟩ := List.mem_map.mp hb
        exact Nat.lt_trans (hTlt j (List.mem_range.mp hj)) hIlt
  · intro hc
    obtain ⟨_, hn, _⟩ := T.nolimit
    have e := List.mem_singleton.mp hc
    have this : cStatics < h.objs.size := Nat.lt_of_lt_of_le hn.lt (Nat.le_trans F.above (Nat.le_of_lt F.ns.lt))
    rw [e] at this
    exact Nat.lt_irrefl _ this
  · intro A' E' i va vb s₂ m₂ _ _ _ _ _ _
    exact wpAny_pure ⟨rfl, ⟨s₂.heap, s₂.toks, rfl, fun _ _ e => e⟩⟩
  · intro A' E' i va vb s₂ m₂ hA' hp _ hn2 hma hmb hk2
    obtain ⟨hi', hp⟩ := hp
    have hi : i < ts.length := hsize ▸ hi'
    cases hp
    refine helt _ _ A' E' i s₂ m₂ hA' hi hn2 hma hmb (fun b o e => ?_) ?_
    · have e4 := F4.keep b o e
      refine hk2 b (List.mem_range.mpr (Heap.lt_size e4)) ?_ o (hk b o e4)
      intro q
      have := List.mem_singleton.mp q
      rw [this, nI.2.2] at e
      cases e
    · exact Nat.le_trans F4.above (Nat.le_of_lt F4.ns.lt)
  · rw [pass_all, hsize, List.length_range] at W
    rw [hsize] at hSt
    refine hQ a h4.objs.size h.objs.size h5 tk5 gs ps' _ _ hgb hps' ⟨F4.ns.at' fun o e => hk5 _ _ e, fun b o e => hk5 _ _ (F4.keep b o e), F4.above⟩ (fun p hp => ⟨hk5 _ _ (N4 p hp).1, (N4 p hp).2⟩) (Nat.le_of_lt hIlt) (Nat.le_refl _) ?_ (.head _)
      (fun i s' st => st.1.typeIs) W hSt
    intro b hb
    rw [ha2]
    dsimp only at ha1
    rcases List.mem_cons.mp hb with rfl | hb
    · exact Nat.lt_succ_self _
    · rcases List.mem_cons.mp hb with rfl | hb
      · exact Nat.lt_succ_of_lt ha1
      · exact Nat.lt_succ_of_lt (Nat.lt_trans (List.mem_range.mp hb) ha1)
end
theorem args_sum2 (a b : Value) : argsOk "sum" ⟨[a, b], []⟩ := by unfold argsOk; kernel_rfl
section
variable {prog : Program} {w : World} {A : Around} {E : Value → Shared → Prop} {s : Shared}
theorem sum_from0 {a : Addr} {fp wr : List Addr} {G : Array GenState → Array GenState → Prop} {n : Nat} {P : Nat → Value → Prop} {St : Nat → Shared → Prop} {t : Tok} {Q : Value → Shared → Prop}
  (W : WalksS prog w A.in1 a fp wr G n P St) (hst : St 0 s) (hfp : ∀ b ∈ fp, b < s.heap.objs.size) (val : Nat → Int) (hval : ∀ i v, P i v → ∃ t, v = .int (val i) t)
  (hQ : ∀ s' t', Moved wr G s s' → Q (.int (preSum val n) t') s') :
  wpAny (model prog w) A (call (.builtin "sum") [.ref a, .int 0 t]) Q E s := by
 refine call_function_tree F.kind_sum F.plain_sum F.entry_sum (args_sum2 _ _) ?_
 unfold Builtin.«sum»
 simp only [List.length_cons, List.length_nil]
 rw [if_neg (by decide)]
 refine wpAny_bind (wpAny_of_eq (show Builtin.Builtins.bindParams "sum" ["start"] 0 ⟨[Value.int 0 t], []⟩ = pure [some (.int 0 t)] from rfl) ?_)
 refine wpAny_bind (W.self 0 s _ _ hst ?_)
 dsimp only
 rw [if_pos (by decide)]
 refine wpAny_bind (wpAny_rule (wpAny_bind (wpAny_mkInt (wpAny_bind (wpAny_pure ?_)))))
 simp only [List.forIn_cons, List.forIn_nil]
 refine wpAny_bind (wpAny_bind (wpAny_bind (wpAny_isInstance (T := "int") (b := false) (typeIs_int _ _ _) PySem.sub_int_str ?_)))
 refine wpAny_pure (wpAny_bind (wpAny_bind (wpAny_isInstance (T := "int") (b := false) (typeIs_int _ _ _) PySem.sub_int_bytes ?_)))
 refine wpAny_pure (wpAny_bind (wpAny_bind (wpAny_isInstance (T := "int") (b := false) (typeIs_int _ _ _) PySem.sub_int_bytearray ?_)))
 refine wpAny_pure (wpAny_pure ?_)
 refine wpAny_bind (wpAny_newObj_type ?_)
 have hSf : s.heap.objs.size ∉ fp := fun hm => Nat.lt_irrefl _ (hfp _ hm)
 refine wpAny_pure ⟨plainId_quiet F.plain_sum_loop _, codeAny_sum_loopAnyS W val hval s.heap.objs.size hSf n 0 _ s.toks 0 0 (.inl rfl) rfl (Nat.zero_le _)
  (W.frame 0 s _ _ hst (Nat.le_succ _) fun b _ o e => Heap.get?_push_of_some _ e) (Heap.get?_push_size _ rfl) fun s' t' hm => ?_⟩
 exact hQ s' t' (hm.drop_new (Nat.le_succ _))
end
section
variable {prog : Program} {w : World} {A : Around} {E : Value → Shared → Prop} {s : Shared}
theorem q_len {env : Env} {p p2 pos : Pos} {xn v : Str} {tv : Tok} {mg mb ml : Str → Option Value} {Q : Value → Shared → Prop} (hk : env.scope.kind = .function) (hl : env.kindOf (Str.ofString "len") = some .globalImplicit)
  (hg : s.heap.Ns env.globals mg) (hm : mg (Str.ofString "len") = none) (hb : s.heap.Ns env.builtins mb) (hv : mb (Str.ofString "len") = some (.builtin "len"))
  (hx : env.kindOf xn = some .local) (hn : s.heap.Ns env.locals ml) (hxv : ml xn = some (.str v tv)) (hd : (xn == ("__debug__" : Str)) = false) (hfit : v.length < 1000)
  (h : ∀ t tk, Q (.int v.length t) { s with toks := tk }) : wpAny (model prog w) A (eval (.Call (.Name (Str.ofString "len") p) [.Name xn p2] [] pos) env) Q E s := by
 rw [arm_eval_Call_Name']
 refine wpAny_bind (Name_function_global hk hl (loadGlobal_builtin hg hm hb hv ?_))
 have e : backTo pos (starEach [Expr.Name xn p2] env) = [(false, eval (.Name xn p2) env)] := rfl
 rw [e]
 refine callWith_builtin rfl (evalArgs_plain (spliced_cons ?_))
 refine wpAny_Name (wpAny_loadName_local hk hx hn hxv ?_) hd
 refine spliced_nil ?_
 exact len_str (by lia) (h _ _)
end
section
theorem updF_mem {d : Addr} {o o' : Obj} {l : List (Addr × Obj)} {g : Obj → List (Addr × Obj)} (U : UpdF d o l g) {p : Addr × Obj} (hp : p ∈ l) (hne : p.2 ≠ o) : p ∈ g o' := by
 obtain ⟨pre, post, rfl, hg, a, b⟩ := U.split
 rw [hg]
 rcases List.mem_append.mp hp with h | h
 ·exact List.mem_append_left _ h
 ·rcases List.mem_cons.mp h with rfl | h
  ·exact absurd rfl hne
  ·exact List.mem_append_right _ (.tail _ h)
theorem updF_addr {d : Addr} {o o' : Obj} {l : List (Addr × Obj)} {g : Obj → List (Addr × Obj)} (U : UpdF d o l g) {p : Addr × Obj} (hp : p ∈ g o') : ∃ q ∈ l, q.1 = p.1 := by
 obtain ⟨pre, post, rfl, hg, a, b⟩ := U.split
 rw [hg] at hp
 rcases List.mem_append.mp hp with h | h
 ·exact ⟨p, List.mem_append_left _ h, rfl⟩
 ·rcases List.mem_cons.mp h with rfl | h
  ·exact ⟨(d, o), List.mem_append_right _ (.head _), rfl⟩
  ·exact ⟨p, List.mem_append_right _ (.tail _ h), rfl⟩
theorem preSum_take (f : Pr → Int) (ts : List Pr) : ∀ n, n ≤ ts.length → preSum (fun j => f (prAt ts j)) n = ((ts.take n).map f).sum
 | 0, _ => by simp [preSum]
 | n + 1, h => by
  have h' : n < ts.length := h
  have e : prAt ts n = ts[n] := by simp [prAt, List.getD_eq_getElem?_getD, h']
  rw [preSum, preSum_take f ts n (Nat.le_of_lt h'), List.take_add_one, List.getElem?_eq_getElem h', e]
  simp only [Option.toList_some, List.map_append, List.map_cons, List.map_nil, List.sum_append, List.sum_cons, List.sum_nil, Int.add_zero]
namespace J30
def pt : Part1 (aP.f.f.m.e.c.b.b.l.x.s.h.c.r.i.w.a.a.q.H.y.d.d.a.a.E.c.c.e.e.t.j) (∀ {w : World} {mean : ExcName → Option Value} {mg mb : Str → Option Value} {x AD : Addr} {ts : List Pr} {n k : Nat} {t1 t2 : Tok} {ps : Array Value} {g : Obj → List (Addr × Obj)} {led : List (Addr × Obj)}
  (h1 : (x, accObj AD (prRefs ts) n) ∈ led) (h2 : (AD, accDict w t1 t2 k) ∈ led) (hts : ∀ t ∈ ts, (t.1, prObj t) ∈ led) (hz : ts.length < 500) (hlen : ∀ t ∈ ts, t.2.1.1.length < 100 ∧ t.2.2.1.length < 100)
  (U : UpdF 162 (tabObj ps) led g) (hps : OneTab ⟨101, 19, 101, 63⟩ ps)
(dp un : Nat) (gd : Option (List Code)) (cn : Str) (cs : Scope) (a : Addr) (ccd : Value) (cl : List (Str × Addr)) (outer : List Env) (A₀ : Around) (base h₀ : Heap) (L : Addr) (m : Str → Option Value) (s : Shared) (Q E : Value → Shared → Prop)
  (B : Below A₀ base outer h₀) (F : Fr h₀ L s.heap m) (X : (hd.heap_1 w.params).In h₀) (N : News h₀ L s.heap led) (T : Top pv lv mean mg mb h₀) (hk : cs.kind = .function)
  (hdp : dp + 20 < recursionLimit) (hu : un + 160 < cLine)
  (CH : CodeHd h₀ 166 162) (hg : AllBare s.gens)
  (hret : ∀ (t : Tok) (h' : Heap) (tk' : Nat) (g' : Array GenState) (ps' : Array Value), OneTab ⟨101, 19, 101, 63⟩ ps' → AllBare g' → Fr h₀ L h' m → News h₀ L h' (g (tabObj ps')) → Q (.int ((ts.map fun t => (t.2.1.1.length : Int) + t.2.2.1.length).sum) t) { s with heap := h', toks := tk', gens := g' }), wpAny (model theProg w) (ktrTop dp un gd cn cs L a ccd cl outer) (call (.ref 167) [.ref x]) Q E s) := by
 apply Part1.mk
 case h => intro hS1 w mean mg mb x AD ts n k t1 t2 ps g led h1 h2 hts hz hlen U hps dp un gd cn cs a ccd cl outer A₀ base h₀ L m s Q E B F X N T hk hdp hu CH hg hret; revert h1 h2 hts hz hlen U hps B F X N T hk hdp hu CH hg hret; exact @hS1 w mean mg mb x AD ts n k t1 t2 ps g led dp un gd cn cs a ccd cl outer A₀ base h₀ L m s Q E
def Z0 := pt.z1
def w := hx0 Z0
def mean := hx1 Z0
def mg := hx2 Z0
def mb := hx3 Z0
def x := hx4 Z0
def AD := hx5 Z0
def ts := hx6 Z0
def n := hx7 Z0
def Z1 := ht Z0
def k := hx0 Z1
def t1 := hx1 Z1
def t2 := hx2 Z1
def ps := hx3 Z1
def g := hx4 Z1
def led := hx5 Z1
def dp := hx6 Z1
def un := hx7 Z1
def Z2 := ht Z1
def gd := hx0 Z2
def cn := hx1 Z2
def cs := hx2 Z2
def a := hx3 Z2
def ccd := hx4 Z2
def cl := hx5 Z2
def outer := hx6 Z2
def A₀ := hx7 Z2
def Z3 := ht Z2
def base := hx0 Z3
def h₀ := hx1 Z3
def L := hx2 Z3
def m := hx3 Z3
def s := hx4 Z3
def Q := hx5 Z3
def E := hx6 Z3
theorem eq_1 : pt.Q1 w mean mg mb x AD ts n k t1 t2 ps g led dp un gd cn cs a ccd cl outer A₀ base h₀ L m s Q E := by
 intro h1 h2 hts hz hlen U hps B F X N T hk hdp hu CH hg hret
 k_with_none
 k_with "ne" => (refine neN ?_; (try dsimp only); first | with_reducible (first | assumption | (refine Ne.symm ?_; assumption) | exact ne_1 | exact ne_1.symm | exact ne_2 | exact ne_2.symm | exact ne_3 | exact ne_3.symm | exact ne_4 | exact ne_4.symm) | exact (by with_reducible assumption : Apt _ _) | exact Ne.symm (by with_reducible assumption : Apt _ _) | omega)
 k_with "d2" => (repeat' (first | with_reducible (first | exact m_id | exact m_nil | exact m_lid | exact m_mapl | exact m_mapl2 | refine m_cons ?_ ?_ | refine m_app ?_ ?_ | refine m_map ?_ ?_ | refine m_map1 ?_ | exact m_hd | refine m_tl ?_ | exact m_mapr rfl | refine m_tail ?_ | refine m_right ?_ | refine m_inr ?_) | exact m_hd | refine m_tl ?_))
 k_with "d3" => (first | assumption | omega | ktr_room | ktr_units | (simp only [] at *; omega))
 k_with "mem" => assumption
 k_with "getMethod ref" => (k_here; (with_reducible show wpAny _ _ (getMethod (Value.ref _) _ _) _ _ _); k_dflt (refine' method_base (C := 200) ?gX25z ?gI25z ?ga25z ?gb25z ?gc25z ?gd25z ?ge25z ?_; (case gX25z => exact Frag.In.keeps (by k_asm) (Fr.keep (by k_asm))); (case gI25z => exact acc_inst (by k_asm) (by k_mem) (by k_mem)); (case ga25z => k_is); (case gb25z => k_is); (case gc25z => k_is); (case gd25z => k_is); (case ge25z => rfl)); k_whole)
 k_with "eval GeneratorExp" => (k_here; (refine Halt.out ?_))
 have _ := fl X
 refine wpAny_call ?_
 k_dflt cell_enter
 k_steps
 unfold Halt
 rename_i g1 L1 hA F0 F1 N1 B1 X1 T1
 refine' gen_pairs (mean := mean) (mg := mg) (mb := mb) (c := 166) (P := 162) (ts := ts) (n := n) (k := k) (K := hd.heap_1 w.params) (es := [⟨PyData.keyHash w.params (Str.ofString "_initial_size"), .str (Str.ofString "_initial_size") t1, .int 0 t2⟩]) (g := g) (AD := AD) (x := x) (ps := ps) ?q1 ?qroom ?q2 ?q3 ?q4 ?q5 ?q6 ?q7 ?q8 ?q9 ?q10 ?q11 ?q12 ?z1 ?z2 ?z3 ?z4 ?z5 ?z6 ?hps ?z7 ?z8 ?z9 ?q13 ?q14 ?q15 ?hiter (fun j v => ∃ t, v = .int (((prAt ts j).2.1.1.length : Int) + (prAt ts j).2.2.1.length) t) ?helt ?hQ
 case z1 => exact F1
 case z2 => exact N1
 case z3 => exact T1
 case z4 => exact X1
 case z5 => exact CH.keeps F0.keep
 case z6 => exact U
 case z7 => exact h1
 case z8 => exact h2
 case z9 => exact hts
 case q1 => exact rfl
 case qroom => exact (show dp + 1 < recursionLimit by omega)
 case q2 => exact rfl
 case q3 => exact rfl
 case q4 => decide
 case q5 => exact rfl
 case q6 => exact rfl
 case q7 => exact rfl
 case q8 => decide
 case q9 => exact rfl
 case q10 => exact fun _ => rfl
 case q11 => exact rfl
 case q12 => exact rfl
 case hps => exact hps
 case q13 => omega
 case q14 => k_is
 case q15 => k_is
 case hiter =>
  intro Q' hq
  k_steps
  exact hq _
 case helt =>
  intro C code A' E' i s₂ m₂ hA' hi hn2 hma hmb hk2 hC
  have hm : mg (Str.ofString "len") = none := T1.free _ (by decide +kernel) (by decide +kernel) (by decide +kernel) (by decide +kernel) (by decide +kernel)
  have hv : mb (Str.ofString "len") = some (.builtin "len") := (T1.builtins _ (by decide)).trans (by first | exact boot_len | kernel_rfl | rfl)
  have hl := hlen _ (prAt_mem hi)
  have g2 := T1.g.keeps hk2
  have b2 := T1.b.keeps hk2
  refine wpAny_BinOp ?_
  refine' q_len (mg := mg) (mb := mb) (ml := m₂) ?z1 ?z2 ?z3 hm ?z4 hv ?z5 ?z6 hma ?z7 (by omega) fun t tk => ?_
  case z1 => exact rfl
  case z2 => exact rfl
  case z3 => exact g2
  case z4 => exact b2
  case z5 => exact rfl
  case z6 => exact hn2
  case z7 => decide
  refine' q_len (mg := mg) (mb := mb) (ml := m₂) ?z1 ?z2 ?z3 hm ?z4 hv ?z5 ?z6 hmb ?z7 (by omega) fun t' tk' => ?_
  case z1 => exact rfl
  case z2 => exact rfl
  case z3 => exact g2
  case z4 => exact b2
  case z5 => exact rfl
  case z6 => exact hn2
  case z7 => decide
  exact wpAny_add_int ⟨⟨_, rfl⟩, ⟨_, _, rfl, fun _ _ e => e⟩⟩
 case hQ =>
  intro a5 C5 I5 h5 tk5 gs5 ps5 St5 fp5 hb5 hps5 F5 N5 hC5 hI5 hfp5 hafp5 hT5 W5 hst5
  k_steps
  have m1 : (x, accObj AD (prRefs ts) n) ∈ g (tabObj ps5) := updF_mem U h1 (by intro q; cases q)
  have m2 : (AD, accDict w t1 t2 k) ∈ g (tabObj ps5) := updF_mem U h2 (by intro q; cases q)
  refine' acc_get (C := 200) (K := hd.heap_1 w.params) (X1.keeps F5.keep) (acc_inst N5 m1 m2) ?y1 ?y2 ?y3 (v := .int 0 t2) (findObj_own ?y4 ?y5 ?y6 ?y7) rfl ?_
  case y1 => k_is
  case y2 => k_is
  case y3 => k_is
  case y4 => k_is
  case y5 => k_is
  case y6 => k_is
  case y7 => rfl
  k_steps
  refine sum_from0 W5.in4_1 (W5.frame 0 _ _ _ hst5 (Nat.le_succ _) fun _ _ _ e => e) hfp5 (fun j => ((prAt ts j).2.1.1.length : Int) + (prAt ts j).2.2.1.length) ?_ fun s' t' mv => ?_
  ·rintro j v ⟨i, hi, t, rfl⟩
   obtain ⟨hlt, e⟩ := List.getElem?_eq_some_iff.mp hi
   rw [List.getElem_range] at e
   subst e
   exact ⟨t, rfl⟩
  ·have es := preSum_take (fun t : Pr => (t.2.1.1.length : Int) + t.2.2.1.length) ts ts.length (Nat.le_refl _)
   rw [List.take_length] at es
   rw [es]
   have lt5 : ∀ p ∈ g (tabObj ps5), p.1 < hA.objs.size := fun p hp => by
    obtain ⟨q, hq, e⟩ := updF_addr U hp
    rw [← e]; exact Heap.lt_size (N1 q hq).1
   have out : ∀ b, b < hA.objs.size → b ∉ [C5, I5] := fun b hb hm => by
    simp only [List.mem_cons, List.not_mem_nil, or_false] at hm
    dsimp only at hC5 hI5
    rcases hm with rfl | rfl
    ·exact Nat.lt_irrefl _ (Nat.lt_of_lt_of_le hb hC5)
    ·exact Nat.lt_irrefl _ (Nat.lt_of_lt_of_le hb hI5)
   obtain ⟨mh, mg', md, mo, -⟩ := mv
   obtain ⟨h9, g9, d9, tk9, os9⟩ := s'
   dsimp only at mh mg' md mo
   subst md mo
   have F9 : Fr g1 L1 h9 _ := ⟨F5.ns.at' fun o e => mh L1 o (out _ F1.ns.lt) e, fun b o e => mh b o (out b (Heap.lt_size (F1.keep b o e))) (F5.keep b o e), F5.above⟩
   have N9 : News g1 L1 h9 (g (tabObj ps5)) := fun p hp => ⟨mh _ _ (out _ (lt5 p hp)) (N5 p hp).1, (N5 p hp).2⟩
   have G9 : AllBare g9 := mg'.bare (hg.push hb5)
   clear F5 N5
   k_steps
   exact hret _ _ _ _ _ hps5 G9 (by assumption) (by assumption)
theorem eq_2 : pt.U1 := hy @eq_1
end J30
theorem c_acclen : type_of% (@Part1.h _ _ _ J30.pt J30.eq_2) := @Part1.h _ _ _ J30.pt J30.eq_2
end
noncomputable def makesL (K : Frag) (C : Addr) : Bool := match K.lookup C with
 | some ⟨_, _, .cls cd, sl⟩ => !cd.abstract && !cd.hasDel && (sl.toList[4]?).join == some (.builtin "list.__new__") && !cd.mro.isEmpty && cd.mro.contains (.ref C) && cd.mro.contains (.type "list") &&
   specialIn K (.ref C) "__call__" == some (some (.builtin "type.__call__")) && instIn K (.ref C) (.type "type") == some true
 | _ => false
structure MakesL (M : Model) (h : Heap) (C : Addr) : Prop where
 obj : ∃ oc od cd sl, h.get? C = some ⟨oc, od, .cls cd, sl⟩ ∧ cd.abstract = false ∧ cd.hasDel = false ∧ cd.mro.isEmpty = false
 made : Looks M h (Bind.madeBy (.ref C)) (some "list.__new__")
 base : Looks M h (Bind.staticBase (.ref C)) (.ref C)
 self : Looks M h (isSubtype (.ref C) (.ref C)) true
 lst : Looks M h (isSubtype (.ref C) (.type "list")) true
 call : Looks M h (specialOf (.ref C) "__call__") (some (.builtin "type.__call__"))
 typ : Looks M h (isInstance (.ref C) (.type "type")) true
theorem makesL_of {K : Frag} {M : Model} {h : Heap} (X : K.In h) {C : Addr} (e : makesL K C = true) : MakesL M h C := by
 unfold makesL at e
 split at e
 ·rename_i oc od cd sl ho
  simp only [Bool.and_eq_true, Bool.not_eq_true', beq_iff_eq] at e
  obtain ⟨⟨⟨⟨⟨⟨⟨e1, e2⟩, e3⟩, e4⟩, e5⟩, e6⟩, e7⟩, e8⟩ := e
  have hc : clsIn K C = some cd := by unfold clsIn; rw [ho]
  have hm : Looks M h (mroOf (.ref C)) cd.mro := (looks_clsIn X hc).andThen .now
  have ne : ¬ cd.mro.isEmpty = true := by rw [e4]; decide
  cases hl : cd.mro with
  | nil => rw [hl] at e4; cases e4
  | cons c l =>
   have made : Looks M h (Bind.madeBy (.ref C)) (some "list.__new__") := fun A Q E s k q => by
    unfold Bind.madeBy
    refine wpAny_bind (hm A _ E s k ?_)
    rw [hl, List.forIn_cons]
    refine wpAny_bind (wpAny_bind (wpAny_bind (wpAny_bind (wpAny_loadPart (k _ _ (X _ _ ho)) (wpAny_pure ?_)))))
    dsimp only
    rw [← Array.getElem?_toList, e3]
    exact wpAny_pure (wpAny_pure (wpAny_pure q))
   refine ⟨⟨oc, od, cd, sl, X _ _ ho, e1, e2, e4⟩, made, fun A Q E s k q => ?_, looks_mroIn X ?_, looks_mroIn X ?_, looks_specialIn X e7, looks_instIn X e8⟩
   ·unfold Bind.staticBase
    refine wpAny_bind (hm A _ E s k ?_)
    rw [hl, List.forIn_cons]
    exact wpAny_bind (wpAny_bind (wpAny_bind (made A _ E s k (wpAny_pure (wpAny_pure (wpAny_pure q))))))
   ·unfold mroIn; rw [hc, Option.bind_some, if_neg ne, e5]
   ·unfold mroIn; rw [hc, Option.bind_some, if_neg ne, e6]
 ·cases e
section
variable {prog : Program} {w : World} {A : Around} {K : Frag} {C : Addr} {R : Result → Shared → Prop} {h : Heap} {g : Array GenState} {d : Drawn} {t : Nat} {os : OsState}
theorem isCls {M : Model} {C : Addr} {oc : Value} {od : Option Addr} {cd : ClassData} {sl : Array (Option Value)} (e : h.get? C = some ⟨oc, od, .cls cd, sl⟩) : Looks M h (isType (.ref C)) true :=
 (Looks.ld (part := some headPart) e).andThen .now
end
namespace J23
def pt : Part1 (aP.h.W.a.V.p.b.M.c.l.j.F) (∀ {prog : Program} {w : World} {A : Around} {C : Addr} {R : Result → Shared → Prop} {h : Heap} {g : Array GenState} {d : Drawn} {t : Nat} {os : OsState} {a : Value} (Y : MakesL (model prog w) h C)
  (hq : R (.ok (.ret (.ref (h.objs.size + 1)))) ⟨(h.push emptyDict).push { cls := .ref C, dict := some h.objs.size, data := .seq #[] }, g, d, t, os⟩), codeAny (model prog w) A (.call (.builtin "list.__new__") ⟨[.ref C, a], []⟩) R ⟨h, g, d, t, os⟩) := by
 apply Part1.mk
 case h => intro hS1 prog w A C R h g d t os a Y hq; revert Y hq; exact @hS1 prog w A C R h g d t os a
def Z0 := pt.z1
def prog := hx0 Z0
def w := hx1 Z0
def A := hx2 Z0
def C := hx3 Z0
def R := hx4 Z0
def h := hx5 Z0
def g := hx6 Z0
def d := hx7 Z0
def Z1 := ht Z0
def t := hx0 Z1
def os := hx1 Z1
def a := hx2 Z1
theorem eq_1 : pt.Q1 prog w A C R h g d t os a := by
 intro Y hq
 obtain ⟨⟨oc, od, cd, sl, hC, e1, e2, e4⟩, made, base, self, lst, call, typ⟩ := Y
 have isT := isCls (M := model prog w) hC
 refine codeAny_of_tree ?_
 show wpAny _ A.in1 (do checkBuiltinCall "list.__new__" ⟨[.ref C, a], []⟩; again (.builtin "list.__new__" ⟨[.ref C, a], []⟩)) _ _ _
 have k1 : builtinKind "list.__new__" = some .builtinFn := by decide +kernel
 have k2 : splitId "list.__new__" = some ("list", "__new__") := by decide +kernel
 refine wpAny_bind ?_
 simp only [checkBuiltinCall, k1, k2]
 have args : ∀ {Q' : Unit → Shared → Prop} {E' : Value → Shared → Prop} {s' : Shared}, Q' () s' → wpAny (model prog w) A.in1 (match Manifest.signature? "list.__new__" with | some sig => Bind.checkArgs "list.__new__" sig { pos := [Value.ref C, a] } | x => pure ()) Q' E' s' := fun hq' =>
  wpAny_of_eq (a := ()) (by kernel_rfl) hq'
 rw [if_pos (by decide)]
 refine wpAny_bind (isT.at ?_)
 rw [if_neg (by decide)]
 refine wpAny_bind (lst.at ?_)
 rw [if_neg (by decide)]
 refine wpAny_bind (base.at ?_)
 refine wpAny_bind (made.at ?_)
 dsimp only
 rw [if_neg (by simp)]
 refine args ?_
 refine wpAny_pure ⟨plainId_quiet PySem.F.plain_list_new _, codeAny_builtin_stack PySem.F.entry_list_new rfl fun p st => ?_⟩
 rw [Around.under_plainId PySem.F.plain_list_new _]
 have hown := owner_list_new
 simp only [hown]
 refine wpAny_bind (isT.at ?_)
 rw [if_neg (by decide)]
 refine wpAny_bind (lst.at ?_)
 rw [if_neg (by decide)]
 refine wpAny_bind (wpAny_pure ?_)
 rw [if_neg (show ¬ ((!typeHasDict (.ref C)) = true) from Bool.false_ne_true)]
 refine wpAny_bind ?_
 unfold newDict
 refine wpAny_newObj_type ?_
 dsimp only
 refine wpAny_bind ?_
 unfold newObj
 dsimp only
 rw [if_neg (by simp)]
 unfold newObjAsIs classHasDel
 refine wpAny_bind (wpAny_alloc (wpAny_bind (wpAny_bind (wpAny_load (Heap.get?_push_of_some _ (Heap.get?_push_of_some _ hC)) (wpAny_pure ?_)))))
 rw [e2]
 refine wpAny_pure (wpAny_pure ?_)
 show R _ _
 rw [Heap.size_push]
 exact hq
theorem eq_2 : pt.U1 := hy @eq_1
end J23
theorem new_L : type_of% (@Part1.h _ _ _ J23.pt J23.eq_2) := @Part1.h _ _ _ J23.pt J23.eq_2
section
end
namespace J24
def pt : Part1 (aP.c.h.W.a.V.p.b.M.c.y0.l.j.F) (∀ {prog : Program} {w : World} {A : Around} {K : Frag} {C : Addr} {R : Result → Shared → Prop} {h : Heap} {g : Array GenState} {d : Drawn} {t : Nat} {os : OsState} {a : Value} {fI : Addr} (X : K.In h) (hm : makesL K C = true) (hi : findIn K (.ref C) "__init__" = some (some (.ref fI))) (hf : typeIn K (.ref fI) = some (.type "function"))
  (hq : codeAny (model prog w) (A.under (.builtin "type.__call__" ⟨[.ref C, a], []⟩)) (.call (.ref fI) ⟨[.ref (h.objs.size + 1), a], []⟩) (InitBack (h.objs.size + 1) R) ⟨(h.push emptyDict).push { cls := .ref C, dict := some h.objs.size, data := .seq #[] }, g, d, t, os⟩), codeAny (model prog w) A (.call (.ref C) ⟨[a], []⟩) R ⟨h, g, d, t, os⟩) := by
 apply Part1.mk
 case h => intro hS1 prog w A K C R h g d t os a fI X hm hi hf hq; revert X hm hi hf hq; exact @hS1 prog w A K C R h g d t os a fI
def Z0 := pt.z1
def prog := hx0 Z0
def w := hx1 Z0
def A := hx2 Z0
def K := hx3 Z0
def C := hx4 Z0
def R := hx5 Z0
def h := hx6 Z0
def g := hx7 Z0
def Z1 := ht Z0
def d := hx0 Z1
def t := hx1 Z1
def os := hx2 Z1
def a := hx3 Z1
def fI := hx4 Z1
theorem eq_1 : pt.Q1 prog w A K C R h g d t os a fI := by
 intro X hm hi hf hq
 have Y := makesL_of (M := model prog w) X hm
 have Y' := Y
 obtain ⟨⟨oc, od, cd, sl, hC, e1, e2, e4⟩, made, base, self, lst, call, typ⟩ := Y
 refine codeAny_of_tree ?_
 show wpAny _ _ (callAny (.ref C) _) _ _ _
 refine nd_load hC ?_
 show wpAny _ _ (callAny.viaDunder (.ref C) _) _ _ _
 unfold callAny.viaDunder
 refine wpAny_bind (call.at ?_)
 dsimp only
 rw [tc_bind]
 refine wpAny_bind (wpAny_pure (wpAny_bind (wpAny_pure ?_)))
 refine wpAny_pure (a := Fin.again (.call (.builtin "type.__call__") ⟨[.ref C, a], []⟩)) (And.intro rfl ?_)
 refine codeAny_call_builtin_at (Code.quiet_builtin _ (by decide +kernel)) entry_typeCall (check_slot tc_kind tc_split typ (tc_args _ _ _) ?_)
 unfold Builtin.«type.__call__»
 have hm : Looks (model prog w) h (mroOf (.ref C)) cd.mro := ((Looks.ld (part := none) hC).andThen .now).andThen .now
 repeat (first | simp only [e4, Bool.false_eq_true, if_false] | with_reducible refine wpAny_call ?_ | lk)
 refine new_L Y' ?_
 have k : ∀ b o, h.get? b = some o → ((h.push emptyDict).push { cls := .ref C, dict := some h.objs.size, data := .seq #[] }).get? b = some o := fun b o e => Heap.get?_push_of_some _ (Heap.get?_push_of_some _ e)
 have hx : ((h.push emptyDict).push { cls := .ref C, dict := some h.objs.size, data := .seq #[] }).get? (h.objs.size + 1) = some { cls := .ref C, dict := some h.objs.size, data := .seq #[] } := Heap.get?_push_at (by rw [Heap.size_push]) rfl
 have t1 : Looks (model prog w) ((h.push emptyDict).push { cls := .ref C, dict := some h.objs.size, data := .seq #[] }) (typeOf (.ref (h.objs.size + 1))) (.ref C) := (Looks.ld hx).andThen .now
 have s1 := self.keeps k
 have i1 := looks_findIn (M := model prog w) (X.keeps k) hi
 have b1 := bind_fn (M := model prog w) (X.keeps k) (.ref (h.objs.size + 1)) hf
 dsimp only
 unfold isInstance callSpecial? specialOf
 repeat (first | with_reducible refine wpAny_call ?_ | lk)
 refine codeAny_mono hq fun r s' z => ?_
 rcases r with e | (v | _ | _ | _) <;> first | exact z | exact z.elim | skip
 obtain ⟨rfl, z⟩ := z
 exact wpAny_pure (wpAny_pure z)
theorem eq_2 : pt.U1 := hy @eq_1
end J24
theorem make_L : type_of% (@Part1.h _ _ _ J24.pt J24.eq_2) := @Part1.h _ _ _ J24.pt J24.eq_2
section
end
section
variable {prog : Program} {w : World} {A : Around} {E : Value → Shared → Prop} {s : Shared} {K : Frag} {L : Addr} {h₀ : Heap} {m : Str → Option Value} {news : List (Addr × Obj)}
theorem call_acc {a : Value} {fI : Addr} {Q : Value → Shared → Prop} (F : Fr h₀ L s.heap m) (X₀ : K.In h₀) (N : News h₀ L s.heap news) (hm : makesL K 200 = true) (hi : findIn K (.ref 200) "__init__" = some (some (.ref fI))) (hf : typeIn K (.ref fI) = some (.type "function"))
    (h : ∀ x AD h', Fr h₀ L h' m → News h₀ L h' ((x, accObj AD [] 0) :: (AD, dictOf [] 0) :: news) → (∀ p ∈ news, p.1 < AD) → AD < x →
      codeAny (model prog w) (A.under (.builtin "type.__call__" ⟨[.ref 200, a], []⟩)) (.call (.ref fI) ⟨[.ref x, a], []⟩) (InitBack x fun r s' => match r with | .ok (.ret v) => Q v s' | .ok _ => False | .error e => E e s') { s with heap := h' }) :
    wpAny (model prog w) A (call (.ref 200) [a]) Q E s := by
  obtain ⟨hh, g, d, t, os⟩ := s
  have N1 := (N.push F emptyDict).push (F.push _) (accObj hh.objs.size [] 0)
  rw [Heap.size_push] at N1
  refine wpAny_call (make_L (X₀.keeps F.keep) hm hi hf ?_)
  exact h _ hh.objs.size _ ((F.push _).push _) N1 (fun p hp => Heap.lt_size (N p hp).1) (Nat.lt_succ_self _)
end
section
theorem updF_self {d : Addr} {o o' : Obj} {l : List (Addr × Obj)} {g : Obj → List (Addr × Obj)} (U : UpdF d o l g) : (d, o') ∈ g o' := by
 obtain ⟨pre, post, rfl, hg, a, b⟩ := U.split
 rw [hg]; exact List.mem_append_right _ (.head _)
theorem upd_refl {d : Addr} {o : Obj} {l : List (Addr × Obj)} {g : Obj → List (Addr × Obj)} (U : UpdF d o l g) : g o = l := by
 obtain ⟨pre, post, rfl, hg, a, b⟩ := U.split
 exact hg o
namespace J29
def pt : Part1 (aP.f.f.m.e.c.b.b.l.x.s.h.c.r.i.w.a.a.M.H.q.d.a.a.c.c.e.e.t.j) (∀ {w : World} {mean : ExcName → Option Value} {mg mb : Str → Option Value} {x AD : Addr} {n k : Nat} {t0 : Tok} {led : List (Addr × Obj)} {g : Obj → List (Addr × Obj)} {R : Result → Shared → Prop}
  (h1 : (x, accObj AD [] n) ∈ led) (h2 : (AD, dictOf [] k) ∈ led) (U : UpdF AD (dictOf [] k) led g)
(dp un : Nat) (gd : Option (List Code)) (cn : Str) (cs : Scope) (a : Addr) (ccd : Value) (cl : List (Str × Addr)) (outer : List Env) (A₀ : Around) (base h₀ : Heap) (L : Addr) (m : Str → Option Value) (s : Shared) (Q E : Value → Shared → Prop)
  (B : Below A₀ base outer h₀) (F : Fr h₀ L s.heap m) (X : (hd.heap_1 w.params).In h₀) (N : News h₀ L s.heap led) (T : Top pv lv mean mg mb h₀) (hk : cs.kind = .function)
  (hdp : dp + 30 < recursionLimit) (hu : un + 260 < cLine)
  (hret : ∀ (t1 : Tok) (k' : Nat) (h' : Heap) (tk' : Nat), Fr h₀ L h' m → News h₀ L h' (g (accDict w t1 t0 k')) → R (.ok (.ret .none)) { s with heap := h', toks := tk' }), codeAny (model theProg w) (ktrTop dp un gd cn cs L a ccd cl outer) (.call (.ref 137) ⟨[.ref x, .int 0 t0], []⟩) R s) := by
 apply Part1.mk
 case h => intro hS1 w mean mg mb x AD n k t0 led g R h1 h2 U dp un gd cn cs a ccd cl outer A₀ base h₀ L m s Q E B F X N T hk hdp hu hret; revert h1 h2 U B F X N T hk hdp hu hret; exact @hS1 w mean mg mb x AD n k t0 led g R dp un gd cn cs a ccd cl outer A₀ base h₀ L m s Q E
def Z0 := pt.z1
def w := hx0 Z0
def mean := hx1 Z0
def mg := hx2 Z0
def mb := hx3 Z0
def x := hx4 Z0
def AD := hx5 Z0
def n := hx6 Z0
def k := hx7 Z0
def Z1 := ht Z0
def t0 := hx0 Z1
def led := hx1 Z1
def g := hx2 Z1
def R := hx3 Z1
def dp := hx4 Z1
def un := hx5 Z1
def gd := hx6 Z1
def cn := hx7 Z1
def Z2 := ht Z1
def cs := hx0 Z2
def a := hx1 Z2
def ccd := hx2 Z2
def cl := hx3 Z2
def outer := hx4 Z2
def A₀ := hx5 Z2
def base := hx6 Z2
def h₀ := hx7 Z2
def Z3 := ht Z2
def L := hx0 Z3
def m := hx1 Z3
def s := hx2 Z3
def Q := hx3 Z3
def E := hx4 Z3
theorem eq_1 : pt.Q1 w mean mg mb x AD n k t0 led g R dp un gd cn cs a ccd cl outer A₀ base h₀ L m s Q E := by
 intro h1 h2 U B F X N T hk hdp hu hret
 k_with_none
 k_with "ne" => (refine neN ?_; (try dsimp only); first | with_reducible (first | assumption | (refine Ne.symm ?_; assumption) | exact ne_1 | exact ne_1.symm | exact ne_2 | exact ne_2.symm | exact ne_3 | exact ne_3.symm | exact ne_4 | exact ne_4.symm) | exact (by with_reducible assumption : Apt _ _) | exact Ne.symm (by with_reducible assumption : Apt _ _) | omega)
 k_with "d2" => (repeat' (first | with_reducible (first | exact m_id | exact m_nil | exact m_lid | exact m_mapl | exact m_mapl2 | refine m_cons ?_ ?_ | refine m_app ?_ ?_ | refine m_map ?_ ?_ | refine m_map1 ?_ | exact m_hd | refine m_tl ?_ | exact m_mapr rfl | refine m_tail ?_ | refine m_right ?_ | refine m_inr ?_) | exact m_hd | refine m_tl ?_))
 k_with "d3" => (first | assumption | omega | ktr_room | ktr_units | (simp only [] at *; omega))
 k_with "mem" => assumption
 k_with "inst" => (exact acc_inst (by k_asm) (by assumption) (by assumption))
 k_with "wpAt" => ((try dsimp only); ks_step "execs cons"; refine ks_wpAt_execs_cons ?_; (try dsimp only))
 k_with "wpAt" => ((try dsimp only); ks_step "exec Return"; refine ks_wpAt_Return_some ?_; (try dsimp only); refine Halt.out ?_)
 k_with "setAttr ref" => (k_here; (refine Halt.out ?_))
 have _ := fl X
 (refine' ks_code_super ?k1 ?k2 ?k3 ?k4 ?k5 ?kA ?kF ?kK ?k6 ?k7 ?k8 ?k9 ?kB ?_ ?c1 ?c2 ?c3 ?c4; (case kA => exact rfl); (case kF => exact rfl); (case kK => assumption); (case k1 => k_asm); (case k2 => k_asm); (case k3 => k_asm); (case k4 => k_asm); (case k5 => k_asm); (case k6 => k_is); (case k7 => k_is); (case k8 => ktr_room); (case k9 => first | exact BindsTo.of_eq rfl | exact binds_K (by k_in) rfl (by k_is) rfl rfl rfl); (case kB => exact locs rfl); (case c1 => decide); (case c2 => exact rfl); (case c3 => exact rfl); (case c4 => exact rfl); intro g' L' h' FG' F' N' B' X' T' l'; (try dsimp only); (try k_lift B'))
 k_steps
 unfold Halt
 refine acc_set (K := hd.heap_1 w.params) (AD := AD) (es := []) (k := k) (k' := k + 1) (es' := [⟨PyData.keyHash w.params (Str.ofString "_initial_size"), .str (Str.ofString "_initial_size") _, .int 0 t0⟩]) X' F' N' h1 h2 ?w1 ?w2 ?w3 rfl (Nat.le_of_ble_eq_true rfl) rfl rfl (updF_upd U) fun h6 tk6 F6 N6 => ?_
 case w1 => k_is
 case w2 => kernel_rfl
 case w3 => k_is
 obtain ⟨t1, N6⟩ : ∃ t1, News g' L' h6 (g (accDict w t1 t0 (k + 1))) := ⟨_, N6⟩
 have m1 := updF_mem (o' := accDict w t1 t0 (k + 1)) U h1 (by intro q; cases q)
 have m2 := updF_self (o' := accDict w t1 t0 (k + 1)) U
 clear F' N'
 dsimp only
 ks_step "execs cons"
 refine ks_wpAt_execs_cons ?_
 ks_step "exec Expr"
 refine ks_wpAt_Expr_any ?_
 ks_step "eval Call"
 refine ks_wpAt_MethodCall ?_
 ks_step "attributeBase Call"
 k_with "getMethod ref" => (k_here; refine Halt.out ?_)
 k_steps
 unfold Halt
 rename_i so h7 F7 N7 l7
 refine sup_method (K := hd.heap_1 w.params) F7 X' N7 (.head _) (acc_inst N7 (.tail _ m1) (.tail _ m2)) sb_init ?y1 ?y2 ?y3 (by decide) fun q h8 F8 N8 l8 => ?_
 case y1 => k_is
 case y2 => ks_is
 case y3 => k_is
 refine callWith_B0 (N8 _ (.head _)).1 (.inl rfl) (bound_call (N8 _ (.head _)).1 (.inl rfl) bnd_init sb_plain_init PySem.F.entry_list_init (run_init F8 N8 (.tail _ (.tail _ m1)) fun h9 F9 N9 => ?_))
 clear F7 N7 F8 N8 F6 N6
 k_steps
 rename_i kF kN _ _
 exact hret _ _ _ _ kF (fun p hp => kN p (.tail _ (.tail _ hp)))
theorem eq_2 : pt.U1 := hy @eq_1
end J29
theorem c_accinit : type_of% (@Part1.h _ _ _ J29.pt J29.eq_2) := @Part1.h _ _ _ J29.pt J29.eq_2
end
section
variable {prog : Program} {w : World} {A : Around} {E : Value → Shared → Prop} {s : Shared}
theorem q_join2 {env : Env} {p pa pb pt ap pos : Pos} {xe xa xb va vb : Str} {ta tb te : Tok} {k : Nat} {mg ml : Str → Option Value} {Q : Value → Shared → Prop} (hk : env.scope.kind = .function) (hl : env.kindOf xe = some .globalImplicit)
  (hg : s.heap.Ns env.globals mg) (hm : mg xe = some (.str "" te)) (hxa : env.kindOf xa = some .local) (hxb : env.kindOf xb = some .local)
  (hn : s.heap.Ns env.locals ml) (hva : ml xa = some (.str va ta)) (hvb : ml xb = some (.str vb tb)) (hde : (xe == ("__debug__" : Str)) = false) (hda : (xa == ("__debug__" : Str)) = false) (hdb : (xb == ("__debug__" : Str)) = false)
  (hline : (ap.endLine == pos.line) = true) (hfit : va.length + vb.length < 1000)
  (h : ∀ t tk h', (∀ b o, s.heap.get? b = some o → h'.get? b = some o) → Q (.str (va ++ vb) t) { s with heap := h', toks := tk }) :
  wpAny (model prog w) A (eval (.Call (.Attribute (.Name xe p) (Str.ofString "join") ap) [.Tuple [.Name xa pa, .Name xb pb] k pt] [] pos) env) Q E s := by
 refine wpAny_Call_method1_late rfl hline rfl ?_
 refine Name_function_global hk hl (loadGlobal_global hg hm ?_) hde
 refine ⟨"str", "str.join", PySem.F.plainAttrs_str, PySem.F.slot_str_join, PySem.F.type_str_join, typeIs_str _ _ _, (fun a e => by cases e), ?_⟩
 refine callWith_builtin rfl (evalArgs_plain (spliced_cons ?_))
 refine wpAny_Tuple_spliced ?_
 have e : backTo pt (starEach [Expr.Name xa pa, Expr.Name xb pb] env) = [(false, eval (.Name xa pa) env), (false, eval (.Name xb pb) env)] := rfl
 rw [e]
 refine spliced_cons (wpAny_Name (wpAny_loadName_local hk hxa hn hva ?_) hda)
 refine spliced_cons (wpAny_Name (wpAny_loadName_local hk hxb hn hvb ?_) hdb)
 refine spliced_nil ⟨(by decide : 2 ≤ sizeLine), ?_⟩
 refine spliced_nil ?_
 refine join_tuple (ys := [va, vb]) ⟨_, Heap.get?_push_size _ rfl, rfl, _, rfl⟩ (.cons va ta (.cons vb tb .nil)) ?_ fun t' k' => ?_
 ·have : ("" : Str).length = 0 := by decide
  simp only [List.map_cons, List.map_nil, List.sum_cons, List.sum_nil, List.length_cons, List.length_nil, this]
  lia
 ·have ej : Txt.join "" [va, vb] = va ++ vb := by
   show (⟨(va.cps ++ (#[] : Array Nat)) ++ vb.cps⟩ : Str) = ⟨va.cps ++ vb.cps⟩
   rw [Array.append_empty]
  rw [ej]
  exact h _ _ _ fun b o e => Heap.get?_push_of_some _ e
end
section
theorem items_strs {P : Nat → Value → Prop} {l : List (Str × Tok)} {n : Nat} {f : Nat → Str} (h : ItemsOf P (strValues l).toArray n) (hP : ∀ j v, P j v → ∃ t, v = .str (f j) t) : l.map (·.1) = (List.range n).map f := by
 obtain ⟨hs, hi⟩ := h
 have hl : l.length = n := by simpa [strValues] using hs
 apply List.ext_getElem
 ·simp [hl]
 ·intro j h1 h2
  have hj : j < l.length := by simpa using h1
  have e : (strValues l).toArray[j]? = some (.str l[j].1 l[j].2) := by simp [strValues, hj]
  obtain ⟨t, ht⟩ := hP j _ (hi j _ e)
  simp only [List.getElem_map, List.getElem_range]
  exact (Value.str.inj ht).1
theorem sum_le_mul {k : Nat} : ∀ l : List Nat, (∀ x ∈ l, x ≤ k) → l.sum ≤ l.length * k
 | [], _ => by simp
 | x :: r, h => by
  have h1 := h x (List.mem_cons_self ..)
  have h2 := sum_le_mul r fun y hy => h y (List.mem_cons_of_mem _ hy)
  rw [List.sum_cons, List.length_cons, Nat.succ_mul]
  lia
theorem len_cat (a b : Str) : (a ++ b).length = a.length + b.length := by
 show (a.cps ++ b.cps).size = a.cps.size + b.cps.size
 exact Array.size_append
theorem prRange {α : Type} (f : Pr → α) (ts : List Pr) : (List.range ts.length).map (fun j => f (prAt ts j)) = ts.map f := by
 apply List.ext_getElem
 ·simp
 ·intro j h1 h2
  have hj : j < ts.length := by simpa using h2
  simp [prAt, List.getD_eq_getElem?_getD, hj]
namespace J22
def pt : Part1 (aP.f.f.m.e.c.b.b.l.x.s.h.c.r.i.w.a.a.q.H.y.d.d.a.a.E.c.c.e.e.t.j) (∀ {w : World} {mean : ExcName → Option Value} {mg mb : Str → Option Value} {x AD : Addr} {ts : List Pr} {n k : Nat} {t1 t2 : Tok} {ps : Array Value} {g : Obj → List (Addr × Obj)} {led : List (Addr × Obj)}
  (h1 : (x, accObj AD (prRefs ts) n) ∈ led) (h2 : (AD, accDict w t1 t2 k) ∈ led) (hts : ∀ t ∈ ts, (t.1, prObj t) ∈ led) (hz : ts.length < 500) (hlen : ∀ t ∈ ts, t.2.1.1.length < 100 ∧ t.2.2.1.length < 100)
  (U : UpdF 169 (tabObj ps) led g) (hps : OneTab ⟨104, 32, 104, 85⟩ ps)
(dp un : Nat) (gd : Option (List Code)) (cn : Str) (cs : Scope) (a : Addr) (ccd : Value) (cl : List (Str × Addr)) (outer : List Env) (A₀ : Around) (base h₀ : Heap) (L : Addr) (m : Str → Option Value) (s : Shared) (Q E : Value → Shared → Prop)
  (B : Below A₀ base outer h₀) (F : Fr h₀ L s.heap m) (X : (hd.heap_1 w.params).In h₀) (N : News h₀ L s.heap led) (T : Top pv lv mean mg mb h₀) (hk : cs.kind = .function)
  (hdp : dp + 20 < recursionLimit) (hu : un + 160 < cLine)
  (CH : CodeHd h₀ 173 169) (hg : AllBare s.gens)
  (hret : ∀ (t : Tok) (h' : Heap) (tk' : Nat) (g' : Array GenState) (ps' : Array Value), OneTab ⟨104, 32, 104, 85⟩ ps' → AllBare g' → Fr h₀ L h' m → News h₀ L h' (g (tabObj ps')) → Q (.str (Txt.join (Str.ofString "") (ts.map fun t => t.2.1.1 ++ t.2.2.1)) t) { s with heap := h', toks := tk', gens := g' }), wpAny (model theProg w) (ktrTop dp un gd cn cs L a ccd cl outer) (call (.ref 174) [.ref x]) Q E s) := by
 apply Part1.mk
 case h => intro hS1 w mean mg mb x AD ts n k t1 t2 ps g led h1 h2 hts hz hlen U hps dp un gd cn cs a ccd cl outer A₀ base h₀ L m s Q E B F X N T hk hdp hu CH hg hret; revert h1 h2 hts hz hlen U hps B F X N T hk hdp hu CH hg hret; exact @hS1 w mean mg mb x AD ts n k t1 t2 ps g led dp un gd cn cs a ccd cl outer A₀ base h₀ L m s Q E
def Z0 := pt.z1
def w := hx0 Z0
def mean := hx1 Z0
def mg := hx2 Z0
def mb := hx3 Z0
def x := hx4 Z0
def AD := hx5 Z0
def ts := hx6 Z0
def n := hx7 Z0
def Z1 := ht Z0
def k := hx0 Z1
def t1 := hx1 Z1
def t2 := hx2 Z1
def ps := hx3 Z1
def g := hx4 Z1
def led := hx5 Z1
def dp := hx6 Z1
def un := hx7 Z1
def Z2 := ht Z1
def gd := hx0 Z2
def cn := hx1 Z2
def cs := hx2 Z2
def a := hx3 Z2
def ccd := hx4 Z2
def cl := hx5 Z2
def outer := hx6 Z2
def A₀ := hx7 Z2
def Z3 := ht Z2
def base := hx0 Z3
def h₀ := hx1 Z3
def L := hx2 Z3
def m := hx3 Z3
def s := hx4 Z3
def Q := hx5 Z3
def E := hx6 Z3
theorem eq_1 : pt.Q1 w mean mg mb x AD ts n k t1 t2 ps g led dp un gd cn cs a ccd cl outer A₀ base h₀ L m s Q E := by
 intro h1 h2 hts hz hlen U hps B F X N T hk hdp hu CH hg hret
 k_with_none
 k_with "ne" => (refine neN ?_; (try dsimp only); first | with_reducible (first | assumption | (refine Ne.symm ?_; assumption) | exact ne_1 | exact ne_1.symm | exact ne_2 | exact ne_2.symm | exact ne_3 | exact ne_3.symm | exact ne_4 | exact ne_4.symm) | exact (by with_reducible assumption : Apt _ _) | exact Ne.symm (by with_reducible assumption : Apt _ _) | omega)
 k_with "d2" => (repeat' (first | with_reducible (first | exact m_id | exact m_nil | exact m_lid | exact m_mapl | exact m_mapl2 | refine m_cons ?_ ?_ | refine m_app ?_ ?_ | refine m_map ?_ ?_ | refine m_map1 ?_ | exact m_hd | refine m_tl ?_ | exact m_mapr rfl | refine m_tail ?_ | refine m_right ?_ | refine m_inr ?_) | exact m_hd | refine m_tl ?_))
 k_with "d3" => (first | assumption | omega | ktr_room | ktr_units | (simp only [] at *; omega))
 k_with "mem" => assumption
 k_with "getMethod ref" => (k_here; (with_reducible show wpAny _ _ (getMethod (Value.ref _) _ _) _ _ _); k_dflt (refine' method_base (C := 200) ?gX25z ?gI25z ?ga25z ?gb25z ?gc25z ?gd25z ?ge25z ?_; (case gX25z => exact Frag.In.keeps (by k_asm) (Fr.keep (by k_asm))); (case gI25z => exact acc_inst (by k_asm) (by k_mem) (by k_mem)); (case ga25z => k_is); (case gb25z => k_is); (case gc25z => k_is); (case gd25z => k_is); (case ge25z => rfl)); k_whole)
 k_with "eval GeneratorExp" => (k_here; (refine Halt.out ?_))
 have _ := fl X
 refine wpAny_call ?_
 k_dflt cell_enter
 k_steps
 unfold Halt
 rename_i g1 L1 hA F0 F1 N1 B1 X1 T1
 refine' gen_pairs (mean := mean) (mg := mg) (mb := mb) (c := 173) (P := 169) (ts := ts) (n := n) (k := k) (K := hd.heap_1 w.params) (es := [⟨PyData.keyHash w.params (Str.ofString "_initial_size"), .str (Str.ofString "_initial_size") t1, .int 0 t2⟩]) (g := g) (AD := AD) (x := x) (ps := ps) ?q1 ?qroom ?q2 ?q3 ?q4 ?q5 ?q6 ?q7 ?q8 ?q9 ?q10 ?q11 ?q12 ?z1 ?z2 ?z3 ?z4 ?z5 ?z6 ?hps ?z7 ?z8 ?z9 ?q13 ?q14 ?q15 ?hiter (fun j v => ∃ t, v = .str ((prAt ts j).2.1.1 ++ (prAt ts j).2.2.1) t) ?helt ?hQ
 case z1 => exact F1
 case z2 => exact N1
 case z3 => exact T1
 case z4 => exact X1
 case z5 => exact CH.keeps F0.keep
 case z6 => exact U
 case z7 => exact h1
 case z8 => exact h2
 case z9 => exact hts
 case q1 => exact rfl
 case qroom => exact (show dp + 1 < recursionLimit by lia)
 case q2 => exact rfl
 case q3 => exact rfl
 case q4 => decide
 case q5 => exact rfl
 case q6 => exact rfl
 case q7 => exact rfl
 case q8 => decide
 case q9 => exact rfl
 case q10 => exact fun _ => rfl
 case q11 => exact rfl
 case q12 => exact rfl
 case hps => exact hps
 case q13 => lia
 case q14 => k_is
 case q15 => k_is
 case hiter =>
  intro Q' hq
  k_steps
  exact hq _
 case helt =>
  intro C code A' E' i s₂ m₂ hA' hi hn2 hma hmb hk2 hC
  have hm := mg_of (n := Str.ofString "EMPTYSTRING") X1 T1.g (by k_is)
  have hl := hlen _ (prAt_mem hi)
  have g2 := T1.g.keeps hk2
  refine' q_join2 (mg := mg) (ml := m₂) ?z1 ?z2 ?z3 hm ?z4 ?z5 ?z6 hma hmb ?z7 ?z8 ?z9 ?z10 (by lia) fun t tk h' hk' => ?_
  case z1 => exact rfl
  case z2 => exact rfl
  case z3 => exact g2
  case z4 => exact rfl
  case z5 => exact rfl
  case z6 => exact hn2
  case z7 => decide
  case z8 => decide
  case z9 => decide
  case z10 => rfl
  exact ⟨⟨_, rfl⟩, ⟨_, _, rfl, hk'⟩⟩
 case hQ =>
  intro a5 C5 I5 h5 tk5 gs5 ps5 St5 fp5 hb5 hps5 F5 N5 hC5 hI5 hfp5 hafp5 hT5 W5 hst5
  k_steps
  refine SC.joinGen W5.in4_2 hT5 hst5 hfp5 hafp5 ?_ (fun s' l mv hit => ?_) (by simp [sizeLine]; lia)
  ·rintro j v ⟨i, hi, t, rfl⟩
   exact ⟨_, _, rfl⟩
  ·have el := items_strs (f := fun j => (prAt ts j).2.1.1 ++ (prAt ts j).2.2.1) hit (by
    rintro j v ⟨i, hi, t, rfl⟩
    obtain ⟨hlt, e⟩ := List.getElem?_eq_some_iff.mp hi
    rw [List.getElem_range] at e
    subst e
    exact ⟨t, rfl⟩)
   rw [prRange (fun t : Pr => t.2.1.1 ++ t.2.2.1)] at el
   rw [el]
   refine ⟨?_, fun t' k' => ?_⟩
   ·refine joinOk_of ?_
    have h0 : (Str.ofString "").length = 0 := by decide
    have hb := sum_le_mul (k := 200) (List.map (fun x : Str => x.length) (ts.map fun t => t.2.1.1 ++ t.2.2.1)) (by
     intro y hy
     simp only [List.map_map, List.mem_map] at hy
     obtain ⟨t, ht, rfl⟩ := hy
     have := hlen t ht
     show (t.2.1.1 ++ t.2.2.1).length ≤ 200
     rw [len_cat]; lia)
    rw [h0, Nat.mul_zero]
    simp only [List.length_map] at hb
    lia
   have lt5 : ∀ p ∈ g (tabObj ps5), p.1 < hA.objs.size := fun p hp => by
    obtain ⟨q, hq, e⟩ := updF_addr U hp
    rw [← e]; exact Heap.lt_size (N1 q hq).1
   have out : ∀ b, b < hA.objs.size → b ∉ [C5, I5] := fun b hb hm => by
    simp only [List.mem_cons, List.not_mem_nil, or_false] at hm
    dsimp only at hC5 hI5
    rcases hm with rfl | rfl
    ·exact Nat.lt_irrefl _ (Nat.lt_of_lt_of_le hb hC5)
    ·exact Nat.lt_irrefl _ (Nat.lt_of_lt_of_le hb hI5)
   obtain ⟨mh, mg', md, mo, -⟩ := mv
   obtain ⟨h9, g9, d9, tk9, os9⟩ := s'
   dsimp only at mh mg' md mo
   subst md mo
   have F9 : Fr g1 L1 h9 _ := ⟨F5.ns.at' fun o e => mh L1 o (out _ F1.ns.lt) e, fun b o e => mh b o (out b (Heap.lt_size (F1.keep b o e))) (F5.keep b o e), F5.above⟩
   have N9 : News g1 L1 h9 (g (tabObj ps5)) := fun p hp => ⟨mh _ _ (out _ (lt5 p hp)) (N5 p hp).1, (N5 p hp).2⟩
   have G9 : AllBare g9 := mg'.bare (hg.push hb5)
   clear F5 N5
   dsimp only
   k_steps
   exact hret _ _ _ _ _ hps5 G9 (by assumption) (by assumption)
theorem eq_2 : pt.U1 := hy @eq_1
end J22
theorem c_accstr : type_of% (@Part1.h _ _ _ J22.pt J22.eq_2) := @Part1.h _ _ _ J22.pt J22.eq_2
end
section
theorem c_partc {w : World} {mean : ExcName → Option Value} {mg mb : Str → Option Value} {x AD : Addr} {vs : List Value} {n k : Nat} {es : List DictEntry} {led : List (Addr × Obj)}
  (h1 : (x, accObj AD vs n) ∈ led) (h2 : (AD, dictOf es k) ∈ led)
(dp un : Nat) (gd : Option (List Code)) (cn : Str) (cs : Scope) (a : Addr) (ccd : Value) (cl : List (Str × Addr)) (outer : List Env) (A₀ : Around) (base h₀ : Heap) (L : Addr) (m : Str → Option Value) (s : Shared) (Q E : Value → Shared → Prop)
  (B : Below A₀ base outer h₀) (F : Fr h₀ L s.heap m) (X : (hd.heap_1 w.params).In h₀) (N : News h₀ L s.heap led) (T : Top pv lv mean mg mb h₀) (hk : cs.kind = .function)
  (hdp : dp + 20 < recursionLimit) (hu : un + 160 < cLine)
  (hret : ∀ (t : Tok) (h' : Heap) (tk' : Nat), Fr h₀ L h' m → News h₀ L h' led → Q (.int vs.length t) { s with heap := h', toks := tk' }) :
  wpAny (model theProg w) (ktrTop dp un gd cn cs L a ccd cl outer) (call (.ref 197) [.ref x]) Q E s := by
 k_with_none
 k_with "ne" => (refine neN ?_; (try dsimp only); first | with_reducible (first | assumption | (refine Ne.symm ?_; assumption) | exact ne_1 | exact ne_1.symm | exact ne_2 | exact ne_2.symm | exact ne_3 | exact ne_3.symm | exact ne_4 | exact ne_4.symm) | exact (by with_reducible assumption : Apt _ _) | exact Ne.symm (by with_reducible assumption : Apt _ _) | omega)
 k_with "d2" => (repeat' (first | with_reducible (first | exact m_id | exact m_nil | exact m_lid | exact m_mapl | exact m_mapl2 | refine m_cons ?_ ?_ | refine m_app ?_ ?_ | refine m_map ?_ ?_ | refine m_map1 ?_ | exact m_hd | refine m_tl ?_ | exact m_mapr rfl | refine m_tail ?_ | refine m_right ?_ | refine m_inr ?_) | exact m_hd | refine m_tl ?_))
 k_with "d3" => (first | assumption | omega | ktr_room | ktr_units | (simp only [] at *; omega))
 k_with "mem" => assumption
 k_with "inst" => (exact acc_inst (by k_asm) (by assumption) (by assumption))
 k_with "wpAt" => (k_dflt ((try dsimp only); ks_step "eval Call"; refine ks_wpAt_MethodCall ?_))
 k_with "getMethod ref" => (k_here; (refine Halt.out ?_))
 have _ := fl X
 refine wpAny_call ?_
 (refine' ks_code_super ?k1 ?k2 ?k3 ?k4 ?k5 ?kA ?kF ?kK ?k6 ?k7 ?k8 ?k9 ?kB ?_ ?c1 ?c2 ?c3 ?c4; (case kA => exact rfl); (case kF => exact rfl); (case kK => assumption); (case k1 => k_asm); (case k2 => k_asm); (case k3 => k_asm); (case k4 => k_asm); (case k5 => k_asm); (case k6 => k_is); (case k7 => k_is); (case k8 => ktr_room); (case k9 => first | exact BindsTo.of_eq rfl | exact binds_K (by k_in) rfl (by k_is) rfl rfl rfl); (case kB => exact locs rfl); (case c1 => decide); (case c2 => exact rfl); (case c3 => exact rfl); (case c4 => exact rfl); intro g' L' h' FG' F' N' B' X' T' l'; (try dsimp only); (try k_lift B'))
 k_steps
 rename_i so h5 F5 N5 l5
 unfold Halt
 refine sup_method (K := hd.heap_1 w.params) F5 X' N5 (.head _) (acc_inst N5 (.tail _ h1) (.tail _ h2)) sb_len ?y1 ?y2 ?y3 (by decide) fun q h6 F6 N6 l6 => ?_
 case y1 => k_is
 case y2 => ks_is
 case y3 => k_is
 refine callWith_B0 (N6 _ (.head _)).1 (.inl rfl) (bound_call (N6 _ (.head _)).1 (.inl rfl) bnd_len sb_plain_len PySem.F.entry_list_len (run_len (N6 _ (.tail _ (.tail _ h1))).1 rfl ?_))
 k_steps
 rename_i kF kN _ _
 exact hret _ _ _ kF (fun p hp => kN p (.tail _ (.tail _ hp)))
end
section
namespace J19
def pt : Part1 (aP.f.f.m.e.c.b.b.l.x.s.h.c.r.i.w.a.a.H.q.d.d.a.a.c.c.e.e.t.j) (∀ {w : World} {mean : ExcName → Option Value} {mg mb : Str → Option Value} {x AD : Addr} {vs : List Value} {n k : Nat} {t1 t2 : Tok} {led : List (Addr × Obj)} {g : Obj → List (Addr × Obj)}
  (h1 : (x, accObj AD vs n) ∈ led) (h2 : (AD, accDict w t1 t2 k) ∈ led) (hz : vs.length < 500) (U : UpdF x (accObj AD vs n) led g)
(dp un : Nat) (gd : Option (List Code)) (cn : Str) (cs : Scope) (a : Addr) (ccd : Value) (cl : List (Str × Addr)) (outer : List Env) (A₀ : Around) (base h₀ : Heap) (L : Addr) (m : Str → Option Value) (s : Shared) (Q E : Value → Shared → Prop)
  (B : Below A₀ base outer h₀) (F : Fr h₀ L s.heap m) (X : (hd.heap_1 w.params).In h₀) (N : News h₀ L s.heap led) (T : Top pv lv mean mg mb h₀) (hk : cs.kind = .function)
  (hdp : dp + 30 < recursionLimit) (hu : un + 260 < cLine)
  (hret0 : vs = [] → ∀ (D : Addr) (ta tb : Tok) (h' : Heap) (tk' : Nat), Fr h₀ L h' m → News h₀ L h' ((D, prObj (D, (Str.ofString "", ta), (Str.ofString "", tb))) :: led) → (∀ p ∈ led, p.1 < D) → Q (.ref D) { s with heap := h', toks := tk' })
  (hret : ∀ p y, vs = p ++ [y] → ∀ (h' : Heap) (tk' : Nat), Fr h₀ L h' m → News h₀ L h' (g (accObj AD p (n + 1))) → Q y { s with heap := h', toks := tk' }), wpAny (model theProg w) (ktrTop dp un gd cn cs L a ccd cl outer) (call (.ref 160) [.ref x]) Q E s) := by
 apply Part1.mk
 case h => intro hS1 w mean mg mb x AD vs n k t1 t2 led g h1 h2 hz U dp un gd cn cs a ccd cl outer A₀ base h₀ L m s Q E B F X N T hk hdp hu hret0 hret; revert vs h1 h2 hz U B F X N T hk hdp hu hret0 hret; exact @hS1 w mean mg mb x AD n k t1 t2 led g dp un gd cn cs a ccd cl outer A₀ base h₀ L m s Q E
def Z0 := pt.z1
def w := hx0 Z0
def mean := hx1 Z0
def mg := hx2 Z0
def mb := hx3 Z0
def x := hx4 Z0
def AD := hx5 Z0
def n := hx6 Z0
def k := hx7 Z0
def Z1 := ht Z0
def t1 := hx0 Z1
def t2 := hx1 Z1
def led := hx2 Z1
def g := hx3 Z1
def dp := hx4 Z1
def un := hx5 Z1
def gd := hx6 Z1
def cn := hx7 Z1
def Z2 := ht Z1
def cs := hx0 Z2
def a := hx1 Z2
def ccd := hx2 Z2
def cl := hx3 Z2
def outer := hx4 Z2
def A₀ := hx5 Z2
def base := hx6 Z2
def h₀ := hx7 Z2
def Z3 := ht Z2
def L := hx0 Z3
def m := hx1 Z3
def s := hx2 Z3
def Q := hx3 Z3
def E := hx4 Z3
theorem eq_1 : pt.Q1 w mean mg mb x AD n k t1 t2 led g dp un gd cn cs a ccd cl outer A₀ base h₀ L m s Q E := by
 intro vs h1 h2 hz U B F X N T hk hdp hu hret0 hret
 k_with_none
 k_with "ne" => (refine neN ?_; (try dsimp only); first | with_reducible (first | assumption | (refine Ne.symm ?_; assumption) | exact ne_1 | exact ne_1.symm | exact ne_2 | exact ne_2.symm | exact ne_3 | exact ne_3.symm | exact ne_4 | exact ne_4.symm) | exact (by with_reducible assumption : Apt _ _) | exact Ne.symm (by with_reducible assumption : Apt _ _) | omega)
 k_with "d2" => (repeat' (first | with_reducible (first | exact m_id | exact m_nil | exact m_lid | exact m_mapl | exact m_mapl2 | refine m_cons ?_ ?_ | refine m_app ?_ ?_ | refine m_map ?_ ?_ | refine m_map1 ?_ | exact m_hd | refine m_tl ?_ | exact m_mapr rfl | refine m_tail ?_ | refine m_right ?_ | refine m_inr ?_) | exact m_hd | refine m_tl ?_))
 k_with "d3" => (first | assumption | omega | ktr_room | ktr_units | (simp only [] at *; omega))
 k_with "mem" => assumption
 k_with "inst" => (exact acc_inst (by k_asm) (by assumption) (by assumption))
 k_with "wpAt" => ((try dsimp only); ks_step "execs cons"; refine ks_wpAt_execs_cons ?_; (try dsimp only))
 k_with "wpAt" => ((try dsimp only); ks_step "exec Return"; refine ks_wpAt_Return_some ?_; (try dsimp only); refine Halt.out ?_)
 k_with "getMethod ref" => (k_here; (with_reducible show wpAny _ _ (getMethod (Value.ref _) _ _) _ _ _); k_dflt (refine' method_fn (C := 200) ?gX29z ?gI29z ?ga29z ?gb29z ?gc29z ?gd29z ?ge29z ?_; (case gX29z => exact Frag.In.keeps (by k_asm) (Fr.keep (by k_asm))); (case gI29z => exact acc_inst (by k_asm) (by k_mem) (by k_mem)); (case ga29z => k_is); (case gb29z => k_is); (case gc29z => k_is); (case gd29z => k_is); (case ge29z => rfl)); k_whole)
 k_with "call ref" => (k_here; (with_reducible show wpAny _ _ (call (Value.ref 197) _) _ _ _); k_dflt (refine' c_partc (gd := _) (cn := _) (a := _) (ccd := _) (cl := _) (E := _) (h1 := ?q030z) (h2 := ?q130z) (B := ?kB30z) (F := ?kF30z) (X := ?kX30z) (N := ?kN30z) (T := ?kT30z) (hk := ?kk30z) (hdp := ?kd30z) (hu := ?ku30z) (hret := ?_); (case kB30z => k_asm); (case kF30z => k_asm); (case kX30z => k_asm); (case kN30z => k_asm); (case q030z => assumption); (case q130z => assumption); (case kT30z => k_asm); (case kk30z => rfl); (case kd30z => walk_at "d3"); (case ku30z => walk_at "d3")); intro _ _ _ _ _; (try dsimp only))
 have _ := fl X
 refine wpAny_call ?_
 (refine' ks_code_super ?k1 ?k2 ?k3 ?k4 ?k5 ?kA ?kF ?kK ?k6 ?k7 ?k8 ?k9 ?kB ?_ ?c1 ?c2 ?c3 ?c4; (case kA => exact rfl); (case kF => exact rfl); (case kK => assumption); (case k1 => k_asm); (case k2 => k_asm); (case k3 => k_asm); (case k4 => k_asm); (case k5 => k_asm); (case k6 => k_is); (case k7 => k_is); (case k8 => ktr_room); (case k9 => first | exact BindsTo.of_eq rfl | exact binds_K (by k_in) rfl (by k_is) rfl rfl rfl); (case kB => exact locs rfl); (case c1 => decide); (case c2 => exact rfl); (case c3 => exact rfl); (case c4 => exact rfl); intro g' L' h' FG' F' N' B' X' T' l'; (try dsimp only); (try k_lift B'))
 k_steps
 ·rename_i tz hz1 tkz hv D h3 F3 N3 l3 kF kN _ _
  exact hret0 (List.length_eq_zero_iff.mp (by lia)) D _ _ _ _ kF kN l3
 ·unfold Halt
  ks_step "eval Call"
  refine ks_wpAt_MethodCall ?_
  ks_step "attributeBase Call"
  k_with "getMethod ref" => (k_here; refine Halt.out ?_)
  k_steps
  unfold Halt
  rename_i tz hz1 tkz Fz Nz hv so h5 F5 N5 l5
  obtain ⟨p, y, rfl⟩ : ∃ p y, vs = p ++ [y] := by
   rcases List.eq_nil_or_concat vs with e | ⟨p, y, e⟩
   ·subst e; exact absurd rfl hv
   ·exact ⟨p, y, by rw [e, List.concat_eq_append]⟩
  refine sup_method (K := hd.heap_1 w.params) F5 X' N5 (.head _) (acc_inst N5 (.tail _ h1) (.tail _ h2)) sb_pop ?y1 ?y2 ?y3 (by decide) fun q h6 F6 N6 l6 => ?_
  case y1 => k_is
  case y2 => ks_is
  case y3 => k_is
  have I6 : InstAt h6 x (accObj AD (p ++ [y]) n) 200 _ := acc_inst N6 (.tail _ (.tail _ h1)) (.tail _ (.tail _ h2))
  have N7 : News g' L' h6 led := fun p hp => N6 p (.tail _ (.tail _ hp))
  refine callWith_B0 (N6 _ (.head _)).1 (.inr rfl) (bound_call (N6 _ (.head _)).1 (.inr rfl) (bnd_pop (K := hd.heap_1 w.params) (X'.keeps F6.keep) I6 ?z1 ?z2 ?z3) sb_plain_pop PySem.F.entry_list_pop (run_pop F6 N7 (updF_upd U) (by simp at hz; lia) fun h8 F8 N8 => ?_))
  case z1 => kernel_rfl
  case z2 => k_is
  case z3 => k_is
  clear F6 N6 N7 F5 N5 Fz Nz
  k_steps
  rename_i kF kN _ _
  exact hret p y rfl _ _ kF kN
theorem eq_2 : pt.U1 := hy @eq_1
end J19
theorem c_accpop : type_of% (@Part1.h _ _ _ J19.pt J19.eq_2) := @Part1.h _ _ _ J19.pt J19.eq_2
end
section
open Builtin
section
variable {prog : Program} {w : World} {A : Around} {E : Value → Shared → Prop} {s : Shared} {K : Frag} {x C f : Addr} {ox : Obj} {od : Option Obj}
noncomputable def TruthBack (Q : Bool → Shared → Prop) (v : Value) (s' : Shared) : Prop := match v with
 | .int n _ => (0 ≤ n ∧ n < 2 ^ 63) ∧ Q (n != 0) { s' with toks := s'.toks + 1 }
 | _ => False
theorem truth_len {Q : Bool → Shared → Prop} (X : K.In s.heap) (I : InstAt s.heap x ox C od) (hb : findIn K (.ref C) "__bool__" = some none) (hs : findIn K (.ref C) "__len__" = some (some (.ref f))) (hf : isFn K (.ref f) = true)
  (h : wpAny (model prog w) A.in1 (call (.ref f) [.ref x]) (TruthBack Q) E s) : wpAny (model prog w) A (truthy (.ref x)) Q E s := by
 unfold truthy
 refine wpAny_bind (m := callSpecial? (.ref x) (Str.ofString "__bool__")) (wpAny_bind (wpAny_bind (I.type.here ((looks_findIn X hb).here (wpAny_pure ?_)))))
 refine wpAny_bind (wpAny_bind (I.type.here ((looks_findIn X hs).here ?_)))
 show wpAny _ _ (runValue (.builtin "len" ⟨[.ref x], []⟩) >>= _) _ _ _
 refine wpAny_bind (wpAny_runValue (codeAny_builtin entry_len ?_))
 rw [Around.under_plainId plain_len _]
 unfold Builtin.«len»
 refine wpAny_bind (m := oneArg "len" _) (wpAny_pure ?_)
 refine wpAny_bind (m := callSpecial? (.ref x) (Str.ofString "__len__")) (special_fn X I hs (beq_iff_eq.mp hf) (wpAny_mono h (fun r s' hr => ?_) fun _ _ y => y))
 cases r <;> first | exact hr.elim | skip
 rename_i n u
 obtain ⟨⟨h0, h1⟩, hq⟩ := hr
 refine wpAny_bind (wpAny_holding (wpAny_pure ?_))
 refine wpAny_bind (wpAny_letGo ?_)
 show wpAny _ _ (if n < 0 then _ else _) _ _ _
 rw [if_neg (by lia)]
 show wpAny _ _ (if n ≥ 2 ^ 63 then _ else _) _ _ _
 rw [if_neg (by lia)]
 exact wpAny_bind (wpAny_mkInt (wpAny_pure (wpAny_pure hq)))
end
end
section
theorem lenSum_bounds : ∀ (ts : List Pr), (∀ t ∈ ts, t.2.1.1.length < 100 ∧ t.2.2.1.length < 100) → 0 ≤ (ts.map fun t => (t.2.1.1.length : Int) + t.2.2.1.length).sum ∧ (ts.map fun t => (t.2.1.1.length : Int) + t.2.2.1.length).sum ≤ 200 * ts.length
 | [], _ => by simp
 | t :: r, h => by
  have h1 := lenSum_bounds r fun t ht => h t (.tail _ ht)
  have h2 := h t (.head _)
  simp only [List.map_cons, List.sum_cons, List.length_cons]
  lia
theorem lenSum_pos {ts : List Pr} {t : Pr} (ht : t ∈ ts) (hp : 0 < t.2.2.1.length) : 0 < (ts.map fun t => (t.2.1.1.length : Int) + t.2.2.1.length).sum := by
 induction ts with
 | nil => cases ht
 | cons u r ih =>
  simp only [List.map_cons, List.sum_cons]
  have nn : ∀ l : List Pr, 0 ≤ (l.map fun t => (t.2.1.1.length : Int) + t.2.2.1.length).sum := fun l => by
   induction l with
   | nil => simp
   | cons a b ih => simp only [List.map_cons, List.sum_cons]; lia
  rcases List.mem_cons.mp ht with rfl | h
  ·have := nn r; lia
  ·have := ih h; lia
namespace J20
def pt : Part1 (aP.f.f.m.e.c.b.b.l.x.s.h.c.r.i.w.a.a.q.y2.H.y.y.d.d.a.a.E.c.c.e.e.t.j) (∀ {w : World} {mean : ExcName → Option Value} {mg mb : Str → Option Value} {x AD : Addr} {ts : List Pr} {n k : Nat} {t1 t2 : Tok} {p1 p2 : Array Value} {g1 : Obj → List (Addr × Obj)} {g2 : Obj → Obj → List (Addr × Obj)} {led : List (Addr × Obj)}
  (h1 : (x, accObj AD (prRefs ts) n) ∈ led) (h2 : (AD, accDict w t1 t2 k) ∈ led) (hts : ∀ t ∈ ts, (t.1, prObj t) ∈ led) (hz : ts.length < 500) (hlen : ∀ t ∈ ts, t.2.1.1.length < 100 ∧ t.2.2.1.length < 100)
  (hpos : ∃ t ∈ ts, 0 < t.2.2.1.length) (U1 : UpdF 162 (tabObj p1) led g1) (U2 : ∀ o, UpdF 169 (tabObj p2) (g1 o) (g2 o)) (hp1 : OneTab ⟨101, 19, 101, 63⟩ p1) (hp2 : OneTab ⟨104, 32, 104, 85⟩ p2)
(dp un : Nat) (gd : Option (List Code)) (cn : Str) (cs : Scope) (a : Addr) (ccd : Value) (cl : List (Str × Addr)) (outer : List Env) (A₀ : Around) (base h₀ : Heap) (L : Addr) (m : Str → Option Value) (s : Shared) (Q E : Value → Shared → Prop)
  (B : Below A₀ base outer h₀) (F : Fr h₀ L s.heap m) (X : (hd.heap_1 w.params).In h₀) (N : News h₀ L s.heap led) (T : Top pv lv mean mg mb h₀) (hk : cs.kind = .function)
  (hdp : dp + 30 < recursionLimit) (hu : un + 260 < cLine)
  (CH1 : CodeHd h₀ 166 162) (CH2 : CodeHd h₀ 173 169) (hg : AllBare s.gens)
  (hret : ∀ (h' : Heap) (tk' : Nat) (g' : Array GenState) (p1' p2' : Array Value), OneTab ⟨101, 19, 101, 63⟩ p1' → OneTab ⟨104, 32, 104, 85⟩ p2' → AllBare g' → Fr h₀ L h' m → News h₀ L h' (g2 (tabObj p1') (tabObj p2')) → Q (.bool (Txt.isspace (Txt.join (Str.ofString "") (ts.map fun t => t.2.1.1 ++ t.2.2.1)))) { s with heap := h', toks := tk', gens := g' }), wpAny (model theProg w) (ktrTop dp un gd cn cs L a ccd cl outer) (call (.ref 189) [.ref x]) Q E s) := by
 apply Part1.mk
 case h => intro hS1 w mean mg mb x AD ts n k t1 t2 p1 p2 g1 g2 led h1 h2 hts hz hlen hpos U1 U2 hp1 hp2 dp un gd cn cs a ccd cl outer A₀ base h₀ L m s Q E B F X N T hk hdp hu CH1 CH2 hg hret; revert h1 h2 hts hz hlen hpos U1 U2 hp1 hp2 B F X N T hk hdp hu CH1 CH2 hg hret; exact @hS1 w mean mg mb x AD ts n k t1 t2 p1 p2 g1 g2 led dp un gd cn cs a ccd cl outer A₀ base h₀ L m s Q E
def Z0 := pt.z1
def w := hx0 Z0
def mean := hx1 Z0
def mg := hx2 Z0
def mb := hx3 Z0
def x := hx4 Z0
def AD := hx5 Z0
def ts := hx6 Z0
def n := hx7 Z0
def Z1 := ht Z0
def k := hx0 Z1
def t1 := hx1 Z1
def t2 := hx2 Z1
def p1 := hx3 Z1
def p2 := hx4 Z1
def g1 := hx5 Z1
def g2 := hx6 Z1
def led := hx7 Z1
def Z2 := ht Z1
def dp := hx0 Z2
def un := hx1 Z2
def gd := hx2 Z2
def cn := hx3 Z2
def cs := hx4 Z2
def a := hx5 Z2
def ccd := hx6 Z2
def cl := hx7 Z2
def Z3 := ht Z2
def outer := hx0 Z3
def A₀ := hx1 Z3
def base := hx2 Z3
def h₀ := hx3 Z3
def L := hx4 Z3
def m := hx5 Z3
def s := hx6 Z3
def Q := hx7 Z3
def Z4 := ht Z3
def E := hx0 Z4
theorem eq_1 : pt.Q1 w mean mg mb x AD ts n k t1 t2 p1 p2 g1 g2 led dp un gd cn cs a ccd cl outer A₀ base h₀ L m s Q E := by
 intro h1 h2 hts hz hlen hpos U1 U2 hp1 hp2 B F X N T hk hdp hu CH1 CH2 hg hret
 k_with_none
 k_with "ne" => (refine neN ?_; (try dsimp only); first | with_reducible (first | assumption | (refine Ne.symm ?_; assumption) | exact ne_1 | exact ne_1.symm | exact ne_2 | exact ne_2.symm | exact ne_3 | exact ne_3.symm | exact ne_4 | exact ne_4.symm) | exact (by with_reducible assumption : Apt _ _) | exact Ne.symm (by with_reducible assumption : Apt _ _) | omega)
 k_with "d2" => (repeat' (first | with_reducible (first | exact m_id | exact m_nil | exact m_lid | exact m_mapl | exact m_mapl2 | refine m_cons ?_ ?_ | refine m_app ?_ ?_ | refine m_map ?_ ?_ | refine m_map1 ?_ | exact m_hd | refine m_tl ?_ | exact m_mapr rfl | refine m_tail ?_ | refine m_right ?_ | refine m_inr ?_) | exact m_hd | refine m_tl ?_))
 k_with "d3" => (first | assumption | omega | ktr_room | ktr_units | (simp only [] at *; omega))
 k_with "mem" => assumption
 k_with "inst" => (exact acc_inst (by k_asm) (by assumption) (by assumption))
 k_with "getMethod ref" => (k_here; (with_reducible show wpAny _ _ (getMethod (Value.ref _) _ _) _ _ _); k_dflt (refine' method_fn (C := 200) ?gX29z ?gI29z ?ga29z ?gb29z ?gc29z ?gd29z ?ge29z ?_; (case gX29z => exact Frag.In.keeps (by k_asm) (Fr.keep (by k_asm))); (case gI29z => exact acc_inst (by k_asm) (by k_mem) (by k_mem)); (case ga29z => k_is); (case gb29z => k_is); (case gc29z => k_is); (case gd29z => k_is); (case ge29z => rfl)); k_whole)
 k_with "call ref" => (k_here; (with_reducible show wpAny _ _ (call (Value.ref 167) _) _ _ _); (refine Halt.out ?_))
 k_with "call ref" => (k_here; (with_reducible show wpAny _ _ (call (Value.ref 174) _) _ _ _); (refine Halt.out ?_))
 k_with "getAttr ref" => (k_here; (with_reducible show wpAny _ _ (getAttr (Value.ref _) _ _) _ _ _); k_dflt (refine' acc_get (C := 200) ?gX33z ?gI33z ?ga33z ?gb33z ?gc33z (findObj_own ?gd33z ?ge33z ?gf33z ?gg33z) ?gh33z ?_; (case gX33z => exact Frag.In.keeps (by k_asm) (Fr.keep (by k_asm))); (case gI33z => exact acc_inst (by k_asm) (by k_mem) (by k_mem)); (case ga33z => k_is); (case gb33z => k_is); (case gc33z => k_is); (case gd33z => k_is); (case ge33z => k_is); (case gf33z => k_is); (case gg33z => rfl); (case gh33z => rfl)); k_whole)
 k_with "truthy ref" => (k_here; (with_reducible show wpAny _ _ (truthy (Value.ref _)) _ _ _); k_dflt (refine' truth_len (C := 200) ?gX34z ?gI34z ?ga34z ?gb34z ?gc34z ?_; (case gX34z => exact Frag.In.keeps (by k_asm) (Fr.keep (by k_asm))); (case gI34z => exact acc_inst (by k_asm) (by k_mem) (by k_mem)); (case ga34z => k_is); (case gb34z => k_is); (case gc34z => k_is)); k_whole)
 k_with "call type:str" => (k_here; (with_reducible show wpAny _ _ (call (Value.type "str") [Value.ref _]) _ _ _); k_dflt (refine' kso_call (C := 200) ?k135z ?k235z ?k335z ?k435z ?k535z ?_; (case k135z => walk_at "d3"); (case k235z => exact Frag.In.keeps (by k_asm) (Fr.keep (by k_asm))); (case k335z => exact acc_inst (by k_asm) (by k_mem) (by k_mem)); (case k435z => k_is); (case k535z => k_is); k_whole))
 k_with "call builtin:len" => (k_here; (with_reducible show wpAny _ _ (call (Value.builtin "len") [Value.ref _]) _ _ _); k_dflt (refine' len_K (C := 200) ?k136z ?k236z ?k336z ?k436z ?k536z ?_; (case k136z => k_asm); (case k236z => k_asm); (case k336z => exact acc_inst (by k_asm) (by k_mem) (by k_mem)); (case k436z => k_is); (case k536z => k_is); k_whole))
 have _ := fl X
 refine wpAny_call ?_
 k_dflt (refine codeD (h := ?_); k_whole; intro m' g' L' h' tk' FG' F' N' B' X' T'; (try dsimp only); (try k_lift B'); (try k_fold))
 k_steps
 unfold Halt
 have b := lenSum_bounds ts hlen
 obtain ⟨t0, ht0, hp0⟩ := hpos
 have b0 := lenSum_pos ht0 hp0
 refine' c_acclen h1 h2 hts hz hlen U1 hp1 (gd := _) (cn := _) (a := _) (ccd := _) (cl := _) (E := _) (B := ?kB) (F := F') (X := X') (N := N') (T := T') (hk := ?kk) (hdp := ?kd) (hu := ?ku) (CH := CH1.keeps FG'.keep) (hg := hg) (hret := ?_)
 case kB => k_asm
 case kk => rfl
 case kd => walk_at "d3"
 case ku => walk_at "d3"
 intro t5 h5 tk5 gs5 ps5 hps5 G5 F5 N5
 show (0 ≤ _ ∧ _ < _) ∧ _
 refine ⟨⟨b.1, by omega⟩, ?_⟩
 rw [show ((ts.map fun t => (t.2.1.1.length : Int) + t.2.2.1.length).sum != 0) = true from bne_iff_ne.mpr (by omega)]
 have m1 := updF_mem (o' := tabObj ps5) U1 h1 (by intro q; cases q)
 have m2 := updF_mem (o' := tabObj ps5) U1 h2 (by intro q; cases q)
 clear F' N'
 k_steps
 unfold Halt
 refine' c_accstr m1 m2 (fun t ht => updF_mem U1 (hts t ht) (by intro q; cases q)) hz hlen (U2 _) hp2 (gd := _) (cn := _) (a := _) (ccd := _) (cl := _) (E := _) (B := ?kB2) (F := F5) (X := X') (N := N5) (T := T') (hk := ?kk2) (hdp := ?kd2) (hu := ?ku2) (CH := CH2.keeps FG'.keep) (hg := G5) (hret := ?_)
 case kB2 => k_asm
 case kk2 => rfl
 case kd2 => walk_at "d3"
 case ku2 => walk_at "d3"
 intro t6 h6 tk6 gs6 ps6 hps6 G6 F6 N6
 unfold StrBack
 dsimp only
 clear F5 N5
 k_steps
 exact hret _ _ _ _ _ hps5 hps6 G6 (by assumption) (by assumption)
theorem eq_2 : pt.U1 := hy @eq_1
end J20
theorem c_onlyws : type_of% (@Part1.h _ _ _ J20.pt J20.eq_2) := @Part1.h _ _ _ J20.pt J20.eq_2
end
section
namespace J21
def pt : Part1 (aP.f.f.m.e.c.b.b.l.x.s.h.c.r.i.w.a.a.H.q.d.d.d.a.a.a.A.c.c.e.e.t.j) (∀ {w : World} {mean : ExcName → Option Value} {mg mb : Str → Option Value} {x AD : Addr} {vs : List Value} {n k i : Nat} {ti : Tok} {t1 t2 : Tok} {led : List (Addr × Obj)} {g : Obj → List (Addr × Obj)}
  (h1 : (x, accObj AD vs n) ∈ led) (h2 : (AD, accDict w t1 t2 k) ∈ led) (hz : vs.length < 500) (hi : i ≤ vs.length) (U : UpdF x (accObj AD vs n) led g)
(dp un : Nat) (gd : Option (List Code)) (cn : Str) (cs : Scope) (a : Addr) (ccd : Value) (cl : List (Str × Addr)) (outer : List Env) (A₀ : Around) (base h₀ : Heap) (L : Addr) (m : Str → Option Value) (s : Shared) (Q E : Value → Shared → Prop)
  (B : Below A₀ base outer h₀) (F : Fr h₀ L s.heap m) (X : (hd.heap_1 w.params).In h₀) (N : News h₀ L s.heap led) (T : Top pv lv mean mg mb h₀) (hk : cs.kind = .function)
  (hdp : dp + 30 < recursionLimit) (hu : un + 260 < cLine)
  (hret : ∀ (D : Addr) (nD n' : Nat) (h' : Heap) (tk' : Nat), Fr h₀ L h' m → News h₀ L h' ((D, listOf (vs.drop i).toArray nD) :: g (accObj AD (vs.take i) n')) → (∀ p ∈ led, p.1 < D) → Q (.ref D) { s with heap := h', toks := tk' }), wpAny (model theProg w) (ktrTop dp un gd cn cs L a ccd cl outer) (call (.ref 152) [.ref x, .int i ti]) Q E s) := by
 apply Part1.mk
 case h => intro hS1 w mean mg mb x AD vs n k i ti t1 t2 led g h1 h2 hz hi U dp un gd cn cs a ccd cl outer A₀ base h₀ L m s Q E B F X N T hk hdp hu hret; revert h1 h2 hz hi U B F X N T hk hdp hu hret; exact @hS1 w mean mg mb x AD vs n k i ti t1 t2 led g dp un gd cn cs a ccd cl outer A₀ base h₀ L m s Q E
def Z0 := pt.z1
def w := hx0 Z0
def mean := hx1 Z0
def mg := hx2 Z0
def mb := hx3 Z0
def x := hx4 Z0
def AD := hx5 Z0
def vs := hx6 Z0
def n := hx7 Z0
def Z1 := ht Z0
def k := hx0 Z1
def i := hx1 Z1
def ti := hx2 Z1
def t1 := hx3 Z1
def t2 := hx4 Z1
def led := hx5 Z1
def g := hx6 Z1
def dp := hx7 Z1
def Z2 := ht Z1
def un := hx0 Z2
def gd := hx1 Z2
def cn := hx2 Z2
def cs := hx3 Z2
def a := hx4 Z2
def ccd := hx5 Z2
def cl := hx6 Z2
def outer := hx7 Z2
def Z3 := ht Z2
def A₀ := hx0 Z3
def base := hx1 Z3
def h₀ := hx2 Z3
def L := hx3 Z3
def m := hx4 Z3
def s := hx5 Z3
def Q := hx6 Z3
def E := hx7 Z3
theorem eq_1 : pt.Q1 w mean mg mb x AD vs n k i ti t1 t2 led g dp un gd cn cs a ccd cl outer A₀ base h₀ L m s Q E := by
 intro h1 h2 hz hi U B F X N T hk hdp hu hret
 k_with_none
 k_with "ne" => (refine neN ?_; (try dsimp only); first | with_reducible (first | assumption | (refine Ne.symm ?_; assumption) | exact ne_1 | exact ne_1.symm | exact ne_2 | exact ne_2.symm | exact ne_3 | exact ne_3.symm | exact ne_4 | exact ne_4.symm) | exact (by with_reducible assumption : Apt _ _) | exact Ne.symm (by with_reducible assumption : Apt _ _) | omega)
 k_with "d2" => (repeat' (first | with_reducible (first | exact m_id | exact m_nil | exact m_lid | exact m_mapl | exact m_mapl2 | refine m_cons ?_ ?_ | refine m_app ?_ ?_ | refine m_map ?_ ?_ | refine m_map1 ?_ | exact m_hd | refine m_tl ?_ | exact m_mapr rfl | refine m_tail ?_ | refine m_right ?_ | refine m_inr ?_) | exact m_hd | refine m_tl ?_))
 k_with "d3" => (first | assumption | omega | ktr_room | ktr_units | (simp only [] at *; omega))
 k_with "mem" => assumption
 k_with "subscriptTail Name Slice ref ref" => (k_here; (with_reducible show wpAny _ _ (subscriptTail _ (PySem.Expr.Slice (some _) none none _) (Value.ref _) (Value.ref _)) _ _ _); k_dflt (refine' acc_getsl ?gX37z ?F37z ?N37z ?h137z ?h237z ?a37z ?b37z ?c37z ?p37z ?q37z ?z37z ?e37z ?_ ?s37z ?t37z; (case gX37z => k_asm); (case F37z => k_asm); (case N37z => k_asm); (case h137z => k_mem); (case h237z => k_mem); (case a37z => k_is); (case b37z => k_is); (case c37z => k_is); (case p37z => exact IsPart.int _ _); (case q37z => exact IsPart.none); (case z37z => (first | lia | (simp only [List.length_drop, List.length_take, List.length_append, List.length_reverse] at *; lia))); (case e37z => exact pick_from _ _); (case s37z => with_unfolding_all rfl); (case t37z => kmk_pure)); intro _ _ _ _ _)
 have _ := fl X
 refine wpAny_call ?_
 k_dflt ((first | refine codeD (h := ?_) | refine codeD (hbind := by exact binds_K (by k_in) rfl (by k_is) rfl rfl rfl) (h := ?_)); k_whole; intro m' g' L' h' tk' FG' F' N' B' X' T'; (try dsimp only); (try k_lift B'); (try k_fold))
 k_steps
 rename_i D h3 l3 h4 D2 h5 F5 N5 l5
 have hxD : x ≠ D := Nat.ne_of_lt (l3 _ h1)
 have hxD2 : x ≠ D2 := Nat.ne_of_lt (Nat.lt_trans (l3 _ h1) l5.1)
 refine acc_setsl (K := hd.heap_1 w.params) (x := x) (l := D2) (vs := vs) (ws := []) (zs := vs.take i) (n' := if (vs.take i).length = vs.length then n else n + 1) (a := i) (b := vs.length) X' F5 N5 (.tail _ (.tail _ h1)) (.tail _ (.tail _ h2)) (.head _) hxD2 ?y1 ?y2 ?y3 (.int _ _) .none ?y5 hz (by decide) ?y6 ?y7 rfl (.tail (Ne.symm hxD2) (.tail (Ne.symm hxD) (updF_upd U))) fun h6 F6 N6 => ?_
 case y1 => k_is
 case y2 => k_is
 case y3 => k_is
 case y5 => simp [sliceBounds]; lia
 case y6 => rw [Nat.max_eq_right hi]; simp
 case y7 => simp; lia
 clear F5 N5
 k_steps
 rename_i kF kN _ _
 exact hret D _ _ _ _ kF (fun p hp => kN p (.tail _ hp)) l3
theorem eq_2 : pt.U1 := hy @eq_1
end J21
theorem c_popfrom : type_of% (@Part1.h _ _ _ J21.pt J21.eq_2) := @Part1.h _ _ _ J21.pt J21.eq_2
end
section
theorem c_pushC {w : World} {mean : ExcName → Option Value} {mg mb : Str → Option Value} {x AD : Addr} {vs : List Value} {n k : Nat} {t1 t2 : Tok} {f p : Str} {tf tp : Tok} {led : List (Addr × Obj)} {ledF : Addr → List (Addr × Obj)}
  (h1 : (x, accObj AD vs n) ∈ led) (h2 : (AD, accDict w t1 t2 k) ∈ led) (hz : vs.length < 500) (hU : ∀ t, Upd x (accObj AD vs n) (accObj AD (vs ++ [.ref t]) (n + 1)) led (ledF t))
(dp un : Nat) (gd : Option (List Code)) (cn : Str) (cs : Scope) (a : Addr) (ccd : Value) (cl : List (Str × Addr)) (outer : List Env) (A₀ : Around) (base h₀ : Heap) (L : Addr) (m : Str → Option Value) (s : Shared) (Q E : Value → Shared → Prop)
  (B : Below A₀ base outer h₀) (F : Fr h₀ L s.heap m) (X : (hd.heap_1 w.params).In h₀) (N : News h₀ L s.heap led) (T : Top pv lv mean mg mb h₀) (hk : cs.kind = .function)
  (hdp : dp + 20 < recursionLimit) (hu : un + 160 < cLine)
  (hret : ∀ (t : Addr) (h' : Heap) (tk' : Nat), Fr h₀ L h' m → News h₀ L h' ((t, { cls := .type "tuple", data := .seq #[.str f tf, .str p tp] 0}) :: ledF t) → (∀ p ∈ led, p.1 < t) → Q .none { s with heap := h', toks := tk' }) :
  codeAny (model theProg w) (ktrTop dp un gd cn cs L a ccd cl outer) (.call (.ref 144) ⟨[.ref x, .str f tf, .str p tp], []⟩) (fun r s' => match r with | .ok (.ret v) => Q v s' | .ok _ => False | .error e => E e s') s := by
 k_with_none
 k_with "ne" => (refine neN ?_; (try dsimp only); first | with_reducible (first | assumption | (refine Ne.symm ?_; assumption) | exact ne_1 | exact ne_1.symm | exact ne_2 | exact ne_2.symm | exact ne_3 | exact ne_3.symm | exact ne_4 | exact ne_4.symm) | exact (by with_reducible assumption : Apt _ _) | exact Ne.symm (by with_reducible assumption : Apt _ _) | omega)
 k_with "d2" => (repeat' (first | with_reducible (first | exact m_id | exact m_nil | exact m_lid | exact m_mapl | exact m_mapl2 | refine m_cons ?_ ?_ | refine m_app ?_ ?_ | refine m_map ?_ ?_ | refine m_map1 ?_ | exact m_hd | refine m_tl ?_ | exact m_mapr rfl | refine m_tail ?_ | refine m_right ?_ | refine m_inr ?_) | exact m_hd | refine m_tl ?_))
 k_with "d3" => (first | assumption | omega | ktr_room | ktr_units | (simp only [] at *; omega))
 k_with "mem" => assumption
 k_with "getMethod ref" => (k_here; (with_reducible show wpAny _ _ (getMethod (Value.ref _) _ _) _ _ _); k_dflt (refine' method_base (C := 200) ?gX25z ?gI25z ?ga25z ?gb25z ?gc25z ?gd25z ?ge25z ?_; (case gX25z => exact Frag.In.keeps (by k_asm) (Fr.keep (by k_asm))); (case gI25z => exact acc_inst (by k_asm) (by k_mem) (by k_mem)); (case ga25z => k_is); (case gb25z => k_is); (case gc25z => k_is); (case gd25z => k_is); (case ge25z => rfl)); k_whole)
 have _ := fl X
 k_dflt cell_enter
 k_steps
 rename_i g1 L1 hA F0 B1 X1 T1 D h3 F1 N1 ltD
 have ne : ∀ p ∈ led, p.1 ≠ D := fun p hp => Nat.ne_of_lt (ltD p hp)
 refine acc_append (by k_asm) F1 N1 (.tail _ h2) (by k_is) (.tail (Ne.symm (ne _ h1)) (hU D)) (by omega) fun h9 F9 N9 => ?_
 k_steps
 exact hret _ _ _ (by assumption) (by assumption) ltD
theorem c_push {w : World} {mean : ExcName → Option Value} {mg mb : Str → Option Value} {x AD : Addr} {vs : List Value} {n k : Nat} {t1 t2 : Tok} {f p : Str} {tf tp : Tok} {led : List (Addr × Obj)} {ledF : Addr → List (Addr × Obj)}
  (h1 : (x, accObj AD vs n) ∈ led) (h2 : (AD, accDict w t1 t2 k) ∈ led) (hz : vs.length < 500) (hU : ∀ t, Upd x (accObj AD vs n) (accObj AD (vs ++ [.ref t]) (n + 1)) led (ledF t))
(dp un : Nat) (gd : Option (List Code)) (cn : Str) (cs : Scope) (a : Addr) (ccd : Value) (cl : List (Str × Addr)) (outer : List Env) (A₀ : Around) (base h₀ : Heap) (L : Addr) (m : Str → Option Value) (s : Shared) (Q E : Value → Shared → Prop)
  (B : Below A₀ base outer h₀) (F : Fr h₀ L s.heap m) (X : (hd.heap_1 w.params).In h₀) (N : News h₀ L s.heap led) (T : Top pv lv mean mg mb h₀) (hk : cs.kind = .function)
  (hdp : dp + 20 < recursionLimit) (hu : un + 160 < cLine)
  (hret : ∀ (t : Addr) (h' : Heap) (tk' : Nat), Fr h₀ L h' m → News h₀ L h' ((t, { cls := .type "tuple", data := .seq #[.str f tf, .str p tp] 0}) :: ledF t) → (∀ p ∈ led, p.1 < t) → Q .none { s with heap := h', toks := tk' }) :
  wpAny (model theProg w) (ktrTop dp un gd cn cs L a ccd cl outer) (call (.ref 144) [.ref x, .str f tf, .str p tp]) Q E s :=
 wpAny_call (c_pushC h1 h2 hz hU dp un gd cn cs a ccd cl outer A₀ base h₀ L m s Q E B F X N T hk hdp hu hret)
end
section
theorem c_reset {w : World} {mean : ExcName → Option Value} {mg mb : Str → Option Value} {x AD l : Addr} {vs ws : List Value} {n k nl : Nat} {t1 t2 : Tok} {led : List (Addr × Obj)} {g1 : Obj → List (Addr × Obj)} {g2 : Obj → Obj → List (Addr × Obj)}
  (h1 : (x, accObj AD vs n) ∈ led) (h2 : (AD, accDict w t1 t2 k) ∈ led) (hl : (l, listOf ws.toArray nl) ∈ led) (hz : vs.length < 500) (hw : ws.length < 500) (hxl : x ≠ l) (U1 : UpdF x (accObj AD vs n) led g1) (U2 : ∀ o, UpdF AD (accDict w t1 t2 k) (g1 o) (g2 o))
(dp un : Nat) (gd : Option (List Code)) (cn : Str) (cs : Scope) (a : Addr) (ccd : Value) (cl : List (Str × Addr)) (outer : List Env) (A₀ : Around) (base h₀ : Heap) (L : Addr) (m : Str → Option Value) (s : Shared) (Q E : Value → Shared → Prop)
  (B : Below A₀ base outer h₀) (F : Fr h₀ L s.heap m) (X : (hd.heap_1 w.params).In h₀) (N : News h₀ L s.heap led) (T : Top pv lv mean mg mb h₀) (hk : cs.kind = .function)
  (hdp : dp + 20 < recursionLimit) (hu : un + 160 < cLine)
  (hret : ∀ (n' k' : Nat) (t2' : Tok) (h' : Heap) (tk' : Nat), Fr h₀ L h' m → News h₀ L h' (g2 (accObj AD ws n') (accDict w t1 t2' k')) → Q .none { s with heap := h', toks := tk' }) :
  wpAny (model theProg w) (ktrTop dp un gd cn cs L a ccd cl outer) (call (.ref 182) [.ref x, .ref l]) Q E s := by
 have _ := fl X
 refine wpAny_call ?_
 k_dflt ((first | refine codeD (h := ?_) | refine codeD (hbind := by exact binds_K (by k_in) rfl (by k_is) rfl rfl rfl) (h := ?_)); k_whole; intro m' g' L' h' tk' FG' F' N' B' X' T'; (try dsimp only); (try k_lift B'); (try k_fold))
 k_steps
 have Fs := F'.push { cls := .type "slice", data := .fields #[.none, .none, .none] }
 have Ns := N'.push F' { cls := .type "slice", data := .fields #[.none, .none, .none] }
 have Ns' : News g' L' (h'.push { cls := .type "slice", data := .fields #[.none, .none, .none] }) led := fun p hp => Ns p (.tail _ hp)
 refine base_setsl (K := hd.heap_1 w.params) (C := 200) (vs := vs) (ws := ws) (n := n) (lo := none) (hi := none) (a := 0) (b := vs.length) (X'.keeps Fs.keep) (acc_inst Ns' h1 h2) ?y1 ?y2 ?y3 rfl (Ns'.isList hl) ?y4 ⟨_, (Ns _ (.head _)).1, rfl, rfl⟩ .none .none ?y5 (by lia) hw ?_
 case y1 => k_is
 case y2 => k_is
 case y3 => k_is
 case y4 => exact hxl
 case y5 => simp [sliceBounds]
 refine acc_update (vs' := ws) Fs Ns' ?_ rfl (updF_upd U1) (by lia) (by lia) fun h5 F5 N5 => ?_
 ·simp
 clear F' N' Fs Ns Ns'
 k_steps
 have U2' := U2 (accObj AD ws (if ws.length = vs.length then n else n + 1))
 have m1 : (x, accObj AD ws (if ws.length = vs.length then n else n + 1)) ∈ g1 (accObj AD ws (if ws.length = vs.length then n else n + 1)) := by
  obtain ⟨pre, post, rfl, hg, a, b⟩ := U1.split
  rw [hg]; exact List.mem_append_right _ (.head _)
 have m2 : (AD, accDict w t1 t2 k) ∈ g1 (accObj AD ws (if ws.length = vs.length then n else n + 1)) := by
  obtain ⟨pre, post, e, -⟩ := U2'.split
  rw [e]; exact List.mem_append_right _ (.head _)
 refine acc_set (K := hd.heap_1 w.params) (AD := AD) (es' := [⟨PyData.keyHash w.params (Str.ofString "_initial_size"), .str (Str.ofString "_initial_size") t1, .int 0 _⟩]) X' F5 N5 m1 m2 ?w1 ?w2 ?w3 rfl (Nat.le_of_ble_eq_true rfl) rfl rfl (updF_upd U2') fun h6 tk6 F6 N6 => ?_
 case w1 => k_is
 case w2 => kernel_rfl
 case w3 => k_is
 clear F5 N5
 k_steps
 exact hret _ _ _ _ _ (by assumption) (by assumption)
namespace J27
def pt : Part1 (aP.f.f.m.e.c.b.b.l.x.s.h.c.r.i.w.a.a.y2.H.d.d.a.a.A.c.c.e.e.t.j) (∀ {w : World} {mean : ExcName → Option Value} {mg mb : Str → Option Value} {x AD : Addr} {vs : List Value} {n k : Nat} {t1 t2 : Tok} {led : List (Addr × Obj)} {g1 : Obj → List (Addr × Obj)} {g2 : Obj → Obj → List (Addr × Obj)}
  (h1 : (x, accObj AD vs n) ∈ led) (h2 : (AD, accDict w t1 t2 k) ∈ led) (hz : vs.length < 500) (U1 : UpdF x (accObj AD vs n) led g1) (U2 : ∀ o, UpdF AD (accDict w t1 t2 k) (g1 o) (g2 o))
(dp un : Nat) (gd : Option (List Code)) (cn : Str) (cs : Scope) (a : Addr) (ccd : Value) (cl : List (Str × Addr)) (outer : List Env) (A₀ : Around) (base h₀ : Heap) (L : Addr) (m : Str → Option Value) (s : Shared) (Q E : Value → Shared → Prop)
  (B : Below A₀ base outer h₀) (F : Fr h₀ L s.heap m) (X : (hd.heap_1 w.params).In h₀) (N : News h₀ L s.heap led) (T : Top pv lv mean mg mb h₀) (hk : cs.kind = .function)
  (hdp : dp + 20 < recursionLimit) (hu : un + 160 < cLine)
  (hret : ∀ (n' k' : Nat) (t2' : Tok) (h' : Heap) (tk' : Nat), Fr h₀ L h' m → News h₀ L h' (g2 (accObj AD [] n') (accDict w t1 t2' k')) → Q .none { s with heap := h', toks := tk' }), wpAny (model theProg w) (ktrTop dp un gd cn cs L a ccd cl outer) (call (.ref 182) [.ref x]) Q E s) := by
 apply Part1.mk
 case h => intro hS1 w mean mg mb x AD vs n k t1 t2 led g1 g2 h1 h2 hz U1 U2 dp un gd cn cs a ccd cl outer A₀ base h₀ L m s Q E B F X N T hk hdp hu hret; revert led h1 h2 hz U1 U2 B F X N T hk hdp hu hret; exact @hS1 w mean mg mb x AD vs n k t1 t2 g1 g2 dp un gd cn cs a ccd cl outer A₀ base h₀ L m s Q E
def Z0 := pt.z1
def w := hx0 Z0
def mean := hx1 Z0
def mg := hx2 Z0
def mb := hx3 Z0
def x := hx4 Z0
def AD := hx5 Z0
def vs := hx6 Z0
def n := hx7 Z0
def Z1 := ht Z0
def k := hx0 Z1
def t1 := hx1 Z1
def t2 := hx2 Z1
def g1 := hx3 Z1
def g2 := hx4 Z1
def dp := hx5 Z1
def un := hx6 Z1
def gd := hx7 Z1
def Z2 := ht Z1
def cn := hx0 Z2
def cs := hx1 Z2
def a := hx2 Z2
def ccd := hx3 Z2
def cl := hx4 Z2
def outer := hx5 Z2
def A₀ := hx6 Z2
def base := hx7 Z2
def Z3 := ht Z2
def h₀ := hx0 Z3
def L := hx1 Z3
def m := hx2 Z3
def s := hx3 Z3
def Q := hx4 Z3
def E := hx5 Z3
theorem eq_1 : pt.Q1 w mean mg mb x AD vs n k t1 t2 g1 g2 dp un gd cn cs a ccd cl outer A₀ base h₀ L m s Q E := by
 intro led h1 h2 hz U1 U2 B F X N T hk hdp hu hret
 have _ := fl X
 refine wpAny_call ?_
 k_dflt ((first | refine codeD (h := ?_) | refine codeD (hbind := by exact binds_K (by k_in) rfl (by k_is) rfl rfl rfl) (h := ?_)); k_whole; intro m' g' L' h' tk' FG' F' N' B' X' T'; (try dsimp only); (try k_lift B'); (try k_fold))
 k_steps
 rename_i tk0 D h7 l1 h8 F8 N8
 have hxD : x ≠ D := Nat.ne_of_lt (l1 _ h1)
 have U3 : UpdF x (accObj AD vs n) ((D, listOf [].toArray 0) :: led) (fun o => (D, listOf [].toArray 0) :: g1 o) := .tail (Ne.symm hxD) U1
 have Fs := F8.push { cls := .type "slice", data := .fields #[.none, .none, .none] }
 have Ns := N8.push F8 { cls := .type "slice", data := .fields #[.none, .none, .none] }
 have Ns' : News g' L' (h8.push { cls := .type "slice", data := .fields #[.none, .none, .none] } ) ((D, listOf [].toArray 0) :: led) := fun p hp => Ns p (.tail _ hp)
 refine base_setsl (K := hd.heap_1 w.params) (C := 200) (vs := vs) (ws := []) (n := n) (lo := none) (hi := none) (a := 0) (b := vs.length) (X'.keeps Fs.keep) (acc_inst Ns' (.tail _ h1) (.tail _ h2)) ?y1 ?y2 ?y3 rfl (Ns'.isList (.head _)) ?y4 ⟨_, (Ns _ (.head _)).1, rfl, rfl⟩ .none .none ?y5 (by lia) (by decide) ?_
 case y1 => k_is
 case y2 => k_is
 case y3 => k_is
 case y4 => exact hxD
 case y5 => simp [sliceBounds]
 refine acc_update (vs' := []) Fs Ns' ?_ rfl (updF_upd U3) (by lia) (by decide) fun h5 F5 N5 => ?_
 ·simp
 clear F8 N8 Fs Ns Ns'
 k_steps
 have U2' := U2 (accObj AD [] (if ([] : List Value).length = vs.length then n else n + 1))
 have m1 : (x, accObj AD [] (if ([] : List Value).length = vs.length then n else n + 1)) ∈ g1 (accObj AD [] (if ([] : List Value).length = vs.length then n else n + 1)) := by
  obtain ⟨pre, post, rfl, hg, a, b⟩ := U1.split
  rw [hg]; exact List.mem_append_right _ (.head _)
 have m2 : (AD, accDict w t1 t2 k) ∈ g1 (accObj AD [] (if ([] : List Value).length = vs.length then n else n + 1)) := by
  obtain ⟨pre, post, e, -⟩ := U2'.split
  rw [e]; exact List.mem_append_right _ (.head _)
 have hAD : D ≠ AD := Ne.symm (Nat.ne_of_lt (l1 _ h2))
 refine acc_set (K := hd.heap_1 w.params) (AD := AD) (es' := [⟨PyData.keyHash w.params (Str.ofString "_initial_size"), .str (Str.ofString "_initial_size") t1, .int 0 _⟩]) X' F5 N5 (.tail _ m1) (.tail _ m2) ?w1 ?w2 ?w3 rfl (Nat.le_of_ble_eq_true rfl) rfl rfl (updF_upd (.tail hAD U2')) fun h6 tk6 F6 N6 => ?_
 case w1 => k_is
 case w2 => kernel_rfl
 case w3 => k_is
 clear F5 N5
 k_steps
 rename_i kF kN _ _
 exact hret _ _ _ _ _ kF (fun p hp => kN p (.tail _ hp))
theorem eq_2 : pt.U1 := hy @eq_1
end J27
theorem c_reset0 : type_of% (@Part1.h _ _ _ J27.pt J27.eq_2) := @Part1.h _ _ _ J27.pt J27.eq_2
end
structure FC where
 fo : Addr
 FD : Addr
 x : Addr
 AD : Addr
 LL : Addr
 wd : Nat
 q1 : Tok
 q2 : Tok
 q3 : Tok
 q4 : Tok
 q5 : Tok
 q6 : Tok
 tw : Tok
 tc : Tok
 tl : Tok
 tsc : Tok
 t1 : Tok
noncomputable def Cl.G {B : Type} (c : Cl B) : Cl (FC → B) := aN ⟨⟨0,0,0,0,0,0,0,0,0,0,0,0,0,0,0,0,0⟩⟩ c
structure FSt where
 ts : List Pr
 lines : List (Str × Tok)
 n : Nat
 k : Nat
 nL : Nat
 t2 : Tok
 p1 : Array Value
 p2 : Array Value
noncomputable def Cl.B {B : Type} (c : Cl B) : Cl (FSt → B) := aN ⟨⟨[],[],0,0,0,0,#[],#[]⟩⟩ c
noncomputable abbrev fmtDict (w : World) (c : FC) : Obj := dictOf [
  ⟨PyData.keyHash w.params (Str.ofString "_maxlen"), .str (Str.ofString "_maxlen") c.q1, .int c.wd c.tw⟩,
  ⟨PyData.keyHash w.params (Str.ofString "_continuation_ws"), .str (Str.ofString "_continuation_ws") c.q2, .str (Str.ofString " ") c.tc⟩,
  ⟨PyData.keyHash w.params (Str.ofString "_continuation_ws_len"), .str (Str.ofString "_continuation_ws_len") c.q3, .int 1 c.tl⟩,
  ⟨PyData.keyHash w.params (Str.ofString "_splitchars"), .str (Str.ofString "_splitchars") c.q4, .str (Str.ofString " ") c.tsc⟩,
  ⟨PyData.keyHash w.params (Str.ofString "_lines"), .str (Str.ofString "_lines") c.q5, .ref c.LL⟩,
  ⟨PyData.keyHash w.params (Str.ofString "_current_line"), .str (Str.ofString "_current_line") c.q6, .ref c.x⟩] 6
noncomputable abbrev prLed (ts : List Pr) : List (Addr × Obj) := ts.map fun t => (t.1, prObj t)
noncomputable abbrev fled (w : World) (c : FC) (st : FSt) (rest : List (Addr × Obj)) : List (Addr × Obj) :=
 (c.x, accObj c.AD (prRefs st.ts) st.n) :: (c.AD, accDict w c.t1 st.t2 st.k) :: (c.LL, listOf (strValues st.lines).toArray st.nL) :: (c.fo, instObj 116 c.FD) :: (c.FD, fmtDict w c) ::
 (162, tabObj st.p1) :: (169, tabObj st.p2) :: (prLed st.ts ++ rest)
noncomputable def FSt.prs (st : FSt) : List (Str × Str) := st.ts.map fun t => (t.2.1.1, t.2.2.1)
noncomputable def FSt.lns (st : FSt) : List Str := st.lines.map (·.1)
structure Chain (c : FC) : Prop where
 h1 : 162 < c.FD
 h2 : 169 < c.FD
 h3 : c.FD < c.fo
 h4 : c.fo < c.LL
 h5 : c.LL < c.AD
 h6 : c.AD < c.x
noncomputable def TabsOk (st : FSt) : Prop := OneTab ⟨101, 19, 101, 63⟩ st.p1 ∧ OneTab ⟨104, 32, 104, 85⟩ st.p2
noncomputable def Apart (c : FC) (rest : List (Addr × Obj)) : Prop := ∀ p ∈ rest, p.1 ≠ c.x ∧ p.1 ≠ c.AD ∧ p.1 ≠ c.LL ∧ p.1 ≠ 162 ∧ p.1 ≠ 169
section
namespace J11
def pt : Part1 (aP.f.f.m.e.c.b.b.l.x.s.h.c.r.i.w.a.a.q.y.y.d.d.d.d.a.e.e.t.j) (∀ {w : World} {mean : ExcName → Option Value} {mg mb : Str → Option Value} {wd : Nat} {tz tw tc tsc : Tok} {p1 p2 : Array Value} {led : List (Addr × Obj)} (hp1 : (162, tabObj p1) ∈ led) (hp2 : (169, tabObj p2) ∈ led)
(dp un : Nat) (gd : Option (List Code)) (cn : Str) (cs : Scope) (a : Addr) (ccd : Value) (cl : List (Str × Addr)) (outer : List Env) (A₀ : Around) (base h₀ : Heap) (L : Addr) (m : Str → Option Value) (s : Shared) (Q E : Value → Shared → Prop)
  (B : Below A₀ base outer h₀) (F : Fr h₀ L s.heap m) (X : (hd.heap_1 w.params).In h₀) (N : News h₀ L s.heap led) (T : Top pv lv mean mg mb h₀) (hk : cs.kind = .function)
  (hdp : dp + 60 < recursionLimit) (hu : un + 560 < cLine)
  (hret : ∀ (c : FC) (st : FSt) (h' : Heap) (tk' : Nat), c.wd = wd → Chain c → (∀ p ∈ led, p.1 < c.FD) → st.ts = [] → st.lines = [] → st.p1 = p1 → st.p2 = p2 → Fr h₀ L h' m → News h₀ L h' (fled w c st led) → Q (.ref c.fo) { s with heap := h', toks := tk' }), wpAny (model theProg w) (ktrTop dp un gd cn cs L a ccd cl outer) (call (.ref 116) [.int 0 tz, .int wd tw, .str (Str.ofString " ") tc, .str (Str.ofString " ") tsc]) Q E s) := by
 apply Part1.mk
 case h => intro hS1 w mean mg mb wd tz tw tc tsc p1 p2 led hp1 hp2 dp un gd cn cs a ccd cl outer A₀ base h₀ L m s Q E B F X N T hk hdp hu hret; revert hp1 hp2 B F X N T hk hdp hu hret; exact @hS1 w mean mg mb wd tz tw tc tsc p1 p2 led dp un gd cn cs a ccd cl outer A₀ base h₀ L m s Q E
def Z0 := pt.z1
def w := hx0 Z0
def mean := hx1 Z0
def mg := hx2 Z0
def mb := hx3 Z0
def wd := hx4 Z0
def tz := hx5 Z0
def tw := hx6 Z0
def tc := hx7 Z0
def Z1 := ht Z0
def tsc := hx0 Z1
def p1 := hx1 Z1
def p2 := hx2 Z1
def led := hx3 Z1
def dp := hx4 Z1
def un := hx5 Z1
def gd := hx6 Z1
def cn := hx7 Z1
def Z2 := ht Z1
def cs := hx0 Z2
def a := hx1 Z2
def ccd := hx2 Z2
def cl := hx3 Z2
def outer := hx4 Z2
def A₀ := hx5 Z2
def base := hx6 Z2
def h₀ := hx7 Z2
def Z3 := ht Z2
def L := hx0 Z3
def m := hx1 Z3
def s := hx2 Z3
def Q := hx3 Z3
def E := hx4 Z3
theorem eq_1 : pt.Q1 w mean mg mb wd tz tw tc tsc p1 p2 led dp un gd cn cs a ccd cl outer A₀ base h₀ L m s Q E := by
 intro hp1 hp2 B F X N T hk hdp hu hret
 k_with_none
 k_with "ne" => (refine neN ?_; (try dsimp only); first | with_reducible (first | assumption | (refine Ne.symm ?_; assumption) | exact ne_1 | exact ne_1.symm | exact ne_2 | exact ne_2.symm | exact ne_3 | exact ne_3.symm | exact ne_4 | exact ne_4.symm) | exact (by with_reducible assumption : Apt _ _) | exact Ne.symm (by with_reducible assumption : Apt _ _) | omega)
 k_with "d2" => (repeat' (first | with_reducible (first | exact m_id | exact m_nil | exact m_lid | exact m_mapl | exact m_mapl2 | refine m_cons ?_ ?_ | refine m_app ?_ ?_ | refine m_map ?_ ?_ | refine m_map1 ?_ | exact m_hd | refine m_tl ?_ | exact m_mapr rfl | refine m_tail ?_ | refine m_right ?_ | refine m_inr ?_) | exact m_hd | refine m_tl ?_))
 k_with "d3" => (first | assumption | omega | ktr_room | ktr_units | (simp only [] at *; omega))
 k_with "call ref" => (k_here; (with_reducible show wpAny _ _ (call (Value.ref 200) _) _ _ _); (refine Halt.out ?_))
 have _ := fl X
 refine' call_cls ?k1 ?k2 ?k3 ?k4 ?k5 ?k6 ?_
 case k1 => k_asm
 case k2 => k_asm
 case k3 => k_asm
 case k4 => k_is
 case k5 => k_is
 case k6 => k_is
 intro fo FD h1 F1 N1 l1 l2
 have l1' := l1
 (try k_lt l1); (try k_lt2 l2); (try k_sweep)
 (refine codeD (h := ?_); k_whole; intro m' g' L' h' tk' FG' F' N' B' X' T'; (try dsimp only); (try k_lift B'); (try k_fold))
 k_steps
 unfold Halt
 rename_i tk5 h4 h5 h6 tk6 h7 LL h8 lL h9 F9 N9
 refine' call_acc (K := hd.heap_1 w.params) F9 X' N9 ?y1 ?y2 ?y3 ?_
 case y1 => kernel_rfl
 case y2 => k_is
 case y3 => k_is
 intro x AD h10 F10 N10 la lb
 refine' c_accinit (x := x) (AD := AD) (n := 0) (k := 0) (led := _) (g := fun o => (x, accObj AD [] 0) :: (AD, o) :: _) (.head _) (.tail _ (.head _)) (.tail (Ne.symm (Nat.ne_of_lt lb)) (.head fun p hp => Nat.ne_of_lt (la p hp))) (dp := _) (un := _) (gd := _) (cn := _) (cs := _) (a := _) (ccd := _) (cl := _) (outer := _) (A₀ := _) (base := _) (h₀ := _) (L := _) (m := _) (s := _) (Q := fun _ _ => True) (E := fun _ _ => True) (B := ?kB) (F := F10) (X := X') (N := N10) (T := T') (hk := ?kk) (hdp := ?kd) (hu := ?ku) (hret := ?_)
 case kB => k_asm
 case kk => rfl
 case kd => show dp + 3 + 30 < recursionLimit; lia
 case ku => show un + 5 + 260 < cLine; lia
 intro t1 k1 h11 tk11 F11 N11
 clear F9 N9 F10 N10
 (try k_lt la); (try k_lt2 lb)
 refine ⟨rfl, ?_⟩
 dsimp only
 k_steps
 rename_i h12 F12 N12 kF kN _ _
 obtain ⟨q1, q2, q3, q4, q5, q6, tl, kN⟩ : ∃ q1 q2 q3 q4 q5 q6 tl, News h₀ L h12 ((x, accObj AD [] 0) :: (AD, accDict w t1 tz k1) :: (LL, listOf #[] 0) :: (fo, instObj 116 FD) ::
   (FD, fmtDict w ⟨fo, FD, x, AD, LL, wd, q1, q2, q3, q4, q5, q6, tw, tc, tl, tsc, t1⟩) :: led) := ⟨_, _, _, _, _, _, _, kN⟩
 refine hret ⟨fo, FD, x, AD, LL, wd, q1, q2, q3, q4, q5, q6, tw, tc, tl, tsc, t1⟩ ⟨[], [], 0, k1, 0, tz, p1, p2⟩ _ _ rfl ⟨l1' _ hp1, l1' _ hp2, l2, lL.1, la.1, lb⟩ l1' rfl rfl rfl rfl kF fun p hp => ?_
 refine m_el hp (m_all ?_ ?_)
 ·exact kN _ (.head _)
 refine m_all ?_ ?_
 ·exact kN _ (.tail _ (.head _))
 refine m_all ?_ ?_
 ·exact kN _ (.tail _ (.tail _ (.head _)))
 refine m_all ?_ ?_
 ·exact kN _ (.tail _ (.tail _ (.tail _ (.head _))))
 refine m_all ?_ ?_
 ·exact kN _ (.tail _ (.tail _ (.tail _ (.tail _ (.head _)))))
 refine m_all ?_ ?_
 ·exact kN _ (.tail _ (.tail _ (.tail _ (.tail _ (.tail _ hp1)))))
 refine m_all ?_ ?_
 ·exact kN _ (.tail _ (.tail _ (.tail _ (.tail _ (.tail _ hp2)))))
 intro p hp
 exact kN _ (.tail _ (.tail _ (.tail _ (.tail _ (.tail _ hp)))))
theorem eq_2 : pt.U1 := hy @eq_1
end J11
theorem c_fmtnew : type_of% (@Part1.h _ _ _ J11.pt J11.eq_2) := @Part1.h _ _ _ J11.pt J11.eq_2
end
theorem news_ne {h₀ h : Heap} {L a b : Addr} {o o' : Obj} {led : List (Addr × Obj)} (N : News h₀ L h led) (h1 : (a, o) ∈ led) (h2 : (b, o') ∈ led) (h : o ≠ o') : a ≠ b := by
 rintro rfl
 have := (N _ h1).1.symm.trans (N _ h2).1
 exact h (Option.some.inj this)
theorem prLed_mem {ts : List Pr} {p : Addr × Obj} (h : p ∈ prLed ts) : ∃ t ∈ ts, p = (t.1, prObj t) := by
 obtain ⟨t, ht, rfl⟩ := List.mem_map.mp h
 exact ⟨t, ht, rfl⟩
theorem Chain.nat {c : FC} (h : Chain c) : @LT.lt Nat _ 162 c.FD ∧ @LT.lt Nat _ 169 c.FD ∧ @LT.lt Nat _ c.FD c.fo ∧ @LT.lt Nat _ c.fo c.LL ∧ @LT.lt Nat _ c.LL c.AD ∧ @LT.lt Nat _ c.AD c.x := ⟨h.1, h.2, h.3, h.4, h.5, h.6⟩
section
theorem fled_all {w : World} {c : FC} {st : FSt} {rest : List (Addr × Obj)} {P : Addr × Obj → Prop} (h1 : P (c.x, accObj c.AD (prRefs st.ts) st.n)) (h2 : P (c.AD, accDict w c.t1 st.t2 st.k)) (h3 : P (c.LL, listOf (strValues st.lines).toArray st.nL)) (h4 : P (c.fo, instObj 116 c.FD)) (h5 : P (c.FD, fmtDict w c)) (h6 : P (162, tabObj st.p1)) (h7 : P (169, tabObj st.p2))
  (h8 : ∀ t ∈ st.ts, P (t.1, prObj t)) (h9 : ∀ p ∈ rest, P p) : ∀ p ∈ fled w c st rest, P p :=
 m_all h1 (m_all h2 (m_all h3 (m_all h4 (m_all h5 (m_all h6 (m_all h7 (m_allapp (fun p hp => let ⟨t, ht, e⟩ := prLed_mem hp; e ▸ h8 t ht) h9)))))))
variable {w : World} {c : FC} {st : FSt} {rest : List (Addr × Obj)} {h₀ h : Heap} {L : Addr}
theorem fled_pr {t : Pr} (ht : t ∈ st.ts) : (t.1, prObj t) ∈ fled w c st rest :=
 .tail _ (.tail _ (.tail _ (.tail _ (.tail _ (.tail _ (.tail _ (List.mem_append_left _ (List.mem_map.mpr ⟨t, ht, rfl⟩))))))))
theorem fled_rest {p : Addr × Obj} (h : p ∈ rest) : p ∈ fled w c st rest :=
 .tail _ (.tail _ (.tail _ (.tail _ (.tail _ (.tail _ (.tail _ (List.mem_append_right _ h)))))))
theorem apart_all (N : News h₀ L h (fled w c st rest)) (hA : Apart c rest) : Apart c (prLed st.ts ++ rest) := by
 intro p hp
 rcases List.mem_append.mp hp with hp | hp
 ·obtain ⟨t, ht, rfl⟩ := prLed_mem hp
  have hm := fled_pr (w := w) (c := c) (rest := rest) ht
  refine ⟨news_ne N hm (.head _) ?_, news_ne N hm (.tail _ (.head _)) ?_, news_ne N hm (.tail _ (.tail _ (.head _))) ?_, news_ne N hm (.tail _ (.tail _ (.tail _ (.tail _ (.tail _ (.head _)))))) ?_, news_ne N hm (.tail _ (.tail _ (.tail _ (.tail _ (.tail _ (.tail _ (.head _))))))) ?_⟩ <;>
   first | (intro e; cases e; done) | (intro e; injection e with e1; injection e1 with e2; revert e2; decide) | (intro e; have e1 := congrArg Obj.cls e; revert e1; decide) | skip
 ·exact hA p hp
theorem upd_x (hc : Chain c) (hA : Apart c (prLed st.ts ++ rest)) : UpdF c.x (accObj c.AD (prRefs st.ts) st.n) (fled w c st rest) (fun o => (c.x, o) :: (fled w c st rest).tail) := by
 refine .head fun p hp => ?_
 obtain ⟨i1, i2, i3, i4, i5, i6⟩ := hc.nat
 refine m_el hp ?_; refine m_all ?_ (m_all ?_ (m_all ?_ (m_all ?_ (m_all ?_ (m_all ?_ ?_)))))
 all_goals first | exact fun p hp => (hA p hp).1 | ((dsimp only; first | exact Nat.ne_of_lt (by lia) | exact Nat.ne_of_gt (by lia) | decide))
theorem upd_AD (hc : Chain c) (hA : Apart c (prLed st.ts ++ rest)) : UpdF c.AD (accDict w c.t1 st.t2 st.k) (fled w c st rest) (fun o => (c.x, accObj c.AD (prRefs st.ts) st.n) :: (c.AD, o) :: (fled w c st rest).tail.tail) := by
 obtain ⟨i1, i2, i3, i4, i5, i6⟩ := hc.nat
 refine .tail (by (dsimp only; first | exact Nat.ne_of_lt (by omega) | exact Nat.ne_of_gt (by omega) | decide)) (.head fun p hp => ?_)
 refine m_el hp ?_; refine m_all ?_ (m_all ?_ (m_all ?_ (m_all ?_ (m_all ?_ ?_))))
 all_goals first | exact fun p hp => (hA p hp).2.1 | ((dsimp only; first | exact Nat.ne_of_lt (by omega) | exact Nat.ne_of_gt (by omega) | decide))
theorem upd_LL (hc : Chain c) (hA : Apart c (prLed st.ts ++ rest)) : UpdF c.LL (listOf (strValues st.lines).toArray st.nL) (fled w c st rest) (fun o => (c.x, accObj c.AD (prRefs st.ts) st.n) :: (c.AD, accDict w c.t1 st.t2 st.k) :: (c.LL, o) :: (fled w c st rest).tail.tail.tail) := by
 obtain ⟨i1, i2, i3, i4, i5, i6⟩ := hc.nat
 refine .tail (by (dsimp only; first | exact Nat.ne_of_lt (by omega) | exact Nat.ne_of_gt (by omega) | decide)) (.tail (by (dsimp only; first | exact Nat.ne_of_lt (by omega) | exact Nat.ne_of_gt (by omega) | decide)) (.head fun p hp => ?_))
 refine m_el hp ?_; refine m_all ?_ (m_all ?_ (m_all ?_ (m_all ?_ ?_)))
 all_goals first | exact fun p hp => (hA p hp).2.2.1 | ((dsimp only; first | exact Nat.ne_of_lt (by omega) | exact Nat.ne_of_gt (by omega) | decide))
theorem upd_T1 (hc : Chain c) (hA : Apart c (prLed st.ts ++ rest)) : UpdF 162 (tabObj st.p1) (fled w c st rest) (fun o => (c.x, accObj c.AD (prRefs st.ts) st.n) :: (c.AD, accDict w c.t1 st.t2 st.k) :: (c.LL, listOf (strValues st.lines).toArray st.nL) :: (c.fo, instObj 116 c.FD) :: (c.FD, fmtDict w c) ::
  (162, o) :: (fled w c st rest).tail.tail.tail.tail.tail.tail) := by
 obtain ⟨i1, i2, i3, i4, i5, i6⟩ := hc.nat
 refine .tail (by (dsimp only; first | exact Nat.ne_of_lt (by omega) | exact Nat.ne_of_gt (by omega) | decide)) (.tail (by (dsimp only; first | exact Nat.ne_of_lt (by omega) | exact Nat.ne_of_gt (by omega) | decide)) (.tail (by (dsimp only; first | exact Nat.ne_of_lt (by omega) | exact Nat.ne_of_gt (by omega) | decide)) (.tail (by (dsimp only; first | exact Nat.ne_of_lt (by omega) | exact Nat.ne_of_gt (by omega) | decide)) (.tail (by (dsimp only; first | exact Nat.ne_of_lt (by omega) | exact Nat.ne_of_gt (by omega) | decide)) (.head fun p hp => ?_)))))
 refine m_el hp ?_; refine m_all ?_ ?_
 all_goals first | exact fun p hp => (hA p hp).2.2.2.1 | ((dsimp only; first | exact Nat.ne_of_lt (by omega) | exact Nat.ne_of_gt (by omega) | decide))
theorem upd_T2 (hc : Chain c) (hA : Apart c (prLed st.ts ++ rest)) : UpdF 169 (tabObj st.p2) (fled w c st rest) (fun o => (c.x, accObj c.AD (prRefs st.ts) st.n) :: (c.AD, accDict w c.t1 st.t2 st.k) :: (c.LL, listOf (strValues st.lines).toArray st.nL) :: (c.fo, instObj 116 c.FD) :: (c.FD, fmtDict w c) ::
  (162, tabObj st.p1) :: (169, o) :: (prLed st.ts ++ rest)) := by
 obtain ⟨i1, i2, i3, i4, i5, i6⟩ := hc.nat
 exact .tail (by (dsimp only; first | exact Nat.ne_of_lt (by omega) | exact Nat.ne_of_gt (by omega) | decide)) (.tail (by (dsimp only; first | exact Nat.ne_of_lt (by omega) | exact Nat.ne_of_gt (by omega) | decide)) (.tail (by (dsimp only; first | exact Nat.ne_of_lt (by omega) | exact Nat.ne_of_gt (by omega) | decide)) (.tail (by (dsimp only; first | exact Nat.ne_of_lt (by omega) | exact Nat.ne_of_gt (by omega) | decide)) (.tail (by (dsimp only; first | exact Nat.ne_of_lt (by omega) | exact Nat.ne_of_gt (by omega) | decide)) (.tail (by (dsimp only; first | exact Nat.ne_of_lt (by omega) | exact Nat.ne_of_gt (by omega) | decide)) (.head fun p hp => (hA p hp).2.2.2.2))))))
theorem fled_push {t' n' : Nat} {q : (Str × Tok) × (Str × Tok)} (N : News h₀ L h ((t', prObj (t', q)) :: (c.x, accObj c.AD (prRefs st.ts ++ [.ref t']) n') :: (fled w c st rest).tail)) :
  News h₀ L h (fled w c { st with ts := st.ts ++ [(t', q)], n := n' } rest) := fun p hp => N p (by
 have e : prRefs (st.ts ++ [(t', q)]) = prRefs st.ts ++ [.ref t'] := List.map_append ..
 dsimp only [fled, List.tail_cons] at hp ⊢
 rw [e] at hp
 refine m_use ?_ p hp; walk_at "d2")
theorem fled_weak {q : Addr × Obj} (N : News h₀ L h (q :: fled w c st rest)) : News h₀ L h (q :: fled w c st (q :: rest)) := fun p hp => N p (by
 refine m_use ?_ p hp; walk_at "d2")
theorem apart_new {D : Addr} {o : Obj} (hl : ∀ p ∈ fled w c st rest, p.1 < D) (hA : Apart c rest) : Apart c ((D, o) :: rest) := by
 intro p hp
 refine m_el hp (m_all ?_ ?_)
 ·refine ⟨Nat.ne_of_gt (hl (c.x, _) (.head _)), Nat.ne_of_gt (hl (c.AD, _) (.tail _ (.head _))), Nat.ne_of_gt (hl (c.LL, _) (.tail _ (.tail _ (.head _)))), ?_, ?_⟩
  ·exact Nat.ne_of_gt (hl (162, _) (.tail _ (.tail _ (.tail _ (.tail _ (.tail _ (.head _)))))))
  ·exact Nat.ne_of_gt (hl (169, _) (.tail _ (.tail _ (.tail _ (.tail _ (.tail _ (.tail _ (.head _))))))))
 ·intro p hp; exact hA p hp
theorem fled_mono {rest' : List (Addr × Obj)} (N : News h₀ L h (fled w c st rest)) (hs : ∀ p ∈ rest', p ∈ rest) : News h₀ L h (fled w c st rest') := fun p hp => N p (by
 refine m_use ?_ p hp; walk_at "d2"
 exact hs)
theorem fled_pop {ts0 : List Pr} {t : Pr} {n' : Nat} (hts : st.ts = ts0 ++ [t]) (N : News h₀ L h ((c.x, accObj c.AD (prRefs ts0) n') :: (fled w c st rest).tail)) :
  News h₀ L h (fled w c { st with ts := ts0, n := n' } ((t.1, prObj t) :: rest)) := fun q hq => N q (by
 dsimp only [fled, List.tail_cons] at hq ⊢
 rw [hts]
 refine m_use ?_ q hq; walk_at "d2")
end
noncomputable def Asc (x : Str) : Prop := ∀ c ∈ x.cps.toList, c < 128
theorem asc_lit {x : Str} (h : x.cps.toList.all (· < 128) = true) : Asc x := fun c hc => by simpa using List.all_eq_true.mp h c hc
section
variable {prog : Program} {w : World} {A : Around} {E : Value → Shared → Prop} {s : Shared} {a b : Addr} {h₀ : Heap} {L : Addr} {m : Str → Option Value} {led : List (Addr × Obj)}
theorem pair_carried {x y : Str} {tx ty : Tok} : CarriedAll [Value.str x tx, Value.str y ty] [PyData.str x, PyData.str y] := .cons (.str _ _) (.cons (.str _ _) .nil)
theorem pair_shaped {x y : Str} (hx : Asc x) (hy : Asc y) : SeqAt.shaped (.tuple [PyData.str x, PyData.str y]) = true := by
 have := str_lay [x, y] (by intro z hz; simp at hz; rcases hz with rfl | rfl; exact strOk_low hx; exact strOk_low hy)
 have h2 := str_depth [x, y]
 simp only [List.map_cons, List.map_nil] at this h2
 simp [SeqAt.shaped, PyData.canLay0, this, PyData.depth, h2]
theorem ne_pair {x y x' y' : Str} {tx ty tx' ty' : Tok} {n n' : Nat} {Q : Value → Shared → Prop} (hx : Asc x) (hy : Asc y) (hx' : Asc x') (hy' : Asc y')
  (N : News h₀ L s.heap led) (ha : (a, { cls := .type "tuple", data := .seq #[.str x tx, .str y ty] n }) ∈ led) (hb : (b, { cls := .type "tuple", data := .seq #[.str x' tx', .str y' ty'] n' }) ∈ led)
  (hu : A.units + 64 < cLine) (h : Q (.bool (!decide (x = x' ∧ y = y'))) s) :
  wpAny (model prog w) A (compareOp .NotEq (.ref a) (.ref b)) Q E s := by
 refine ne_dataH_same (reads_newDataT (ys := [.str x tx, .str y ty]) ⟨_, (N _ ha).1, rfl, n, rfl⟩ pair_carried) (reads_newDataT (ys := [.str x' tx', .str y' ty']) ⟨_, (N _ hb).1, rfl, n', rfl⟩ pair_carried) (pair_shaped hx hy) (pair_shaped hx' hy') hu ?_ ?_
 ·exact SeqAt.noMix_of_shape (.tuple [.str, .str]) rfl _ _ rfl rfl
 ·simp only [PySem.Spec.same]
  have := str_same [x, y] [x', y']
  simp only [List.map_cons, List.map_nil] at this
  rw [this]
  simpa using h
theorem ne_pairT {x y x' y' : Str} {tx ty tx' ty' : Tok} {n n' : Nat} {Q : Value → Shared → Prop} (hx : Asc x) (hy : Asc y) (hx' : Asc x') (hy' : Asc y')
  (N : News h₀ L s.heap led) (ha : (a, { cls := .type "tuple", data := .seq #[.str x tx, .str y ty] n }) ∈ led) (hb : (b, { cls := .type "tuple", data := .seq #[.str x' tx', .str y' ty'] n' }) ∈ led)
  (hu : A.units + 64 < cLine) (hne : ¬ (x = x' ∧ y = y')) (h : Q (.bool true) s) :
  wpAny (model prog w) A (compareOp .NotEq (.ref a) (.ref b)) Q E s :=
 ne_pair hx hy hx' hy' N ha hb hu (by rw [decide_eq_false hne]; exact h)
theorem pos_ne {x y z : Str} (h : 0 < y.length) : ¬ (x = z ∧ y = Str.ofString "") := by
 rintro ⟨-, rfl⟩
 exact absurd h (by decide)
end
noncomputable def lenSum (ts : List Pr) : Int := (ts.map fun t => (t.2.1.1.length : Int) + t.2.2.1.length).sum
noncomputable def joinPr (ts : List Pr) : Str := Txt.join (Str.ofString "") (ts.map fun t => t.2.1.1 ++ t.2.2.1)
theorem lenSum_snoc (ts : List Pr) (t : Pr) : lenSum (ts ++ [t]) = lenSum ts + (t.2.1.1.length + t.2.2.1.length) := by
 unfold lenSum
 rw [List.map_append, List.sum_append]
 simp
structure FGood (c : FC) (st : FSt) (rest : List (Addr × Obj)) : Prop where
 ch : Chain c
 tb : TabsOk st
 ap : Apart c rest
 lt : st.ts.length < 100
 ll : st.lines.length < 100
 le : ∀ t ∈ st.ts, t.2.1.1.length < 100 ∧ t.2.2.1.length < 100
theorem c_flen {w : World} {mean : ExcName → Option Value} {mg mb : Str → Option Value} {c : FC} {st : FSt} {rest : List (Addr × Obj)} (G : FGood c st rest)
(dp un : Nat) (gd : Option (List Code)) (cn : Str) (cs : Scope) (a : Addr) (ccd : Value) (cl : List (Str × Addr)) (outer : List Env) (A₀ : Around) (base h₀ : Heap) (L : Addr) (m : Str → Option Value) (s : Shared) (Q E : Value → Shared → Prop)
  (B : Below A₀ base outer h₀) (F : Fr h₀ L s.heap m) (X : (hd.heap_1 w.params).In h₀) (N : News h₀ L s.heap (fled w c st rest)) (T : Top pv lv mean mg mb h₀) (hk : cs.kind = .function)
  (hdp : dp + 20 < recursionLimit) (hu : un + 160 < cLine)
  (CH1 : CodeHd h₀ 166 162) (hg : AllBare s.gens)
  (hret : ∀ (t : Tok) (p1' : Array Value) (h' : Heap) (tk' : Nat) (g' : Array GenState), FGood c { st with p1 := p1' } rest → AllBare g' → Fr h₀ L h' m → News h₀ L h' (fled w c { st with p1 := p1' } rest) → Q (.int (lenSum st.ts) t) { s with heap := h', toks := tk', gens := g' }) :
  wpAny (model theProg w) (ktrTop dp un gd cn cs L a ccd cl outer) (call (.ref 167) [.ref c.x]) Q E s :=
 c_acclen (.head _) (.tail _ (.head _)) (fun t ht => fled_pr ht) (Nat.lt_trans G.lt (by decide)) G.le (upd_T1 G.ch (apart_all N G.ap)) G.tb.1 dp un gd cn cs a ccd cl outer A₀ base h₀ L m s Q E B F X N T hk hdp hu CH1 hg
  fun t h' tk' g' ps' o b F' N' => hret t ps' h' tk' g' ⟨G.ch, ⟨o, G.tb.2⟩, G.ap, G.lt, G.ll, G.le⟩ b F' N'
theorem c_fstr {w : World} {mean : ExcName → Option Value} {mg mb : Str → Option Value} {c : FC} {st : FSt} {rest : List (Addr × Obj)} (G : FGood c st rest)
(dp un : Nat) (gd : Option (List Code)) (cn : Str) (cs : Scope) (a : Addr) (ccd : Value) (cl : List (Str × Addr)) (outer : List Env) (A₀ : Around) (base h₀ : Heap) (L : Addr) (m : Str → Option Value) (s : Shared) (Q E : Value → Shared → Prop)
  (B : Below A₀ base outer h₀) (F : Fr h₀ L s.heap m) (X : (hd.heap_1 w.params).In h₀) (N : News h₀ L s.heap (fled w c st rest)) (T : Top pv lv mean mg mb h₀) (hk : cs.kind = .function)
  (hdp : dp + 20 < recursionLimit) (hu : un + 160 < cLine)
  (CH2 : CodeHd h₀ 173 169) (hg : AllBare s.gens)
  (hret : ∀ (t : Tok) (p2' : Array Value) (h' : Heap) (tk' : Nat) (g' : Array GenState), FGood c { st with p2 := p2' } rest → AllBare g' → Fr h₀ L h' m → News h₀ L h' (fled w c { st with p2 := p2' } rest) → Q (.str (joinPr st.ts) t) { s with heap := h', toks := tk', gens := g' }) :
  wpAny (model theProg w) (ktrTop dp un gd cn cs L a ccd cl outer) (call (.ref 174) [.ref c.x]) Q E s :=
 c_accstr (.head _) (.tail _ (.head _)) (fun t ht => fled_pr ht) (Nat.lt_trans G.lt (by decide)) G.le (upd_T2 G.ch (apart_all N G.ap)) G.tb.2 dp un gd cn cs a ccd cl outer A₀ base h₀ L m s Q E B F X N T hk hdp hu CH2 hg
  fun t h' tk' g' ps' o b F' N' => hret t ps' h' tk' g' ⟨G.ch, ⟨G.tb.1, o⟩, G.ap, G.lt, G.ll, G.le⟩ b F' N'
theorem c_fonly {w : World} {mean : ExcName → Option Value} {mg mb : Str → Option Value} {c : FC} {st : FSt} {rest : List (Addr × Obj)} (G : FGood c st rest) (hpos : ∃ t ∈ st.ts, 0 < t.2.2.1.length)
(dp un : Nat) (gd : Option (List Code)) (cn : Str) (cs : Scope) (a : Addr) (ccd : Value) (cl : List (Str × Addr)) (outer : List Env) (A₀ : Around) (base h₀ : Heap) (L : Addr) (m : Str → Option Value) (s : Shared) (Q E : Value → Shared → Prop)
   (B : Below A₀ base outer h₀) (F : Fr h₀ L s.heap m) (X : (hd.heap_1 w.params).In h₀) (N : News h₀ L s.heap (fled w c st rest)) (T : Top pv lv mean mg mb h₀) (hk : cs.kind = .function)
   (hdp : dp + 30 < recursionLimit) (hu : un + 260 < cLine)
   (CH1 : CodeHd h₀ 166 162) (CH2 : CodeHd h₀ 173 169) (hg : AllBare s.gens)
   (hret : ∀ (p1' p2' : Array Value) (h' : Heap) (tk' : Nat) (g' : Array GenState), FGood c { st with p1 := p1', p2 := p2' } rest → AllBare g' → Fr h₀ L h' m → News h₀ L h' (fled w c { st with p1 := p1', p2 := p2' } rest) → Q (.bool (Txt.isspace (joinPr st.ts))) { s with heap := h', toks := tk', gens := g' }) :
   wpAny (model theProg w) (ktrTop dp un gd cn cs L a ccd cl outer) (call (.ref 189) [.ref c.x]) Q E s :=
  c_onlyws (.head _) (.tail _ (.head _)) (fun t ht => fled_pr ht) (Nat.lt_trans G.lt (by decide)) G.le hpos (upd_T1 G.ch (apart_all N G.ap))
    (g2 := fun o1 o2 => (c.x, accObj c.AD (prRefs st.ts) st.n) :: (c.AD, accDict w c.t1 st.t2 st.k) :: (c.LL, listOf (strValues st.lines).toArray st.nL) :: (c.fo, instObj 116 c.FD) :: (c.FD, fmtDict w c) :: (162, o1) :: (169, o2) :: (prLed st.ts ++ rest))
    (fun o => by
      have hA := apart_all N G.ap
      obtain ⟨i1, i2, i3, i4, i5, i6⟩ := G.ch.nat
      exact .tail (Nat.ne_of_gt (by lia)) (.tail (Nat.ne_of_gt (by lia)) (.tail (Nat.ne_of_gt (by lia)) (.tail (Nat.ne_of_gt (by lia)) (.tail (Nat.ne_of_gt (by lia)) (.tail (show (162 : Nat) ≠ 169 by decide) (.head fun p hp => (hA p hp).2.2.2.2)))))))
    G.tb.1 G.tb.2 dp un gd cn cs a ccd cl outer A₀ base h₀ L m s Q E B F X N T hk hdp hu CH1 CH2 hg
    fun h' tk' g' p1' p2' o1 o2 b F' N' => hret p1' p2' h' tk' g' ⟨G.ch, ⟨o1, o2⟩, G.ap, G.lt, G.ll, G.le⟩ b F' N'
theorem c_freset0 {w : World} {mean : ExcName → Option Value} {mg mb : Str → Option Value} {c : FC} {st : FSt} {rest : List (Addr × Obj)} (G : FGood c st rest)
(dp un : Nat) (gd : Option (List Code)) (cn : Str) (cs : Scope) (a : Addr) (ccd : Value) (cl : List (Str × Addr)) (outer : List Env) (A₀ : Around) (base h₀ : Heap) (L : Addr) (m : Str → Option Value) (s : Shared) (Q E : Value → Shared → Prop)
   (B : Below A₀ base outer h₀) (F : Fr h₀ L s.heap m) (X : (hd.heap_1 w.params).In h₀) (N : News h₀ L s.heap (fled w c st rest)) (T : Top pv lv mean mg mb h₀) (hk : cs.kind = .function)
   (hdp : dp + 20 < recursionLimit) (hu : un + 160 < cLine)
   (hret : ∀ (n' k' : Nat) (t2' : Tok) (h' : Heap) (tk' : Nat), FGood c { st with ts := [], n := n', k := k', t2 := t2' } rest → Fr h₀ L h' m → News h₀ L h' (fled w c { st with ts := [], n := n', k := k', t2 := t2' } rest) → Q .none { s with heap := h', toks := tk' }) :
   wpAny (model theProg w) (ktrTop dp un gd cn cs L a ccd cl outer) (call (.ref 182) [.ref c.x]) Q E s :=
  c_reset0 (.head _) (.tail _ (.head _)) (by have := G.lt; simp; lia) (upd_x G.ch (apart_all N G.ap)) (g2 := fun o1 o2 => (c.x, o1) :: (c.AD, o2) :: (fled w c st rest).tail.tail)
    (fun o => by
      have hA := apart_all N G.ap
      obtain ⟨i1, i2, i3, i4, i5, i6⟩ := G.ch.nat
      refine .tail (Nat.ne_of_gt (by lia)) (.head fun p hp => ?_)
      refine m_el hp ?_; refine m_all ?_ (m_all ?_ (m_all ?_ (m_all ?_ (m_all ?_ ?_))))
      all_goals first | exact fun p hp => (hA p hp).2.1 | (dsimp only; first | exact Nat.ne_of_lt (by lia) | exact Nat.ne_of_gt (by lia) | decide))
    dp un gd cn cs a ccd cl outer A₀ base h₀ L m s Q E B F X N T hk hdp hu
    fun n' k' t2' h' tk' F' N' => hret n' k' t2' h' tk' ⟨G.ch, G.tb, G.ap, by simp, G.ll, by intro t ht; cases ht⟩ F' fun p hp => N' p (by
      refine m_el hp (fled_all (.head _) (.tail _ (.head _)) ?_ ?_ ?_ ?_ ?_ (fun t ht => nomatch ht) ?_)
      all_goals (dsimp only [fled, List.tail_cons]; walk_at "d2"))
theorem c_freset {w : World} {mean : ExcName → Option Value} {mg mb : Str → Option Value} {c : FC} {st : FSt} {rest : List (Addr × Obj)} {l : Addr} {us : List Pr} {nl : Nat} (G : FGood c st rest)
  (hl : (l, listOf (prRefs us).toArray nl) ∈ rest) (hus : ∀ t ∈ us, (t.1, prObj t) ∈ rest) (huz : us.length < 100) (hue : ∀ t ∈ us, t.2.1.1.length < 100 ∧ t.2.2.1.length < 100)
(dp un : Nat) (gd : Option (List Code)) (cn : Str) (cs : Scope) (a : Addr) (ccd : Value) (cl : List (Str × Addr)) (outer : List Env) (A₀ : Around) (base h₀ : Heap) (L : Addr) (m : Str → Option Value) (s : Shared) (Q E : Value → Shared → Prop)
   (B : Below A₀ base outer h₀) (F : Fr h₀ L s.heap m) (X : (hd.heap_1 w.params).In h₀) (N : News h₀ L s.heap (fled w c st rest)) (T : Top pv lv mean mg mb h₀) (hk : cs.kind = .function)
   (hdp : dp + 20 < recursionLimit) (hu : un + 160 < cLine)
   (hret : ∀ (n' k' : Nat) (t2' : Tok) (h' : Heap) (tk' : Nat), FGood c { st with ts := us, n := n', k := k', t2 := t2' } rest → Fr h₀ L h' m → News h₀ L h' (fled w c { st with ts := us, n := n', k := k', t2 := t2' } rest) → Q .none { s with heap := h', toks := tk' }) :
   wpAny (model theProg w) (ktrTop dp un gd cn cs L a ccd cl outer) (call (.ref 182) [.ref c.x, .ref l]) Q E s :=
  c_reset (.head _) (.tail _ (.head _)) (fled_rest hl) (by have := G.lt; simp; lia) (by simp; lia) (Ne.symm (G.ap _ hl).1) (upd_x G.ch (apart_all N G.ap)) (g2 := fun o1 o2 => (c.x, o1) :: (c.AD, o2) :: (fled w c st rest).tail.tail)
    (fun o => by
      have hA := apart_all N G.ap
      obtain ⟨i1, i2, i3, i4, i5, i6⟩ := G.ch.nat
      refine .tail (Nat.ne_of_gt (by lia)) (.head fun p hp => ?_)
      refine m_el hp ?_; refine m_all ?_ (m_all ?_ (m_all ?_ (m_all ?_ (m_all ?_ ?_))))
      all_goals first | exact fun p hp => (hA p hp).2.1 | (dsimp only; first | exact Nat.ne_of_lt (by lia) | exact Nat.ne_of_gt (by lia) | decide))
    dp un gd cn cs a ccd cl outer A₀ base h₀ L m s Q E B F X N T hk hdp hu
    fun n' k' t2' h' tk' F' N' => hret n' k' t2' h' tk' ⟨G.ch, G.tb, G.ap, huz, G.ll, hue⟩ F' fun p hp => by
      refine m_el hp (fled_all (N' _ ?_) (N' _ ?_) (N' _ ?_) (N' _ ?_) (N' _ ?_) (N' _ ?_) (N' _ ?_) (fun t ht => N' _ ?_) fun p hp => N' p ?_)
      all_goals try exact .head _
      all_goals try exact .tail _ (.head _)
      all_goals dsimp only [fled, List.tail_cons]
      · walk_at "d2"
      · walk_at "d2"
      · walk_at "d2"
      · walk_at "d2"
      · walk_at "d2"
      · exact .tail _ (.tail _ (.tail _ (.tail _ (.tail _ (.tail _ (.tail _ (List.mem_append_right _ (hus t ht))))))))
      · exact .tail _ (.tail _ (.tail _ (.tail _ (.tail _ (.tail _ (.tail _ (List.mem_append_right _ hp)))))))
theorem c_fadd {prog : Program} {w : World} {A : Around} {E : Value → Shared → Prop} {s : Shared} {h₀ : Heap} {L : Addr} {m : Str → Option Value} {c : FC} {st : FSt} {rest : List (Addr × Obj)} {x : Str} {t : Tok} {Q : Value → Shared → Prop}
  (G : FGood c st rest) (hl : st.lines.length < 99) (F : Fr h₀ L s.heap m) (N : News h₀ L s.heap (fled w c st rest))
  (hret : ∀ h', FGood c { st with lines := st.lines ++ [(x, t)], nL := st.nL + 1 } rest → Fr h₀ L h' m → News h₀ L h' (fled w c { st with lines := st.lines ++ [(x, t)], nL := st.nL + 1 } rest) → Q .none { s with heap := h' }) :
  wpAny (model prog w) A (call (.builtin "list.append") [.ref c.LL, .str x t]) Q E s := by
 refine append_K F N (updF_upd (upd_LL G.ch (apart_all N G.ap))) (fun h' F' N' => hret h' ⟨G.ch, G.tb, G.ap, G.lt, by simp; lia, G.le⟩ F' fun p hp => N' p ?_) (by simp [strValues, sizeLine]; lia)
 dsimp only [fled, List.tail_cons] at hp ⊢
 have e : (strValues (st.lines ++ [(x, t)])).toArray = (strValues st.lines).toArray.push (.str x t) := by simp [strValues]
 rw [e] at hp
 refine m_use ?_ p hp; walk_at "d2"
theorem c_fpush {w : World} {mean : ExcName → Option Value} {mg mb : Str → Option Value} {c : FC} {st : FSt} {rest : List (Addr × Obj)} {f p : Str} {tf tp : Tok} (G : FGood c st rest) (hz : st.ts.length < 99) (hf : f.length < 100) (hp : p.length < 100)
(dp un : Nat) (gd : Option (List Code)) (cn : Str) (cs : Scope) (a : Addr) (ccd : Value) (cl : List (Str × Addr)) (outer : List Env) (A₀ : Around) (base h₀ : Heap) (L : Addr) (m : Str → Option Value) (s : Shared) (Q E : Value → Shared → Prop)
  (B : Below A₀ base outer h₀) (F : Fr h₀ L s.heap m) (X : (hd.heap_1 w.params).In h₀) (N : News h₀ L s.heap (fled w c st rest)) (T : Top pv lv mean mg mb h₀) (hk : cs.kind = .function)
  (hdp : dp + 20 < recursionLimit) (hu : un + 160 < cLine)
  (hret : ∀ (t' n' : Nat) (h' : Heap) (tk' : Nat), (∀ q ∈ fled w c st rest, q.1 < t') → FGood c { st with ts := st.ts ++ [(t', (f, tf), (p, tp))], n := n' } rest → Fr h₀ L h' m → News h₀ L h' (fled w c { st with ts := st.ts ++ [(t', (f, tf), (p, tp))], n := n' } rest) → Q .none { s with heap := h', toks := tk' }) :
  wpAny (model theProg w) (ktrTop dp un gd cn cs L a ccd cl outer) (call (.ref 144) [.ref c.x, .str f tf, .str p tp]) Q E s :=
 c_push (.head _) (.tail _ (.head _)) (by simp; lia) (fun t' => updF_upd (upd_x G.ch (apart_all N G.ap))) dp un gd cn cs a ccd cl outer A₀ base h₀ L m s Q E B F X N T hk hdp hu
  fun t' h' tk' F' N' lt' => hret t' _ h' tk' lt' ⟨G.ch, G.tb, G.ap, by simp; lia, G.ll, fun u hu => by
   rcases List.mem_append.mp hu with h | h
   ·exact G.le u h
   ·rw [List.mem_singleton] at h; subst h; exact ⟨hf, hp⟩⟩ F' (fled_push N')
theorem c_fpopf {w : World} {mean : ExcName → Option Value} {mg mb : Str → Option Value} {c : FC} {st : FSt} {rest : List (Addr × Obj)} {ts0 us : List Pr} {i : Nat} {ti : Tok} (G : FGood c st rest) (hts : st.ts = ts0 ++ us) (hi : i = ts0.length)
(dp un : Nat) (gd : Option (List Code)) (cn : Str) (cs : Scope) (a : Addr) (ccd : Value) (cl : List (Str × Addr)) (outer : List Env) (A₀ : Around) (base h₀ : Heap) (L : Addr) (m : Str → Option Value) (s : Shared) (Q E : Value → Shared → Prop)
  (B : Below A₀ base outer h₀) (F : Fr h₀ L s.heap m) (X : (hd.heap_1 w.params).In h₀) (N : News h₀ L s.heap (fled w c st rest)) (T : Top pv lv mean mg mb h₀) (hk : cs.kind = .function)
  (hdp : dp + 30 < recursionLimit) (hu : un + 260 < cLine)
  (hret : ∀ (D : Addr) (nD n' : Nat) (h' : Heap) (tk' : Nat), FGood c { st with ts := ts0, n := n' } ((D, listOf (prRefs us).toArray nD) :: (prLed us ++ rest)) → Fr h₀ L h' m → News h₀ L h' (fled w c { st with ts := ts0, n := n' } ((D, listOf (prRefs us).toArray nD) :: (prLed us ++ rest))) → Q (.ref D) { s with heap := h', toks := tk' }) :
  wpAny (model theProg w) (ktrTop dp un gd cn cs L a ccd cl outer) (call (.ref 152) [.ref c.x, .int i ti]) Q E s := by
 have hA := apart_all N G.ap
 have e1 : (prRefs st.ts).take i = prRefs ts0 := by rw [hts, hi]; simp [prRefs]
 have e2 : (prRefs st.ts).drop i = prRefs us := by rw [hts, hi]; simp [prRefs]
 refine c_popfrom (.head _) (.tail _ (.head _)) (by have := G.lt; simp; lia) (by rw [hts, hi]; simp) (upd_x G.ch hA) dp un gd cn cs a ccd cl outer A₀ base h₀ L m s Q E B F X N T hk hdp hu fun D nD n' h' tk' F' N' lD => ?_
 rw [e1, e2] at N'
 refine hret D nD n' h' tk' ⟨G.ch, G.tb, ?_, by have := G.lt; rw [hts] at this; simp at this ⊢; lia, G.ll, fun t ht => G.le t (by rw [hts]; exact List.mem_append_left _ ht)⟩ F' fun p hp => N' p ?_
 ·intro p hp
  refine m_el hp (m_all ?_ ?_)
  ·exact apart_new (o := listOf (prRefs us).toArray nD) lD G.ap _ (.head _)
  ·intro p hp; rcases List.mem_append.mp hp with hp | hp
   ·refine hA p (List.mem_append_left _ ?_)
    rw [hts, prLed, List.map_append]
    exact List.mem_append_right _ hp
   ·exact G.ap p hp
 ·dsimp only [fled, List.tail_cons] at hp ⊢
  rw [hts]
  refine m_use ?_ p hp; walk_at "d2"
theorem rangeSize_down {a : Int} (h : 0 < a) : Builtin.Range.rangeSize a 0 (-1) = a := by
 unfold Builtin.Range.rangeSize
 simp
 lia
theorem small_down {a : Int} (h : 0 < a) (h2 : a < 1000) : Builtin.Range.small a 0 (-1) = true := by
 unfold Builtin.Range.small
 rw [rangeSize_down h]
 simp [Builtin.Range.rangeFitsLong]
 lia
section
variable {prog : Program} {w : World} {A : Around} {E : Value → Shared → Prop} {s : Shared} {h₀ : Heap} {L : Addr} {m : Str → Option Value} {led : List (Addr × Obj)}
theorem it_step {h' : Heap} {it : Addr} {o o' : Obj} (F : Fr h₀ L s.heap m) (N : News h₀ L s.heap ((it, o) :: led)) (hap : ∀ p ∈ led, p.1 ≠ it) (hs : Heap.SameBut it s.heap h') (ho : h'.get? it = some o') : Fr h₀ L h' m ∧ News h₀ L h' ((it, o') :: led) :=
 have n := N _ (.head _)
 ⟨F.change hs n.2.1 n.2.2, N.setHead hap hs ho⟩
theorem str_iter1 {x : Str} {t : Tok} {Q : Value → Shared → Prop} (ha : x.cps.all (· < 128) = true) (F : Fr h₀ L s.heap m) (N : News h₀ L s.heap led)
  (hQ : ∀ I h', Fr h₀ L h' m → News h₀ L h' ((I, { cls := .type "str_ascii_iterator", data := .fields #[.str x t, .int 0 0] }) :: led) → (∀ p ∈ led, p.1 < I) → Q (.ref I) { s with heap := h' }) :
  wpAny (model prog w) A (pyIter (.str x t)) Q E s :=
 wpAny_pyIter_ascii ha (hQ _ _ (F.push _) (N.push F _) fun p hp => Heap.lt_size (N p hp).1)
theorem str_next1 {it : Addr} {x : Str} {t : Tok} {i c : Nat} {Q : Option Value → Shared → Prop} (hx : x.cps[i]? = some c) (F : Fr h₀ L s.heap m) (N : News h₀ L s.heap ((it, { cls := .type "str_ascii_iterator", data := .fields #[.str x t, .int i 0] }) :: led)) (hap : ∀ p ∈ led, p.1 ≠ it)
  (hQ : ∀ o' u h', Fr h₀ L h' m → News h₀ L h' ((it, o') :: led) → Q (some (.str ⟨#[c]⟩ u)) { s with heap := h', toks := s.toks + 1 }) :
  wpAny (model prog w) A (pyNext (.ref it)) Q E s := by
 refine wpAny_pyNext_ascii_item (t := t) ⟨_, (N _ (.head _)).1, rfl, rfl⟩ hx fun h' hi hs => ?_
 obtain ⟨o, ho, -⟩ := hi
 obtain ⟨F', N'⟩ := it_step F N hap hs ho
 exact hQ o _ h' F' N'
theorem range_iter1 {r : Addr} {a b c : Int} {t u v : Tok} {Q : Value → Shared → Prop} (hs : Builtin.Range.small a b c = true) (F : Fr h₀ L s.heap m) (N : News h₀ L s.heap led) (hr : IsRange s.heap r a b c t u v)
  (hQ : ∀ I h', Fr h₀ L h' m → News h₀ L h' ((I, { cls := .type "range_iterator", data := .fields #[rawInt a, rawInt (Builtin.Range.rangeSize a b c), rawInt c] }) :: led) → (∀ p ∈ led, p.1 < I) → Q (.ref I) { s with heap := h' }) :
  wpAny (model prog w) A (pyIter (.ref r)) Q E s :=
 wpAny_pyIter_range hr hs (hQ _ _ (F.push _) (N.push F _) fun p hp => Heap.lt_size (N p hp).1)
theorem range_next1 {it : Addr} {x left step : Int} {Q : Option Value → Shared → Prop} (hl : 0 < left) (F : Fr h₀ L s.heap m) (N : News h₀ L s.heap ((it, { cls := .type "range_iterator", data := .fields #[rawInt x, rawInt left, rawInt step] }) :: led)) (hap : ∀ p ∈ led, p.1 ≠ it)
  (hQ : ∀ u h', Fr h₀ L h' m → News h₀ L h' ((it, { cls := .type "range_iterator", data := .fields #[rawInt (x + step), rawInt (left - 1), rawInt step] }) :: led) → Q (some (.int x u)) { s with heap := h', toks := s.toks + 1 }) :
  wpAny (model prog w) A (pyNext (.ref it)) Q E s := by
 refine wpAny_pyNext_range_item (N _ (.head _)).1 hl fun h' hi hs => ?_
 obtain ⟨F', N'⟩ := it_step F N hap hs hi
 exact hQ _ h' F' N'
theorem range_end1 {it : Addr} {x left step : Int} {Q : Option Value → Shared → Prop} (hh : A.handled = none) (hl : left ≤ 0) (F : Fr h₀ L s.heap m) (N : News h₀ L s.heap ((it, { cls := .type "range_iterator", data := .fields #[rawInt x, rawInt left, rawInt step] }) :: led)) (hap : ∀ p ∈ led, p.1 ≠ it)
  (hQ : ∀ h', Fr h₀ L h' m → News h₀ L h' led → Q none { s with heap := h' }) :
  wpAny (model prog w) A (pyNext (.ref it)) Q E s := by
 have n := N _ (.head _)
 refine wpAny_pyNext_range_end hh n.1 hl fun h' hs => ?_
 refine hQ h' ⟨F.ns.at' fun o e => hs L o (Ne.symm n.2.1) e, fun b o e => hs b o (fun q => ?_) (F.keep b o e), F.above⟩ fun p hp => ⟨hs p.1 p.2 (hap p hp) (N p (.tail _ hp)).1, (N p (.tail _ hp)).2⟩
 subst q
 rw [n.2.2] at e; cases e
end
noncomputable def lnP (ps : List (Str × Str)) : Int := (ps.map fun q => (q.1.length : Int) + q.2.length).sum
noncomputable def jnP (ps : List (Str × Str)) : Str := Txt.join (Str.ofString "") (ps.map fun q => q.1 ++ q.2)
theorem lnP_eq (st : FSt) : lnP st.prs = lenSum st.ts := by unfold lnP lenSum FSt.prs; rw [List.map_map]; rfl
theorem jnP_eq (st : FSt) : jnP st.prs = joinPr st.ts := by unfold jnP joinPr FSt.prs; rw [List.map_map]; rfl
noncomputable def chunkP (wd : Nat) (a : List (Str × Str) × List Str) (q : Str × Str) : List (Str × Str) × List Str :=
 if (wd : Int) < lnP (a.1 ++ [q]) then ([q], a.2 ++ [jnP a.1]) else (a.1 ++ [q], a.2)
theorem lnP_snoc (ps : List (Str × Str)) (q : Str × Str) : lnP (ps ++ [q]) = lnP ps + (q.1.length + q.2.length) := by
 unfold lnP; rw [List.map_append, List.sum_append]; simp
section
namespace J4
def pt : Part1 (aP.f.f.m.e.c.b.b.l.x.s.h.c.r.i.w.a.a.d.d.i.q.B.G.e.e.t.j) (∀ {w : World} {mean : ExcName → Option Value} {mg mb : Str → Option Value} {c : FC} {st : FSt} {rest : List (Addr × Obj)} {f p : Str} {tf tp : Tok} (G : FGood c st rest) (hz : st.ts.length < 99) (hl : st.lines.length < 98) (hf : f.length < 100) (hp : p.length < 100) (hB : (c.wd : Int) < lenSum st.ts + (f.length + p.length) → f = Str.ofString " " ∧ st.ts ≠ [])
(dp un : Nat) (gd : Option (List Code)) (cn : Str) (cs : Scope) (a : Addr) (ccd : Value) (cl : List (Str × Addr)) (outer : List Env) (A₀ : Around) (base h₀ : Heap) (L : Addr) (m : Str → Option Value) (s : Shared) (Q E : Value → Shared → Prop)
  (B : Below A₀ base outer h₀) (F : Fr h₀ L s.heap m) (X : (hd.heap_1 w.params).In h₀) (N : News h₀ L s.heap (fled w c st rest)) (T : Top pv lv mean mg mb h₀) (hk : cs.kind = .function)
  (hdp : dp + 100 < recursionLimit) (hu : un + 1100 < cLine)
  (CH1 : CodeHd h₀ 166 162) (CH2 : CodeHd h₀ 173 169) (hg : AllBare s.gens)
  (hret : ∀ (st' : FSt) (h' : Heap) (tk' : Nat) (g' : Array GenState), FGood c st' rest → (st'.prs, st'.lns) = chunkP c.wd (st.prs, st.lns) (f, p) → (∀ t ∈ st'.ts, t ∈ st.ts ∨ ∀ q ∈ fled w c st rest, q.1 < t.1) → AllBare g' → Fr h₀ L h' m → News h₀ L h' (fled w c st' rest) → Q .none { s with heap := h', toks := tk', gens := g' }), wpAny (model theProg w) (ktrTop dp un gd cn cs L a ccd cl outer) (call (.ref 113) [.ref c.fo, .str f tf, .str p tp]) Q E s) := by
 apply Part1.mk
 case h => intro hS1 w mean mg mb c st rest f p tf tp G hz hl hf hp hB dp un gd cn cs a ccd cl outer A₀ base h₀ L m s Q E B F X N T hk hdp hu CH1 CH2 hg hret; revert f G hz hl hf hp hB B F X N T hk hdp hu CH1 CH2 hg hret; exact @hS1 w mean mg mb c st rest p tf tp dp un gd cn cs a ccd cl outer A₀ base h₀ L m s Q E
def Z0 := pt.z1
def w := hx0 Z0
def mean := hx1 Z0
def mg := hx2 Z0
def mb := hx3 Z0
def c := hx4 Z0
def st := hx5 Z0
def rest := hx6 Z0
def p := hx7 Z0
def Z1 := ht Z0
def tf := hx0 Z1
def tp := hx1 Z1
def dp := hx2 Z1
def un := hx3 Z1
def gd := hx4 Z1
def cn := hx5 Z1
def cs := hx6 Z1
def a := hx7 Z1
def Z2 := ht Z1
def ccd := hx0 Z2
def cl := hx1 Z2
def outer := hx2 Z2
def A₀ := hx3 Z2
def base := hx4 Z2
def h₀ := hx5 Z2
def L := hx6 Z2
def m := hx7 Z2
def Z3 := ht Z2
def s := hx0 Z3
def Q := hx1 Z3
def E := hx2 Z3
theorem eq_1 : pt.Q1 w mean mg mb c st rest p tf tp dp un gd cn cs a ccd cl outer A₀ base h₀ L m s Q E := by
 intro f G hz hl hf hp hB B F X N T hk hdp hu CH1 CH2 hg hret
 k_with_none
 k_with "ne" => (refine neN ?_; (try dsimp only); first | with_reducible (first | assumption | (refine Ne.symm ?_; assumption) | exact ne_1 | exact ne_1.symm | exact ne_2 | exact ne_2.symm | exact ne_3 | exact ne_3.symm | exact ne_4 | exact ne_4.symm) | exact (by with_reducible assumption : Apt _ _) | exact Ne.symm (by with_reducible assumption : Apt _ _) | omega)
 k_with "d2" => (repeat' (first | with_reducible (first | exact m_id | exact m_nil | exact m_lid | exact m_mapl | exact m_mapl2 | refine m_cons ?_ ?_ | refine m_app ?_ ?_ | refine m_map ?_ ?_ | refine m_map1 ?_ | exact m_hd | refine m_tl ?_ | exact m_mapr rfl | refine m_tail ?_ | refine m_right ?_ | refine m_inr ?_) | exact m_hd | refine m_tl ?_))
 k_with "d3" => (first | assumption | omega | ktr_room | ktr_units | (simp only [] at *; omega))
 k_with "getMethod ref" => (k_here; (with_reducible show wpAny _ _ (getMethod (Value.ref _) _ _) _ _ _); k_dflt (refine' method_base (C := 200) ?gX25z ?gI25z ?ga25z ?gb25z ?gc25z ?gd25z ?ge25z ?_; (case gX25z => exact Frag.In.keeps (by k_asm) (Fr.keep (by k_asm))); (case gI25z => exact acc_inst (by k_asm) (by k_mem) (by k_mem)); (case ga25z => k_is); (case gb25z => k_is); (case gc25z => k_is); (case gd25z => k_is); (case ge25z => rfl)); k_whole)
 k_with "getMethod ref" => (k_here; (with_reducible show wpAny _ _ (getMethod (Value.ref _) _ _) _ _ _); k_dflt (refine' method_fn (C := 200) ?gX29z ?gI29z ?ga29z ?gb29z ?gc29z ?gd29z ?ge29z ?_; (case gX29z => exact Frag.In.keeps (by k_asm) (Fr.keep (by k_asm))); (case gI29z => exact acc_inst (by k_asm) (by k_mem) (by k_mem)); (case ga29z => k_is); (case gb29z => k_is); (case gc29z => k_is); (case gd29z => k_is); (case ge29z => rfl)); k_whole)
 k_with "getAttr ref" => (k_here; (with_reducible show wpAny _ _ (getAttr (Value.ref _) _ _) _ _ _); k_dflt (refine' acc_get (C := 200) ?gX33z ?gI33z ?ga33z ?gb33z ?gc33z (findObj_own ?gd33z ?ge33z ?gf33z ?gg33z) ?gh33z ?_; (case gX33z => exact Frag.In.keeps (by k_asm) (Fr.keep (by k_asm))); (case gI33z => exact acc_inst (by k_asm) (by k_mem) (by k_mem)); (case ga33z => k_is); (case gb33z => k_is); (case gc33z => k_is); (case gd33z => k_is); (case ge33z => k_is); (case gf33z => k_is); (case gg33z => rfl); (case gh33z => rfl)); k_whole)
 k_with "truthy ref" => (k_here; (with_reducible show wpAny _ _ (truthy (Value.ref _)) _ _ _); k_dflt (refine' truth_len (C := 200) ?gX34z ?gI34z ?ga34z ?gb34z ?gc34z ?_; (case gX34z => exact Frag.In.keeps (by k_asm) (Fr.keep (by k_asm))); (case gI34z => exact acc_inst (by k_asm) (by k_mem) (by k_mem)); (case ga34z => k_is); (case gb34z => k_is); (case gc34z => k_is)); k_whole)
 k_with "call type:str" => (k_here; (with_reducible show wpAny _ _ (call (Value.type "str") [Value.ref _]) _ _ _); k_dflt (refine' kso_call (C := 200) ?k135z ?k235z ?k335z ?k435z ?k535z ?_; (case k135z => walk_at "d3"); (case k235z => exact Frag.In.keeps (by k_asm) (Fr.keep (by k_asm))); (case k335z => exact acc_inst (by k_asm) (by k_mem) (by k_mem)); (case k435z => k_is); (case k535z => k_is); k_whole))
 k_with "call builtin:len" => (k_here; (with_reducible show wpAny _ _ (call (Value.builtin "len") [Value.ref _]) _ _ _); k_dflt (refine' len_K (C := 200) ?k136z ?k236z ?k336z ?k436z ?k536z ?_; (case k136z => k_asm); (case k236z => k_asm); (case k336z => exact acc_inst (by k_asm) (by k_mem) (by k_mem)); (case k436z => k_is); (case k536z => k_is); k_whole))
 k_with "subscriptTail Name Name ref int" => (k_here; (with_reducible show wpAny _ _ (subscriptTail _ _ (Value.ref _) (Value.int _ _)) _ _ _); k_dflt (refine' acc_item ?gX39z ?F39z ?N39z ?h139z ?h239z ?a39z ?b39z ?c39z ?z39z ?zi39z ?y39z ?_ ?s39z ?t39z; (case gX39z => k_asm); (case F39z => k_asm); (case N39z => k_asm); (case h139z => k_mem); (case h239z => k_mem); (case a39z => k_is); (case b39z => k_is); (case c39z => k_is); (case zi39z => first | assumption | rfl); (case z39z => (first | omega | (simp only [List.length_drop, List.length_take, List.length_append, List.length_reverse] at *; omega))); (case y39z => assumption); (case s39z => with_unfolding_all rfl); (case t39z => kmk_pure)))
 k_with "call ref" => (k_here; (with_reducible show wpAny _ _ (call (Value.ref 144) _) _ _ _); (refine Halt.out ?_))
 k_with "pyIter str" => (k_here; (refine Halt.out ?_))
 k_with "pyIter ref" => (k_here; (refine Halt.out ?_))
 k_with "call ref" => (k_here; (with_reducible show wpAny _ _ (call (Value.ref 152) _) _ _ _); (refine Halt.out ?_))
 k_with "call ref" => (k_here; (with_reducible show wpAny _ _ (call (Value.ref 167) _) _ _ _); (refine Halt.out ?_))
 k_with "call ref" => (k_here; (with_reducible show wpAny _ _ (call (Value.ref 174) _) _ _ _); (refine Halt.out ?_))
 k_with "call ref" => (k_here; (with_reducible show wpAny _ _ (call (Value.ref 182) _) _ _ _); (refine Halt.out ?_))
 k_with "call ref" => (k_here; (with_reducible show wpAny _ _ (call (Value.ref 197) _) _ _ _); (refine Halt.out ?_))
 k_with "execs cons" => ((try k_fold); (refine wpAny_execs_cons ?_); (try dsimp only); (try k_fold))
 have _ := fl X
 refine wpAny_call ?_
 k_dflt (refine codeD (h := ?_); k_whole; intro m' g' L' h' tk' FG' F' N' B' X' T'; (try dsimp only); (try k_lift B'); (try k_fold))
 have N0 := N'
 dsimp only [fled] at N'
 k_steps
 unfold Halt
 refine' c_fpush G hz hf hp (gd := _) (cn := _) (a := _) (ccd := _) (cl := _) (E := _) (B := ?kB) (F := F') (X := X') (N := N0) (T := T') (hk := ?kk) (hdp := ?kd) (hu := ?ku)  (hret := ?_)
 case kB => k_asm
 case kk => rfl
 case kd => walk_at "d3"
 case ku => walk_at "d3"
 intro t1 n1 h1 tk1 lt1 G1 F1 N1
 have N1' := N1
 dsimp only [fled] at N1'
 clear F' N0 N'
 k_steps
 unfold Halt
 refine' c_flen G1 (gd := _) (cn := _) (a := _) (ccd := _) (cl := _) (E := _) (B := ?kB) (F := F1) (X := X') (N := N1) (T := T') (hk := ?kk) (hdp := ?kd) (hu := ?ku) (CH1 := CH1.keeps FG'.keep) (hg := hg) (hret := ?_)
 case kB => k_asm
 case kk => rfl
 case kd => walk_at "d3"
 case ku => walk_at "d3"
 intro t2 p2 h2 tk2 g2 G2 B2 F2 N2
 have b1 := lenSum_bounds _ G1.le
 have b2 := G1.lt
 refine ⟨⟨b1.1, by show lenSum _ < _; unfold lenSum; omega⟩, ?_⟩
 have N2' := N2
 dsimp only [fled] at N2'
 clear F1 N1 N1'
 k_steps
 rotate_left
 ·rename_i hov kF kN _ _
  dsimp only at hov
  rw [lenSum_snoc] at hov
  refine hret _ _ _ _ G2 ?_ (fun t ht => (List.mem_append.mp ht).imp id fun ht => by rw [List.mem_singleton] at ht; subst ht; exact lt1) B2 kF kN
  unfold chunkP
  rw [lnP_snoc, lnP_eq, if_neg hov]
  simp [FSt.prs, FSt.lns]
 rename_i hov
 dsimp only at hov
 rw [lenSum_snoc] at hov
 obtain ⟨rfl, hne⟩ := hB hov
 refine frest_start ?_
 k_steps
 unfold Halt
 refine str_iter1 (by decide +kernel) F2 N2 fun I h3 F3 N3 l3 => ?_
 refine frest_turn (by passes_own) ?_
 refine str_next1 (i := 0) (c := 32) rfl F3 N3 (fun p hp => Nat.ne_of_lt (l3 p hp)) fun oI u h4 F4 N4 => ?_
 refine wpAny_of_eq (a := ()) rfl ?_
 have N4' : News g' L' h4 (fled w c { st with ts := st.ts ++ [(t1, (Str.ofString " ", tf), (p, tp))], n := n1, p1 := p2 } rest) := fun q hq => N4 q (.tail _ hq)
 have N4'' := N4'
 dsimp only [fled] at N4''
 clear F2 N2 N2' F3 N3
 k_with "exec For Name Call cons cons" => (k_here; refine Halt.out ?_)
 k_steps
 unfold Halt
 refine frest_start ?_
 k_steps
 unfold Halt
 rename_i h5 F5 N5 _ _
 refine' c_partc (.head _) (.tail _ (.head _)) (gd := _) (cn := _) (a := _) (ccd := _) (cl := _) (E := _) (B := ?kB) (F := F5) (X := X') (N := N5) (T := T') (hk := ?kk) (hdp := ?kd) (hu := ?ku)  (hret := ?_)
 case kB => k_asm
 case kk => rfl
 case kd => walk_at "d3"
 case ku => walk_at "d3"
 intro t6 h6 tk6 F6 N6
 clear F5 N5
 k_steps
 unfold Halt
 rename_i h7 tk7 u1 u2 u3 hr F7 N7 _
 have hz0 : 0 < st.ts.length := List.length_pos_iff.mpr hne
 have hz1 : ((prRefs (st.ts ++ [(t1, (Str.ofString " ", tf), p, tp)])).length : Int) - 1 = st.ts.length := by simp
 rw [hz1] at hr
 refine range_iter1 (small_down (by omega) (by omega)) F7 N7 hr fun I2 h8 F8 N8 l8 => ?_
 rw [rangeSize_down (by omega)] at N8
 refine frest_turn (by passes_own) ?_
 refine range_next1 (by omega) F8 N8 (fun p hp => Nat.ne_of_lt (l8 p hp)) fun u h9 F9 N9 => ?_
 refine wpAny_of_eq (a := ()) rfl ?_
 have N9' : News g' L' h9 ((t1, prObj (t1, (Str.ofString " ", tf), (p, tp))) :: fled w c { st with ts := st.ts ++ [(t1, (Str.ofString " ", tf), (p, tp))], n := n1, p1 := p2 } rest) := fun q hq => by
  refine m_el hq (m_all ?_ ?_)
  ·exact N9 _ (.tail _ (fled_pr (st := { st with ts := st.ts ++ [(t1, (Str.ofString " ", tf), (p, tp))], n := n1, p1 := p2 }) (t := (t1, (Str.ofString " ", tf), (p, tp))) (List.mem_append_right _ (.head _))))
  ·intro q hq; exact N9 q (.tail _ hq)
 dsimp only [fled, prObj, prVals] at N9'
 have hy : (prRefs (st.ts ++ [(t1, (Str.ofString " ", tf), p, tp)]))[st.ts.length]? = some (.ref t1) := by simp [prRefs]
 clear F7 N7 F8 N8 N9
 k_steps
 dsimp only [FPost]
 k_steps
 dsimp only [FPost]
 k_steps
 unfold Halt
 rename_i _ _ _ _ _ h11 tk11 _ _ _ _ _ _ h12 F12 N12 _ _ _ _ _ _ _ _
 have N13 : News g' L' h12 (fled w c { st with ts := st.ts ++ [(t1, (Str.ofString " ", tf), (p, tp))], n := n1, p1 := p2 } rest) := fun q hq => N12 q (.tail _ hq)
 refine' c_fpopf (ts0 := st.ts) (us := [(t1, (Str.ofString " ", tf), (p, tp))]) G2 rfl rfl (gd := _) (cn := _) (a := _) (ccd := _) (cl := _) (E := _) (B := ?kB) (F := F12) (X := X') (N := N13) (T := T') (hk := ?kk) (hdp := ?kd) (hu := ?ku)  (hret := ?_)
 case kB => k_asm
 case kk => rfl
 case kd => walk_at "d3"
 case ku => walk_at "d3"
 intro D nD n14 h14 tk14 G14 F14 N14
 dsimp only at G14 N14
 have N14' := N14
 dsimp only [fled] at N14'
 clear F12 N12 N13 N14
 k_steps
 unfold Halt
 rename_i h15 F15 N15
 refine' c_fstr G14 (gd := _) (cn := _) (a := _) (ccd := _) (cl := _) (E := _) (B := ?kB) (F := F15) (X := X') (N := N15) (T := T') (hk := ?kk) (hdp := ?kd) (hu := ?ku) (CH2 := CH2.keeps FG'.keep) (hg := B2) (hret := ?_)
 case kB => k_asm
 case kk => rfl
 case kd => walk_at "d3"
 case ku => walk_at "d3"
 intro t16 p16 h16 tk16 g16 G16 B16 F16 N16
 unfold StrBack
 dsimp only at G16 N16 ⊢
 have N16' := N16
 dsimp only [fled] at N16'
 clear F15 N15
 k_steps
 refine c_fadd G16 (by show st.lines.length < 99; omega) F16 N16 fun h17 G17 F17 N17 => ?_
 dsimp only at G17 N17
 have N17' := N17
 dsimp only [fled] at N17'
 clear F16 N16 N16'
 k_steps
 unfold Halt
 refine' c_freset (us := [(t1, (Str.ofString " ", tf), (p, tp))]) G17 (.head _) (fun t ht => .tail _ (List.mem_append_left _ (List.mem_map.mpr ⟨t, ht, rfl⟩))) (by simp) (fun t ht => by rw [List.mem_singleton] at ht; subst ht; exact ⟨show (Str.ofString " ").length < 100 by decide, hp⟩) (gd := _) (cn := _) (a := _) (ccd := _) (cl := _) (E := _) (B := ?kB) (F := F17) (X := X') (N := N17) (T := T') (hk := ?kk) (hdp := ?kd) (hu := ?ku)  (hret := ?_)
 case kB => k_asm
 case kk => rfl
 case kd => walk_at "d3"
 case ku => walk_at "d3"
 intro n18 k18 t18 h18 tk18 G18 F18 N18
 dsimp only at G18 N18
 clear F17 N17 N17'
 k_steps
 rename_i kF kN _ _
 refine hret _ _ _ _ ⟨G18.ch, G18.tb, G.ap, G18.lt, G18.ll, G18.le⟩ ?_ (fun t ht => .inr (by rw [List.mem_singleton] at ht; subst ht; exact lt1)) B16 kF (fled_mono kN fun q hq => .tail _ (List.mem_append_right _ hq))
 unfold chunkP
 rw [lnP_snoc, lnP_eq, if_pos hov, jnP_eq]
 simp [FSt.prs, FSt.lns]
theorem eq_2 : pt.U1 := hy @eq_1
end J4
theorem c_chunk : type_of% (@Part1.h _ _ _ J4.pt J4.eq_2) := @Part1.h _ _ _ J4.pt J4.eq_2
end
noncomputable def pairsW (q0 : Str) : List (List Nat) → List (Str × Str)
 | [] => []
 | v :: r => (q0, ⟨v.toArray⟩) :: r.map fun u => (Str.ofString " ", ⟨u.toArray⟩)
theorem pairsW_next (q0 : Str) (v u : List Nat) (r : List (List Nat)) : pairsW q0 (v :: u :: r) = (q0, ⟨v.toArray⟩) :: pairsW (Str.ofString " ") (u :: r) := rfl
theorem partsW_len : ∀ ws : List (List Nat), (partsW ws).length ≤ 2 * ws.length
 | [] => by simp [partsW]
 | [a] => by simp [partsW]
 | a :: c :: d => by
  have := partsW_len (c :: d)
  simp only [partsW, List.length_cons] at this ⊢
  lia
theorem parts_pairs : ∀ (ws : List (List Nat)) (q0 : Str) (l : List (Str × Tok)), ws ≠ [] → l.map (·.1) = q0 :: partsW ws →
  l.length = 2 * ws.length ∧ ∀ i q, (pairsW q0 ws)[i]? = some q → ∃ t1 t2, l[2 * i]? = some (q.1, t1) ∧ l[2 * i + 1]? = some (q.2, t2)
 | [], _, _, h, _ => absurd rfl h
 | [v], q0, l, _, h => by
  match l, h with
  | [(a, t1), (b, t2)], h =>
   simp only [List.map_cons, List.map_nil, partsW, List.cons.injEq] at h
   obtain ⟨rfl, rfl, -⟩ := h
   refine ⟨rfl, fun i q hq => ?_⟩
   cases i with
   | zero => cases hq; exact ⟨t1, t2, rfl, rfl⟩
   | succ i => simp [pairsW] at hq
 | v :: u :: r, q0, l, _, h => by
  match l, h with
  | (a, t1) :: (b, t2) :: l, h =>
   simp only [List.map_cons, partsW, List.cons.injEq] at h
   obtain ⟨rfl, rfl, h⟩ := h
   obtain ⟨e1, e2⟩ := parts_pairs (u :: r) (Str.ofString " ") l (by simp) h
   refine ⟨by simp only [List.length_cons] at e1 ⊢; lia, fun i q hq => ?_⟩
   cases i with
   | zero => cases hq; exact ⟨t1, t2, rfl, rfl⟩
   | succ i =>
    rw [pairsW_next, List.getElem?_cons_succ] at hq
    obtain ⟨s1, s2, a1, a2⟩ := e2 i q hq
    exact ⟨s1, s2, by rw [show 2 * (i + 1) = 2 * i + 1 + 1 by lia]; simpa using a1, by rw [show 2 * (i + 1) + 1 = 2 * i + 1 + 1 + 1 by lia]; simpa using a2⟩
theorem pairsW_len (q0 : Str) : ∀ ws, (pairsW q0 ws).length = ws.length
 | [] => rfl
 | _ :: _ => by simp [pairsW]
noncomputable def chunksP (wd : Nat) (qs : List (Str × Str)) : List (Str × Str) × List Str := qs.foldl (chunkP wd) ([], [])
theorem chunksP_snoc (wd : Nat) (qs : List (Str × Str)) (q : Str × Str) : chunksP wd (qs ++ [q]) = chunkP wd (chunksP wd qs) q := by simp [chunksP]
theorem chunkFold_len (wd : Nat) : ∀ (qs : List (Str × Str)) (a : List (Str × Str) × List Str), (qs.foldl (chunkP wd) a).1.length ≤ a.1.length + qs.length ∧ (qs.foldl (chunkP wd) a).2.length ≤ a.2.length + qs.length ∧ ((qs ≠ [] ∨ a.1 ≠ []) → (qs.foldl (chunkP wd) a).1 ≠ [])
 | [], a => ⟨Nat.le_refl _, Nat.le_refl _, fun h => h.elim (fun x => absurd rfl x) id⟩
 | q :: r, a => by
  obtain ⟨h1, h2, h3⟩ := chunkFold_len wd r (chunkP wd a q)
  have e : (chunkP wd a q).1.length ≤ a.1.length + 1 ∧ (chunkP wd a q).2.length ≤ a.2.length + 1 ∧ (chunkP wd a q).1 ≠ [] := by
   unfold chunkP
   split
   ·exact ⟨by simp, by simp, by simp⟩
   ·exact ⟨by simp, by simp, by simp⟩
  simp only [List.foldl_cons, List.length_cons]
  exact ⟨by lia, by lia, fun _ => h3 (.inr e.2.2)⟩
theorem chunksP_len (wd : Nat) (qs : List (Str × Str)) : (chunksP wd qs).1.length ≤ qs.length ∧ (chunksP wd qs).2.length ≤ qs.length ∧ (qs ≠ [] → (chunksP wd qs).1 ≠ []) := by
 obtain ⟨h1, h2, h3⟩ := chunkFold_len wd qs ([], [])
 exact ⟨by simpa [chunksP] using h1, by simpa [chunksP] using h2, fun h => h3 (.inl h)⟩
theorem fled_cons {w : World} {c : FC} {st : FSt} {rest : List (Addr × Obj)} {q : Addr × Obj} {p : Addr × Obj} (h : p ∈ fled w c st (q :: rest)) : p = q ∨ p ∈ fled w c st rest := by
 refine List.mem_cons.mp (m_use ?_ p h); walk_at "d2"
theorem fled_zl {w : World} {c : FC} {st : FSt} {rest zl : List (Addr × Obj)} {p : Addr × Obj} : p ∈ fled w c st (zl ++ rest) ↔ p ∈ zl ++ fled w c st rest := by
 constructor
 ·intro h; refine m_use ?_ p h; walk_at "d2"
 ·intro h; refine m_use ?_ p h; walk_at "d2"
theorem fgood_zl {w : World} {c : FC} {st : FSt} {rest zl : List (Addr × Obj)} (G : FGood c st rest) (hap : ∀ p ∈ fled w c st rest, ∀ q ∈ zl, p.1 ≠ q.1) : FGood c st (zl ++ rest) :=
  ⟨G.ch, G.tb, fun p hp => (List.mem_append.mp hp).elim (fun hp => ⟨(hap (c.x, _) (.head _) p hp).symm, (hap (c.AD, _) (.tail _ (.head _)) p hp).symm, (hap (c.LL, _) (.tail _ (.tail _ (.head _))) p hp).symm,
    (hap (162, _) (.tail _ (.tail _ (.tail _ (.tail _ (.tail _ (.head _)))))) p hp).symm, (hap (169, _) (.tail _ (.tail _ (.tail _ (.tail _ (.tail _ (.tail _ (.head _))))))) p hp).symm⟩) (G.ap p), G.lt, G.ll, G.le⟩
theorem fgood_un {c : FC} {st : FSt} {rest zl : List (Addr × Obj)} (G : FGood c st (zl ++ rest)) : FGood c st rest :=
 ⟨G.ch, G.tb, fun p hp => G.ap p (List.mem_append_right _ hp), G.lt, G.ll, G.le⟩
theorem fled_apart {w : World} {c : FC} {st st' : FSt} {rest zl : List (Addr × Obj)} (hap : ∀ p ∈ fled w c st rest, ∀ q ∈ zl, p.1 ≠ q.1) (hf : ∀ t ∈ st'.ts, t ∈ st.ts ∨ ∀ q ∈ fled w c st (zl ++ rest), q.1 < t.1) :
  ∀ p ∈ fled w c st' rest, ∀ q ∈ zl, p.1 ≠ q.1 := by
 intro p hp q hq
 refine m_el hp (fled_all ?_ ?_ ?_ ?_ ?_ ?_ ?_ (fun t ht => ?_) fun p hp => ?_)
 ·exact hap (c.x, _) (.head _) q hq
 ·exact hap (c.AD, _) (.tail _ (.head _)) q hq
 ·exact hap (c.LL, _) (.tail _ (.tail _ (.head _))) q hq
 ·exact hap (c.fo, _) (.tail _ (.tail _ (.tail _ (.head _)))) q hq
 ·exact hap (c.FD, _) (.tail _ (.tail _ (.tail _ (.tail _ (.head _))))) q hq
 ·exact hap (162, _) (.tail _ (.tail _ (.tail _ (.tail _ (.tail _ (.head _)))))) q hq
 ·exact hap (169, _) (.tail _ (.tail _ (.tail _ (.tail _ (.tail _ (.tail _ (.head _))))))) q hq
 ·rcases hf t ht with h | h
  ·exact hap _ (fled_pr h) q hq
  ·exact Nat.ne_of_gt (h q (fled_zl.mpr (List.mem_append_left _ hq)))
 ·exact hap p (fled_rest hp) q hq
theorem pairsW_get (q0 : Str) : ∀ (r : List (List Nat)) (i : Nat) (q : Str × Str), (pairsW q0 r)[i]? = some q → q.1 = (if i = 0 then q0 else Str.ofString " ") ∧ ∃ v ∈ r, q.2 = ⟨v.toArray⟩
 | [], i, q, h => by simp [pairsW] at h
 | v :: r, 0, q, h => by cases h; exact ⟨rfl, v, .head _, rfl⟩
 | v :: r, i + 1, q, h => by
  simp only [pairsW, List.getElem?_cons_succ, List.getElem?_map, Option.map_eq_some_iff] at h
  obtain ⟨u, hu, rfl⟩ := h
  exact ⟨by simp, u, .tail _ (List.mem_of_getElem? hu), rfl⟩
structure SJ (c : FC) (R : List (Addr × Obj)) (q0 : Str) (r : List (List Nat)) (i : Nat) (st : FSt) : Prop where
 G : FGood c st R
 e : (st.prs, st.lns) = chunksP c.wd ((pairsW q0 r).take i)
theorem SJ.pre {c : FC} {R : List (Addr × Obj)} {q0 : Str} {r : List (List Nat)} {i : Nat} {st : FSt} (J : SJ c R q0 r i st) (hi : i < r.length) (hrl : r.length < 90) (hq0 : q0.length < 2) (hv : ∀ v ∈ r, q0.length + v.length ≤ c.wd ∧ v.length < 100) :
  ∃ q, (pairsW q0 r)[i]? = some q ∧ st.ts.length < 99 ∧ st.lines.length < 98 ∧ q.1.length < 100 ∧ q.2.length < 100 ∧ ((c.wd : Int) < lenSum st.ts + (q.1.length + q.2.length) → q.1 = Str.ofString " " ∧ st.ts ≠ []) ∧
   (pairsW q0 r).take (i + 1) = (pairsW q0 r).take i ++ [q] := by
 obtain ⟨q, hq⟩ : ∃ q, (pairsW q0 r)[i]? = some q := by
  have h : i < (pairsW q0 r).length := by rw [pairsW_len]; exact hi
  exact ⟨_, List.getElem?_eq_getElem h⟩
 obtain ⟨e1, v, hvm, e2⟩ := pairsW_get q0 r i q hq
 obtain ⟨b1, b2, b3⟩ := chunksP_len c.wd ((pairsW q0 r).take i)
 have ep := congrArg Prod.fst J.e
 have el := congrArg Prod.snd J.e
 dsimp only at ep el
 have c1 : st.ts.length ≤ i := by
  have := List.length_take_le i (pairsW q0 r)
  rw [← ep] at b1
  simp only [FSt.prs, List.length_map] at b1
  lia
 have c2 : st.lines.length ≤ i := by
  have := List.length_take_le i (pairsW q0 r)
  rw [← el] at b2
  simp only [FSt.lns, List.length_map] at b2
  lia
 have hl : q.2.length = v.length := by rw [e2]; show v.toArray.size = _; simp
 have h1 : q.1.length < 100 := by
  rw [e1]
  split
  ·lia
  ·decide
 refine ⟨q, hq, by lia, by lia, h1, by rw [hl]; exact (hv v hvm).2, fun ho => ?_, ?_⟩
 ·cases i with
  | zero =>
   exfalso
   have hz : st.ts = [] := List.length_eq_zero_iff.mp (by lia)
   rw [hz] at ho
   have := (hv v hvm).1
   rw [if_pos rfl] at e1
   rw [e1] at ho
   simp only [lenSum, List.map_nil, List.sum_nil] at ho
   lia
  | succ i =>
   refine ⟨by rw [e1]; simp, fun hz => ?_⟩
   have : (pairsW q0 r).take (i + 1) ≠ [] := by
    intro h0
    have := congrArg List.length h0
    simp only [List.length_take, List.length_nil, pairsW_len] at this
    lia
   have := b3 this
   rw [← ep] at this
   exact this (by simp [FSt.prs, hz])
 ·rw [List.take_succ, hq]; rfl
structure ZApart (z TI TO I l : Addr) : Prop where
 a : TI ≠ z
 b : TO ≠ z
 c : I ≠ z
 d : TI ≠ TO
 e : TI ≠ I
 f : TO ≠ I
 g : l ≠ z
 h : l ≠ TO
 i : l ≠ I
section
variable {prog : Program} {w : World} {A : Around} {E : Value → Shared → Prop} {s : Shared}
end
namespace J14
def pt : Part1 (aP.Z.h.h.h.h.y.a.c.c.c.c.c.m.f.l.j.F) (∀ {prog : Program} {w : World} {A : Around} {E : Value → Shared → Prop} {s : Shared} {z TI TO I l : Addr} {k : Nat} {xs : Array Value} {x y a b : Value} {Q : Option Value → Shared → Prop} (D : ZApart z TI TO I l)
    (hz : IsZip s.heap z TI TO .none) (hTI : IsPair s.heap TI (.ref I) (.ref I)) (hTO : IsPair s.heap TO a b) (h1 : s.heap.IsListIter I l k) (hl : s.heap.IsList l xs) (hx : xs[k]? = some x) (hy : xs[k + 1]? = some y)
    (hQ : ∀ h', IsZip h' z TI TO (rawInt s.heap.objs.size) → IsPair h' TO x y → h'.IsListIter I l (k + 1 + 1) → IsPair h' s.heap.objs.size x y →
      (∀ c o, c ≠ z → c ≠ TO → c ≠ I → s.heap.get? c = some o → h'.get? c = some o) → Q (some (.ref s.heap.objs.size)) { s with heap := h' }), wpAny (model prog w) A (pyNext (.ref z)) Q E s) := by
  apply Part1.mk
  case h => intro hS1 prog w A E s z TI TO I l k xs x y a b Q D hz hTI hTO h1 hl hx hy hQ; revert D hz hTI hTO h1 hl hx hy hQ; exact @hS1 prog w A E s z TI TO I l k xs x y a b Q
def Z0 := pt.z1
def prog := hx0 Z0
def w := hx1 Z0
def A := hx2 Z0
def E := hx3 Z0
def s := hx4 Z0
def z := hx5 Z0
def TI := hx6 Z0
def TO := hx7 Z0
def Z1 := ht Z0
def I := hx0 Z1
def l := hx1 Z1
def k := hx2 Z1
def xs := hx3 Z1
def x := hx4 Z1
def y := hx5 Z1
def a := hx6 Z1
def b := hx7 Z1
def Z2 := ht Z1
def Q := hx0 Z2
theorem eq_1 : pt.Q1 prog w A E s z TI TO I l k xs x y a b Q := by
 intro D hz hTI hTO h1 hl hx hy hQ
 have hT : s.TypeIs (.ref z) "zip" := ⟨_, hz, rfl⟩
 unfold pyNext
 refine wpAny_bind (wpAny_attempt (wpAny_callSpecial?_slot (name := Str.ofString "__next__") hT F.slot_zip_next (wpAny_call_entry F.slot_zip_next hT F.entry_zip_next ?_ (F.args_zip_next_1 _))))
 show wpAny _ _ (field (.ref z) 2 >>= _) _ _ _
 refine wpAny_bind (wpAny_field hz rfl (x := .bool false) rfl ?_)
 show wpAny _ _ (field (.ref z) 3 >>= _) _ _ _
 refine wpAny_bind (wpAny_field hz rfl (x := .ref TI) rfl (wpAny_bind (wpAny_seqItems hTI rfl ?_)))
 show wpAny _ _ (Builtin.SmallTypes.ownedTupleIsFree (.ref z) >>= _) _ _ _
 unfold Builtin.SmallTypes.ownedTupleIsFree
 refine wpAny_bind (wpAny_bind (wpAny_field hz rfl (x := .none) rfl (wpAny_pure ?_)))
 simp only [if_true]
 refine wpAny_bind (wpAny_rule (wpAny_bind (wpAny_field hz rfl (x := .ref TO) rfl (wpAny_bind (wpAny_setField_rec hz (by simp) fun g1 z1 s1 => ?_)))))
 replace z1 : IsZip g1 z TI TO .ellipsis := z1
 refine wpAny_bind ?_
 simp only [List.zipIdx_cons, List.zipIdx_nil, List.forIn_cons, List.forIn_nil]
 refine wpAny_bind (wpAny_bind (wpAny_onRaise ?_))
 show wpAny _ _ (Builtin.SmallTypes.nextOf (.ref I) >>= _) _ _ _
 refine wpAny_bind (wpAny_nextOf_list_item (h1.extBut s1.extBut D.c) (hl.extBut s1.extBut D.g) hx fun g2 i2 s2 => wpAny_pure ?_)
 have t2 : IsPair g2 TO a b := s2.extBut _ _ D.f (s1.extBut _ _ D.b hTO)
 refine wpAny_bind (wpAny_seqItems t2 rfl (wpAny_bind (wpAny_updateSeq_pair t2 fun g3 t3 s3 => ?_)))
 replace t3 : IsPair g3 TO x b := t3
 refine wpAny_bind (wpAny_letGo (wpAny_pure ?_))
 refine wpAny_bind (wpAny_bind (wpAny_onRaise ?_))
 show wpAny _ _ (Builtin.SmallTypes.nextOf (.ref I) >>= _) _ _ _
 have l3 : g3.IsList l xs := ((hl.extBut s1.extBut D.g).extBut s2.extBut D.i).extBut s3.extBut D.h
 refine wpAny_bind (wpAny_nextOf_list_item (i2.extBut s3.extBut D.f.symm) l3 hy fun g4 i4 s4 => wpAny_pure ?_)
 have t4 : IsPair g4 TO x b := s4.extBut _ _ D.f t3
 refine wpAny_bind (wpAny_seqItems t4 rfl (wpAny_bind (wpAny_updateSeq_pair t4 fun g5 t5 s5 => ?_)))
 replace t5 : IsPair g5 TO x y := t5
 refine wpAny_bind (wpAny_letGo (wpAny_pure (wpAny_pure (wpAny_bind (wpAny_seqItems t5 rfl (wpAny_bind (wpAny_newTuple ?_)))))))
 have hsz : g5.objs.size = s.heap.objs.size := by rw [s5.1, s4.1, s3.1, s2.1, s1.1]
 have z5 : IsZip g5 z TI TO .ellipsis := s5.extBut _ _ D.b.symm (s4.extBut _ _ D.c.symm (s3.extBut _ _ D.b.symm (s2.extBut _ _ D.c.symm z1)))
 have k5 : ∀ c o, c ≠ z → c ≠ TO → c ≠ I → s.heap.get? c = some o → g5.get? c = some o := fun c o c1 c2 c3 e =>
  s5.extBut _ _ c2 (s4.extBut _ _ c3 (s3.extBut _ _ c2 (s2.extBut _ _ c3 (s1.extBut _ _ c1 e))))
 have i5 : g5.IsListIter I l (k + 1 + 1) := i4.extBut s5.extBut D.f.symm
 show wpAny _ _ (Builtin.SmallTypes.ownedTupleHandOut (.ref z) (.ref g5.objs.size) >>= _) _ _ _
 unfold Builtin.SmallTypes.ownedTupleHandOut
 have z6 : IsZip (g5.push { cls := .type "tuple", data := .seq #[x, y] }) z TI TO .ellipsis := Heap.get?_push_of_some _ z5
 refine wpAny_bind (wpAny_bind (wpAny_setField_rec z6 (by simp) fun g7 z7 s7 => ?_))
 replace z7 : IsZip g7 z TI TO (rawInt g5.objs.size) := z7
 refine wpAny_setField_rec z7 (by simp) fun g8 z8 s8 => ?_
 replace z8 : IsZip g8 z TI TO (rawInt g5.objs.size) := z8
 have up : ∀ c o, c ≠ z → g5.get? c = some o → g8.get? c = some o := fun c o c1 e => s8.extBut _ _ c1 (s7.extBut _ _ c1 (Heap.get?_push_of_some _ e))
 have hne : g5.objs.size ≠ z := Nat.ne_of_gt (Heap.lt_size z5)
 have T8 : IsPair g8 g5.objs.size x y := s8.extBut _ _ hne (s7.extBut _ _ hne (Heap.get?_push_size _ rfl))
 refine wpAny_pure ⟨_, rfl, wpAny_pure ?_⟩
 show Q (some (.ref g5.objs.size)) _
 rw [hsz] at z8 T8 ⊢
 exact hQ g8 z8 (up _ _ D.b t5) (i5.at fun o e => up _ o D.c e) T8 fun c o c1 c2 c3 e => up c o c1 (k5 c o c1 c2 c3 e)
theorem eq_2 : pt.U1 := hy @eq_1
end J14
theorem zs_item : type_of% (@Part1.h _ _ _ J14.pt J14.eq_2) := @Part1.h _ _ _ J14.pt J14.eq_2
section
end
namespace J16
def pt : Part1 (aP.Z.h.h.y.a.c.c.c.c.c.m.f.l.j.F) (∀ {prog : Program} {w : World} {A : Around} {E : Value → Shared → Prop} {s : Shared} {z TI TO I l : Addr} {k : Nat} {xs : Array Value} {a b : Value} {Q : Option Value → Shared → Prop} (hh : A.handled = none) (D : ZApart z TI TO I l)
  (hz : IsZip s.heap z TI TO .none) (hTI : IsPair s.heap TI (.ref I) (.ref I)) (hTO : IsPair s.heap TO a b) (h1 : s.heap.IsListIter I l k) (hl : s.heap.IsList l xs) (hx : xs[k]? = none)
  (hQ : ∀ h', (∀ c o, c ≠ z → c ≠ TO → c ≠ I → s.heap.get? c = some o → h'.get? c = some o) → Q none { s with heap := h' }), wpAny (model prog w) A (pyNext (.ref z)) Q E s) := by
 apply Part1.mk
 case h => intro hS1 prog w A E s z TI TO I l k xs a b Q hh D hz hTI hTO h1 hl hx hQ; revert hh D hz hTI hTO h1 hl hx hQ; exact @hS1 prog w A E s z TI TO I l k xs a b Q
def Z0 := pt.z1
def prog := hx0 Z0
def w := hx1 Z0
def A := hx2 Z0
def E := hx3 Z0
def s := hx4 Z0
def z := hx5 Z0
def TI := hx6 Z0
def TO := hx7 Z0
def Z1 := ht Z0
def I := hx0 Z1
def l := hx1 Z1
def k := hx2 Z1
def xs := hx3 Z1
def a := hx4 Z1
def b := hx5 Z1
def Q := hx6 Z1
theorem eq_1 : pt.Q1 prog w A E s z TI TO I l k xs a b Q := by
 intro hh D hz hTI hTO h1 hl hx hQ
 have hT : s.TypeIs (.ref z) "zip" := ⟨_, hz, rfl⟩
 unfold pyNext
 refine wpAny_bind (wpAny_attempt (wpAny_callSpecial?_slot (name := Str.ofString "__next__") hT F.slot_zip_next (wpAny_call_entry F.slot_zip_next hT F.entry_zip_next ?_ (F.args_zip_next_1 _))))
 show wpAny _ _ (field (.ref z) 2 >>= _) _ _ _
 refine wpAny_bind (wpAny_field hz rfl (x := .bool false) rfl ?_)
 show wpAny _ _ (field (.ref z) 3 >>= _) _ _ _
 refine wpAny_bind (wpAny_field hz rfl (x := .ref TI) rfl (wpAny_bind (wpAny_seqItems hTI rfl ?_)))
 show wpAny _ _ (Builtin.SmallTypes.ownedTupleIsFree (.ref z) >>= _) _ _ _
 unfold Builtin.SmallTypes.ownedTupleIsFree
 refine wpAny_bind (wpAny_bind (wpAny_field hz rfl (x := .none) rfl (wpAny_pure ?_)))
 simp only [if_true]
 refine wpAny_bind (wpAny_rule (wpAny_bind (wpAny_field hz rfl (x := .ref TO) rfl (wpAny_bind (wpAny_setField_rec hz (by simp) fun g1 z1 s1 => ?_)))))
 replace z1 : IsZip g1 z TI TO .ellipsis := z1
 refine wpAny_bind ?_
 simp only [List.zipIdx_cons, List.zipIdx_nil, List.forIn_cons, List.forIn_nil]
 refine wpAny_bind (wpAny_bind (wpAny_onRaise ?_))
 show wpAny _ _ (Builtin.SmallTypes.nextOf (.ref I) >>= _) _ _ _
 refine wpAny_bind (wpAny_nextOf_list_end hh (h1.extBut s1.extBut D.c) (hl.extBut s1.extBut D.g) hx fun g2 e s2 he => ?_)
 obtain ⟨oe, hoe, hce⟩ := he
 have z2 : IsZip g2 z TI TO .ellipsis := s2 _ _ D.c.symm z1
 have hez : e ≠ z := fun q => by subst q; rw [z2] at hoe; cases hoe; simp at hce
 refine wpAny_setField_rec z2 (by simp) fun g3 _ s3 => ?_
 refine wpAny_bind (wpAny_isInstance (T := "StopIteration") (b := true) ⟨oe, s3.extBut _ _ hez hoe, hce⟩ isSubtype_stop ?_)
 exact wpAny_pure (hQ g3 fun c o c1 _ c3 q => s3.extBut _ _ c1 (s2 _ _ c3 (s1.extBut _ _ c1 q)))
theorem eq_2 : pt.U1 := hy @eq_1
end J16
theorem zs_end : type_of% (@Part1.h _ _ _ J16.pt J16.eq_2) := @Part1.h _ _ _ J16.pt J16.eq_2
section
end
noncomputable abbrev zsH1 (h : Heap) (I : Addr) : Heap := h.push { cls := .type "tuple", data := .seq #[.ref I, .ref I] }
noncomputable abbrev zsH2 (h : Heap) (I : Addr) : Heap := (zsH1 h I).push { cls := .type "tuple", data := .seq #[.none, .none] }
noncomputable abbrev zsH3 (h : Heap) (I : Addr) : Heap := (zsH2 h I).push { cls := .type "zip", data := .fields #[.none, .bool false, .bool false, .ref h.objs.size, .ref (zsH1 h I).objs.size] }
theorem meets_zs_new (I l : Addr) (k : Nat) :
  Meets (Builtin.«zip.__new__» ⟨[.type "zip", .ref I, .ref I], []⟩) (fun _ R s => s.heap.IsListIter I l k ∧ R (.ok (.ret (.ref (zsH2 s.heap I).objs.size))) { s with heap := zsH3 s.heap I }) :=
 .of_wp fun prog w A R s h => by
  obtain ⟨hp, g, d, tk, os⟩ := s; obtain ⟨hl, h⟩ := h
  have hsub := sub_zip
  have hL : Heap.IsListIter (Shared.heap ⟨hp, g, d, tk, os⟩) I l k := hl
  wp_walk using wpAny_pyIter_listiter hL, wpAny_pyIter_listiter hL
  exact ⟨_, rfl, h⟩
section
variable {prog : Program} {w : World} {A : Around} {E : Value → Shared → Prop} {s : Shared} {h₀ : Heap} {L : Addr} {m : Str → Option Value} {led : List (Addr × Obj)}
noncomputable abbrev zipO (f : Value) (TI TO : Addr) : Obj := { cls := .type "zip", dict := none, data := .fields #[f, .bool false, .bool false, .ref TI, .ref TO], slots := #[] }
noncomputable abbrev twoO (a b : Value) : Obj := { cls := .type "tuple", data := .seq #[a, b] }
theorem zs_new {I l : Addr} {k : Nat} {oI : Obj} {Q : Value → Shared → Prop} (F : Fr h₀ L s.heap m) (N : News h₀ L s.heap led) (hI : (I, oI) ∈ led) (ho : ItObj l k oI)
  (h : ∀ z TI TO h', Fr h₀ L h' m → News h₀ L h' ((z, zipO .none TI TO) :: (TO, twoO .none .none) :: (TI, twoO (.ref I) (.ref I)) :: led) → (∀ p ∈ led, p.1 < TI) → TI < TO → TO < z → Q (.ref z) { s with heap := h' }) :
  wpAny (model prog w) A (call (.type "zip") [.ref I, .ref I]) Q E s := by
 refine callType_new PySem.F.called_zip (by decide) (PySem.F.typeCall_zip_2 _ _) (PySem.F.newCall_zip_2 _ _) (fun obj => PySem.F.args_object_init_3 obj _ _) PySem.F.entry_zip_new (meets_zs_new I l k) ⟨ho.at (N _ hI).1, ?_⟩
 have F1 := F.push (twoO (.ref I) (.ref I))
 have N1 := N.push F (twoO (.ref I) (.ref I))
 have F2 := F1.push (twoO .none .none)
 have N2 := N1.push F1 (twoO .none .none)
 have F3 := F2.push (zipO .none s.heap.objs.size (zsH1 s.heap I).objs.size)
 have N3 := N2.push F2 (zipO .none s.heap.objs.size (zsH1 s.heap I).objs.size)
 refine ⟨⟨_, (N3 _ (.head _)).1, rfl⟩, ?_⟩
 exact h _ _ _ _ F3 N3 (fun p hp => Heap.lt_size (N p hp).1) (Heap.lt_size (N1 _ (.head _)).1) (Heap.lt_size (N2 _ (.head _)).1)
end
noncomputable def ZEnd (h₀ : Heap) (L : Addr) (G : Array GenState → Prop) (d : Drawn) (os : OsState) (zl : List (Addr × Obj)) (J : (Str → Option Value) → List (Addr × Obj) → Prop) (s' : Shared) : Prop :=
 ∃ h' tk' g' m' led', s' = ⟨h', g', d, tk', os⟩ ∧ G g' ∧ Fr h₀ L h' m' ∧ News h₀ L h' (zl ++ led') ∧ (∀ p ∈ led', ∀ q ∈ zl, p.1 ≠ q.1) ∧ J m' led'
noncomputable def ZPost (h₀ : Heap) (L : Addr) (G : Array GenState → Prop) (d : Drawn) (os : OsState) (zl : List (Addr × Obj)) (J : (Str → Option Value) → List (Addr × Obj) → Prop) (Q : Flow → Shared → Prop) (f : Flow) (s' : Shared) : Prop :=
 match f with
 | .next => ZEnd h₀ L G d os zl J s'
 | .cont => ZEnd h₀ L G d os zl J s'
 | .brk => Q .next s'
 | .ret v => Q (.ret v) s'
noncomputable abbrev zledOf (z TI TO I : Addr) (a b : Value) (oI : Obj) : List (Addr × Obj) := [(z, zipO .none TI TO), (TO, twoO a b), (I, oI), (TI, twoO (.ref I) (.ref I))]
theorem for_zip2 {prog : Program} {w : World} {A : Around} {E : Value → Shared → Prop} {env : Env} {xa xb : Str} {pa pb pt : Pos} {kt : Nat} {body : List Stmt} {Q : Flow → Shared → Prop}
    {h₀ h : Heap} {g : Array GenState} {d : Drawn} {tk : Nat} {os : OsState} {m : Str → Option Value} {z TI TO I l : Addr} {items : Array Value} {led : List (Addr × Obj)} {oI : Obj} {a b : Value} {n : Nat}
    (G : Array GenState → Prop) (J : Nat → (Str → Option Value) → List (Addr × Obj) → Prop) (hE : PassesOwn (model prog w) A env E) (hh : A.handled = none)
    (hxa : env.kindOf xa = some .local) (hxb : env.kindOf xb = some .local) (hp : (env.scope.kind == .class || (env.scope.kind == .module && env.locals != env.globals)) = false)
    (D : ZApart z TI TO I l) (hn : items.size = 2 * n)
    (F : Fr h₀ env.locals h m) (N : News h₀ env.locals h (zledOf z TI TO I a b oI ++ led)) (hI : ItObj l 0 oI) (hap : ∀ p ∈ led, ∀ q ∈ zledOf z TI TO I a b oI, p.1 ≠ q.1) (hg : G g) (h0 : J 0 m led)
    (hl : ∀ i m led h, J i m led → Fr h₀ env.locals h m → News h₀ env.locals h led → h.IsList l items)
    (turn : ∀ i va vb m led h tk g zl, i < n → items[2 * i]? = some va → items[2 * i + 1]? = some vb → J i m led → (∀ p ∈ led, ∀ q ∈ zl, p.1 ≠ q.1) → G g →
      Fr h₀ env.locals h (fun y => if y = xb then some vb else if y = xa then some va else m y) → News h₀ env.locals h (zl ++ led) →
      wpAny (model prog w) A (execs body env) (ZPost h₀ env.locals G d os zl (J (i + 1)) Q) E ⟨h, g, d, tk, os⟩)
    (done : ∀ m led h tk g, J n m led → G g → Fr h₀ env.locals h m → News h₀ env.locals h led → Q .next ⟨h, g, d, tk, os⟩) :
    FRest prog w A E env (.Tuple [.Name xa pa, .Name xb pb] kt pt) (.ref z) body [] Q ⟨h, g, d, tk, os⟩ := by
  have key : ∀ k i m led h tk g oI a b, n - i = k → i ≤ n → J i m led → ItObj l (2 * i) oI → (∀ p ∈ led, ∀ q ∈ zledOf z TI TO I a b oI, p.1 ≠ q.1) → G g → Fr h₀ env.locals h m → News h₀ env.locals h (zledOf z TI TO I a b oI ++ led) →
      FRest prog w A E env (.Tuple [.Name xa pa, .Name xb pb] kt pt) (.ref z) body [] Q ⟨h, g, d, tk, os⟩ := by
    intro k
    induction k with
    | zero =>
      intro i m led h tk g oI a b hk hi hJ hI hap hg F N
      have e : i = n := by lia
      subst e
      have N' : News h₀ env.locals h led := fun p hp => N p (List.mem_append_right _ hp)
      have hl' := hl i m led h hJ F N'
      have nz := N (z, zipO .none TI TO) (by (repeat (first | exact m_hd | refine m_tl ?_)))
      have nT := N (TO, twoO a b) (by (repeat (first | exact m_hd | refine m_tl ?_)))
      have nI := N (I, oI) (by (repeat (first | exact m_hd | refine m_tl ?_)))
      have nTI := N (TI, twoO (.ref I) (.ref I)) (by (repeat (first | exact m_hd | refine m_tl ?_)))
      refine frest_turn hE (zs_end (s := ⟨h, g, d, tk, os⟩) hh D nz.1 nTI.1 nT.1 (hI.at nI.1) hl' (by simp [hn]) fun h' hk' => ?_)
      refine wpAny_execs_nil (done m led h' tk g hJ hg ?_ ?_)
      · exact ⟨F.ns.at' fun o e => hk' env.locals o (Ne.symm nz.2.1) (Ne.symm nT.2.1) (Ne.symm nI.2.1) e,
          fun c o e => hk' c o (ne_of_none nz.2.2 e) (ne_of_none nT.2.2 e) (ne_of_none nI.2.2 e) (F.keep c o e), F.above⟩
      · intro p hp
        refine ⟨hk' p.1 p.2 (hap p hp _ (.head _)) (hap p hp _ (.tail _ (.head _))) (hap p hp _ (.tail _ (.tail _ (.head _)))) (N' p hp).1, (N' p hp).2⟩
    | succ k ih =>
      intro i m led h tk g oI a b hk hi hJ hI hap hg F N
      have hlt : i < n := by lia
      have N' : News h₀ env.locals h led := fun p hp => N p (List.mem_append_right _ hp)
      have hl' := hl i m led h hJ F N'
      have nz := N (z, zipO .none TI TO) (by (repeat (first | exact m_hd | refine m_tl ?_)))
      have nT := N (TO, twoO a b) (by (repeat (first | exact m_hd | refine m_tl ?_)))
      have nI := N (I, oI) (by (repeat (first | exact m_hd | refine m_tl ?_)))
      have nTI := N (TI, twoO (.ref I) (.ref I)) (by (repeat (first | exact m_hd | refine m_tl ?_)))
      have b1 : 2 * i < items.size := by lia
      have b2 : 2 * i + 1 < items.size := by lia
      refine frest_turn hE (zs_item (s := ⟨h, g, d, tk, os⟩) (x := items[2 * i]) (y := items[2 * i + 1]) D nz.1 nTI.1 nT.1 (hI.at nI.1) hl' (by simp [b1]) (by simp [b2]) fun h' z' t' i' T' hk' => ?_)
      obtain ⟨oI', hoI, hcI, hdI⟩ := i'
      have hTz : h.objs.size ≠ z := Nat.ne_of_gt (Heap.lt_size nz.1)
      have hTT : h.objs.size ≠ TO := Nat.ne_of_gt (Heap.lt_size nT.1)
      have hTI' : h.objs.size ≠ I := Nat.ne_of_gt (Heap.lt_size nI.1)
      have hTTI : h.objs.size ≠ TI := Nat.ne_of_gt (Heap.lt_size nTI.1)
      have F1 : Fr h₀ env.locals h' m := ⟨F.ns.at' fun o e => hk' env.locals o (Ne.symm nz.2.1) (Ne.symm nT.2.1) (Ne.symm nI.2.1) e,
          fun c o e => hk' c o (ne_of_none nz.2.2 e) (ne_of_none nT.2.2 e) (ne_of_none nI.2.2 e) (F.keep c o e), F.above⟩
      have nTnew : h.objs.size ≠ env.locals ∧ h₀.get? h.objs.size = none :=
        ⟨Nat.ne_of_gt F.ns.lt, Heap.get?_none_of_le (Nat.le_trans F.above (Nat.le_of_lt F.ns.lt))⟩
      have led1 : News h₀ env.locals h' led := fun p hp => ⟨hk' p.1 p.2 (hap p hp _ (.head _)) (hap p hp _ (.tail _ (.head _))) (hap p hp _ (.tail _ (.tail _ (.head _)))) (N' p hp).1, (N' p hp).2⟩
      -- the pair handed out
      refine wpAny_letOwnedTupleGo_zip z' fun h2 z2 s2 => ?_
      have lift : ∀ c o, c ≠ z → h'.get? c = some o → h2.get? c = some o := fun c o hc e => s2.extBut c o hc e
      have F2 : Fr h₀ env.locals h2 m := F1.change s2 nz.2.1 nz.2.2
      have N2 : News h₀ env.locals h2 (zledOf z TI TO I items[2 * i] items[2 * i + 1] oI' ++ led) := fun p hp => by
        rcases List.mem_append.mp hp with hp | hp
        · refine m_el hp ?_; refine m_all ?_ (m_all ?_ (m_all ?_ (m_all ?_ m_nil)))
          · exact ⟨z2, nz.2⟩
          · exact ⟨lift _ _ D.b t', nT.2⟩
          · exact ⟨lift _ _ D.c hoI, nI.2⟩
          · exact ⟨lift _ _ D.a (hk' _ _ D.a D.d D.e nTI.1), nTI.2⟩
        · exact ⟨lift _ _ (hap p hp _ (.head _)) (led1 p hp).1, (led1 p hp).2⟩
      have T2 : h2.IsTuple h.objs.size #[items[2 * i], items[2 * i + 1]] := ⟨_, lift _ _ hTz T', rfl, _, rfl⟩
      refine wpAny_assign_Tuple (s := ⟨h2, g, d, tk, os⟩) hh T2 rfl rfl fun h3 e3 => ?_
      have F3 : Fr h₀ env.locals h3 m := ⟨F2.ns.at' fun o e => e3 _ o (Nat.ne_of_lt F2.ns.lt) e, fun c o e => e3 c o (Nat.ne_of_lt (Heap.lt_size (F2.keep c o e))) (F2.keep c o e), F2.above⟩
      have N3 : News h₀ env.locals h3 (zledOf z TI TO I items[2 * i] items[2 * i + 1] oI' ++ led) := fun p hp => ⟨e3 _ _ (Nat.ne_of_lt (Heap.lt_size (N2 p hp).1)) (N2 p hp).1, (N2 p hp).2⟩
      refine assignInOrder_cons (wpAny_assign_Name (wpAny_storeName_local hxa F3.ns (fun h4 hn4 hs4 => ?_) hp))
      refine assignInOrder_cons (wpAny_assign_Name (wpAny_storeName_local hxb (F3.set hn4 hs4).ns (fun h5 hn5 hs5 => ?_) hp))
      refine assignInOrder_nil ?_
      have F5 := (F3.set hn4 hs4).set hn5 hs5
      have N5 := (N3.set hs4).set hs5
      have hapn : ∀ p ∈ led, ∀ q ∈ zledOf z TI TO I items[2 * i] items[2 * i + 1] oI', p.1 ≠ q.1 := fun p hp q hq => by
        refine m_el hq ?_; refine m_all ?_ (m_all ?_ (m_all ?_ (m_all ?_ m_nil)))
        · exact hap p hp _ (.head _)
        · exact hap p hp (TO, twoO a b) (.tail _ (.head _))
        · exact hap p hp (I, oI) (.tail _ (.tail _ (.head _)))
        · exact hap p hp _ (.tail _ (.tail _ (.tail _ (.head _))))
      refine wpAny_mono (turn i items[2 * i] items[2 * i + 1] m led h5 _ g _ hlt (by simp [b1]) (by simp [b2]) hJ hapn hg F5 N5) (fun f s₃ h₃ => ?_) fun _ _ e => e
      have fin : ZEnd h₀ env.locals G d os (zledOf z TI TO I items[2 * i] items[2 * i + 1] oI') (J (i + 1)) s₃ → FRest prog w A E env (.Tuple [.Name xa pa, .Name xb pb] kt pt) (.ref z) body [] Q s₃ := by
        rintro ⟨h', tk', g', m', led', rfl, hg', F'', N'', hap', hJ'⟩
        exact ih (i + 1) m' led' h' tk' g' oI' _ _ (by lia) hlt hJ' ⟨hcI, by rw [hdI]; rfl⟩ hap' hg' F'' N''
      cases f with
      | next => exact fin h₃
      | cont => exact fin h₃
      | brk => exact h₃
      | ret v => exact h₃
  exact key _ 0 m led h tk g oI a b rfl (Nat.zero_le _) h0 hI hap hg F N
theorem fit_of {n : Nat} (h : n < 1000) : n ≤ sizeLine := by rw [sizeLine_eq]; lia
theorem viaX {M : Model} {A : Around} {e : Stmt} {env : Env} {Q : Flow → Shared → Prop} {E : Value → Shared → Prop} {s : Shared} (P : (Flow → Shared → Prop) → Prop) (hb : ∀ Q' : Flow → Shared → Prop, P Q' → wpAny M A (exec e env) Q' E s) (hc : P Q) : wpAny M A (exec e env) Q E s := hb Q hc
theorem split_fw {prog : Program} {w : World} {A : Around} {E : Value → Shared → Prop} {s : Shared} {h₀ : Heap} {L : Addr} {m : Str → Option Value} {led : List (Addr × Obj)} {x fw : Str} {t : Tok} {r : List (List Nat)} {Q : Value → Shared → Prop} (hq : fw = Str.ofString "" ∨ fw = Str.ofString " ") (X : (hd.heap_1 w.params).In h₀) (F : Fr h₀ L s.heap m) (N : News h₀ L s.heap led)
  (hx : x.cps.toList = flatW r) (hz : fw.length + x.length < 1000) (hr : ∀ v ∈ r, CleanW v ∧ v ≠ []) (hne : r ≠ [])
  (h : ∀ D l h' tk, ((fw = Str.ofString "" ∧ l.map (·.1) = partsW r) ∨ (fw = Str.ofString " " ∧ l.map (·.1) = Str.ofString "" :: Str.ofString " " :: partsW r)) → Fr h₀ L h' m → News h₀ L h' ((D, listOf (strValues l).toArray 0) :: led) → (∀ p ∈ led, p.1 < D) → Q (.ref D) { s with heap := h', toks := tk }) :
  wpAny (model prog w) A (call (.builtin "re.Pattern.split") [.ref 43, .str (fw ++ x) t]) Q E s := by
 have hl1 : (fw ++ x).length < 1000 := by
  show (fw.cps ++ x.cps).size < 1000
  rw [Array.size_append]; exact hz
 obtain ⟨v0, r', rfl⟩ := List.exists_cons_of_ne_nil hne
 rcases hq with rfl | rfl
 ·have hx1 : (Str.ofString "" ++ x).cps.toList = flatW (v0 :: r') := by
   show ((Str.ofString "").cps ++ x.cps).toList = _
   rw [Array.toList_append, hx]; rfl
  exact split_call X F N hx1 hl1 (hr v0 (.head _)).1 (fun v hv => hr v (.tail _ hv)) fun D l h1 tk1 hl => h D l h1 tk1 (.inl ⟨rfl, hl⟩)
 ·have hx1 : (Str.ofString " " ++ x).cps.toList = flatW ([] :: v0 :: r') := by
   show ((Str.ofString " ").cps ++ x.cps).toList = _
   rw [Array.toList_append, hx]; rfl
  exact split_call X F N hx1 hl1 (fun c h => by cases h) hr fun D l h1 tk1 hl => h D l h1 tk1 (.inr ⟨rfl, hl⟩)
section
noncomputable abbrev semiS : Str := Str.ofString ";"
namespace J2
def pt : Part1 (aP.f.f.m.e.c.b.b.l.x.s.h.c.r.i.w.a.a.d.d.d.i.q.B.G.e.e.t.j) (∀ {w : World} {mean : ExcName → Option Value} {mg mb : Str → Option Value} {c : FC} {st : FSt} {rest : List (Addr × Obj)} {x fw : Str} {tf tx tsc : Tok} {r : List (List Nat)} (hq : fw = Str.ofString "" ∨ fw = Str.ofString " ") (G : FGood c st rest) (hst : st.ts = [] ∧ st.lines = []) (hfx : (fw).length + x.length < 1000)
  (hx : x.cps.toList = flatW r) (hr : ∀ v ∈ r, CleanW v ∧ v ≠ []) (hne : r ≠ []) (hrl : r.length < 90) (hv : ∀ v ∈ r, (fw).length + v.length ≤ c.wd ∧ v.length < 100)
(dp un : Nat) (gd : Option (List Code)) (cn : Str) (cs : Scope) (a : Addr) (ccd : Value) (cl : List (Str × Addr)) (outer : List Env) (A₀ : Around) (base h₀ : Heap) (L : Addr) (m : Str → Option Value) (s : Shared) (Q E : Value → Shared → Prop)
  (B : Below A₀ base outer h₀) (F : Fr h₀ L s.heap m) (X : (hd.heap_1 w.params).In h₀) (N : News h₀ L s.heap (fled w c st rest)) (T : Top pv lv mean mg mb h₀) (hk : cs.kind = .function)
  (hdp : dp + 140 < recursionLimit) (hu : un + 1500 < cLine)
  (CH1 : CodeHd h₀ 166 162) (CH2 : CodeHd h₀ 173 169) (hg : AllBare s.gens)
  (hret : ∀ (st' : FSt) (h' : Heap) (tk' : Nat) (g' : Array GenState), FGood c st' rest → (st'.prs, st'.lns) = chunksP c.wd (pairsW (fw) r) → AllBare g' → Fr h₀ L h' m → News h₀ L h' (fled w c st' rest) → Q .none { s with heap := h', toks := tk', gens := g' }), wpAny (model theProg w) (ktrTop dp un gd cn cs L a ccd cl outer) (call (.ref 106) [.ref c.fo, .str (fw) tf, .str x tx, .str (Str.ofString ";") tsc]) Q E s) := by
 apply Part1.mk
 case h => intro hS1 w mean mg mb c st rest x fw tf tx tsc r hq G hst hfx hx hr hne hrl hv dp un gd cn cs a ccd cl outer A₀ base h₀ L m s Q E B F X N T hk hdp hu CH1 CH2 hg hret; revert fw r hq G hst hfx hx hr hne hrl hv B F X N T hk hdp hu CH1 CH2 hg hret; exact @hS1 w mean mg mb c st rest x tf tx tsc dp un gd cn cs a ccd cl outer A₀ base h₀ L m s Q E
def Z0 := pt.z1
def w := hx0 Z0
def mean := hx1 Z0
def mg := hx2 Z0
def mb := hx3 Z0
def c := hx4 Z0
def st := hx5 Z0
def rest := hx6 Z0
def x := hx7 Z0
def Z1 := ht Z0
def tf := hx0 Z1
def tx := hx1 Z1
def tsc := hx2 Z1
def dp := hx3 Z1
def un := hx4 Z1
def gd := hx5 Z1
def cn := hx6 Z1
def cs := hx7 Z1
def Z2 := ht Z1
def a := hx0 Z2
def ccd := hx1 Z2
def cl := hx2 Z2
def outer := hx3 Z2
def A₀ := hx4 Z2
def base := hx5 Z2
def h₀ := hx6 Z2
def L := hx7 Z2
def Z3 := ht Z2
def m := hx0 Z3
def s := hx1 Z3
def Q := hx2 Z3
def E := hx3 Z3
theorem eq_1 : pt.Q1 w mean mg mb c st rest x tf tx tsc dp un gd cn cs a ccd cl outer A₀ base h₀ L m s Q E := by
 intro fw r hq G hst hfx hx hr hne hrl hv B F X N T hk hdp hu CH1 CH2 hg hret
 k_with_none
 k_with "ne" => (refine neN ?_; (try dsimp only); first | with_reducible (first | assumption | (refine Ne.symm ?_; assumption) | exact ne_1 | exact ne_1.symm | exact ne_2 | exact ne_2.symm | exact ne_3 | exact ne_3.symm | exact ne_4 | exact ne_4.symm) | exact (by with_reducible assumption : Apt _ _) | exact Ne.symm (by with_reducible assumption : Apt _ _) | omega)
 k_with "d2" => (repeat' (first | with_reducible (first | exact m_id | exact m_nil | exact m_lid | exact m_mapl | exact m_mapl2 | refine m_cons ?_ ?_ | refine m_app ?_ ?_ | refine m_map ?_ ?_ | refine m_map1 ?_ | exact m_hd | refine m_tl ?_ | exact m_mapr rfl | refine m_tail ?_ | refine m_right ?_ | refine m_inr ?_) | exact m_hd | refine m_tl ?_))
 k_with "d3" => (first | assumption | omega | ktr_room | ktr_units | (simp only [] at *; omega))
 k_with "getMethod ref" => (k_here; (with_reducible show wpAny _ _ (getMethod (Value.ref 43) _ _) _ _ _); k_dflt (refine pat_method (pat43 (Frag.In.keeps (by k_asm) (Fr.keep (by k_asm)))).1 slot_split type_split ?_); k_whole)
 k_with "binaryOp Add str str" => (k_here; (with_reducible show wpAny _ _ (binaryOp Operator.Add (Value.str _ _) (Value.str _ _)) _ _ _); (refine PyProof.Rows.add_str (hsz := fit_of (by assumption)) ?_); intro _ _)
 k_with "call ref" => (k_here; (with_reducible show wpAny _ _ (call (Value.ref 113) _) _ _ _); (refine Halt.out ?_))
 k_with "call builtin:re.Pattern.split" => (k_here; (refine Halt.out ?_))
 k_with "exec If" => (k_here; (refine Halt.out ?_))
 have _ := fl X
 refine wpAny_call ?_
 k_dflt (refine codeD (h := ?_); k_whole; intro m' g' L' h' tk' FG' F' N' B' X' T'; (try dsimp only); (try k_lift B'); (try k_fold))
 have N0 := N'
 dsimp only [fled] at N'
 k_steps
 unfold Halt
 refine split_fw hq X' F' N' hx hfx hr hne fun D l h1 tk1 hsp F1 N1 l1 => ?_
 clear F' N' N0
 k_steps
 unfold Halt
 rename_i h2 F2 N2
 refine viaX (fun Q' => ∀ (l2 : List (Str × Tok)) (h3 : Heap) (tk3 : Nat), l2.map (·.1) = fw :: partsW r → l2.length < 900 → Fr g' L' h3 (fun y => if y = Str.ofString "parts" then some (Value.ref D) else m' y) → News g' L' h3 ((D, listOf (strValues l2).toArray 1) :: fled w c st rest) → Q' .next ⟨h3, s.gens, s.drawn, tk3, s.os⟩) (fun Q' hQ => ?_) (fun l2 h3 tk3 hl2 hll F3 N3 => ?_)
 ·rcases hsp with ⟨hfw, hl⟩ | ⟨hfw, hl⟩
  ·refine hG fun G9 hG9 => ?_; obtain ⟨v0, r', rfl⟩ := List.exists_cons_of_ne_nil hne; refine hG9 ?_; clear hG9 G9
   have hll : l.length < 899 := by
    have e := congrArg List.length hl
    simp only [List.length_map] at e
    have e2 := partsW_len (v0 :: r')
    lia
   obtain ⟨v1, t0, l0, rfl, hv1⟩ : ∃ v1 t0 l0, l = (v1, t0) :: l0 ∧ v1.length = v0.length := by
    match l, hl with
    | [], hl => (cases r' <;> cases hl)
    | (a, t0) :: l0, hl =>
     refine ⟨a, t0, l0, rfl, ?_⟩
     cases r' <;> simp only [List.map_cons, partsW, List.cons.injEq] at hl <;> rw [hl.1] <;> show v0.toArray.size = _ <;> simp
   have hv0 : 0 < v1.length := by rw [hv1]; exact List.length_pos_iff.mpr (hr v0 (.head _)).2
   have hv1z : v1.length ≤ 1000 := by have := (hv v0 (.head _)).2; lia
   refine wpAny_If ?_
   k_steps
   rotate_left
   ·have h0 : ((v1.length : Nat) : Int) = 0 := by assumption
    exact absurd hv0 (by lia)
   rename_i l' hA FA NA lt3
   have hlz : (strValues ((v1, t0) :: l0)).length < 500 := by
    simp only [strValues, List.length_map]
    have e := congrArg List.length hl
    simp only [List.length_map, List.length_cons] at e hrl ⊢
    have e2 := partsW_len (v0 :: r')
    simp only [List.length_cons] at e2
    lia
   refine list_setsl (vs := strValues ((v1, t0) :: l0)) (ws := [.str (Str.ofString "") tk]) (zs := strValues ((Str.ofString "", tk) :: (v1, t0) :: l0)) (a := 0) (b := 0) (n := 0) (n' := 1) FA NA (.tail _ (.head _)) (.head _) (Nat.ne_of_lt lt3.1) IsPart.none (IsPart.int _ _) ?y5 hlz (by show 1 < 500; decide) (by simp [strValues]) ?y6 (by simp [strValues]) (.tail (Nat.ne_of_gt lt3.1) (.head fun p hp => Nat.ne_of_lt (l1 p hp))) fun h3 F3 N3B => ?_
   case y5 => simp [sliceBounds]; lia
   case y6 => simp only [strValues, List.map_cons, List.length_cons] at hlz ⊢; lia
   have N3 := fun p hp => N3B p (.tail _ hp)
   k_steps
   exact hQ ((Str.ofString "", tk) :: (v1, t0) :: l0) _ _ (by rw [hfw, ← hl]; rfl) (by simp only [List.length_cons] at hll ⊢; lia) F3 (fun p hp => N3B p (.tail _ hp))
  ·obtain ⟨⟨a, t0⟩, l2, rfl⟩ : ∃ a l2, l = a :: l2 := List.exists_cons_of_ne_nil (by rintro rfl; cases hl)
   simp only [List.map_cons, List.cons.injEq] at hl
   refine hG fun G9 hG9 => ?_; obtain ⟨rfl, hl2⟩ := hl; refine hG9 ?_; clear hG9 G9
   have hll : l2.length < 900 := by
    have e := congrArg List.length hl2
    simp only [List.length_map, List.length_cons] at e
    have e2 := partsW_len r
    lia
   refine wpAny_If ?_
   k_steps
   refine kl_popAt (its := (strValues ((Str.ofString "", t0) :: l2)).toArray) (n := 0) (p := []) (y := .str (Str.ofString "") t0) (q := strValues l2) (k := 0) F2 N2 (by decide) (by unfold seqIndex?; simp [strValues]) rfl (.head fun p hp => Nat.ne_of_lt (l1 p hp)) ?_ fun h3 F3 N3 => ?_
   ·rw [sizeLine_eq]; simp [strValues]; lia
   k_steps
   exact hQ l2 h3 _ (by rw [hfw]; exact hl2) hll F3 N3
 clear F2 N2 hsp
 dsimp only [fled] at N3
 dsimp only
 k_steps
 refine frest_start ?_
 k_steps
 refine callWith_ST ?_
 k_steps
 refine iter_list F3 N3 (.head _) fun I oI h4 hI F4 N4 l4 => ?_
 clear F3 N3
 k_steps
 rename_i M5 h5 F5 N5 l5
 refine KMa.mul (vs := [Value.ref I]) F5 N5 (N5.isList (.head _)) (by decide) (by decide) (show 1 * 2 ≤ 256 by decide) (ws := [.ref I, .ref I]) rfl fun M6 h6 F6 N6 l6 => ?_
 clear F5 N5
 k_steps
 rename_i h7 F7 N7
 refine zs_new F7 N7 (I := I) (l := D) (k := 0) (oI := oI) (by simp) hI fun z TI TO h8 F8 N8 l8 lz1 lz2 => ?_
 refine wpAny_pyIter_zip (N8 _ (.head _)).1 ?_
 refine hG fun G9 hG9 => ?_; obtain ⟨hl2n, hl2q⟩ := parts_pairs r (fw) l2 hne hl2; refine hG9 ?_; clear hG9 G9
 have F9 := Fr.same F8 (m' := (fun z => if z = Str.ofString "part" then none else if z = Str.ofString "fws" then some (Value.str (fw) tf) else if z = Str.ofString "parts" then some (Value.ref D) else if z = Str.ofString "self" then some (Value.ref c.fo) else if z = Str.ofString "splitchars" then some (Value.str semiS tsc) else if z = Str.ofString "string" then some (Value.str x tx) else none)) (by refine frk (ks := [Str.ofString "part", Str.ofString "parts", Str.ofString "splitchars", Str.ofString "string", Str.ofString "fws", Str.ofString "self"]) ?_ ?_ ?_; (focus (repeat (first | with_reducible exact supp_none | with_reducible refine supp_ite (by kernel_rfl) ?_ | with_reducible exact supp_look (by kernel_rfl)))); (focus (repeat (first | with_reducible exact supp_none | with_reducible refine supp_ite (by kernel_rfl) ?_ | with_reducible exact supp_look (by kernel_rfl)))); kernel_rfl)
 clear F7 N7 F8
 have N9 : News g' L' h8 (zledOf z TI TO I .none .none oI ++ fled w c st ((D, listOf (strValues l2).toArray 1) :: rest)) := fun p hp => N8 p (by
  clear hst
  rcases List.mem_append.mp hp with hp | hp
  ·refine m_el hp ?_; refine m_all ?_ (m_all ?_ (m_all ?_ (m_all ?_ m_nil)))
   ·exact .head _
   ·exact .tail _ (.head _)
   ·exact .tail _ (.tail _ (.tail _ (.tail _ (.tail _ (.head _)))))
   ·exact .tail _ (.tail _ (.head _))
  ·rcases fled_cons hp with rfl | hp
   ·exact .tail _ (.tail _ (.tail _ (.tail _ (.tail _ (.tail _ (.head _))))))
   ·exact .tail _ (.tail _ (.tail _ (.tail _ (.tail _ (.tail _ (.tail _ hp)))))))
 have hgt : ∀ p ∈ fled w c st ((D, listOf (strValues l2).toArray 1) :: rest), p.1 < I ∧ p.1 < TI := fun p hp => by
  clear hst
  rcases fled_cons hp with rfl | hp
  ·exact ⟨l4 _ (.head _), l8 _ (.tail _ (.tail _ (.tail _ (.head _))))⟩
  ·exact ⟨l4 p (.tail _ hp), l8 p (.tail _ (.tail _ (.tail _ (.tail _ hp))))⟩
 have hITI : I < TI := l8 (I, oI) (.tail _ (.tail _ (.head _)))
 have hDI : D < I := l4 (D, _) (.head _)
 have hDz : D < z := Nat.lt_trans hDI (Nat.lt_trans hITI (Nat.lt_trans lz1 lz2))
 have hDTO : D < TO := Nat.lt_trans hDI (Nat.lt_trans hITI lz1)
 have hGD : FGood c st ((D, listOf (strValues l2).toArray 1) :: rest) := ⟨G.ch, G.tb, apart_new (fun p hp => l1 p hp) G.ap, G.lt, G.ll, G.le⟩
 have hap0 : ∀ p ∈ fled w c st ((D, listOf (strValues l2).toArray 1) :: rest), ∀ q ∈ zledOf z TI TO I .none .none oI, p.1 ≠ q.1 := fun p hp q hq => by
  have e1 := hgt p hp
  clear hst
  refine m_el hq ?_; refine m_all ?_ (m_all ?_ (m_all ?_ (m_all ?_ m_nil)))
  ·exact Nat.ne_of_lt (Nat.lt_trans e1.2 (Nat.lt_trans lz1 lz2))
  ·exact Nat.ne_of_lt (Nat.lt_trans e1.2 lz1)
  ·exact Nat.ne_of_lt e1.1
  ·exact Nat.ne_of_lt e1.2
 refine for_zip2 (n := r.length) (l := D) (items := (strValues l2).toArray) (d := s.drawn) (os := s.os) AllBare (fun i m led => ∃ (st' : FSt) (u1 u2 : Option Value), led = fled w c st' ((D, listOf (strValues l2).toArray 1) :: rest) ∧ SJ c ((D, listOf (strValues l2).toArray 1) :: rest) (fw) r i st' ∧
   m = (fun z => if z = Str.ofString "part" then u1 else if z = Str.ofString "fws" then u2 else if z = Str.ofString "parts" then some (Value.ref D) else if z = Str.ofString "self" then some (Value.ref c.fo) else if z = Str.ofString "splitchars" then some (Value.str semiS tsc) else if z = Str.ofString "string" then some (Value.str x tx) else none))
  (by passes_own) rfl rfl rfl rfl ⟨Nat.ne_of_lt (Nat.lt_trans lz1 lz2), Nat.ne_of_lt lz2, Nat.ne_of_lt (Nat.lt_trans hITI (Nat.lt_trans lz1 lz2)), Nat.ne_of_lt lz1, Nat.ne_of_gt hITI, Nat.ne_of_gt (Nat.lt_trans hITI lz1), Nat.ne_of_lt hDz, Nat.ne_of_lt hDTO, Nat.ne_of_lt hDI⟩
  (by simp [strValues, hl2n]) F9 N9 hI hap0 hg ⟨st, none, some (.str (fw) tf), rfl, ⟨hGD, by simp [FSt.prs, FSt.lns, hst, chunksP]⟩, rfl⟩ ?hl ?turn ?done
 case hl =>
  intro i m led h y94 F N; refine hG fun G9 hG9 => ?_; obtain ⟨st', u1, u2, rfl, J, rfl⟩ := y94; refine hG9 ?_; clear hG9 G9
  exact N.isList (fled_rest (.head _))
 case done =>
  intro m led h tk g y95 hgg F N; refine hG fun G9 hG9 => ?_; obtain ⟨st', u1, u2, rfl, J, rfl⟩ := y95; refine hG9 ?_; clear hG9 G9
  dsimp only
  k_steps
  rename_i kF kN _ _
  refine hret st' h tk g (fgood_un (zl := [_]) J.G) ?_ hgg kF fun p hp => kN p (fled_zl (zl := [_]).mpr (.tail _ hp))
  have e := J.e
  rw [List.take_of_length_le (by rw [pairsW_len]; exact Nat.le_refl _)] at e
  exact e
 case turn =>
  intro i va vb m led h tk g zl hi hva hvb y912 hap hgg F N; refine hG fun G9 hG9 => ?_; obtain ⟨st', u1, u2, rfl, J, rfl⟩ := y912; refine hG9 ?_; clear hG9 G9
  refine hG fun G9 hG9 => ?_; obtain ⟨q, hq, z1, z2, z3, z4, hB, ht⟩ := J.pre hi hrl (by rcases hq with e | e <;> rw [e] <;> decide) hv; refine hG9 ?_; clear hG9 G9
  refine hG fun G9 hG9 => ?_; obtain ⟨s1, s2, a1, a2⟩ := hl2q i q hq; refine hG9 ?_; clear hG9 G9
  obtain rfl : va = .str q.1 s1 := by
   have e := hva
   simp only [strValues, List.getElem?_toArray, List.getElem?_map, a1, Option.map_some, Option.some.injEq] at e
   exact e.symm
  obtain rfl : vb = .str q.2 s2 := by
   have e := hvb
   simp only [strValues, List.getElem?_toArray, List.getElem?_map, a2, Option.map_some, Option.some.injEq] at e
   exact e.symm
  have F2 := Fr.same F (m' := (fun z => if z = Str.ofString "part" then some (Value.str q.2 s2) else if z = Str.ofString "fws" then some (Value.str q.1 s1) else if z = Str.ofString "parts" then some (Value.ref D) else if z = Str.ofString "self" then some (Value.ref c.fo) else if z = Str.ofString "splitchars" then some (Value.str semiS tsc) else if z = Str.ofString "string" then some (Value.str x tx) else none)) (by
   intro z
   revert z; refine frk (ks := [Str.ofString "part", Str.ofString "fws", Str.ofString "parts", Str.ofString "self", Str.ofString "splitchars", Str.ofString "string"]) ?_ ?_ ?_; (focus (repeat (first | with_reducible exact supp_none | with_reducible refine supp_ite (by kernel_rfl) ?_ | with_reducible exact supp_look (by kernel_rfl)))); (focus (repeat (first | with_reducible exact supp_none | with_reducible refine supp_ite (by kernel_rfl) ?_ | with_reducible exact supp_look (by kernel_rfl)))); kernel_rfl)
  have N2 : News g' L' h (fled w c st' (zl ++ (D, listOf (strValues l2).toArray 1) :: rest)) := fun p hp => N p (fled_zl.mp hp)
  have G2 : FGood c st' (zl ++ (D, listOf (strValues l2).toArray 1) :: rest) := fgood_zl J.G hap
  have N2' := N2
  dsimp only [fled] at N2'
  clear F N F9 N9 hva hvb
  k_steps
  unfold Halt
  refine' c_chunk G2 z1 z2 z3 z4 hB (gd := _) (cn := _) (a := _) (ccd := _) (cl := _) (E := _) (B := ?kB) (F := F2) (X := X') (N := N2) (T := T') (hk := ?kk) (hdp := ?kd) (hu := ?ku) (CH1 := CH1.keeps FG'.keep) (CH2 := CH2.keeps FG'.keep) (hg := hgg) (hret := ?_)
  case kB => k_asm
  case kk => rfl
  case kd => walk_at "d3"
  case ku => walk_at "d3"
  intro st3 h3 tk3 g3 G3 e3 hf3 hg3 F3 N3
  clear F2 N2 N2'
  have N3' := N3
  dsimp only [fled] at N3'
  k_steps
  refine ⟨h3, tk3, g3, _, _, rfl, hg3, F3, fun p hp => N3 p (fled_zl.mpr hp), fled_apart hap hf3, st3, some (.str q.2 s2), some (.str q.1 s1), rfl, ⟨fgood_un G3, ?_⟩, rfl⟩
  rw [ht, chunksP_snoc, ← J.e]
  exact e3
theorem eq_2 : pt.U1 := hy @eq_1
end J2
theorem c_asplit2 : type_of% (@Part1.h _ _ _ J2.pt J2.eq_2) := @Part1.h _ _ _ J2.pt J2.eq_2
end
noncomputable def isLet (c : Nat) : Bool := (65 ≤ c && c ≤ 90) || (97 ≤ c && c ≤ 122)
noncomputable abbrev cdN : List Int := [14, 10, 4, 1, 1, 22, 0, 31, 16, 127, 0, 13, 7, 22, 0, 31, 16, 127, 0, 1]
noncomputable abbrev cdV : List Int := [14, 14, 4, 1, 1, 9, 4294966783, 0, 0, 2147483648, 0, 0, 0, 0, 0, 13, 11, 9, 4294966783, 0, 0, 2147483648, 0, 0, 0, 0, 0, 1]
noncomputable abbrev natsA (l : List Int) : Array Nat := (l.map Int.toNat).toArray
noncomputable def failsAt (l : List Int) (c : Nat) : Bool := match (stepN 40 (Sre.forSearch (natsA l) #[c] 0 0 1 false)).outcome with
 | some .failed => true
 | _ => false
theorem failsN : ∀ c, c < 128 → isLet c = true → failsAt cdN c = true := by decide +kernel
theorem failsV : ∀ c, c < 128 → isLet c = true → failsAt cdV c = true := by decide +kernel
section
variable {prog : Program} {w : World} {A : Around} {E : Value → Shared → Prop} {s : Shared}
theorem search_one {P C : Addr} {c : Nat} {t : Tok} {p : Str} {tp tf : Tok} {l : List Int} {Q : Value → Shared → Prop}
  (hP : s.heap.get? P = some { cls := .type "re.Pattern", data := .fields #[.str p tp, .int 32 tf, .int 0 0, .none, .none, .ref C, .int 0 0] })
  (hC : s.heap.get? C = some (intsO l)) (hf : failsAt l c = true) (h : Q .none s) :
  wpAny (model prog w) A (Builtin.«re.Pattern.search» ⟨[.ref P, .str ⟨#[c]⟩ t], []⟩) (fun fin s' => ∃ v, fin = .done (.ret v) ∧ Q v s') E s := by
 unfold Builtin.«re.Pattern.search»
 refine wpAny_bind (m := Builtin.Re.reTarget _ _ _) ?_
 unfold Builtin.Re.reTarget
 dsimp only
 refine wpAny_bind (wpAny_of_eq (a := [some (.str ⟨#[c]⟩ t), none, none]) (by kernel_rfl) ?_)
 dsimp only
 refine wpAny_bind (wpAny_pure (wpAny_bind (wpAny_pure ?_)))
 refine wpAny_bind (wpAny_fieldsOf hP rfl ?_)
 refine wpAny_bind (wpAny_of_eq (a := (#[c], 0)) rfl ?_)
 dsimp only
 have hw : Builtin.Re.reRawNat ((#[.str p tp, .int 32 tf, .int 0 0, .none, .none, .ref C, .int 0 0] : Array Value).getD 6 .none) = 0 := rfl
 rw [hw, if_neg (show ¬ (((0 : Nat) == 0 && (0 : Nat) == 1) = true) from by decide), if_neg (show ¬ (((0 : Nat) == 1 && (0 : Nat) == 0) = true) from by decide)]
 refine wpAny_bind (wpAny_of_eq (a := ()) rfl ?_)
 refine wpAny_bind ?_
 show wpAny _ _ (Builtin.Re.reRawItems (.ref C)) _ _ _
 unfold Builtin.Re.reRawItems
 refine wpAny_bind (wpAny_seqItems hC rfl (wpAny_pure (wpAny_pure ?_)))
 have e : Array.map (fun x => x.toNat) (Array.map Builtin.Re.reRawOf ((some (List.map (fun i => Value.int i 0) l).toArray).getD #[])) = natsA l := by
  simp only [Option.getD_some, List.map_toArray, List.map_map, natsA]
  rfl
 rw [e]
 unfold Builtin.Re.reAnswer
 refine wpAny_bind (ranOut (k := 40) (by decide) rfl ?_ (wpAny_pure ⟨_, rfl, h⟩))
 unfold failsAt at hf
 show (stepN 40 (Sre.forSearch (natsA l) #[c] 0 0 1 false)).outcome = _
 revert hf
 generalize (stepN 40 (Sre.forSearch (natsA l) #[c] 0 0 1 false)).outcome = o
 intro hf
 match o, hf with
 | some .failed, _ => rfl
end
theorem pat235 {w : World} {h : Heap} (X : (hd.heap_1 w.params).In h) : h.get? 235 = some { cls := .type "re.Pattern", data := .fields #[.str (Str.ofString "[\\x00-\\x1F\\x7F]") 597, .int 32 620, .int 0 0, .none, .none, .ref 234, .int 0 0] } ∧
  h.get? 234 = some (intsO cdN) := ⟨X _ _ (by kernel_rfl), X _ _ (by kernel_rfl)⟩
theorem pat240 {w : World} {h : Heap} (X : (hd.heap_1 w.params).In h) : h.get? 240 = some { cls := .type "re.Pattern", data := .fields #[.str (Str.ofString "[\\x00-\\x08\\x0A-\\x1F\\x7F]") 623, .int 32 654, .int 0 0, .none, .none, .ref 239, .int 0 0] } ∧
  h.get? 239 = some (intsO cdV) := ⟨X _ _ (by kernel_rfl), X _ _ (by kernel_rfl)⟩
section
variable {prog : Program} {w : World} {A : Around} {E : Value → Shared → Prop} {s : Shared}
theorem search_name {c : Nat} {t : Tok} {Q : Value → Shared → Prop} (X : (hd.heap_1 w.params).In s.heap) (hc : isLet c = true) (h : Q .none s) :
  wpAny (model prog w) A (call (.builtin "re.Pattern.search") [.ref 235, .str ⟨#[c]⟩ t]) Q E s :=
 wpAny_call_entry slot_search ⟨_, (pat235 X).1, rfl⟩ entry_search (search_one (pat235 X).1 (pat235 X).2 (failsN c (by unfold isLet at hc; simp at hc; omega) hc) h) (args_search _ _)
theorem search_value {c : Nat} {t : Tok} {Q : Value → Shared → Prop} (X : (hd.heap_1 w.params).In s.heap) (hc : isLet c = true) (h : Q .none s) :
  wpAny (model prog w) A (call (.builtin "re.Pattern.search") [.ref 240, .str ⟨#[c]⟩ t]) Q E s :=
 wpAny_call_entry slot_search ⟨_, (pat240 X).1, rfl⟩ entry_search (search_one (pat240 X).1 (pat240 X).2 (failsV c (by unfold isLet at hc; simp at hc; omega) hc) h) (args_search _ _)
end
structure HC where
 fo : Addr
 FD : Addr
 HL : Addr
 q1 : Tok
noncomputable def Cl.S {B : Type} (c : Cl B) : Cl (HC → B) := aN ⟨⟨0,0,0,0⟩⟩ c
noncomputable abbrev hdrDict (w : World) (c : HC) : Obj := dictOf [⟨PyData.keyHash w.params (Str.ofString "_headers"), .str (Str.ofString "_headers") c.q1, .ref c.HL⟩] 1
noncomputable abbrev hled (w : World) (c : HC) (hs : List Pr) (n : Nat) (rest : List (Addr × Obj)) : List (Addr × Obj) :=
 (c.HL, listOf (prRefs hs).toArray n) :: (c.fo, instObj 369 c.FD) :: (c.FD, hdrDict w c) :: (prLed hs ++ rest)
structure HGood (c : HC) (hs : List Pr) (rest : List (Addr × Obj)) : Prop where
 h1 : c.FD < c.fo
 h2 : c.fo < c.HL
 ap : ∀ p ∈ rest, p.1 ≠ c.HL
 lt : hs.length < 400
section
namespace J25
def pt : Part1 (aP.f.f.m.e.c.b.b.l.x.s.h.c.r.i.w.a.a.q.e.e.t.j) (∀ {w : World} {mean : ExcName → Option Value} {mg mb : Str → Option Value} {led : List (Addr × Obj)}
(dp un : Nat) (gd : Option (List Code)) (cn : Str) (cs : Scope) (a : Addr) (ccd : Value) (cl : List (Str × Addr)) (outer : List Env) (A₀ : Around) (base h₀ : Heap) (L : Addr) (m : Str → Option Value) (s : Shared) (Q E : Value → Shared → Prop)
  (B : Below A₀ base outer h₀) (F : Fr h₀ L s.heap m) (X : (hd.heap_1 w.params).In h₀) (N : News h₀ L s.heap led) (T : Top pv lv mean mg mb h₀) (hk : cs.kind = .function)
  (hdp : dp + 60 < recursionLimit) (hu : un + 560 < cLine)
  (hret : ∀ (c : HC) (h' : Heap) (tk' : Nat), c.FD < c.fo → c.fo < c.HL → (∀ p ∈ led, p.1 < c.FD) → Fr h₀ L h' m → News h₀ L h' ((c.HL, listOf #[] 0) :: (c.fo, instObj 369 c.FD) :: (c.FD, hdrDict w c) :: led) → Q (.ref c.fo) { s with heap := h', toks := tk' }), wpAny (model theProg w) (ktrTop dp un gd cn cs L a ccd cl outer) (call (.ref 369) []) Q E s) := by
 apply Part1.mk
 case h => intro hS1 w mean mg mb led dp un gd cn cs a ccd cl outer A₀ base h₀ L m s Q E B F X N T hk hdp hu hret; revert B F X N T hk hdp hu hret; exact @hS1 w mean mg mb led dp un gd cn cs a ccd cl outer A₀ base h₀ L m s Q E
def Z0 := pt.z1
def w := hx0 Z0
def mean := hx1 Z0
def mg := hx2 Z0
def mb := hx3 Z0
def led := hx4 Z0
def dp := hx5 Z0
def un := hx6 Z0
def gd := hx7 Z0
def Z1 := ht Z0
def cn := hx0 Z1
def cs := hx1 Z1
def a := hx2 Z1
def ccd := hx3 Z1
def cl := hx4 Z1
def outer := hx5 Z1
def A₀ := hx6 Z1
def base := hx7 Z1
def Z2 := ht Z1
def h₀ := hx0 Z2
def L := hx1 Z2
def m := hx2 Z2
def s := hx3 Z2
def Q := hx4 Z2
def E := hx5 Z2
theorem eq_1 : pt.Q1 w mean mg mb led dp un gd cn cs a ccd cl outer A₀ base h₀ L m s Q E := by
 intro B F X N T hk hdp hu hret
 k_with_none
 k_with "ne" => (refine neN ?_; (try dsimp only); first | with_reducible (first | assumption | (refine Ne.symm ?_; assumption) | exact ne_1 | exact ne_1.symm | exact ne_2 | exact ne_2.symm | exact ne_3 | exact ne_3.symm | exact ne_4 | exact ne_4.symm) | exact (by with_reducible assumption : Apt _ _) | exact Ne.symm (by with_reducible assumption : Apt _ _) | omega)
 k_with "d2" => (repeat' (first | with_reducible (first | exact m_id | exact m_nil | exact m_lid | exact m_mapl | exact m_mapl2 | refine m_cons ?_ ?_ | refine m_app ?_ ?_ | refine m_map ?_ ?_ | refine m_map1 ?_ | exact m_hd | refine m_tl ?_ | exact m_mapr rfl | refine m_tail ?_ | refine m_right ?_ | refine m_inr ?_) | exact m_hd | refine m_tl ?_))
 k_with "d3" => (first | assumption | omega | ktr_room | ktr_units | (simp only [] at *; omega))
 k_with "pyIter ref" => (k_here; (refine Halt.out ?_))
 have _ := fl X
 refine' call_cls ?k1 ?k2 ?k3 ?k4 ?k5 ?k6 ?_
 case k1 => k_asm
 case k2 => k_asm
 case k3 => k_asm
 case k4 => k_is
 case k5 => k_is
 case k6 => k_is
 intro fo FD h1 F1 N1 l1 l2
 have l1' := l1
 (try k_lt l1); (try k_lt2 l2); (try k_sweep)
 ((first | refine codeD (h := ?_) | refine codeD (hbind := by exact binds_K (by k_in) rfl (by k_is) rfl rfl rfl) (h := ?_)); k_whole; intro m' g' L' h' tk' FG' F' N' B' X' T'; (try dsimp only); (try k_lift B'); (try k_fold))
 k_steps
 refine frest_start ?_
 k_steps
 rename_i F9 N9
 refine list_iter F9 N9 (N9.isList (.head _)) fun I oI h10 hI F10 N10 l10 _ hl10 => ?_
 clear F9 N9
 refine frest_turn (by passes_own) ?_
 refine list_end rfl F10 N10 hI (fun p hp => Nat.ne_of_lt (l10 p hp)) hl10 rfl fun h11 F11 N11 => ?_
 clear F10 N10 hl10
 unfold FItem
 dsimp only
 k_steps
 rename_i HL _ lt _ _ _ _ kF kN _ _
 obtain ⟨q1, kN⟩ : ∃ q1, News h₀ L h11 ((HL, listOf #[] 0) :: (fo, instObj 369 FD) :: (FD, hdrDict w ⟨fo, FD, HL, q1⟩) :: led) := ⟨_, kN⟩
 refine hret ⟨fo, FD, HL, q1⟩ _ _ l2 lt.1 l1' kF kN
theorem eq_2 : pt.U1 := hy @eq_1
end J25
theorem c_hnew : type_of% (@Part1.h _ _ _ J25.pt J25.eq_2) := @Part1.h _ _ _ J25.pt J25.eq_2
end
section
theorem c_convA {w : World} {mean : ExcName → Option Value} {mg mb : Str → Option Value} {led : List (Addr × Obj)} {o : Addr} {x : Nat} {tx : Tok} (hx : isLet x = true)
(dp un : Nat) (gd : Option (List Code)) (cn : Str) (cs : Scope) (a : Addr) (ccd : Value) (cl : List (Str × Addr)) (outer : List Env) (A₀ : Around) (base h₀ : Heap) (L : Addr) (m : Str → Option Value) (s : Shared) (Q E : Value → Shared → Prop)
  (B : Below A₀ base outer h₀) (F : Fr h₀ L s.heap m) (X : (hd.heap_1 w.params).In h₀) (N : News h₀ L s.heap led) (T : Top pv lv mean mg mb h₀) (hk : cs.kind = .function)
  (hdp : dp + 60 < recursionLimit) (hu : un + 560 < cLine)
  (hret : ∀ (h' : Heap) (tk' : Nat), Fr h₀ L h' m → News h₀ L h' led → Q (.str ⟨#[x]⟩ tx) { s with heap := h', toks := tk' }) :
  wpAny (model theProg w) (ktrTop dp un gd cn cs L a ccd cl outer) (call (.ref 270) [.ref o, .str ⟨#[x]⟩ tx] [(Str.ofString "name", .bool true)]) Q E s := by
 k_with_none
 k_with "ne" => (refine neN ?_; (try dsimp only); first | with_reducible (first | assumption | (refine Ne.symm ?_; assumption) | exact ne_1 | exact ne_1.symm | exact ne_2 | exact ne_2.symm | exact ne_3 | exact ne_3.symm | exact ne_4 | exact ne_4.symm) | exact (by with_reducible assumption : Apt _ _) | exact Ne.symm (by with_reducible assumption : Apt _ _) | omega)
 k_with "d2" => (repeat' (first | with_reducible (first | exact m_id | exact m_nil | exact m_lid | exact m_mapl | exact m_mapl2 | refine m_cons ?_ ?_ | refine m_app ?_ ?_ | refine m_map ?_ ?_ | refine m_map1 ?_ | exact m_hd | refine m_tl ?_ | exact m_mapr rfl | refine m_tail ?_ | refine m_right ?_ | refine m_inr ?_) | exact m_hd | refine m_tl ?_))
 k_with "d3" => (first | assumption | omega | ktr_room | ktr_units | (simp only [] at *; omega))
 k_with "getMethod ref" => (k_here; (with_reducible show wpAny _ _ (getMethod (Value.ref 235) _ _) _ _ _); k_dflt (refine pat_method (pat235 (Frag.In.keeps (by k_asm) (Fr.keep (by k_asm)))).1 slot_search type_search ?_); k_whole)
 k_with "getMethod ref" => (k_here; (with_reducible show wpAny _ _ (getMethod (Value.ref 240) _ _) _ _ _); k_dflt (refine pat_method (pat240 (Frag.In.keeps (by k_asm) (Fr.keep (by k_asm)))).1 slot_search type_search ?_); k_whole)
 k_with "call builtin:re.Pattern.search" => (k_here; k_dflt (first | refine search_name (Frag.In.keeps (by k_asm) (Fr.keep (by k_asm))) (by assumption) ?_ | refine search_value (Frag.In.keeps (by k_asm) (Fr.keep (by k_asm))) (by assumption) ?_); k_whole)
 have _ := fl X
 refine wpAny_call ?_
 k_dflt (refine codeD (h := ?_); k_whole; intro m' g' L' h' tk' FG' F' N' B' X' T'; (try dsimp only); (try k_lift B'); (try k_fold))
 k_steps
 rename_i kF kN _ _
 exact hret _ _ kF kN
theorem c_convB {w : World} {mean : ExcName → Option Value} {mg mb : Str → Option Value} {led : List (Addr × Obj)} {o : Addr} {x : Nat} {tx : Tok} (hx : isLet x = true)
(dp un : Nat) (gd : Option (List Code)) (cn : Str) (cs : Scope) (a : Addr) (ccd : Value) (cl : List (Str × Addr)) (outer : List Env) (A₀ : Around) (base h₀ : Heap) (L : Addr) (m : Str → Option Value) (s : Shared) (Q E : Value → Shared → Prop)
  (B : Below A₀ base outer h₀) (F : Fr h₀ L s.heap m) (X : (hd.heap_1 w.params).In h₀) (N : News h₀ L s.heap led) (T : Top pv lv mean mg mb h₀) (hk : cs.kind = .function)
  (hdp : dp + 60 < recursionLimit) (hu : un + 560 < cLine)
  (hret : ∀ (h' : Heap) (tk' : Nat), Fr h₀ L h' m → News h₀ L h' led → Q (.str ⟨#[x]⟩ tx) { s with heap := h', toks := tk' }) :
  wpAny (model theProg w) (ktrTop dp un gd cn cs L a ccd cl outer) (call (.ref 270) [.ref o, .str ⟨#[x]⟩ tx] [(Str.ofString "name", .bool false)]) Q E s := by
 have _ := fl X
 refine wpAny_call ?_
 k_dflt (refine codeD (h := ?_); k_whole; intro m' g' L' h' tk' FG' F' N' B' X' T'; (try dsimp only); (try k_lift B'); (try k_fold))
 k_steps
 rename_i kF kN _ _
 exact hret _ _ kF kN
end
theorem allLt_mem {d : Addr} : ∀ {l : List (Addr × Obj)}, AllLt d l → ∀ p ∈ l, p.1 < d
 | [], _, p, hp => by cases hp
 | q :: r, h, p, hp => by
  refine m_el hp (m_all ?_ ?_)
  ·exact h.1
  ·intro p hp; exact allLt_mem h.2 p hp
section
namespace J7
def pt : Part1 (aP.f.f.m.e.c.b.b.l.x.s.h.c.r.i.w.a.a.d.d.a.a.a.E.S.q.e.e.t.j) (∀ {w : World} {mean : ExcName → Option Value} {mg mb : Str → Option Value} {rest : List (Addr × Obj)} {c : HC} {hs : List Pr} {n : Nat} {x y : Nat} {tx ty : Tok} (G : HGood c hs rest) (hlt : hs.length < 399) (hx : isLet x = true) (hy : isLet y = true)
(dp un : Nat) (gd : Option (List Code)) (cn : Str) (cs : Scope) (a : Addr) (ccd : Value) (cl : List (Str × Addr)) (outer : List Env) (A₀ : Around) (base h₀ : Heap) (L : Addr) (m : Str → Option Value) (s : Shared) (Q E : Value → Shared → Prop)
  (B : Below A₀ base outer h₀) (F : Fr h₀ L s.heap m) (X : (hd.heap_1 w.params).In h₀) (N : News h₀ L s.heap (hled w c hs n rest)) (T : Top pv lv mean mg mb h₀) (hk : cs.kind = .function)
  (hdp : dp + 90 < recursionLimit) (hu : un + 900 < cLine)
  (hret : ∀ (T : Addr) (t' : Tok) (h' : Heap) (tk' : Nat), (∀ p ∈ hled w c hs n rest, p.1 < T) → HGood c (hs ++ [(T, (⟨#[x]⟩, tx), (⟨#[y]⟩, t'))]) rest → Fr h₀ L h' m → News h₀ L h' (hled w c (hs ++ [(T, (⟨#[x]⟩, tx), (⟨#[y]⟩, t'))]) (n + 1) rest) → Q .none { s with heap := h', toks := tk' }), wpAny (model theProg w) (ktrTop dp un gd cn cs L a ccd cl outer) (call (.ref 366) [.ref c.fo, .str ⟨#[x]⟩ tx, .str ⟨#[y]⟩ ty]) Q E s) := by
 apply Part1.mk
 case h => intro hS1 w mean mg mb rest c hs n x y tx ty G hlt hx hy dp un gd cn cs a ccd cl outer A₀ base h₀ L m s Q E B F X N T hk hdp hu hret; revert G hlt hx hy B F X N T hk hdp hu hret; exact @hS1 w mean mg mb rest c hs n x y tx ty dp un gd cn cs a ccd cl outer A₀ base h₀ L m s Q E
def Z0 := pt.z1
def w := hx0 Z0
def mean := hx1 Z0
def mg := hx2 Z0
def mb := hx3 Z0
def rest := hx4 Z0
def c := hx5 Z0
def hs := hx6 Z0
def n := hx7 Z0
def Z1 := ht Z0
def x := hx0 Z1
def y := hx1 Z1
def tx := hx2 Z1
def ty := hx3 Z1
def dp := hx4 Z1
def un := hx5 Z1
def gd := hx6 Z1
def cn := hx7 Z1
def Z2 := ht Z1
def cs := hx0 Z2
def a := hx1 Z2
def ccd := hx2 Z2
def cl := hx3 Z2
def outer := hx4 Z2
def A₀ := hx5 Z2
def base := hx6 Z2
def h₀ := hx7 Z2
def Z3 := ht Z2
def L := hx0 Z3
def m := hx1 Z3
def s := hx2 Z3
def Q := hx3 Z3
def E := hx4 Z3
theorem eq_1 : pt.Q1 w mean mg mb rest c hs n x y tx ty dp un gd cn cs a ccd cl outer A₀ base h₀ L m s Q E := by
 intro G hlt hx hy B F X N T hk hdp hu hret
 k_with_none
 k_with "ne" => (refine neN ?_; (try dsimp only); first | with_reducible (first | assumption | (refine Ne.symm ?_; assumption) | exact ne_1 | exact ne_1.symm | exact ne_2 | exact ne_2.symm | exact ne_3 | exact ne_3.symm | exact ne_4 | exact ne_4.symm) | exact (by with_reducible assumption : Apt _ _) | exact Ne.symm (by with_reducible assumption : Apt _ _) | omega)
 k_with "d2" => (repeat' (first | with_reducible (first | exact m_id | exact m_nil | exact m_lid | exact m_mapl | exact m_mapl2 | refine m_cons ?_ ?_ | refine m_app ?_ ?_ | refine m_map ?_ ?_ | refine m_map1 ?_ | exact m_hd | refine m_tl ?_ | exact m_mapr rfl | refine m_tail ?_ | refine m_right ?_ | refine m_inr ?_) | exact m_hd | refine m_tl ?_))
 k_with "d3" => (first | assumption | omega | ktr_room | ktr_units | (simp only [] at *; omega))
 k_with "call ref" => (k_here; (with_reducible show wpAny _ _ (call (Value.ref 270) _ _) _ _ _); k_dflt (first | refine' c_convA ?qx50z (gd := _) (cn := _) (a := _) (ccd := _) (cl := _) (E := _) (B := ?kB50z) (F := ?kF50z) (X := ?kX50z) (N := ?kN50z) (T := ?kT50z) (hk := ?kk50z) (hdp := ?kd50z) (hu := ?ku50z) (hret := ?_) | refine' c_convB ?qx50z (gd := _) (cn := _) (a := _) (ccd := _) (cl := _) (E := _) (B := ?kB50z) (F := ?kF50z) (X := ?kX50z) (N := ?kN50z) (T := ?kT50z) (hk := ?kk50z) (hdp := ?kd50z) (hu := ?ku50z) (hret := ?_)); (case qx50z => assumption); (case kB50z => k_asm); (case kF50z => k_asm); (case kX50z => k_asm); (case kN50z => k_asm); (case kT50z => k_asm); (case kk50z => rfl); (case kd50z => walk_at "d3"); (case ku50z => walk_at "d3"); intro _ _ _ _; (try dsimp only))
 k_with "call builtin:str.join" => (k_here; (refine Halt.out ?_))
 k_with "execs cons" => ((try k_fold); (refine wpAny_execs_cons ?_); (try dsimp only); (try k_fold))
 have _ := fl X
 refine wpAny_call ?_
 k_dflt (refine' kp_more ?k1 ?k2 ?k3 ?k4 ?k5 ?kA ?kF ?kK ?k6 ?k7 ?k8 ?kX ?kM ?kN ?kD ?kR ?kP ?kT ?kB ?_ ?c2 ?c3 ?c4 ?c5; (case kA => exact rfl); (case kF => exact rfl); (case kK => assumption); (case k1 => k_asm); (case k2 => k_asm); (case k3 => k_asm); (case k4 => k_asm); (case k5 => k_asm); (case k6 => k_is); (case k7 => k_is); (case k8 => ktr_room); (case kX => kp_lit); (case kM => exact rfl); (case kN => exact rfl); (case kD => kp_flats); (case kR => exact rfl); (case kP => exact rfl); (case kT => exact fun _ => rfl); (case kB => exact fun _ => locs rfl); (case c5 => decide); (case c2 => exact rfl); (case c3 => exact rfl); (case c4 => exact rfl); k_whole; intro D' o' g' L' h' tk' l1 lo' hs' fs' FG' F' N' B' X' T'; (try dsimp only); (try k_lift B'); (try k_fold))
 have N0 := N'
 dsimp only [hled] at N'
 k_steps
 unfold Halt
 rename_i h5 tk5 F5 N5
 refine join_listW (ys := [⟨#[y]⟩]) (N5.isList (.tail _ (.head _))) (.cons _ _ .nil) (by decide) (by show 1 + 0 + 1 ≤ _; decide) fun u tk6 => ?_
 k_steps
 rename_i T h7 F7 N7 lt7
 have N8 : News g' L' h7 ((T, prObj (T, (⟨#[x]⟩, tx), (⟨#[y]⟩, u))) :: hled w c hs n rest) := fun p hp => by
  refine m_el hp (m_all ?_ ?_)
  ·exact N7 _ (.head _)
  ·intro p hp; exact N7 p (.tail _ (.tail _ (.tail _ (.tail _ hp))))
 have ltT : ∀ p ∈ hled w c hs n rest, p.1 < T := fun p hp => by
  obtain ⟨-, -, -, a1, a2, a3, a4⟩ := lt7
  simp only [hled, List.mem_cons] at hp
  rcases hp with rfl | rfl | rfl | hp
  ·exact a1
  ·exact a2
  ·exact a3
  ·exact allLt_mem a4 p hp
 have hap : ∀ p ∈ (c.fo, instObj 369 c.FD) :: (c.FD, hdrDict w c) :: (prLed hs ++ rest), p.1 ≠ c.HL := fun p hp => by
  simp only [List.mem_cons, List.mem_append] at hp
  rcases hp with rfl | rfl | hp | hp
  ·exact Nat.ne_of_lt G.h2
  ·exact Nat.ne_of_lt (Nat.lt_trans G.h1 G.h2)
  ·obtain ⟨t, ht, rfl⟩ := prLed_mem hp
   refine news_ne N8 (.tail _ (.tail _ (.tail _ (.tail _ (List.mem_append_left _ hp))))) (.tail _ (.head _)) ?_
   intro e
   injection e with e1
   injection e1 with e2
   revert e2
   decide
  ·exact G.ap p hp
 clear N7 lt7
 refine append_K F7 N8 (updF_upd (.tail (Nat.ne_of_gt (ltT _ (.head _))) (.head hap))) (fun h8 F8 N9 => ?_) (by simp [sizeLine]; lia)
 have N10 : News g' L' h8 (hled w c (hs ++ [(T, (⟨#[x]⟩, tx), (⟨#[y]⟩, u))]) (n + 1) rest) := fun p hp => N9 p (by
  have e : (prRefs (hs ++ [(T, ((⟨#[x]⟩ : Str), tx), ((⟨#[y]⟩ : Str), u))])).toArray = (prRefs hs).toArray.push (.ref T) := by simp [prRefs]
  simp only [hled] at hp
  rw [e] at hp
  simp only [hled, List.mem_cons, List.mem_append, prLed, List.map_append, List.map_cons, List.map_nil, List.not_mem_nil, or_false] at hp ⊢
  rcases hp with rfl | rfl | rfl | (hp | rfl) | hp <;> simp [*])
 clear F7 N8 N9
 k_steps
 rename_i kF kN _ _
 exact hret T u _ _ ltT ⟨G.h1, G.h2, G.ap, by simp; lia⟩ kF kN
theorem eq_2 : pt.U1 := hy @eq_1
end J7
theorem c_addh : type_of% (@Part1.h _ _ _ J7.pt J7.eq_2) := @Part1.h _ _ _ J7.pt J7.eq_2
end
noncomputable abbrev one (c : Nat) : Str := ⟨#[c]⟩
noncomputable def rowT (wd i : Nat) (cs : List Nat) : Str := Txt.join (Str.ofString " ") (((cs.drop (i * wd)).take wd).map one)
noncomputable def lineT (q0 : Str) (wd i : Nat) (cs : List Nat) : Str := (if i = 0 then q0 else Str.ofString " ") ++ rowT wd i cs
noncomputable def linesT (q0 : Str) (wd many : Nat) (cs : List Nat) : List Str := (List.range many).map fun i => lineT q0 wd i cs
noncomputable def fmtOf (q0 : Str) (wd : Nat) (cs : List Nat) : List (Str × Str) × List Str := chunksP (2 * wd) (pairsW q0 (cs.map fun c => [c]))
structure ColsText (q0 : Str) (wd many : Nat) (cs : List Nat) : Prop where
 lines : (fmtOf q0 wd cs).2 ++ [jnP (fmtOf q0 wd cs).1] = linesT q0 wd many cs
 text : Txt.join (Str.ofString "\n") (linesT q0 wd many cs) = q0 ++ Txt.join (Str.ofString "\n ") ((List.range many).map fun i => rowT wd i cs)
 flat : (Txt.join (Str.ofString " ") (cs.map one)).cps.toList = flatW (cs.map fun c => [c])
 nl : (fmtOf q0 wd cs).2.length + 1 = many
 npr : (fmtOf q0 wd cs).1.length = wd
theorem as_range {α : Type} {l : List α} {n : Nat} (d : α) (h : l.length = n) : (List.range n).map (fun i => l.getD i d) = l := by
 subst h
 apply List.ext_getElem?
 intro i
 rw [List.getElem?_map]
 by_cases q : i < l.length
 ·rw [List.getElem?_range q, List.getElem?_eq_getElem q, Option.map_some, List.getD_eq_getElem?_getD, List.getElem?_eq_getElem q, Option.getD_some]
 ·rw [List.getElem?_eq_none (by rw [List.length_range]; lia), List.getElem?_eq_none (Nat.le_of_not_lt q), Option.map_none]
theorem ctE22 (f : Nat → Nat) : ColsText (Str.ofString "") 2 2 ((List.range 4).map f) := ⟨by kernel_rfl, by kernel_rfl, by kernel_rfl, by kernel_rfl, by kernel_rfl⟩
theorem ctB22 (f : Nat → Nat) : ColsText (Str.ofString " ") 2 2 ((List.range 4).map f) := ⟨by kernel_rfl, by kernel_rfl, by kernel_rfl, by kernel_rfl, by kernel_rfl⟩
theorem ctE23 (f : Nat → Nat) : ColsText (Str.ofString "") 2 3 ((List.range 6).map f) := ⟨by kernel_rfl, by kernel_rfl, by kernel_rfl, by kernel_rfl, by kernel_rfl⟩
theorem ctB23 (f : Nat → Nat) : ColsText (Str.ofString " ") 2 3 ((List.range 6).map f) := ⟨by kernel_rfl, by kernel_rfl, by kernel_rfl, by kernel_rfl, by kernel_rfl⟩
theorem ctE24 (f : Nat → Nat) : ColsText (Str.ofString "") 2 4 ((List.range 8).map f) := ⟨by kernel_rfl, by kernel_rfl, by kernel_rfl, by kernel_rfl, by kernel_rfl⟩
theorem ctB24 (f : Nat → Nat) : ColsText (Str.ofString " ") 2 4 ((List.range 8).map f) := ⟨by kernel_rfl, by kernel_rfl, by kernel_rfl, by kernel_rfl, by kernel_rfl⟩
theorem ctE25 (f : Nat → Nat) : ColsText (Str.ofString "") 2 5 ((List.range 10).map f) := ⟨by kernel_rfl, by kernel_rfl, by kernel_rfl, by kernel_rfl, by kernel_rfl⟩
theorem ctB25 (f : Nat → Nat) : ColsText (Str.ofString " ") 2 5 ((List.range 10).map f) := ⟨by kernel_rfl, by kernel_rfl, by kernel_rfl, by kernel_rfl, by kernel_rfl⟩
theorem ctE32 (f : Nat → Nat) : ColsText (Str.ofString "") 3 2 ((List.range 6).map f) := ⟨by kernel_rfl, by kernel_rfl, by kernel_rfl, by kernel_rfl, by kernel_rfl⟩
theorem ctB32 (f : Nat → Nat) : ColsText (Str.ofString " ") 3 2 ((List.range 6).map f) := ⟨by kernel_rfl, by kernel_rfl, by kernel_rfl, by kernel_rfl, by kernel_rfl⟩
theorem ctE33 (f : Nat → Nat) : ColsText (Str.ofString "") 3 3 ((List.range 9).map f) := ⟨by kernel_rfl, by kernel_rfl, by kernel_rfl, by kernel_rfl, by kernel_rfl⟩
theorem ctB33 (f : Nat → Nat) : ColsText (Str.ofString " ") 3 3 ((List.range 9).map f) := ⟨by kernel_rfl, by kernel_rfl, by kernel_rfl, by kernel_rfl, by kernel_rfl⟩
theorem ctE34 (f : Nat → Nat) : ColsText (Str.ofString "") 3 4 ((List.range 12).map f) := ⟨by kernel_rfl, by kernel_rfl, by kernel_rfl, by kernel_rfl, by kernel_rfl⟩
theorem ctB34 (f : Nat → Nat) : ColsText (Str.ofString " ") 3 4 ((List.range 12).map f) := ⟨by kernel_rfl, by kernel_rfl, by kernel_rfl, by kernel_rfl, by kernel_rfl⟩
theorem ctE35 (f : Nat → Nat) : ColsText (Str.ofString "") 3 5 ((List.range 15).map f) := ⟨by kernel_rfl, by kernel_rfl, by kernel_rfl, by kernel_rfl, by kernel_rfl⟩
theorem ctB35 (f : Nat → Nat) : ColsText (Str.ofString " ") 3 5 ((List.range 15).map f) := ⟨by kernel_rfl, by kernel_rfl, by kernel_rfl, by kernel_rfl, by kernel_rfl⟩
theorem cols_text {q0 : Str} (hq : q0 = Str.ofString "" ∨ q0 = Str.ofString " ") {wd many : Nat} (hwd : wd = 2 ∨ wd = 3) (hm : many = 2 ∨ many = 3 ∨ many = 4 ∨ many = 5) {cs : List Nat} (h : cs.length = wd * many) : ColsText q0 wd many cs := by
 have k : ∀ f : Nat → Nat, ColsText q0 wd many ((List.range (wd * many)).map f) := by
  clear h
  rcases hwd with rfl | rfl <;> rcases hm with rfl | rfl | rfl | rfl <;> rcases hq with rfl | rfl
  ·exact ctE22
  ·exact ctB22
  ·exact ctE23
  ·exact ctB23
  ·exact ctE24
  ·exact ctB24
  ·exact ctE25
  ·exact ctB25
  ·exact ctE32
  ·exact ctB32
  ·exact ctE33
  ·exact ctB33
  ·exact ctE34
  ·exact ctB34
  ·exact ctE35
  ·exact ctB35
 have := k fun i => cs.getD i 0
 rwa [as_range 0 h] at this
theorem c_asplit {w : World} {mean : ExcName → Option Value} {mg mb : Str → Option Value} {c : FC} {st : FSt} {rest : List (Addr × Obj)} {q0 x : Str} {tf tx tsc : Tok} {ls : List Nat} (hq : q0 = Str.ofString "" ∨ q0 = Str.ofString " ") (G : FGood c st rest) (hst : st.ts = [] ∧ st.lines = [])
  (hx : x.cps.toList = flatW (ls.map fun c => [c])) (hl : ∀ v ∈ ls, v ≠ 32 ∧ v ≠ 9) (hne : ls ≠ []) (hrl : ls.length < 50) (hwd : 2 ≤ c.wd)
(dp un : Nat) (gd : Option (List Code)) (cn : Str) (cs : Scope) (a : Addr) (ccd : Value) (cl : List (Str × Addr)) (outer : List Env) (A₀ : Around) (base h₀ : Heap) (L : Addr) (m : Str → Option Value) (s : Shared) (Q E : Value → Shared → Prop)
  (B : Below A₀ base outer h₀) (F : Fr h₀ L s.heap m) (X : (hd.heap_1 w.params).In h₀) (N : News h₀ L s.heap (fled w c st rest)) (T : Top pv lv mean mg mb h₀) (hk : cs.kind = .function)
  (hdp : dp + 140 < recursionLimit) (hu : un + 1500 < cLine)
  (CH1 : CodeHd h₀ 166 162) (CH2 : CodeHd h₀ 173 169) (hg : AllBare s.gens)
  (hret : ∀ (st' : FSt) (h' : Heap) (tk' : Nat) (g' : Array GenState), FGood c st' rest → (st'.prs, st'.lns) = chunksP c.wd (pairsW q0 (ls.map fun c => [c])) → AllBare g' → Fr h₀ L h' m → News h₀ L h' (fled w c st' rest) → Q .none { s with heap := h', toks := tk', gens := g' }) :
  wpAny (model theProg w) (ktrTop dp un gd cn cs L a ccd cl outer) (call (.ref 106) [.ref c.fo, .str q0 tf, .str x tx, .str (Str.ofString ";") tsc]) Q E s := by
 have hlen : x.length ≤ 2 * ls.length := by
  have e := congrArg List.length hx
  rw [Array.length_toList] at e
  show x.cps.size ≤ _
  rw [e]
  clear hx hl hne hrl e hret
  induction ls with
  | nil => simp [flatW]
  | cons v r ih =>
   cases r with
   | nil => simp [flatW]
   | cons u r => simp only [List.map_cons, flatW, List.length_append, List.length_cons] at ih ⊢; simp at ih ⊢; lia
 have hr : ∀ v ∈ ls.map fun c => [c], CleanW v ∧ v ≠ [] := fun v hv => by
  obtain ⟨u, hu, rfl⟩ := List.mem_map.mp hv
  refine ⟨fun d hd => ?_, by simp⟩
  rw [List.mem_singleton] at hd
  subst hd
  exact hl _ hu
 have hne' : (ls.map fun c => [c]) ≠ [] := by simpa using hne
 have hv : ∀ (q : Str), q.length ≤ 1 → ∀ v ∈ ls.map fun c => [c], q.length + v.length ≤ c.wd ∧ v.length < 100 := fun q hq v hv => by
  obtain ⟨u, hu, rfl⟩ := List.mem_map.mp hv
  simp
  lia
 have hz2 : q0.length + x.length < 1000 := by
  rcases hq with e | e <;> rw [e]
  ·show 0 + _ < _; lia
  ·show 1 + _ < _; lia
 exact c_asplit2 hq G hst hz2 hx hr hne' (by simp; lia) (hv _ (by rcases hq with e | e <;> rw [e] <;> decide)) dp un gd cn cs a ccd cl outer A₀ base h₀ L m s Q E B F X N T hk hdp hu CH1 CH2 hg hret
section
namespace J5
def pt : Part1 (aP.f.f.m.e.c.b.b.l.x.s.h.c.r.i.w.a.a.y3.E.q.B.G.e.e.t.j) (∀ {w : World} {mean : ExcName → Option Value} {mg mb : Str → Option Value} {c : FC} {st : FSt} {rest : List (Addr × Obj)} {ts0 : List Pr} {t : Pr} (G : FGood c st rest) (hts : st.ts = ts0 ++ [t])
  (hl : st.lines.length < 98) (hpos : 0 < t.2.2.1.length) (ha1 : Asc t.2.1.1) (ha2 : Asc t.2.2.1) (hsp : Txt.isspace (joinPr st.ts) = false)
(dp un : Nat) (gd : Option (List Code)) (cn : Str) (cs : Scope) (a : Addr) (ccd : Value) (cl : List (Str × Addr)) (outer : List Env) (A₀ : Around) (base h₀ : Heap) (L : Addr) (m : Str → Option Value) (s : Shared) (Q E : Value → Shared → Prop)
  (B : Below A₀ base outer h₀) (F : Fr h₀ L s.heap m) (X : (hd.heap_1 w.params).In h₀) (N : News h₀ L s.heap (fled w c st rest)) (T : Top pv lv mean mg mb h₀) (hk : cs.kind = .function)
  (hdp : dp + 80 < recursionLimit) (hu : un + 860 < cLine)
  (CH1 : CodeHd h₀ 166 162) (CH2 : CodeHd h₀ 173 169) (hg : AllBare s.gens)
  (hret : ∀ (st' : FSt) (h' : Heap) (tk' : Nat) (g' : Array GenState), FGood c st' rest → st'.ts = [] → (∃ tl, st'.lines = st.lines ++ [(joinPr st.ts, tl)]) → AllBare g' → Fr h₀ L h' m → News h₀ L h' (fled w c st' rest) → Q .none { s with heap := h', toks := tk', gens := g' }), wpAny (model theProg w) (ktrTop dp un gd cn cs L a ccd cl outer) (call (.ref 78) [.ref c.fo]) Q E s) := by
 apply Part1.mk
 case h => intro hS1 w mean mg mb c st rest ts0 t G hts hl hpos ha1 ha2 hsp dp un gd cn cs a ccd cl outer A₀ base h₀ L m s Q E B F X N T hk hdp hu CH1 CH2 hg hret; revert G hts hl hpos ha1 ha2 hsp B F X N T hk hdp hu CH1 CH2 hg hret; exact @hS1 w mean mg mb c st rest ts0 t dp un gd cn cs a ccd cl outer A₀ base h₀ L m s Q E
def Z0 := pt.z1
def w := hx0 Z0
def mean := hx1 Z0
def mg := hx2 Z0
def mb := hx3 Z0
def c := hx4 Z0
def st := hx5 Z0
def rest := hx6 Z0
def ts0 := hx7 Z0
def Z1 := ht Z0
def t := hx0 Z1
def dp := hx1 Z1
def un := hx2 Z1
def gd := hx3 Z1
def cn := hx4 Z1
def cs := hx5 Z1
def a := hx6 Z1
def ccd := hx7 Z1
def Z2 := ht Z1
def cl := hx0 Z2
def outer := hx1 Z2
def A₀ := hx2 Z2
def base := hx3 Z2
def h₀ := hx4 Z2
def L := hx5 Z2
def m := hx6 Z2
def s := hx7 Z2
def Z3 := ht Z2
def Q := hx0 Z3
def E := hx1 Z3
theorem eq_1 : pt.Q1 w mean mg mb c st rest ts0 t dp un gd cn cs a ccd cl outer A₀ base h₀ L m s Q E := by
 intro G hts hl hpos ha1 ha2 hsp B F X N T hk hdp hu CH1 CH2 hg hret
 k_with_none
 k_with "ne" => (refine neN ?_; (try dsimp only); first | with_reducible (first | assumption | (refine Ne.symm ?_; assumption) | exact ne_1 | exact ne_1.symm | exact ne_2 | exact ne_2.symm | exact ne_3 | exact ne_3.symm | exact ne_4 | exact ne_4.symm) | exact (by with_reducible assumption : Apt _ _) | exact Ne.symm (by with_reducible assumption : Apt _ _) | omega)
 k_with "d2" => (repeat' (first | with_reducible (first | exact m_id | exact m_nil | exact m_lid | exact m_mapl | exact m_mapl2 | refine m_cons ?_ ?_ | refine m_app ?_ ?_ | refine m_map ?_ ?_ | refine m_map1 ?_ | exact m_hd | refine m_tl ?_ | exact m_mapr rfl | refine m_tail ?_ | refine m_right ?_ | refine m_inr ?_) | exact m_hd | refine m_tl ?_))
 k_with "d3" => (first | assumption | omega | ktr_room | ktr_units | (simp only [] at *; omega))
 k_with "getMethod ref" => (k_here; (with_reducible show wpAny _ _ (getMethod (Value.ref _) _ _) _ _ _); k_dflt (refine' method_base (C := 200) ?gX25z ?gI25z ?ga25z ?gb25z ?gc25z ?gd25z ?ge25z ?_; (case gX25z => exact Frag.In.keeps (by k_asm) (Fr.keep (by k_asm))); (case gI25z => exact acc_inst (by k_asm) (by k_mem) (by k_mem)); (case ga25z => k_is); (case gb25z => k_is); (case gc25z => k_is); (case gd25z => k_is); (case ge25z => rfl)); k_whole)
 k_with "getMethod ref" => (k_here; (with_reducible show wpAny _ _ (getMethod (Value.ref _) _ _) _ _ _); k_dflt (refine' method_fn (C := 200) ?gX29z ?gI29z ?ga29z ?gb29z ?gc29z ?gd29z ?ge29z ?_; (case gX29z => exact Frag.In.keeps (by k_asm) (Fr.keep (by k_asm))); (case gI29z => exact acc_inst (by k_asm) (by k_mem) (by k_mem)); (case ga29z => k_is); (case gb29z => k_is); (case gc29z => k_is); (case gd29z => k_is); (case ge29z => rfl)); k_whole)
 k_with "getAttr ref" => (k_here; (with_reducible show wpAny _ _ (getAttr (Value.ref _) _ _) _ _ _); k_dflt (refine' acc_get (C := 200) ?gX33z ?gI33z ?ga33z ?gb33z ?gc33z (findObj_own ?gd33z ?ge33z ?gf33z ?gg33z) ?gh33z ?_; (case gX33z => exact Frag.In.keeps (by k_asm) (Fr.keep (by k_asm))); (case gI33z => exact acc_inst (by k_asm) (by k_mem) (by k_mem)); (case ga33z => k_is); (case gb33z => k_is); (case gc33z => k_is); (case gd33z => k_is); (case ge33z => k_is); (case gf33z => k_is); (case gg33z => rfl); (case gh33z => rfl)); k_whole)
 k_with "truthy ref" => (k_here; (with_reducible show wpAny _ _ (truthy (Value.ref _)) _ _ _); k_dflt (refine' truth_len (C := 200) ?gX34z ?gI34z ?ga34z ?gb34z ?gc34z ?_; (case gX34z => exact Frag.In.keeps (by k_asm) (Fr.keep (by k_asm))); (case gI34z => exact acc_inst (by k_asm) (by k_mem) (by k_mem)); (case ga34z => k_is); (case gb34z => k_is); (case gc34z => k_is)); k_whole)
 k_with "call type:str" => (k_here; (with_reducible show wpAny _ _ (call (Value.type "str") [Value.ref _]) _ _ _); k_dflt (refine' kso_call (C := 200) ?k135z ?k235z ?k335z ?k435z ?k535z ?_; (case k135z => walk_at "d3"); (case k235z => exact Frag.In.keeps (by k_asm) (Fr.keep (by k_asm))); (case k335z => exact acc_inst (by k_asm) (by k_mem) (by k_mem)); (case k435z => k_is); (case k535z => k_is); k_whole))
 k_with "call builtin:len" => (k_here; (with_reducible show wpAny _ _ (call (Value.builtin "len") [Value.ref _]) _ _ _); k_dflt (refine' len_K (C := 200) ?k136z ?k236z ?k336z ?k436z ?k536z ?_; (case k136z => k_asm); (case k236z => k_asm); (case k336z => exact acc_inst (by k_asm) (by k_mem) (by k_mem)); (case k436z => k_is); (case k536z => k_is); k_whole))
 k_with "getAttr ref" => (k_here; (with_reducible show wpAny _ _ (getAttr (Value.ref _) _ _) _ _ _); k_dflt (refine' acc_getm (C := 200) ?F51z ?N51z ?gX51z ?gI51z ?ga51z ?gb51z ?gc51z ?gd51z (findObj_fn ?ge51z ?gf51z ?gg51z ?gh51z ?gi51z ?gj51z) ?_; (case F51z => k_asm); (case N51z => k_asm); (case gX51z => exact Frag.In.keeps (by k_asm) (Fr.keep (by k_asm))); (case gI51z => exact acc_inst (by k_asm) (by k_mem) (by k_mem)); (case ga51z => k_is); (case gb51z => k_is); (case gc51z => k_is); (case gf51z => k_is); (case gd51z => k_is); (case ge51z => k_is); (case gg51z => k_is); (case gh51z => k_is); (case gi51z => decide); (case gj51z => rfl)); intro _ _ _ _ _)
 k_with "eval Call Attribute" => (k_here; (with_reducible show wpAny _ _ (eval (PySem.Expr.Call (PySem.Expr.Attribute _ _ _) [PySem.Expr.Starred _ _] [] _) _) _ _ _); refine star_method ?_)
 k_with "callWith ref" => (k_here; (with_reducible show wpAny _ _ (callWith _ (Value.ref _) _ (backTo _ (starEach [PySem.Expr.Starred _ _] _)) []) _ _ _); k_dflt (refine' callWith_SM ?gX53z ?gN53z ?gq53z ?gf53z ?_; (case gX53z => exact Frag.In.keeps (by k_asm) (Fr.keep (by k_asm))); (case gN53z => k_asm); (case gq53z => k_mem); (case gf53z => k_is)); k_whole)
 k_with "call ref" => (k_here; (with_reducible show wpAny _ _ (call (Value.ref 160) _) _ _ _); (refine Halt.out ?_))
 k_with "call ref" => (k_here; (with_reducible show wpAny _ _ (call (Value.ref 144) _) _ _ _); (refine Halt.out ?_))
 k_with "call ref" => (k_here; (with_reducible show wpAny _ _ (call (Value.ref 167) _) _ _ _); (refine Halt.out ?_))
 k_with "call ref" => (k_here; (with_reducible show wpAny _ _ (call (Value.ref 174) _) _ _ _); (refine Halt.out ?_))
 k_with "call ref" => (k_here; (with_reducible show wpAny _ _ (call (Value.ref 189) _) _ _ _); (refine Halt.out ?_))
 k_with "call ref" => (k_here; (with_reducible show wpAny _ _ (call (Value.ref 182) _) _ _ _); (refine Halt.out ?_))
 k_with "compareOp NotEq ref ref" => (k_here; (with_reducible show wpAny _ _ (compareOp CmpOp.NotEq (Value.ref _) (Value.ref _)) _ _ _); k_dflt (refine' ne_pairT ?x56z ?y56z ?z56z ?t56z ?N56z ?a56z ?b56z ?u56z ?ne56z ?_; (case N56z => k_asm); (case a56z => k_mem); (case b56z => k_mem); (case x56z => first | assumption | exact asc_lit (by decide)); (case y56z => first | assumption | exact asc_lit (by decide)); (case z56z => exact asc_lit (by decide)); (case t56z => exact asc_lit (by decide)); (case u56z => walk_at "d3"); (case ne56z => first | exact pos_ne (by assumption) | exact fun h => absurd h.1 (by decide))))
 k_with "execs cons" => ((try k_fold); (refine wpAny_execs_cons ?_); (try dsimp only); (try k_fold))
 have _ := fl X
 refine wpAny_call ?_
 k_dflt (refine codeD (h := ?_); k_whole; intro m' g' L' h' tk' FG' F' N' B' X' T'; (try dsimp only); (try k_lift B'); (try k_fold))
 have N0 := N'
 dsimp only [fled] at N'
 k_steps
 unfold Halt
 have hA1 := apart_all N0 G.ap
 have hvs : prRefs st.ts = prRefs ts0 ++ [.ref t.1] := by rw [hts]; simp
 refine' c_accpop (.head _) (.tail _ (.head _)) (by have := G.lt; simp; lia) (upd_x G.ch hA1) (gd := _) (cn := _) (a := _) (ccd := _) (cl := _) (E := _) (B := ?kB) (F := F') (X := X') (N := N0) (T := T') (hk := ?kk) (hdp := ?kd) (hu := ?ku) (hret0 := fun e => absurd (hvs.symm.trans e) (by simp)) (hret := ?_)
 case kB => k_asm
 case kk => rfl
 case kd => walk_at "d3"
 case ku => walk_at "d3"
 intro p y e h2 tk2 F2 N2
 obtain ⟨rfl, e2⟩ := List.append_inj' (hvs.symm.trans e) rfl
 obtain rfl : Value.ref t.1 = y := by simpa using e2
 have N3 := fled_pop hts N2
 have hA3 : Apart c ((t.1, prObj t) :: rest) := by
  intro p hp
  refine m_el hp (m_all ?_ ?_)
  ·exact hA1 _ (List.mem_append_left _ (by rw [hts]; exact List.mem_map.mpr ⟨t, by simp, rfl⟩))
  ·intro p hp; exact G.ap p hp
 have N3' : News g' L' h2 ((t.1, prObj t) :: fled w c { st with ts := ts0, n := st.n + 1 } ((t.1, prObj t) :: rest)) := fun p hp => by
  refine m_el hp (m_all ?_ ?_)
  ·exact N3 _ (fled_rest (.head _))
  ·intro p hp; exact N3 p hp
 dsimp only [fled, prObj, prVals] at N3'
 clear N3
 clear F' N' N0 N2
 k_steps
 rename_i h3 _ _ D2 h4 l4 q5 h5 l5 h6 F6 N6
 refine call_meth N6 (.head _) ?_
 have N7 : News g' L' h6 (fled w c { st with ts := ts0, n := st.n + 1 } ((t.1, prObj t) :: rest)) := fun p hp => N6 p (.tail _ (.tail _ (.tail _ hp)))
 have hA7 := apart_all N7 hA3
 refine' c_pushC (.head _) (.tail _ (.head _)) (by have := G.lt; simp [hts] at this ⊢; lia) (fun t' => updF_upd (upd_x G.ch hA7)) (gd := _) (cn := _) (a := _) (ccd := _) (cl := _) (E := _) (B := ?kB2) (F := F6) (X := X') (N := N7) (T := T') (hk := ?kk2) (hdp := ?kd2) (hu := ?ku2) (hret := ?_)
 case kB2 => k_asm
 case kk2 => rfl
 case kd2 => walk_at "d3"
 case ku2 => walk_at "d3"
 intro t8 h8 tk8 F8 N8 l8
 have N9 := fled_mono (fled_push (q := t.2) N8) (rest' := rest) fun p hp => .tail _ hp
 clear F6 N6 N7 N8
 have G9 : FGood c { st with ts := ts0 ++ [(t8, t.2)], n := st.n + 1 + 1 } rest := ⟨G.ch, G.tb, G.ap, by have := G.lt; simp [hts] at this ⊢; lia, G.ll, fun u hu => by
  rcases List.mem_append.mp hu with h | h
  ·exact G.le u (by rw [hts]; exact List.mem_append_left _ h)
  ·rw [List.mem_singleton] at h; subst h; exact G.le t (by rw [hts]; simp)⟩
 have hj : joinPr (ts0 ++ [(t8, t.2)]) = joinPr st.ts := by rw [hts]; simp [joinPr]
 have N9' := N9
 dsimp only [fled] at N9'
 k_steps
 unfold Halt
 refine' c_flen G9 (gd := _) (cn := _) (a := _) (ccd := _) (cl := _) (E := _) (B := ?kB) (F := F8) (X := X') (N := N9) (T := T') (hk := ?kk) (hdp := ?kd) (hu := ?ku) (CH1 := CH1.keeps FG'.keep) (hg := hg) (hret := ?_)
 case kB => k_asm
 case kk => rfl
 case kd => walk_at "d3"
 case ku => walk_at "d3"
 intro t10 p1 h10 tk10 g10 G10 B10 F10 N10
 have b0 : 0 < lenSum (ts0 ++ [(t8, t.2)]) := lenSum_pos (t := (t8, t.2)) (by simp) hpos
 have b1 := (lenSum_bounds _ G9.le).2
 have b2 := G9.lt
 refine ⟨⟨Int.le_of_lt b0, by show lenSum _ < _; unfold lenSum at *; lia⟩, ?_⟩
 have N10' := N10
 dsimp only [fled] at N10'
 clear F8 N9 N9'
 k_steps
 unfold Halt
 refine' c_fonly G10 ⟨(t8, t.2), by simp, hpos⟩ (gd := _) (cn := _) (a := _) (ccd := _) (cl := _) (E := _) (B := ?kB) (F := F10) (X := X') (N := N10) (T := T') (hk := ?kk) (hdp := ?kd) (hu := ?ku) (CH1 := CH1.keeps FG'.keep) (CH2 := CH2.keeps FG'.keep) (hg := B10) (hret := ?_)
 case kB => k_asm
 case kk => rfl
 case kd => walk_at "d3"
 case ku => walk_at "d3"
 intro p3 p4 h11 tk11 g11 G11 B11 F11 N11
 have e11 : Txt.isspace (joinPr (ts0 ++ [(t8, t.2)])) = false := by rw [hj]; exact hsp
 dsimp only at e11 ⊢
 rw [e11]
 have N11' := N11
 dsimp only [fled] at N11'
 clear F10 N10 N10'
 k_steps
 unfold Halt
 refine' c_fstr G11 (gd := _) (cn := _) (a := _) (ccd := _) (cl := _) (E := _) (B := ?kB) (F := F11) (X := X') (N := N11) (T := T') (hk := ?kk) (hdp := ?kd) (hu := ?ku) (CH2 := CH2.keeps FG'.keep) (hg := B11) (hret := ?_)
 case kB => k_asm
 case kk => rfl
 case kd => walk_at "d3"
 case ku => walk_at "d3"
 intro t12 p5 h12 tk12 g12 G12 B12 F12 N12
 unfold StrBack
 dsimp only
 have e12 : joinPr { st with ts := ts0 ++ [(t8, t.2)], n := st.n + 1 + 1, p1 := p3, p2 := p4 }.ts = joinPr st.ts := hj
 rw [e12]
 have N12' := N12
 dsimp only [fled] at N12'
 clear F11 N11 N11'
 k_steps
 refine c_fadd G12 (by show st.lines.length < 99; lia) F12 N12 fun h13 G13 F13 N13 => ?_
 have N13' := N13
 dsimp only [fled] at N13'
 clear F12 N12 N12'
 k_steps
 unfold Halt
 refine' c_freset0 G13 (gd := _) (cn := _) (a := _) (ccd := _) (cl := _) (E := _) (B := ?kB) (F := F13) (X := X') (N := N13) (T := T') (hk := ?kk) (hdp := ?kd) (hu := ?ku)  (hret := ?_)
 case kB => k_asm
 case kk => rfl
 case kd => walk_at "d3"
 case ku => walk_at "d3"
 intro n14 k14 t14 h14 tk14 G14 F14 N14
 clear F13 N13 N13'
 k_steps
 rename_i kF kN _ _
 exact hret _ _ _ _ G14 rfl ⟨t12, rfl⟩ B12 kF kN
theorem eq_2 : pt.U1 := hy @eq_1
end J5
theorem c_newline1 : type_of% (@Part1.h _ _ _ J5.pt J5.eq_2) := @Part1.h _ _ _ J5.pt J5.eq_2
namespace J6
def pt : Part1 (aP.f.f.m.e.c.b.b.l.x.s.h.c.r.i.w.a.a.q.B.G.e.e.t.j) (∀ {w : World} {mean : ExcName → Option Value} {mg mb : Str → Option Value} {c : FC} {st : FSt} {rest : List (Addr × Obj)} (G : FGood c st rest) (hts : st.ts = [])
(dp un : Nat) (gd : Option (List Code)) (cn : Str) (cs : Scope) (a : Addr) (ccd : Value) (cl : List (Str × Addr)) (outer : List Env) (A₀ : Around) (base h₀ : Heap) (L : Addr) (m : Str → Option Value) (s : Shared) (Q E : Value → Shared → Prop)
  (B : Below A₀ base outer h₀) (F : Fr h₀ L s.heap m) (X : (hd.heap_1 w.params).In h₀) (N : News h₀ L s.heap (fled w c st rest)) (T : Top pv lv mean mg mb h₀) (hk : cs.kind = .function)
  (hdp : dp + 80 < recursionLimit) (hu : un + 860 < cLine)
  (CH1 : CodeHd h₀ 166 162) (CH2 : CodeHd h₀ 173 169) (hg : AllBare s.gens)
  (hret : ∀ (st' : FSt) (h' : Heap) (tk' : Nat) (g' : Array GenState), FGood c st' rest → st'.ts = [] → st'.lines = st.lines → AllBare g' → Fr h₀ L h' m → News h₀ L h' (fled w c st' rest) → Q .none { s with heap := h', toks := tk', gens := g' }), wpAny (model theProg w) (ktrTop dp un gd cn cs L a ccd cl outer) (call (.ref 78) [.ref c.fo]) Q E s) := by
 apply Part1.mk
 case h => intro hS1 w mean mg mb c st rest G hts dp un gd cn cs a ccd cl outer A₀ base h₀ L m s Q E B F X N T hk hdp hu CH1 CH2 hg hret; revert G hts B F X N T hk hdp hu CH1 CH2 hg hret; exact @hS1 w mean mg mb c st rest dp un gd cn cs a ccd cl outer A₀ base h₀ L m s Q E
def Z0 := pt.z1
def w := hx0 Z0
def mean := hx1 Z0
def mg := hx2 Z0
def mb := hx3 Z0
def c := hx4 Z0
def st := hx5 Z0
def rest := hx6 Z0
def dp := hx7 Z0
def Z1 := ht Z0
def un := hx0 Z1
def gd := hx1 Z1
def cn := hx2 Z1
def cs := hx3 Z1
def a := hx4 Z1
def ccd := hx5 Z1
def cl := hx6 Z1
def outer := hx7 Z1
def Z2 := ht Z1
def A₀ := hx0 Z2
def base := hx1 Z2
def h₀ := hx2 Z2
def L := hx3 Z2
def m := hx4 Z2
def s := hx5 Z2
def Q := hx6 Z2
def E := hx7 Z2
theorem eq_1 : pt.Q1 w mean mg mb c st rest dp un gd cn cs a ccd cl outer A₀ base h₀ L m s Q E := by
 intro G hts B F X N T hk hdp hu CH1 CH2 hg hret
 have _ := fl X
 refine wpAny_call ?_
 k_dflt (refine codeD (h := ?_); k_whole; intro m' g' L' h' tk' FG' F' N' B' X' T'; (try dsimp only); (try k_lift B'); (try k_fold))
 have N0 := N'
 dsimp only [fled] at N'
 k_steps
 unfold Halt
 have hA1 := apart_all N0 G.ap
 have hvs : prRefs st.ts = [] := by rw [hts]; rfl
 refine' c_accpop (.head _) (.tail _ (.head _)) (by rw [hvs]; decide) (upd_x G.ch hA1) (gd := _) (cn := _) (a := _) (ccd := _) (cl := _) (E := _) (B := ?kB) (F := F') (X := X') (N := N0) (T := T') (hk := ?kk) (hdp := ?kd) (hu := ?ku) (hret0 := ?h0) (hret := ?_)
 case kB => k_asm
 case kk => rfl
 case kd => walk_at "d3"
 case ku => walk_at "d3"
 case h0 =>
  intro _ D ta tb h2 tk2 F2 N2 l2
  have N3' := fled_weak N2
  have hA3 := apart_new (o := prObj (D, (Str.ofString "", ta), (Str.ofString "", tb))) l2 G.ap
  dsimp only [fled, prObj, prVals] at N3'
  clear F' N' N0 N2
  k_steps
  rename_i h3 _ _ D2 h4 l4 q5 h5 l5 h6 F6 N6
  refine call_meth N6 (.head _) ?_
  have N7 : News g' L' h6 (fled w c st ((D, prObj (D, (Str.ofString "", ta), (Str.ofString "", tb))) :: rest)) := fun p hp => N6 p (.tail _ (.tail _ (.tail _ hp)))
  have hA7 := apart_all N7 hA3
  refine' c_pushC (.head _) (.tail _ (.head _)) (by rw [hvs]; decide) (fun t' => updF_upd (upd_x G.ch hA7)) (gd := _) (cn := _) (a := _) (ccd := _) (cl := _) (E := _) (B := ?kB) (F := F6) (X := X') (N := N7) (T := T') (hk := ?kk) (hdp := ?kd) (hu := ?ku)  (hret := ?_)
  case kB => k_asm
  case kk => rfl
  case kd => walk_at "d3"
  case ku => walk_at "d3"
  intro t8 h8 tk8 F8 N8 l8
  have N9 := fled_mono (fled_push (q := ((Str.ofString "", ta), (Str.ofString "", tb))) N8) (rest' := rest) fun p hp => .tail _ hp
  clear F6 N6 N7 N8
  have G9 : FGood c { st with ts := st.ts ++ [(t8, (Str.ofString "", ta), (Str.ofString "", tb))], n := st.n + 1 } rest := ⟨G.ch, G.tb, G.ap, by simp [hts], G.ll, fun u hu => by
   rw [hts] at hu
   simp only [List.nil_append, List.mem_singleton] at hu
   subst hu; exact ⟨show (Str.ofString "").length < 100 by decide, show (Str.ofString "").length < 100 by decide⟩⟩
  have hj : lenSum (st.ts ++ [(t8, (Str.ofString "", ta), (Str.ofString "", tb))]) = 0 := by rw [hts]; rfl
  have N9' := N9
  dsimp only [fled] at N9'
  k_steps
  unfold Halt
  refine' c_flen G9 (gd := _) (cn := _) (a := _) (ccd := _) (cl := _) (E := _) (B := ?kB) (F := F8) (X := X') (N := N9) (T := T') (hk := ?kk) (hdp := ?kd) (hu := ?ku) (CH1 := CH1.keeps FG'.keep) (hg := hg) (hret := ?_)
  case kB => k_asm
  case kk => rfl
  case kd => walk_at "d3"
  case ku => walk_at "d3"
  intro t10 p1 h10 tk10 g10 G10 B10 F10 N10
  refine ⟨⟨by dsimp only; rw [hj]; decide, by dsimp only; rw [hj]; decide⟩, ?_⟩
  have N10' := N10
  dsimp only [fled] at N10'
  dsimp only
  rw [hj]
  clear F8 N9 N9'
  k_steps
  unfold Halt
  refine' c_freset0 G10 (gd := _) (cn := _) (a := _) (ccd := _) (cl := _) (E := _) (B := ?kB) (F := F10) (X := X') (N := N10) (T := T') (hk := ?kk) (hdp := ?kd) (hu := ?ku)  (hret := ?_)
  case kB => k_asm
  case kk => rfl
  case kd => walk_at "d3"
  case ku => walk_at "d3"
  intro n14 k14 t14 h14 tk14 G14 F14 N14
  clear F10 N10 N10'
  k_steps
  rename_i kF kN _ _
  exact hret _ _ _ _ G14 rfl rfl B10 kF kN
 exact fun p y e => absurd (hvs.symm.trans e) (by simp)
theorem eq_2 : pt.U1 := hy @eq_1
end J6
theorem c_newline0 : type_of% (@Part1.h _ _ _ J6.pt J6.eq_2) := @Part1.h _ _ _ J6.pt J6.eq_2
end
theorem strsAre_vals : ∀ l : List (Str × Tok), StrsAre (strValues l) (l.map (·.1))
 | [] => .nil
 | p :: r => .cons p.1 p.2 (strsAre_vals r)
theorem sum_bound {k : Nat} : ∀ l : List (Str × Tok), (∀ x ∈ l, x.1.length ≤ k) → ((l.map (·.1)).map (·.length)).sum ≤ l.length * k
 | [], _ => by simp
 | x :: r, h => by
  have h1 := sum_bound r fun y hy => h y (.tail _ hy)
  have h2 := h x (.head _)
  simp only [List.map_cons, List.sum_cons, List.length_cons, Nat.succ_mul] at *
  omega
section
theorem c_fstr1 {w : World} {mean : ExcName → Option Value} {mg mb : Str → Option Value} {c : FC} {st : FSt} {rest : List (Addr × Obj)} {tn : Tok} {ts0 : List Pr} {t : Pr} (G : FGood c st rest) (hts : st.ts = ts0 ++ [t])
  (hl : st.lines.length < 98) (hpos : 0 < t.2.2.1.length) (ha1 : Asc t.2.1.1) (ha2 : Asc t.2.2.1) (hsp : Txt.isspace (joinPr st.ts) = false) (hll : ∀ x ∈ st.lines, x.1.length ≤ 1000) (hjl : (joinPr st.ts).length ≤ 1000)
(dp un : Nat) (gd : Option (List Code)) (cn : Str) (cs : Scope) (a : Addr) (ccd : Value) (cl : List (Str × Addr)) (outer : List Env) (A₀ : Around) (base h₀ : Heap) (L : Addr) (m : Str → Option Value) (s : Shared) (Q E : Value → Shared → Prop)
  (B : Below A₀ base outer h₀) (F : Fr h₀ L s.heap m) (X : (hd.heap_1 w.params).In h₀) (N : News h₀ L s.heap (fled w c st rest)) (T : Top pv lv mean mg mb h₀) (hk : cs.kind = .function)
  (hdp : dp + 100 < recursionLimit) (hu : un + 1100 < cLine)
  (CH1 : CodeHd h₀ 166 162) (CH2 : CodeHd h₀ 173 169) (hg : AllBare s.gens)
  (hret : ∀ (st' : FSt) (u : Tok) (h' : Heap) (tk' : Nat) (g' : Array GenState), FGood c st' rest → st'.ts = [] → (∃ tl, st'.lines = st.lines ++ [(joinPr st.ts, tl)]) → AllBare g' → Fr h₀ L h' m → News h₀ L h' (fled w c st' rest) → Q (.str (Txt.join (Str.ofString "\n") (st'.lines.map (·.1))) u) { s with heap := h', toks := tk', gens := g' }) :
  wpAny (model theProg w) (ktrTop dp un gd cn cs L a ccd cl outer) (call (.ref 64) [.ref c.fo, .str (Str.ofString "\n") tn]) Q E s := by
 k_with_none
 k_with "ne" => (refine neN ?_; (try dsimp only); first | with_reducible (first | assumption | (refine Ne.symm ?_; assumption) | exact ne_1 | exact ne_1.symm | exact ne_2 | exact ne_2.symm | exact ne_3 | exact ne_3.symm | exact ne_4 | exact ne_4.symm) | exact (by with_reducible assumption : Apt _ _) | exact Ne.symm (by with_reducible assumption : Apt _ _) | omega)
 k_with "d2" => (repeat' (first | with_reducible (first | exact m_id | exact m_nil | exact m_lid | exact m_mapl | exact m_mapl2 | refine m_cons ?_ ?_ | refine m_app ?_ ?_ | refine m_map ?_ ?_ | refine m_map1 ?_ | exact m_hd | refine m_tl ?_ | exact m_mapr rfl | refine m_tail ?_ | refine m_right ?_ | refine m_inr ?_) | exact m_hd | refine m_tl ?_))
 k_with "d3" => (first | assumption | omega | ktr_room | ktr_units | (simp only [] at *; omega))
 k_with "call ref" => (k_here; (with_reducible show wpAny _ _ (call (Value.ref 78) _) _ _ _); (refine Halt.out ?_))
 k_with "call builtin:str.join" => (k_here; (refine Halt.out ?_))
 have _ := fl X
 refine wpAny_call ?_
 k_dflt (refine codeD (h := ?_); k_whole; intro m' g' L' h' tk' FG' F' N' B' X' T'; (try dsimp only); (try k_lift B'); (try k_fold))
 have N0 := N'
 dsimp only [fled] at N'
 k_steps
 unfold Halt
 refine' c_newline1 G hts hl hpos ha1 ha2 hsp (gd := _) (cn := _) (a := _) (ccd := _) (cl := _) (E := _) (B := ?kB) (F := F') (X := X') (N := N0) (T := T') (hk := ?kk) (hdp := ?kd) (hu := ?ku) (CH1 := CH1.keeps FG'.keep) (CH2 := CH2.keeps FG'.keep) (hg := hg) (hret := ?_)
 case kB => k_asm
 case kk => rfl
 case kd => walk_at "d3"
 case ku => walk_at "d3"
 intro st1 h1 tk1 g1 G1 e1 e2 B1 F1 N1
 have N1' := N1
 dsimp only [fled] at N1'
 clear F' N0 N'
 k_steps
 unfold Halt
 obtain ⟨tl, el⟩ := e2
 have hb : ∀ x ∈ st1.lines, x.1.length ≤ 1000 := fun x hx => by
  rw [el] at hx
  rcases List.mem_append.mp hx with hx | hx
  ·exact hll x hx
  ·rw [List.mem_singleton] at hx; subst hx; exact hjl
 have hs := sum_bound st1.lines hb
 have hn := G1.ll
 refine join_listW (ys := st1.lines.map (·.1)) (N1.isList (.tail _ (.tail _ (.head _)))) (strsAre_vals _) (by decide) (by rw [List.length_map]; omega) fun u tk2 => ?_
 clear N1'
 k_steps
 rename_i kF kN _ _
 exact hret _ _ _ _ _ G1 e1 ⟨tl, el⟩ B1 kF kN
theorem c_fstr0 {w : World} {mean : ExcName → Option Value} {mg mb : Str → Option Value} {c : FC} {st : FSt} {rest : List (Addr × Obj)} {tn : Tok} (G : FGood c st rest) (hts : st.ts = [])
  (hll : ∀ x ∈ st.lines, x.1.length ≤ 1000)
(dp un : Nat) (gd : Option (List Code)) (cn : Str) (cs : Scope) (a : Addr) (ccd : Value) (cl : List (Str × Addr)) (outer : List Env) (A₀ : Around) (base h₀ : Heap) (L : Addr) (m : Str → Option Value) (s : Shared) (Q E : Value → Shared → Prop)
  (B : Below A₀ base outer h₀) (F : Fr h₀ L s.heap m) (X : (hd.heap_1 w.params).In h₀) (N : News h₀ L s.heap (fled w c st rest)) (T : Top pv lv mean mg mb h₀) (hk : cs.kind = .function)
  (hdp : dp + 100 < recursionLimit) (hu : un + 1100 < cLine)
  (CH1 : CodeHd h₀ 166 162) (CH2 : CodeHd h₀ 173 169) (hg : AllBare s.gens)
  (hret : ∀ (st' : FSt) (u : Tok) (h' : Heap) (tk' : Nat) (g' : Array GenState), FGood c st' rest → st'.ts = [] → st'.lines = st.lines → AllBare g' → Fr h₀ L h' m → News h₀ L h' (fled w c st' rest) → Q (.str (Txt.join (Str.ofString "\n") (st'.lines.map (·.1))) u) { s with heap := h', toks := tk', gens := g' }) :
  wpAny (model theProg w) (ktrTop dp un gd cn cs L a ccd cl outer) (call (.ref 64) [.ref c.fo, .str (Str.ofString "\n") tn]) Q E s := by
 have _ := fl X
 refine wpAny_call ?_
 k_dflt (refine codeD (h := ?_); k_whole; intro m' g' L' h' tk' FG' F' N' B' X' T'; (try dsimp only); (try k_lift B'); (try k_fold))
 have N0 := N'
 dsimp only [fled] at N'
 k_steps
 unfold Halt
 refine' c_newline0 G hts (gd := _) (cn := _) (a := _) (ccd := _) (cl := _) (E := _) (B := ?kB) (F := F') (X := X') (N := N0) (T := T') (hk := ?kk) (hdp := ?kd) (hu := ?ku) (CH1 := CH1.keeps FG'.keep) (CH2 := CH2.keeps FG'.keep) (hg := hg) (hret := ?_)
 case kB => k_asm
 case kk => rfl
 case kd => walk_at "d3"
 case ku => walk_at "d3"
 intro st1 h1 tk1 g1 G1 e1 e2 B1 F1 N1
 have N1' := N1
 dsimp only [fled] at N1'
 clear F' N0 N'
 k_steps
 unfold Halt
 have hb : ∀ x ∈ st1.lines, x.1.length ≤ 1000 := fun x hx => hll x (e2 ▸ hx)
 have hs := sum_bound st1.lines hb
 have hn := G1.ll
 refine join_listW (ys := st1.lines.map (·.1)) (N1.isList (.tail _ (.tail _ (.head _)))) (strsAre_vals _) (by decide) (by rw [List.length_map]; lia) fun u tk2 => ?_
 clear N1'
 k_steps
 rename_i kF kN _ _
 exact hret _ _ _ _ _ G1 e1 e2 B1 kF kN
end
theorem chunkFold_mem (wd : Nat) : ∀ (qs : List (Str × Str)) (a : List (Str × Str) × List Str), ∀ q ∈ (qs.foldl (chunkP wd) a).1, q ∈ a.1 ∨ q ∈ qs
 | [], a, q, h => .inl h
 | p :: r, a, q, h => by
  rcases chunkFold_mem wd r (chunkP wd a p) q h with h | h
  ·unfold chunkP at h
   split at h
   ·rw [List.mem_singleton] at h; exact .inr (h ▸ .head _)
   ·rcases List.mem_append.mp h with h | h
    ·exact .inl h
    ·rw [List.mem_singleton] at h; exact .inr (h ▸ .head _)
  ·exact .inr (.tail _ h)
theorem chunksP_mem {wd : Nat} {qs : List (Str × Str)} {q : Str × Str} (h : q ∈ (chunksP wd qs).1) : q ∈ qs := (chunkFold_mem wd qs ([], []) q h).elim (fun x => by cases x) id
theorem txt_cons (sep y z : Str) (r : List Str) : Txt.join sep (y :: z :: r) = y ++ sep ++ Txt.join sep (z :: r) := by
 rw [show Txt.join sep (y :: z :: r) = Str.join sep (y :: z :: r) from StrLaws.glued_eq_join _ _, show Txt.join sep (z :: r) = Str.join sep (z :: r) from StrLaws.glued_eq_join _ _]; rfl
theorem join_has (sep : Str) (d : Nat) : ∀ (l : List Str) (x : Str), x ∈ l → d ∈ x.cps.toList → d ∈ (Txt.join sep l).cps.toList
 | [y], x, hx, hd => by rw [List.mem_singleton] at hx; subst hx; exact hd
 | y :: z :: r, x, hx, hd => by
  rw [txt_cons]
  show d ∈ ((y.cps ++ sep.cps) ++ (Txt.join sep (z :: r)).cps).toList
  rw [Array.toList_append, Array.toList_append]
  rcases List.mem_cons.mp hx with rfl | hx
  ·simp [hd]
  ·exact List.mem_append_right _ (join_has sep d (z :: r) x hx hd)
theorem notSpace {x : Str} {d : Nat} (hd : d ∈ x.cps.toList) (hl : isLet d = true) : Txt.isspace x = false := by
 have e : ∀ d, d < 128 → isLet d = true → Unicode.isSpace d = false := by decide +kernel
 have hd2 : Unicode.isSpace d = false := e d (by unfold isLet at hl; simp at hl; lia) hl
 unfold Txt.isspace
 have : x.cps.all Unicode.isSpace = false := by
  rw [← Array.all_toList]
  rw [List.all_eq_false]
  exact ⟨d, hd, by simp [hd2]⟩
 rw [this, Bool.and_false]
theorem len_join_one : ∀ cs : List Nat, (Txt.join (Str.ofString " ") (cs.map one)).length ≤ 2 * cs.length
 | [] => by decide
 | [c] => by show 1 ≤ 2; lia
 | c :: d :: r => by
  have := len_join_one (d :: r)
  rw [List.map_cons, List.map_cons, txt_cons]
  show ((#[c] ++ (Str.ofString " ").cps) ++ (Txt.join (Str.ofString " ") ((d :: r).map one)).cps).size ≤ _
  have e : (Txt.join (Str.ofString " ") ((d :: r).map one)).cps.size ≤ 2 * (d :: r).length := this
  rw [Array.size_append, Array.size_append]
  simp only [List.length_cons] at e ⊢
  show 1 + 1 + _ ≤ _
  lia
theorem lineT_len {q0 : Str} (hq : q0 = Str.ofString "" ∨ q0 = Str.ofString " ") {wd i : Nat} (hwd : wd = 2 ∨ wd = 3) {cs : List Nat} : (lineT q0 wd i cs).length ≤ 10 := by
 have h1 := len_join_one ((cs.drop (i * wd)).take wd)
 have h2 : ((cs.drop (i * wd)).take wd).length ≤ 3 := by rw [List.length_take]; lia
 have h3 : (if i = 0 then q0 else Str.ofString " ").length ≤ 1 := by
  split
  ·rcases hq with rfl | rfl <;> decide
  ·decide
 show ((if i = 0 then q0 else Str.ofString " ").cps ++ (rowT wd i cs).cps).size ≤ 10
 rw [Array.size_append]
 have h4 : (rowT wd i cs).cps.size ≤ 2 * ((cs.drop (i * wd)).take wd).length := h1
 have h5 : (if i = 0 then q0 else Str.ofString " ").cps.size ≤ 1 := h3
 lia
namespace J26
def pt : Part1 (aP.f.f.m.e.c.b.b.l.x.s.h.c.r.i.w.a.a.y8.a.a.d.q.B.G.e.e.t.j) (∀ {w : World} {mean : ExcName → Option Value} {mg mb : Str → Option Value} {c : FC} {st : FSt} {rest : List (Addr × Obj)} {tn : Tok} {q0 : Str} {wd many : Nat} {ls : List Nat} (hq : q0 = Str.ofString "" ∨ q0 = Str.ofString " ") (hwd : wd = 2 ∨ wd = 3) (hmany : many < 9) (CT : ColsText q0 wd many ls) (hl : ∀ v ∈ ls, isLet v = true)
  (G : FGood c st rest) (hp : (st.prs, st.lns) = fmtOf q0 wd ls)
(dp un : Nat) (gd : Option (List Code)) (cn : Str) (cs : Scope) (a : Addr) (ccd : Value) (cl : List (Str × Addr)) (outer : List Env) (A₀ : Around) (base h₀ : Heap) (L : Addr) (m : Str → Option Value) (s : Shared) (Q E : Value → Shared → Prop)
  (B : Below A₀ base outer h₀) (F : Fr h₀ L s.heap m) (X : (hd.heap_1 w.params).In h₀) (N : News h₀ L s.heap (fled w c st rest)) (T : Top pv lv mean mg mb h₀) (hk : cs.kind = .function)
  (hdp : dp + 100 < recursionLimit) (hu : un + 1100 < cLine)
  (CH1 : CodeHd h₀ 166 162) (CH2 : CodeHd h₀ 173 169) (hg : AllBare s.gens)
  (hret : ∀ (st' : FSt) (u : Tok) (h' : Heap) (tk' : Nat) (g' : Array GenState), FGood c st' rest → st'.ts = [] → st'.lns = linesT q0 wd many ls → AllBare g' → Fr h₀ L h' m → News h₀ L h' (fled w c st' rest) → Q (.str (Txt.join (Str.ofString "\n") (linesT q0 wd many ls)) u) { s with heap := h', toks := tk', gens := g' }), wpAny (model theProg w) (ktrTop dp un gd cn cs L a ccd cl outer) (call (.ref 64) [.ref c.fo, .str (Str.ofString "\n") tn]) Q E s) := by
 apply Part1.mk
 case h => intro hS1 w mean mg mb c st rest tn q0 wd many ls hq hwd hmany CT hl G hp dp un gd cn cs a ccd cl outer A₀ base h₀ L m s Q E B F X N T hk hdp hu CH1 CH2 hg hret; revert q0 hq hwd hmany CT hl G hp B F X N T hk hdp hu CH1 CH2 hg hret; exact @hS1 w mean mg mb c st rest tn wd many ls dp un gd cn cs a ccd cl outer A₀ base h₀ L m s Q E
def Z0 := pt.z1
def w := hx0 Z0
def mean := hx1 Z0
def mg := hx2 Z0
def mb := hx3 Z0
def c := hx4 Z0
def st := hx5 Z0
def rest := hx6 Z0
def tn := hx7 Z0
def Z1 := ht Z0
def wd := hx0 Z1
def many := hx1 Z1
def ls := hx2 Z1
def dp := hx3 Z1
def un := hx4 Z1
def gd := hx5 Z1
def cn := hx6 Z1
def cs := hx7 Z1
def Z2 := ht Z1
def a := hx0 Z2
def ccd := hx1 Z2
def cl := hx2 Z2
def outer := hx3 Z2
def A₀ := hx4 Z2
def base := hx5 Z2
def h₀ := hx6 Z2
def L := hx7 Z2
def Z3 := ht Z2
def m := hx0 Z3
def s := hx1 Z3
def Q := hx2 Z3
def E := hx3 Z3
theorem eq_1 : pt.Q1 w mean mg mb c st rest tn wd many ls dp un gd cn cs a ccd cl outer A₀ base h₀ L m s Q E := by
 intro q0 hq hwd hmany CT hl G hp B F X N T hk hdp hu CH1 CH2 hg hret
 have e1 : st.prs = (fmtOf q0 wd ls).1 := congrArg Prod.fst hp
 have e2 : st.lns = (fmtOf q0 wd ls).2 := congrArg Prod.snd hp
 have hnl := CT.nl
 have hnp := CT.npr
 rw [← e2] at hnl
 rw [← e1] at hnp
 have hne : st.ts ≠ [] := fun h0 => by
  rw [FSt.prs, h0] at hnp
  simp at hnp
  lia
 obtain ⟨ts0, t, hts⟩ : ∃ ts0 t, st.ts = ts0 ++ [t] := ⟨st.ts.dropLast, st.ts.getLast hne, (List.dropLast_concat_getLast hne).symm⟩
 have htm : (t.2.1.1, t.2.2.1) ∈ st.prs := by unfold FSt.prs; rw [hts]; simp
 have htq := chunksP_mem (e1 ▸ htm : (t.2.1.1, t.2.2.1) ∈ (chunksP (2 * wd) (pairsW q0 (ls.map fun c => [c]))).1)
 obtain ⟨i, hi⟩ := List.mem_iff_getElem?.mp htq
 obtain ⟨p1, v, hv, p2⟩ := pairsW_get q0 _ i _ hi
 obtain ⟨d, hd, rfl⟩ := List.mem_map.mp hv
 dsimp only at p1 p2
 have hdl := hl d hd
 have hd128 : d < 128 := by unfold isLet at hdl; simp at hdl; lia
 have hj : d ∈ (joinPr st.ts).cps.toList := by
  unfold joinPr
  refine join_has _ d _ (t.2.1.1 ++ t.2.2.1) (by rw [hts]; simp) ?_
  show d ∈ (t.2.1.1.cps ++ t.2.2.1.cps).toList
  rw [p2, Array.toList_append]
  simp
 have hjn : joinPr st.ts = jnP (fmtOf q0 wd ls).1 := by rw [← e1, jnP_eq]
 have hlast : joinPr st.ts ∈ linesT q0 wd many ls := by rw [hjn, ← CT.lines]; simp
 have hin : ∀ x ∈ linesT q0 wd many ls, x.length ≤ 10 := fun x hx => by
  obtain ⟨i, -, rfl⟩ := List.mem_map.mp hx
  exact lineT_len hq hwd
 have hnl' : st.lines.length + 1 = many := by simpa [FSt.lns] using hnl
 refine c_fstr1 G hts (by lia) ?_ ?_ ?_ (notSpace hj hdl) ?_ (Nat.le_trans (hin _ hlast) (by decide)) dp un gd cn cs a ccd cl outer A₀ base h₀ L m s Q E B F X N T hk hdp hu CH1 CH2 hg fun st' u h' tk' g' G' ht' hl' hg' F' N' => ?_
 ·rw [p2]; show 0 < 1; decide
 ·rw [p1]
  intro x hx
  split at hx
  ·rcases hq with rfl | rfl
   ·cases hx
   ·have : x = 32 := List.mem_singleton.mp hx
    lia
  ·have : x = 32 := List.mem_singleton.mp hx
   lia
 ·rw [p2]
  intro x hx
  have : x = d := by simpa using hx
  lia
 ·intro x hx
  refine Nat.le_trans (hin x.1 ?_) (by decide)
  rw [← CT.lines, ← e2]
  exact List.mem_append_left _ (List.mem_map.mpr ⟨x, hx, rfl⟩)
 ·obtain ⟨tl, hl'⟩ := hl'
  have hlns : st'.lns = linesT q0 wd many ls := by
   rw [← CT.lines, ← e2, ← hjn]
   unfold FSt.lns
   rw [hl']
   simp
  have := hret st' u h' tk' g' G' ht' hlns hg' F' N'
  rw [← hlns] at this
  exact this
theorem eq_2 : pt.U1 := hy @eq_1
end J26
theorem c_text1 : type_of% (@Part1.h _ _ _ J26.pt J26.eq_2) := @Part1.h _ _ _ J26.pt J26.eq_2
noncomputable abbrev enumO (it : Addr) (i : Int) (old : Value) : Obj := { cls := .type "enumerate", dict := none, data := .fields #[.none, .bool false, .ref it, rawInt i, .none, old], slots := #[] }
noncomputable abbrev eledOf (e it : Addr) (i : Int) (old : Value) (oI : Obj) : List (Addr × Obj) := [(e, enumO it i old), (it, oI)]
section
variable {prog : Program} {w : World} {A : Around} {E : Value → Shared → Prop} {s : Shared} {h₀ : Heap} {L : Addr} {m : Str → Option Value} {led : List (Addr × Obj)}
theorem enum_new {l : Addr} {items : Array Value} {Q : Value → Shared → Prop} (F : Fr h₀ L s.heap m) (N : News h₀ L s.heap led) (hl : s.heap.IsList l items)
  (h : ∀ e it oI h', ItObj l 0 oI → Fr h₀ L h' m → News h₀ L h' (eledOf e it 0 .none oI ++ led) → (∀ p ∈ led, p.1 < it) → l < it → it < e → Q (.ref e) { s with heap := h' }) :
  wpAny (model prog w) A (call (.type "enumerate") [.ref l]) Q E s := by
 refine call_enumerate_list hl fun h' he hi hz hk => ?_
 obtain ⟨oI, hoI, hcI, hdI⟩ := hi
 have hLl : L < s.heap.objs.size := F.ns.lt
 have hlt : l < s.heap.objs.size := let ⟨_, ho, _⟩ := hl; Heap.lt_size ho
 have hnone : ∀ b, s.heap.objs.size ≤ b → h₀.get? b = none := fun b hb => Heap.get?_none_of_le (Nat.le_trans F.above (Nat.le_trans (Nat.le_of_lt hLl) hb))
 refine h _ _ oI h' ⟨hcI, hdI⟩ (F.keeps hk) (fun p hp => ?_) (fun p hp => Heap.lt_size (N p hp).1) hlt (Nat.lt_succ_self _)
 rcases List.mem_append.mp hp with hp | hp
 ·refine m_el hp ?_; refine m_all ?_ (m_all ?_ m_nil)
  ·exact ⟨he, Nat.ne_of_gt (Nat.lt_succ_of_lt hLl), hnone _ (Nat.le_succ _)⟩
  ·exact ⟨hoI, Nat.ne_of_gt hLl, hnone _ (Nat.le_refl _)⟩
 ·exact ⟨hk _ _ (N p hp).1, (N p hp).2⟩
end
theorem for_enum2 {prog : Program} {w : World} {A : Around} {E : Value → Shared → Prop} {env : Env} {xa xb : Str} {pa pb pt : Pos} {kt : Nat} {body : List Stmt} {Q : Flow → Shared → Prop}
    {h₀ h : Heap} {g : Array GenState} {d : Drawn} {tk : Nat} {os : OsState} {m : Str → Option Value} {e I l : Addr} {items : Array Value} {led : List (Addr × Obj)} {oI : Obj} {old : Value}
    (G : Array GenState → Prop) (J : Nat → (Str → Option Value) → List (Addr × Obj) → Prop) (hE : PassesOwn (model prog w) A env E) (hh : A.handled = none)
    (hxa : env.kindOf xa = some .local) (hxb : env.kindOf xb = some .local) (hp : (env.scope.kind == .class || (env.scope.kind == .module && env.locals != env.globals)) = false)
    (heI : I < e) (hle : l < I)
    (F : Fr h₀ env.locals h m) (N : News h₀ env.locals h (eledOf e I 0 old oI ++ led)) (hI : ItObj l 0 oI) (hap : ∀ p ∈ led, ∀ q ∈ eledOf e I 0 old oI, p.1 ≠ q.1) (hg : G g) (h0 : J 0 m led)
    (hl : ∀ i m led h, J i m led → Fr h₀ env.locals h m → News h₀ env.locals h led → h.IsList l items)
    (turn : ∀ i v t m led h tk g zl, items[i]? = some v → J i m led → (∀ p ∈ led, ∀ q ∈ zl, p.1 ≠ q.1) → G g →
      Fr h₀ env.locals h (fun y => if y = xb then some v else if y = xa then some (.int (i : Nat) t) else m y) → News h₀ env.locals h (zl ++ led) →
      wpAny (model prog w) A (execs body env) (ZPost h₀ env.locals G d os zl (J (i + 1)) Q) E ⟨h, g, d, tk, os⟩)
    (done : ∀ m led h tk g, J items.size m led → G g → Fr h₀ env.locals h m → News h₀ env.locals h led → Q .next ⟨h, g, d, tk, os⟩) :
    FRest prog w A E env (.Tuple [.Name xa pa, .Name xb pb] kt pt) (.ref e) body [] Q ⟨h, g, d, tk, os⟩ := by
  have hne : e ≠ I := Nat.ne_of_gt heI
  have hlI : l ≠ I := Nat.ne_of_lt hle
  have hlE : l ≠ e := Nat.ne_of_lt (Nat.lt_trans hle heI)
  have key : ∀ k i m led h tk g oI old, items.size - i = k → i ≤ items.size → J i m led → ItObj l i oI → (∀ p ∈ led, ∀ q ∈ eledOf e I i old oI, p.1 ≠ q.1) → G g → Fr h₀ env.locals h m → News h₀ env.locals h (eledOf e I i old oI ++ led) →
      FRest prog w A E env (.Tuple [.Name xa pa, .Name xb pb] kt pt) (.ref e) body [] Q ⟨h, g, d, tk, os⟩ := by
    intro k
    induction k with
    | zero =>
      intro i m led h tk g oI old hk hi hJ hI hap hg F N
      obtain rfl : i = items.size := by lia
      have N' : News h₀ env.locals h led := fun p hp => N p (List.mem_append_right _ hp)
      have hl' := hl _ m led h hJ F N'
      have ne := N (e, enumO I items.size old) (by (repeat (first | exact m_hd | refine m_tl ?_)))
      have nI := N (I, oI) (by (repeat (first | exact m_hd | refine m_tl ?_)))
      refine frest_turn hE (wpAny_pyNext_enum_end (s := ⟨h, g, d, tk, os⟩) hh ne.1 (hI.at nI.1) hl' (by simp) fun h' hk' => ?_)
      refine wpAny_execs_nil (done m led h' tk g hJ hg ?_ ?_)
      · exact ⟨F.ns.at' fun o q => hk' env.locals o (Ne.symm nI.2.1) q, fun c o q => hk' c o (fun z => by subst z; rw [nI.2.2] at q; cases q) (F.keep c o q), F.above⟩
      · intro p hp
        exact ⟨hk' p.1 p.2 (hap p hp _ (.tail _ (.head _))) (N' p hp).1, (N' p hp).2⟩
    | succ k ih =>
      intro i m led h tk g oI old hk hi hJ hI hap hg F N
      have hlt : i < items.size := by lia
      have N' : News h₀ env.locals h led := fun p hp => N p (List.mem_append_right _ hp)
      have hl' := hl i m led h hJ F N'
      have ne := N (e, enumO I i old) (by (repeat (first | exact m_hd | refine m_tl ?_)))
      have nI := N (I, oI) (by (repeat (first | exact m_hd | refine m_tl ?_)))
      refine frest_turn hE (wpAny_pyNext_enum_item (s := ⟨h, g, d, tk, os⟩) (x := items[i]) ne.1 (hI.at nI.1) hl' (by simp [hlt]) hne fun h' e' i' T' z' hk' => ?_)
      have hTe : h.objs.size ≠ e := Nat.ne_of_gt (Heap.lt_size ne.1)
      refine wpAny_letOwnedTupleGo_enum e' fun h2 e2 s2 => ?_
      obtain ⟨oI', hoI, hcI, hdI⟩ := i'
      have lift : ∀ c o, c ≠ e → h'.get? c = some o → h2.get? c = some o := fun c o hc q => s2.extBut c o hc q
      have up : ∀ c o, c ≠ e → c ≠ I → h.get? c = some o → h2.get? c = some o := fun c o c1 c2 q => lift c o c1 (hk' c o c1 c2 q)
      have F2 : Fr h₀ env.locals h2 m := ⟨F.ns.at' fun o q => up env.locals o (Ne.symm ne.2.1) (Ne.symm nI.2.1) q,
        fun c o q => up c o (fun z => by subst z; rw [ne.2.2] at q; cases q) (fun z => by subst z; rw [nI.2.2] at q; cases q) (F.keep c o q), F.above⟩
      have N2 : News h₀ env.locals h2 (eledOf e I (i + 1 : Nat) items[i] oI' ++ led) := fun p hp => by
        rcases List.mem_append.mp hp with hp | hp
        · refine m_el hp ?_; refine m_all ?_ (m_all ?_ m_nil)
          · exact ⟨e2, ne.2⟩
          · exact ⟨lift _ _ hne.symm hoI, nI.2⟩
        · exact ⟨up _ _ (hap p hp _ (.head _)) (hap p hp _ (.tail _ (.head _))) (N' p hp).1, (N' p hp).2⟩
      have T2 : h2.IsTuple h.objs.size #[.int i tk, items[i]] := ⟨_, lift _ _ hTe T', rfl, _, rfl⟩
      refine wpAny_assign_Tuple (s := ⟨h2, g, d, tk + 1, os⟩) hh T2 rfl rfl fun h3 e3 => ?_
      have F3 : Fr h₀ env.locals h3 m := ⟨F2.ns.at' fun o q => e3 _ o (Nat.ne_of_lt F2.ns.lt) q, fun c o q => e3 c o (Nat.ne_of_lt (Heap.lt_size (F2.keep c o q))) (F2.keep c o q), F2.above⟩
      have N3 : News h₀ env.locals h3 (eledOf e I (i + 1 : Nat) items[i] oI' ++ led) := fun p hp => ⟨e3 _ _ (Nat.ne_of_lt (Heap.lt_size (N2 p hp).1)) (N2 p hp).1, (N2 p hp).2⟩
      refine assignInOrder_cons (wpAny_assign_Name (wpAny_storeName_local hxa F3.ns (fun h4 hn4 hs4 => ?_) hp))
      refine assignInOrder_cons (wpAny_assign_Name (wpAny_storeName_local hxb (F3.set hn4 hs4).ns (fun h5 hn5 hs5 => ?_) hp))
      refine assignInOrder_nil ?_
      have F5 := (F3.set hn4 hs4).set hn5 hs5
      have N5 := (N3.set hs4).set hs5
      have hapn : ∀ p ∈ led, ∀ q ∈ eledOf e I (i + 1 : Nat) items[i] oI', p.1 ≠ q.1 := fun p hp q hq => by
        refine m_el hq ?_; refine m_all ?_ (m_all ?_ m_nil)
        · exact hap p hp (e, enumO I i old) (.head _)
        · exact hap p hp (I, oI) (.tail _ (.head _))
      refine wpAny_mono (turn i items[i] _ m led h5 _ g _ (by simp [hlt]) hJ hapn hg F5 N5) (fun f s₃ h₃ => ?_) fun _ _ q => q
      have fin : ZEnd h₀ env.locals G d os (eledOf e I (i + 1 : Nat) items[i] oI') (J (i + 1)) s₃ → FRest prog w A E env (.Tuple [.Name xa pa, .Name xb pb] kt pt) (.ref e) body [] Q s₃ := by
        rintro ⟨h', tk', g', m', led', rfl, hg', F'', N'', hap', hJ'⟩
        exact ih (i + 1) m' led' h' tk' g' oI' _ (by lia) hlt hJ' ⟨hcI, by rw [hdI]⟩ hap' hg' F'' N''
      cases f with
      | next => exact fin h₃
      | cont => exact fin h₃
      | brk => exact h₃
      | ret v => exact h₃
  exact key _ 0 m led h tk g oI old rfl (Nat.zero_le _) h0 hI hap hg F N
theorem ints_at : ∀ {vs : List Value} {ns : List Int} {i : Nat} {v : Value}, IntsAre vs ns → vs[i]? = some v → ∃ k t, v = .int k t
 | _, _, _, _, .nil, h => by simp at h
 | _, _, 0, _, .cons .., h => by cases h; exact ⟨_, _, rfl⟩
 | _, _, i + 1, _, .cons _ _ r, h => ints_at r (by simpa using h)
section
namespace J9
def pt : Part1 (aP.f.f.m.e.c.b.b.l.x.s.h.c.r.i.w.a.a.a.d.d.d.C.C.C.X.A.c.c.q.e.e.t.j) (∀ {w : World} {mean : ExcName → Option Value} {mg mb : Str → Option Value} {led : List (Addr × Obj)} {l1 l2 : Addr} {vs : List Value} {ns : List Int} {c1 c2 c3 : Int} {t1 t2 t3 : Tok} {n : Nat} (hI : IntsAre vs ns) (hlen : ns.length ≤ 63) (hap0 : ∀ p ∈ led, p.1 ≠ l2)
(dp un : Nat) (gd : Option (List Code)) (cn : Str) (cs : Scope) (a : Addr) (ccd : Value) (cl : List (Str × Addr)) (outer : List Env) (A₀ : Around) (base h₀ : Heap) (L : Addr) (m : Str → Option Value) (s : Shared) (Q E : Value → Shared → Prop)
  (B : Below A₀ base outer h₀) (F : Fr h₀ L s.heap m) (X : (hd.heap_1 w.params).In h₀) (N : News h₀ L s.heap ((l2, listOf #[.int c1 t1, .int c2 t2, .int c3 t3] n) :: led)) (T : Top pv lv mean mg mb h₀) (hk : cs.kind = .function)
  (hdp : dp + 60 < recursionLimit) (hu : un + 560 < cLine)
  (hl : h₀.IsList l1 vs.toArray)
  (hret : ∀ (c1' c2' c3' : Int) (t1' t2' t3' : Tok) (n' : Nat) (h' : Heap) (tk' : Nat), Fr h₀ L h' m → News h₀ L h' ((l2, listOf #[.int c1' t1', .int c2' t2', .int c3' t3'] n') :: led) → Q (.ref l2) { s with heap := h', toks := tk' }), wpAny (model theProg w) (ktrTop dp un gd cn cs L a ccd cl outer) (call (.ref 380) [.ref l1, .ref l2]) Q E s) := by
 apply Part1.mk
 case h => intro hS1 w mean mg mb led l1 l2 vs ns c1 c2 c3 t1 t2 t3 n hI hlen hap0 dp un gd cn cs a ccd cl outer A₀ base h₀ L m s Q E B F X N T hk hdp hu hl hret; revert hI hlen hap0 B F X N T hk hdp hu hl hret; exact @hS1 w mean mg mb led l1 l2 vs ns c1 c2 c3 t1 t2 t3 n dp un gd cn cs a ccd cl outer A₀ base h₀ L m s Q E
def Z0 := pt.z1
def w := hx0 Z0
def mean := hx1 Z0
def mg := hx2 Z0
def mb := hx3 Z0
def led := hx4 Z0
def l1 := hx5 Z0
def l2 := hx6 Z0
def vs := hx7 Z0
def Z1 := ht Z0
def ns := hx0 Z1
def c1 := hx1 Z1
def c2 := hx2 Z1
def c3 := hx3 Z1
def t1 := hx4 Z1
def t2 := hx5 Z1
def t3 := hx6 Z1
def n := hx7 Z1
def Z2 := ht Z1
def dp := hx0 Z2
def un := hx1 Z2
def gd := hx2 Z2
def cn := hx3 Z2
def cs := hx4 Z2
def a := hx5 Z2
def ccd := hx6 Z2
def cl := hx7 Z2
def Z3 := ht Z2
def outer := hx0 Z3
def A₀ := hx1 Z3
def base := hx2 Z3
def h₀ := hx3 Z3
def L := hx4 Z3
def m := hx5 Z3
def s := hx6 Z3
def Q := hx7 Z3
def Z4 := ht Z3
def E := hx0 Z4
theorem eq_1 : pt.Q1 w mean mg mb led l1 l2 vs ns c1 c2 c3 t1 t2 t3 n dp un gd cn cs a ccd cl outer A₀ base h₀ L m s Q E := by
 intro hI hlen hap0 B F X N T hk hdp hu hl hret
 k_with_none
 k_with "ne" => (refine neN ?_; (try dsimp only); first | with_reducible (first | assumption | (refine Ne.symm ?_; assumption) | exact ne_1 | exact ne_1.symm | exact ne_2 | exact ne_2.symm | exact ne_3 | exact ne_3.symm | exact ne_4 | exact ne_4.symm) | exact (by with_reducible assumption : Apt _ _) | exact Ne.symm (by with_reducible assumption : Apt _ _) | omega)
 k_with "d2" => (repeat' (first | with_reducible (first | exact m_id | exact m_nil | exact m_lid | exact m_mapl | exact m_mapl2 | refine m_cons ?_ ?_ | refine m_app ?_ ?_ | refine m_map ?_ ?_ | refine m_map1 ?_ | exact m_hd | refine m_tl ?_ | exact m_mapr rfl | refine m_tail ?_ | refine m_right ?_ | refine m_inr ?_) | exact m_hd | refine m_tl ?_))
 k_with "d3" => (first | assumption | omega | ktr_room | ktr_units | (simp only [] at *; omega))
 k_with "call type:enumerate" => (k_here; (refine Halt.out ?_))
 k_with "exec For Tuple Call" => (k_here; (refine Halt.out ?_))
 have _ := fl X
 refine wpAny_call ?_
 k_dflt (refine codeD (h := ?_); k_whole; intro m' g' L' h' tk' FG' F' N' B' X' T'; (try dsimp only); (try k_lift B'); (try k_fold))
 k_steps
 unfold Halt
 refine frest_start ?_
 k_steps
 unfold Halt
 have hl' : g'.IsList l1 vs.toArray := let ⟨o, ho, r⟩ := hl; ⟨o, FG'.keep _ _ ho, r⟩
 have hlH : ∀ h : Heap, (∀ b o, g'.get? b = some o → h.get? b = some o) → h.IsList l1 vs.toArray := fun h k => let ⟨o, ho, r⟩ := hl'; ⟨o, k _ _ ho, r⟩
 refine enum_new F' N' (hlH _ F'.keep) fun e it oI h1 hit F1 N1 lt1 lt2 lt3 => ?_
 refine wpAny_pyIter_enum (N1 _ (.head _)).1 ?_
 have F2 := Fr.same F1 (m' := (fun z => if z = Str.ofString "number" then none else if z = Str.ofString "place" then none else if z = Str.ofString "cells" then some (Value.ref l2) else if z = Str.ofString "script" then some (Value.ref l1) else none)) (by
  intro z
  by_cases e0 : z = Str.ofString "place"
  ·subst e0; rfl
  by_cases e1 : z = Str.ofString "number"
  ·subst e1; rfl
  by_cases e2 : z = Str.ofString "cells"
  ·subst e2; rfl
  by_cases e3 : z = Str.ofString "script"
  ·subst e3; rfl
  rw [if_neg e0, if_neg e1, if_neg e2, if_neg e3]
  show List.lookup z [(Str.ofString "cells", Value.ref l2), (Str.ofString "script", Value.ref l1)] = none
  rw [lookup_neg e2, lookup_neg e3]; rfl)
 refine for_enum2 (items := vs.toArray) (d := s.drawn) (os := s.os) (fun g => g = s.gens) (fun i m led' => ∃ (c1 c2 c3 : Int) (t1 t2 t3 : Tok) (n : Nat) (u1 u2 : Option Value), led' = (l2, listOf #[.int c1 t1, .int c2 t2, .int c3 t3] n) :: led ∧ m = (fun z => if z = Str.ofString "number" then u1 else if z = Str.ofString "place" then u2 else if z = Str.ofString "cells" then some (Value.ref l2) else if z = Str.ofString "script" then some (Value.ref l1) else none))
  (by passes_own) rfl rfl rfl rfl lt3 lt2 F2 N1 hit ?hap rfl ⟨c1, c2, c3, t1, t2, t3, n, none, none, rfl, rfl⟩ ?hl ?turn ?done
 case hap =>
  intro p hp q hq
  refine m_el hq ?_; refine m_all ?_ (m_all ?_ m_nil)
  ·exact Nat.ne_of_lt (Nat.lt_trans (lt1 p hp) lt3)
  ·exact Nat.ne_of_lt (lt1 p hp)
 case hl => exact fun i m led h _ F _ => hlH h F.keep
 case done =>
  intro m' led' h tk g y95 y96 F N; refine hG fun G9 hG9 => ?_; obtain ⟨c1, c2, c3, t1, t2, t3, n, u1, u2, rfl, rfl⟩ := y95; obtain rfl := y96; refine hG9 ?_; clear hG9 G9
  dsimp only
  k_steps
  rename_i kF kN _ _
  exact hret c1 c2 c3 t1 t2 t3 n _ _ kF kN
 case turn =>
  intro i v t m' led' h tk g zl hv y910 hap y912 F N; refine hG fun G9 hG9 => ?_; obtain ⟨c1, c2, c3, t1, t2, t3, n, u1, u2, rfl, rfl⟩ := y910; obtain rfl := y912; refine hG9 ?_; clear hG9 G9
  obtain ⟨k, tk0, rfl⟩ : ∃ k tk0, v = .int k tk0 := ints_at hI (by simpa using hv)
  have F3 := Fr.same F (m' := (fun z => if z = Str.ofString "number" then some (Value.int k tk0) else if z = Str.ofString "place" then some (Value.int (i : Nat) t) else if z = Str.ofString "cells" then some (Value.ref l2) else if z = Str.ofString "script" then some (Value.ref l1) else none)) (by
   intro z
   revert z; refine frk (ks := [Str.ofString "number", Str.ofString "place", Str.ofString "cells", Str.ofString "script"]) ?_ ?_ ?_; (focus (repeat (first | with_reducible exact supp_none | with_reducible refine supp_ite (by kernel_rfl) ?_ | with_reducible exact supp_look (by kernel_rfl)))); (focus (repeat (first | with_reducible exact supp_none | with_reducible refine supp_ite (by kernel_rfl) ?_ | with_reducible exact supp_look (by kernel_rfl)))); kernel_rfl)
  have N3 : News g' L' h ((l2, listOf #[.int c1 t1, .int c2 t2, .int c3 t3] n) :: (led ++ zl)) := fun p hp => N p (by simp only [List.mem_append, List.mem_cons] at hp ⊢; rcases hp with h | h | h <;> simp [h])
  clear F N
  k_steps
  have hap2 : ∀ p ∈ led ++ zl, p.1 ≠ l2 := fun p hp => (List.mem_append.mp hp).elim (hap0 p) fun hp => (hap (l2, _) (.head _) p hp).symm
  have hj : (i : Int).fmod 3 = 0 ∨ (i : Int).fmod 3 = 1 ∨ (i : Int).fmod 3 = 2 := by
   have h1 := fmod_lo (i : Int) (n := 3) (by decide)
   have h2 := fmod_hi (i : Int) (n := 3) (by decide)
   lia
  have hm : ∀ (o : Obj) p, p ∈ zl ++ (l2, o) :: led → p ∈ (l2, o) :: (led ++ zl) := fun o p hp => by
   refine m_use ?_ p hp; walk_at "d2"
  have hz : ∀ (o : Obj), ∀ p ∈ (l2, o) :: led, ∀ q ∈ zl, p.1 ≠ q.1 := fun o p hp q hq => by
   refine m_el hp (m_all ?_ ?_)
   ·exact hap (l2, _) (.head _) q hq
   ·intro p hp; exact hap p (.tail _ hp) q hq
  rcases hj with hj | hj | hj
  ·rw [hj]
   refine ki_set F3 N3 (by decide) (by decide) rfl (.head hap2) fun h9 F9 N9 => ?_
   clear F3 N3
   k_steps
   obtain ⟨c', t', N10⟩ : ∃ c' t', News g' L' h9 ((l2, listOf #[.int c' t', .int c2 t2, .int c3 t3] n) :: (led ++ zl)) := ⟨_, _, N9⟩
   exact ⟨_, _, _, _, (l2, listOf #[.int c' t', .int c2 t2, .int c3 t3] n) :: led, rfl, rfl, F9, fun p hp => N10 p (hm _ _ hp), hz _, c', c2, c3, t', t2, t3, n, _, _, rfl, rfl⟩
  ·rw [hj]
   refine ki_set F3 N3 (by decide) (by decide) rfl (.head hap2) fun h9 F9 N9 => ?_
   clear F3 N3
   k_steps
   obtain ⟨c', t', N10⟩ : ∃ c' t', News g' L' h9 ((l2, listOf #[.int c1 t1, .int c' t', .int c3 t3] n) :: (led ++ zl)) := ⟨_, _, N9⟩
   exact ⟨_, _, _, _, (l2, listOf #[.int c1 t1, .int c' t', .int c3 t3] n) :: led, rfl, rfl, F9, fun p hp => N10 p (hm _ _ hp), hz _, c1, c', c3, t1, t', t3, n, _, _, rfl, rfl⟩
  ·rw [hj]
   refine ki_set F3 N3 (by decide) (by decide) rfl (.head hap2) fun h9 F9 N9 => ?_
   clear F3 N3
   k_steps
   obtain ⟨c', t', N10⟩ : ∃ c' t', News g' L' h9 ((l2, listOf #[.int c1 t1, .int c2 t2, .int c' t'] n) :: (led ++ zl)) := ⟨_, _, N9⟩
   exact ⟨_, _, _, _, (l2, listOf #[.int c1 t1, .int c2 t2, .int c' t'] n) :: led, rfl, rfl, F9, fun p hp => N10 p (hm _ _ hp), hz _, c1, c2, c', t1, t2, t', n, _, _, rfl, rfl⟩
theorem eq_2 : pt.U1 := hy @eq_1
end J9
theorem c_cells : type_of% (@Part1.h _ _ _ J9.pt J9.eq_2) := @Part1.h _ _ _ J9.pt J9.eq_2
end
section
open LCg LCt
section
variable {prog : Program} {w : World} {A : Around} {s : Shared} {h₀ : Heap} {L : Addr} {m : Str → Option Value} {env : Env} {x : Str} {scope : Scope} {cl : List (Str × Addr)} {S : List (Addr × Obj) → Prop} {P : Nat → Value → Prop} {Fin : List Value → List (Addr × Obj) → Prop} {news : List (Addr × Obj)} {n : Nat}
theorem compEnd_mono {I : Addr} {oI : Obj} {C : Addr} {oC : Obj} {D : Addr} {oD : Obj} {r r' : Value → List (Addr × Obj) → Prop} {y : Value} {s₂ : Shared} (h : CompEnd h₀ L m s I oI C oC D oD S r y s₂) (hr : ∀ n', r y n' → r' y n') : CompEnd h₀ L m s I oI C oC D oD S r' y s₂ := by
 obtain ⟨h', tk, n', e, F, N, o, hS, q⟩ := h
 exact ⟨h', tk, n', e, F, N, o, hS, hr n' q⟩
theorem comp_T {ct elt : Expr} (J : Nat → List Value → List (Addr × Obj) → Prop) (h0 : J 0 [] news)
    (turn : ∀ i v ys news I oI C oC D m₂ h tk (E' : Value → Shared → Prop), i < n → P i v → J i ys news → NsObj oC m₂ → m₂ x = some v → Fr h₀ L h m → News h₀ L h ((I, oI) :: (C, oC) :: (D, lst ys) :: news) → Off3 I C D news → ((@Ne Nat I C) ∧ (@Ne Nat I D) ∧ (@Ne Nat C D)) →
      wpAny (model prog w) A (isTrue ct (compEnvC scope cl C env) (eval ct (compEnvC scope cl C env))) (fun ok s' => if ok = true then
        wpAny (model prog w) A (eval elt (compEnvC scope cl C env)) (CompEnd h₀ L m { s with heap := h, toks := tk } I oI C oC D (lst ys) S (fun y news' => J (i + 1) (ys ++ [y]) news')) E' s'
        else CompEnd h₀ L m { s with heap := h, toks := tk } I oI C oC D (lst ys) S (fun _ news' => J (i + 1) ys news') Value.none s') E' { s with heap := h, toks := tk })
    (fin : ∀ ys news, J n ys news → Fin ys news) : CompRestT prog w A h₀ L m env ct elt x scope cl s S P Fin n 0 [] news := by
  have key : ∀ k i ys news, i + k = n → J i ys news → CompRestT prog w A h₀ L m env ct elt x scope cl s S P Fin k i ys news := by
    intro k
    induction k with
    | zero => intro i ys news hi hJ; exact CompRestT.zero (fin _ _ (by rw [← hi]; exact hJ))
    | succ k ih =>
      intro i ys news hi hJ
      refine CompRestT.succ fun v I oI C oC D m₂ h tk E' hP hC hx F N o ne => ?_
      refine wpAny_mono (turn i v ys news I oI C oC D m₂ h tk E' (by lia) hP hJ hC hx F N o ne) (fun ok s' h' => ?_) fun _ _ e => e
      cases ok with
      | true =>
        simp only [if_true] at h' ⊢
        exact wpAny_mono h' (fun y s₂ h₂ => compEnd_mono h₂ fun n' hn => ih (i + 1) _ n' (by lia) hn) fun _ _ e => e
      | false =>
        simp only [Bool.false_eq_true, if_false] at h' ⊢
        exact compEnd_mono h' fun n' hn => ih (i + 1) _ n' (by lia) hn
  exact key n 0 [] news (by lia) h0
theorem comp_U {elt : Expr} (J : Nat → List Value → List (Addr × Obj) → Prop) (h0 : J 0 [] news)
    (turn : ∀ i v ys news I oI C oC D m₂ h tk (E' : Value → Shared → Prop), i < n → P i v → J i ys news → NsObj oC m₂ → m₂ x = some v → Fr h₀ L h m → News h₀ L h ((I, oI) :: (C, oC) :: (D, lst ys) :: news) → Off3 I C D news → ((@Ne Nat I C) ∧ (@Ne Nat I D) ∧ (@Ne Nat C D)) →
      wpAny (model prog w) A (eval elt (compEnvC scope cl C env)) (CompEnd h₀ L m { s with heap := h, toks := tk } I oI C oC D (lst ys) S (fun y news' => J (i + 1) (ys ++ [y]) news')) E' { s with heap := h, toks := tk })
    (fin : ∀ ys news, J n ys news → Fin ys news) : CompRest prog w A h₀ L m env elt x scope cl s S P Fin n 0 [] news := by
  have key : ∀ k i ys news, i + k = n → J i ys news → CompRest prog w A h₀ L m env elt x scope cl s S P Fin k i ys news := by
    intro k
    induction k with
    | zero => intro i ys news hi hJ; exact CompRest.zero (fin _ _ (by rw [← hi]; exact hJ))
    | succ k ih =>
      intro i ys news hi hJ
      refine CompRest.succ fun v I oI C oC D m₂ h tk E' hP hC hx F N o ne => ?_
      exact wpAny_mono (turn i v ys news I oI C oC D m₂ h tk E' (by lia) hP hJ hC hx F N o ne) (fun y s₂ h₂ => compEnd_mono h₂ fun n' hn => ih (i + 1) _ n' (by lia) hn) fun _ _ e => e
  exact key n 0 [] news (by lia) h0
end
end
noncomputable def lowL (c : Nat) : Nat := if 65 ≤ c ∧ c ≤ 90 then c + 32 else c
theorem lower_all : ∀ c, c < 128 → Txt.lower ⟨#[c]⟩ = ⟨#[lowL c]⟩ := by decide +kernel
section
variable {prog : Program} {w : World} {A : Around} {E : Value → Shared → Prop} {s : Shared}
theorem isLet_lt {c : Nat} (hc : isLet c = true) : c < 128 := by unfold isLet at hc; simp at hc; omega
theorem isLet_low {c : Nat} (hc : isLet c = true) : isLet (lowL c) = true := by
 have : ∀ c, c < 128 → isLet c = true → isLet (lowL c) = true := by decide +kernel
 exact this c (isLet_lt hc) hc
theorem lower1 {c : Nat} {t : Tok} {Q : Value → Shared → Prop} (hc : isLet c = true) (h : ∀ t' k, Q (.str ⟨#[lowL c]⟩ t') { s with toks := k }) : wpAny (model prog w) A (call (.builtin "str.lower") [.str ⟨#[c]⟩ t]) Q E s :=
 KXw.lower (lower_all c (isLet_lt hc)) (by rw [lower_all c (isLet_lt hc)]; rfl) h
end
section
open LCg LCt
noncomputable def nmL (t : Pr) : Nat := lowL (t.2.1.1.cps.getD 0 0)
noncomputable def pickL (x : Nat) (hs : List Pr) : List (Str × Tok) := (hs.filter fun t => nmL t == lowL x).map fun t => t.2.2
theorem pickL_snoc (x : Nat) (hs : List Pr) (t : Pr) : pickL x (hs ++ [t]) = pickL x hs ++ if nmL t = lowL x then [t.2.2] else [] := by
 unfold pickL
 rw [List.filter_append, List.map_append]
 by_cases h : nmL t = lowL x
 ·rw [if_pos h, List.filter_cons_of_pos (by simpa using h)]; rfl
 ·rw [if_neg h, List.filter_cons_of_neg (by simpa using h)]; rfl
theorem one_beq (a b : Nat) : ((⟨#[a]⟩ : Str) == ⟨#[b]⟩) = (a == b) := by
 by_cases h : a = b
 ·subst h; simp
 ·rw [beq_eq_false_iff_ne.mpr h, beq_eq_false_iff_ne]
  intro e
  exact h (by have := congrArg (fun s : Str => s.cps.getD 0 0) e; simpa using this)
theorem off1_mem {D : Addr} : ∀ {l : List (Addr × Obj)}, Off1 D l → ∀ p ∈ l, p.1 ≠ D
 | [], _, _, h => nomatch h
 | _ :: _, x, p, h => by
  rcases List.mem_cons.mp h with rfl | h
  ·exact x.1
  ·exact off1_mem x.2 p h
section
namespace J8
def pt : Part1 (aP.f.f.m.e.c.b.b.l.x.s.h.c.r.i.w.a.a.d.a.a.E.S.q.e.e.t.j) (∀ {w : World} {mean : ExcName → Option Value} {mg mb : Str → Option Value} {rest : List (Addr × Obj)} {c : HC} {hs : List Pr} {n : Nat} {x : Nat} {tx : Tok} (G : HGood c hs rest) (hn : ∀ t ∈ hs, ∃ k, t.2.1.1 = ⟨#[k]⟩ ∧ isLet k = true) (hx : isLet x = true)
(dp un : Nat) (gd : Option (List Code)) (cn : Str) (cs : Scope) (a : Addr) (ccd : Value) (cl : List (Str × Addr)) (outer : List Env) (A₀ : Around) (base h₀ : Heap) (L : Addr) (m : Str → Option Value) (s : Shared) (Q E : Value → Shared → Prop)
  (B : Below A₀ base outer h₀) (F : Fr h₀ L s.heap m) (X : (hd.heap_1 w.params).In h₀) (N : News h₀ L s.heap (hled w c hs n rest)) (T : Top pv lv mean mg mb h₀) (hk : cs.kind = .function)
  (hdp : dp + 90 < recursionLimit) (hu : un + 900 < cLine)
  (hret : ∀ (D : Addr) (h' : Heap) (tk' : Nat), (∀ p ∈ hled w c hs n rest, p.1 ≠ D) → Fr h₀ L h' m → News h₀ L h' ((D, listOf (strValues (pickL x hs)).toArray (strValues (pickL x hs)).length) :: hled w c hs n rest) → Q (.ref D) { s with heap := h', toks := tk' }), wpAny (model theProg w) (ktrTop dp un gd cn cs L a ccd cl outer) (call (.ref 308) [.ref c.fo, .str ⟨#[x]⟩ tx]) Q E s) := by
 apply Part1.mk
 case h => intro hS1 w mean mg mb rest c hs n x tx G hn hx dp un gd cn cs a ccd cl outer A₀ base h₀ L m s Q E B F X N T hk hdp hu hret; revert G hn hx B F X N T hk hdp hu hret; exact @hS1 w mean mg mb rest c hs n x tx dp un gd cn cs a ccd cl outer A₀ base h₀ L m s Q E
def Z0 := pt.z1
def w := hx0 Z0
def mean := hx1 Z0
def mg := hx2 Z0
def mb := hx3 Z0
def rest := hx4 Z0
def c := hx5 Z0
def hs := hx6 Z0
def n := hx7 Z0
def Z1 := ht Z0
def x := hx0 Z1
def tx := hx1 Z1
def dp := hx2 Z1
def un := hx3 Z1
def gd := hx4 Z1
def cn := hx5 Z1
def cs := hx6 Z1
def a := hx7 Z1
def Z2 := ht Z1
def ccd := hx0 Z2
def cl := hx1 Z2
def outer := hx2 Z2
def A₀ := hx3 Z2
def base := hx4 Z2
def h₀ := hx5 Z2
def L := hx6 Z2
def m := hx7 Z2
def Z3 := ht Z2
def s := hx0 Z3
def Q := hx1 Z3
def E := hx2 Z3
theorem eq_1 : pt.Q1 w mean mg mb rest c hs n x tx dp un gd cn cs a ccd cl outer A₀ base h₀ L m s Q E := by
  intro G hn hx B F X N T hk hdp hu hret
  k_with_none
  k_with "ne" => (refine neN ?_; (try dsimp only); first | with_reducible (first | assumption | (refine Ne.symm ?_; assumption) | exact ne_1 | exact ne_1.symm | exact ne_2 | exact ne_2.symm | exact ne_3 | exact ne_3.symm | exact ne_4 | exact ne_4.symm) | exact (by with_reducible assumption : Apt _ _) | exact Ne.symm (by with_reducible assumption : Apt _ _) | omega)
  k_with "d2" => (repeat' (first | with_reducible (first | exact m_id | exact m_nil | exact m_lid | exact m_mapl | exact m_mapl2 | refine m_cons ?_ ?_ | refine m_app ?_ ?_ | refine m_map ?_ ?_ | refine m_map1 ?_ | exact m_hd | refine m_tl ?_ | exact m_mapr rfl | refine m_tail ?_ | refine m_right ?_ | refine m_inr ?_) | exact m_hd | refine m_tl ?_))
  k_with "d3" => (first | assumption | omega | ktr_room | ktr_units | (simp only [] at *; omega))
  k_with "call ref" => (k_here; (with_reducible show wpAny _ _ (call (Value.ref 270) _ _) _ _ _); k_dflt (first | refine' c_convA ?qx50z (gd := _) (cn := _) (a := _) (ccd := _) (cl := _) (E := _) (B := ?kB50z) (F := ?kF50z) (X := ?kX50z) (N := ?kN50z) (T := ?kT50z) (hk := ?kk50z) (hdp := ?kd50z) (hu := ?ku50z) (hret := ?_) | refine' c_convB ?qx50z (gd := _) (cn := _) (a := _) (ccd := _) (cl := _) (E := _) (B := ?kB50z) (F := ?kF50z) (X := ?kX50z) (N := ?kN50z) (T := ?kT50z) (hk := ?kk50z) (hdp := ?kd50z) (hu := ?ku50z) (hret := ?_)); (case qx50z => assumption); (case kB50z => k_asm); (case kF50z => k_asm); (case kX50z => k_asm); (case kN50z => k_asm); (case kT50z => k_asm); (case kk50z => rfl); (case kd50z => walk_at "d3"); (case ku50z => walk_at "d3"); intro _ _ _ _; (try dsimp only))
  k_with "eval ListComp" => (k_here; (refine Halt.out ?_))
  k_with "call builtin:str.lower" => (k_here; (with_reducible show wpAny _ _ (call (Value.builtin "str.lower") [Value.str _ _]) _ _ _); (refine lower1 (by assumption) ?_); intro _ _)
  k_with "execs cons" => ((try k_fold); (refine wpAny_execs_cons ?_); (try dsimp only); (try k_fold))
  have _ := fl X
  refine wpAny_call ?_
  k_dflt (refine' code_defC ?k1 ?k2 ?k3 ?k4 ?k5 ?kA ?kF ?kK ?k6 ?k7 ?k8 ?k9 ?kB ?kD ?_ ?c2 ?c3 ?c4; (case kA => exact rfl); (case kF => exact rfl); (case kK => assumption); (case k1 => k_asm); (case k2 => k_asm); (case k3 => k_asm); (case k4 => k_asm); (case k5 => k_asm); (case k6 => k_is); (case k7 => k_is); (case k8 => ktr_room); (case k9 => first | exact BindsTo.of_eq rfl | exact binds_K (by k_in) rfl (by k_is) rfl rfl rfl | (refine' kp_binds ?kx ?ke; (case kx => k_in); (case ke => exact fun _ => rfl))); (case kB => exact rfl); (case kD => decide +kernel); (case c2 => exact rfl); (case c3 => exact rfl); (case c4 => exact rfl); k_whole; intro g' L' h' tk' cells' FG' F' N' Y' B' X' T' l1; k_cells Y'; (try simp only [List.cons_append, List.nil_append] at N'); (try dsimp only); (try k_lift B'); (try k_fold))
  have hlx := isLet_low hx
  have N0 := N'
  dsimp only [hled] at N'
  k_steps
  rename_i o1 d1 t2 k2 h9 tk9 F9 N9
  have l2 : ∀ p ∈ hled w c hs n rest, p.1 ≠ L' + 1 := fun p hp => Nat.ne_of_lt (Nat.lt_succ_of_lt (l1 p hp))
  refine storeX_C F9 N9 rfl (.head l2) d1 (fun h10 o2 F10 N10 d2 => ?_) rfl rfl
  clear F9 N9 N0 N'
  have N11 := N10
  dsimp only [hled] at N11
  k_steps
  unfold Halt
  refine LCt.ListComp_T (F₀ := F10) (by with_unfolding_all rfl) (by decide) (by rfl) (by decide) (by rfl) ?_
  k_steps
  refine CompSrcT.ledger rfl F10 N10 (.tail _ (.head _)) (by simp [sizeLine]; have := G.lt; omega) fun g => ?_
  refine comp_T (fun i ys led => ys = strValues (pickL x (hs.take i)) ∧ led = (L' + 1, o2) :: hled w c hs n rest) ⟨rfl, rfl⟩ ?_ ?_
  · rintro i v ys led I oI C oC D m₂ h tk E' hi hv ⟨rfl, rfl⟩ hC hx2 F13 N13 off ne
    have hi' : i < hs.length := by simpa [prRefs] using hi
    obtain ⟨t, ht⟩ : ∃ t, hs[i]? = some t := ⟨_, List.getElem?_eq_getElem hi'⟩
    obtain rfl : v = .ref t.1 := by
      have e := hv
      simp only [prRefs, List.getElem?_toArray, List.getElem?_map, ht, Option.map_some, Option.some.injEq] at e
      exact e.symm
    have htm := List.mem_of_getElem? ht
    obtain ⟨k0, hk0, hk1⟩ := hn t htm
    obtain ⟨T0, ⟨t1, t2'⟩, u1, u2⟩ := t
    dsimp only at hk0
    subst hk0
    have N14 : News g' L' h ((I, oI) :: (C, oC) :: (D, lst (strValues (pickL x (hs.take i)))) :: (L' + 1, o2) :: (T0, { cls := .type "tuple", data := .seq #[.str ⟨#[k0]⟩ t2', .str u1 u2] }) :: hled w c hs n rest) := fun p hp => by
      refine m_el hp (m_all ?_ ?_)
      · exact N13 _ (.head _)
      refine m_all ?_ ?_
      · exact N13 _ (.tail _ (.head _))
      refine m_all ?_ ?_
      · exact N13 _ (.tail _ (.tail _ (.head _)))
      refine m_all ?_ ?_
      · exact N13 _ (.tail _ (.tail _ (.tail _ (.head _))))
      refine m_all ?_ ?_
      · exact N13 _ (.tail _ (.tail _ (.tail _ (.tail _ (.tail _ (.tail _ (.tail _ (List.mem_append_left _ (List.mem_map.mpr ⟨_, htm, rfl⟩)))))))))
      intro p hp
      exact N13 p (.tail _ (.tail _ (.tail _ (.tail _ hp))))
    clear N13
    have hlk := isLet_low hk1
    k_steps
    all_goals
      unfold CompEnd
      refine ⟨h, _, (L' + 1, o2) :: hled w c hs n rest, rfl, F13, fun p hp => N14 p ?_, off, .inr ⟨_, .tail _ (.head _), rfl, _, rfl⟩, ?_, rfl⟩
      · refine m_el hp (m_all ?_ ?_)
        · exact .head _
        refine m_all ?_ ?_
        · exact .tail _ (.head _)
        refine m_all ?_ ?_
        · exact .tail _ (.tail _ (.head _))
        refine m_all ?_ ?_
        · exact .tail _ (.tail _ (.tail _ (.head _)))
        intro p hp
        exact .tail _ (.tail _ (.tail _ (.tail _ (.tail _ hp))))
      · rw [List.take_add_one, ht, show (some (T0, (({ cps := #[k0] } : Str), t2'), u1, u2)).toList = [(T0, (({ cps := #[k0] } : Str), t2'), u1, u2)] from rfl, pickL_snoc]
        first
          | (have hq : (lowL k0 == lowL x) = true := (one_beq _ _).symm.trans (by assumption)
             rw [if_pos (show nmL (T0, (({ cps := #[k0] } : Str), t2'), u1, u2) = lowL x from eq_of_beq hq)]
             simp [strValues])
          | (have hq : (lowL k0 == lowL x) = false := (one_beq _ _).symm.trans (by assumption)
             rw [if_neg (show ¬ nmL (T0, (({ cps := #[k0] } : Str), t2'), u1, u2) = lowL x from beq_eq_false_iff_ne.mp hq)]
             simp [strValues])
  · rintro ys led ⟨rfl, rfl⟩ D h tk F13 N13 off
    k_steps
    rename_i kF kN _ _
    rw [List.take_of_length_le (by simp [prRefs])] at kN
    exact hret D h tk (fun p hp => off1_mem off p (.tail _ hp)) kF fun p hp => kN p (by
      refine m_el hp (m_all ?_ ?_)
      · exact .head _
      · intro p hp; exact .tail _ (.tail _ hp))
theorem eq_2 : pt.U1 := hy @eq_1
end J8
theorem c_getall : type_of% (@Part1.h _ _ _ J8.pt J8.eq_2) := @Part1.h _ _ _ J8.pt J8.eq_2
end
end
section
open LCg
section
variable {prog : Program} {w : World} {A : Around} {E : Value → Shared → Prop} {s : Shared} {h₀ : Heap} {L : Addr} {m : Str → Option Value} {env : Env}
noncomputable def SrcS (prog : Program) (w : World) (A : Around) (h₀ : Heap) (L : Addr) (m : Str → Option Value) (env : Env) (elt : Expr) (x : Str) (scope : Scope) (cl : List (Str × Addr)) (Fin : Shared → List Value → List (Addr × Obj) → Prop) (xv : Value) (s₁ : Shared) : Prop :=
 ∃ r a b c t u v n news, xv = .ref r ∧ A.handled = none ∧ Fr h₀ L s₁.heap m ∧ News h₀ L s₁.heap news ∧ IsRange s₁.heap r a b c t u v ∧ Builtin.Range.small a b c = true ∧ Builtin.Range.rangeSize a b c = ((n : Nat) : Int) ∧ n ≤ sizeLine ∧
  ∀ s₂ : Shared, (∃ h, s₂ = { s₁ with heap := h }) → CompRest prog w A h₀ L m env elt x scope cl s₂ (fun _ => True) (fun i v => ∃ t, v = .int (a + (i : Int) * c) t) (Fin s₂) n 0 [] news
theorem srcS {elt : Expr} {x : Str} {scope : Scope} {cl : List (Str × Addr)} {Fin : Shared → List Value → List (Addr × Obj) → Prop} {r : Addr} {a b c : Int} {t u v : Tok} {n : Nat} {news : List (Addr × Obj)} {s₁ : Shared}
  (hh : A.handled = none) (F : Fr h₀ L s₁.heap m) (N : News h₀ L s₁.heap news) (hr : IsRange s₁.heap r a b c t u v) (hsm : Builtin.Range.small a b c = true) (hn : Builtin.Range.rangeSize a b c = ((n : Nat) : Int)) (hsz : n ≤ sizeLine)
  (h : ∀ g, CompRest prog w A h₀ L m env elt x scope cl { s₁ with heap := g } (fun _ => True) (fun i v => ∃ t, v = .int (a + (i : Int) * c) t) (Fin { s₁ with heap := g }) n 0 [] news) :
  SrcS prog w A h₀ L m env elt x scope cl Fin (.ref r) s₁ := ⟨r, a, b, c, t, u, v, n, news, rfl, hh, F, N, hr, hsm, hn, hsz, fun _ ⟨g, e⟩ => e ▸ h g⟩
theorem stepped {I : Addr} {a c : Int} {n : Nat} : ∀ i (h h' : Heap) (o : Obj) (nw : List (Addr × Obj)), IsRangeIter h I (a + (i : Nat) * c) ((n : Int) - (i : Nat)) c → h.get? I = some o → h'.get? I = some o → (∀ b o, h₀.get? b = some o → h'.get? b = some o) → News h₀ L h' nw → True → IsRangeIter h' I (a + (i : Nat) * c) ((n : Int) - (i : Nat)) c :=
 fun i h h' o nw st e e' _ _ _ => by
  have st' : h.get? I = some _ := st
  show h'.get? I = some _
  rw [e', ← e]; exact st'
end
namespace J28
def pt : Part1 (aP.U.z.z.s.r.z.z.i.i.J.J.N.e.b.m.f.l.j.F) (∀ {prog : Program} {w : World} {A : Around} {E : Value → Shared → Prop} {s : Shared} {h₀ : Heap} {L : Addr} {m : Str → Option Value} {env : Env} {elt iter : Expr} {x y : Str} {px py : Pos} {scope : Scope} {cl : List (Str × Addr)} {pos spos : Pos} {Q : Flow → Shared → Prop} (F₀ : Fr h₀ L s.heap m) (hLe : env.locals = L)
  (hsw : swapsWith (.ListComp elt [⟨.Name x px, iter, [], 0⟩] scope pos) (some (.Name y py)) spos.line env = pure true)
  (hclos : closureFor scope env = pure cl) (hcell : ∀ z ∈ scope.names, z.2 ≠ .cell) (hkind : scope.kind = .function)
  (hnames : ∀ z ∈ scope.names, z.2 = .local → scope.names.lookup z.1 = some .local) (hx : scope.names.lookup x = some .local)
  (hy : env.kindOf y = some .local) (hp : (env.scope.kind == .class || (env.scope.kind == .module && env.locals != env.globals)) = false)
  (h : wpAny (model prog w) A (eval iter env) (SrcS prog w A h₀ L m env elt x scope cl (fun s₂ => FinA h₀ L m s₂ y Q)) E s)
  (hs : ∀ x, foldedSetIterable iter env x = pure x), wpAny (model prog w) A (exec (.Assign [.Name y py] (.ListComp elt [⟨.Name x px, iter, [], 0⟩] scope pos) spos) env) Q E s) := by
 apply Part1.mk
 case h => intro hS1 prog w A E s h₀ L m env elt iter x y px py scope cl pos spos Q F₀ hLe hsw hclos hcell hkind hnames hx hy hp h hs; revert L F₀ hLe hsw hclos hcell hkind hnames hx hy hp h hs; exact @hS1 prog w A E s h₀ m env elt iter x y px py scope cl pos spos Q
def Z0 := pt.z1
def prog := hx0 Z0
def w := hx1 Z0
def A := hx2 Z0
def E := hx3 Z0
def s := hx4 Z0
def h₀ := hx5 Z0
def m := hx6 Z0
def env := hx7 Z0
def Z1 := ht Z0
def elt := hx0 Z1
def iter := hx1 Z1
def x := hx2 Z1
def y := hx3 Z1
def px := hx4 Z1
def py := hx5 Z1
def scope := hx6 Z1
def cl := hx7 Z1
def Z2 := ht Z1
def pos := hx0 Z2
def spos := hx1 Z2
def Q := hx2 Z2
theorem eq_1 : pt.Q1 prog w A E s h₀ m env elt iter x y px py scope cl pos spos Q := by
 intro L F₀ hLe hsw hclos hcell hkind hnames hx hy hp h hs
 subst hLe
 rw [exec_Assign_Name_used _ _ _ _ hsw]
 refine wpAny_bind (wpAny_standAt (wpAny_bind ?_))
 show wpAny _ A (do let _ ← comprehension (.ListComp elt [⟨.Name x px, iter, [], 0⟩] scope pos) scope env _ (newList []) false (eval iter env) (some (assign (.Name y py) env))) _ _ s
 refine wpAny_bind (wpAny_mono (wpAny_comprehension_free (use := some (assign (.Name y py) env)) (Q := fun _ s' => Q .next s') rfl hs hclos hkind hnames
  (wpAny_mono h (fun xv s₁ h₁ => ?_) fun _ _ e => e)) (fun _ s' hq => wpAny_pure (wpAny_pure hq)) fun _ _ e => e)
 obtain ⟨r, a, b, c, t, u, v, n, news, rfl, hh, F, N, hr, hsm, hn, hsz, R⟩ := h₁
 refine wpAny_pyIter_range hr hsm ?_
 refine block_U (Walks.range hh s₁.heap.objs.size a c n) hsz (fun i h st => ⟨_, st⟩) stepped hcell hkind hx (by show IsRangeIter _ _ _ _ _; rw [hn]; simpa using Heap.get?_push_size _ rfl) (fun b hb => ?_)
  (F.keeps fun _ _ e => Heap.get?_push_of_some _ e) (N.grown fun _ _ e => Heap.get?_push_of_some _ e) (Nat.ne_of_lt F.ns.lt) (next_is_new F) (fun p hp => Nat.ne_of_lt (Heap.lt_size (N p hp).1)) trivial (R _ ⟨_, rfl⟩) ?_
 ·rw [List.mem_singleton.mp hb]
  show s₁.heap.objs.size < (s₁.heap.push _).objs.size
  rw [Heap.size_push]; exact Nat.lt_succ_self _
 ·intro D C h' tk m' ys news' F' N' o1 hn hC₀ hD₀ hCL hDL hCD offC fin
  show wpAny _ A (assign (.Name y py) env (.ref D)) _ _ _
  refine wpAny_assign_Name (wpAny_storeName_local hy F'.ns (fun h₂ hn₂ hs₂ => ?_) hp)
  have hL₀ : h₀.get? env.locals = none := Heap.get?_none_of_le F'.above
  have F₂ : Fr h₀ env.locals h₂ (fun z => if z = y then some (.ref D) else m z) := ⟨hn₂, fun b o e => hs₂.extBut b o (fun q => by rw [q, hL₀] at e; cases e) (F'.keep b o e), F'.above⟩
  refine ⟨m', hn.sameBut hs₂ hCL, fun h'' hs'' => fin D h'' _ (F₂.change hs'' hCL hC₀) (fun p hp => ?_) o1⟩
  have z : h₂.get? p.1 = some p.2 := hs₂.extBut _ _ (N' p hp).2.1 (N' p hp).1
  refine ⟨hs''.extBut _ _ ?_ z, (N' p hp).2⟩
  refine m_el hp (m_all ?_ ?_)
  ·exact Ne.symm hCD
  ·intro p hp; exact offC p hp
theorem eq_2 : pt.U1 := hy @eq_1
end J28
theorem assign_block : type_of% (@Part1.h _ _ _ J28.pt J28.eq_2) := @Part1.h _ _ _ J28.pt J28.eq_2
section
end
end
theorem for_range {prog : Program} {w : World} {A : Around} {E : Value → Shared → Prop} {env : Env} {x : Str} {px : Pos} {body : List Stmt} {Q : Flow → Shared → Prop}
    {h₀ h : Heap} {g : Array GenState} {d : Drawn} {tk : Nat} {os : OsState} {m : Str → Option Value} {led : List (Addr × Obj)} {r : Addr} {a b c : Int} {t u v : Tok} {n : Nat}
    (G : Array GenState → Prop) (J : Nat → (Str → Option Value) → List (Addr × Obj) → Prop) (hE : PassesOwn (model prog w) A env E) (hh : A.handled = none)
    (hx : env.kindOf x = some .local) (hp : (env.scope.kind == .class || (env.scope.kind == .module && env.locals != env.globals)) = false)
    (hs : Builtin.Range.small a b c = true) (hz : Builtin.Range.rangeSize a b c = (n : Nat)) (F : Fr h₀ env.locals h m) (N : News h₀ env.locals h led) (hr : IsRange h r a b c t u v) (hg : G g) (h0 : J 0 m led)
    (turn : ∀ i t m led h tk g I oI, i < n → J i m led → (∀ p ∈ led, p.1 ≠ I) → G g → Fr h₀ env.locals h (fun y => if y = x then some (.int (a + i * c) t) else m y) → News h₀ env.locals h ((I, oI) :: led) →
      wpAny (model prog w) A (execs body env) (TPost h₀ env.locals G d os I oI (J (i + 1)) Q) E ⟨h, g, d, tk, os⟩)
    (done : ∀ m led h tk g, J n m led → G g → Fr h₀ env.locals h m → News h₀ env.locals h led → Q .next ⟨h, g, d, tk, os⟩) :
    wpAny (model prog w) A (pyIter (.ref r)) (fun it s₂ => FRest prog w A E env (.Name x px) it body [] Q s₂) E ⟨h, g, d, tk, os⟩ := by
  refine range_iter1 (s := ⟨h, g, d, tk, os⟩) hs F N hr fun I hI FI NI hap => ?_
  rw [hz] at NI
  have key : ∀ k i m led h tk g, n - i = k → i ≤ n → J i m led → (∀ p ∈ led, p.1 ≠ I) → G g → Fr h₀ env.locals h m → News h₀ env.locals h ((I, { cls := .type "range_iterator", data := .fields #[rawInt (a + i * c), rawInt ((n : Int) - i), rawInt c] }) :: led) →
      FRest prog w A E env (.Name x px) (.ref I) body [] Q ⟨h, g, d, tk, os⟩ := by
    intro k
    induction k with
    | zero =>
      intro i m led h tk g hk hi hJ hap hg F N
      refine frest_turn hE (range_end1 (s := ⟨h, g, d, tk, os⟩) hh (by lia) F N hap fun h' F' N' => ?_)
      have e : i = n := by lia
      exact wpAny_execs_nil (done m led h' tk g (e ▸ hJ) hg F' N')
    | succ k ih =>
      intro i m led h tk g hk hi hJ hap hg F N
      have hlt : i < n := by lia
      refine frest_turn hE (range_next1 (s := ⟨h, g, d, tk, os⟩) (by lia) F N hap fun u h' F' N' => ?_)
      refine wpAny_of_eq (a := ()) rfl ?_
      refine wpAny_assign_Name (wpAny_storeName_local hx F'.ns (fun h₂ hn₂ hs₂ => ?_) hp)
      rw [show a + (i : Int) * c + c = a + ((i + 1 : Nat) : Int) * c by rw [Int.natCast_add, Int.add_mul]; simp [Int.add_assoc], show (n : Int) - i - 1 = n - ((i + 1 : Nat) : Int) by lia] at N'
      refine wpAny_mono (turn i u m led h₂ _ g I _ hlt hJ hap hg (F'.set hn₂ hs₂) (N'.set hs₂)) (fun f s₃ h₃ => ?_) fun _ _ e => e
      have fin : TEnd h₀ env.locals G d os I { cls := .type "range_iterator", data := .fields #[rawInt (a + ((i + 1 : Nat) : Int) * c), rawInt ((n : Int) - ((i + 1 : Nat) : Int)), rawInt c] } (J (i + 1)) s₃ → FRest prog w A E env (.Name x px) (.ref I) body [] Q s₃ := by
        rintro ⟨h', tk', g', m', led', rfl, hg', F'', N'', hap', hJ'⟩
        exact ih (i + 1) m' led' h' tk' g' (by lia) hlt hJ' hap' hg' F'' N''
      cases f with
      | next => exact fin h₃
      | cont => exact fin h₃
      | brk => exact h₃
      | ret v => exact h₃
  refine key _ 0 m led hI tk g rfl (Nat.zero_le _) h0 (fun p hp => Nat.ne_of_lt (hap p hp)) hg FI (by simpa using NI)
theorem rangeSize_up {n : Nat} : Builtin.Range.rangeSize 0 (n : Int) 1 = (n : Nat) := by
 unfold Builtin.Range.rangeSize
 simp
 lia
theorem small_up {n : Nat} (h2 : n < 1000) : Builtin.Range.small 0 (n : Int) 1 = true := by
 unfold Builtin.Range.small
 rw [rangeSize_up]
 simp [Builtin.Range.rangeFitsLong]
 omega
noncomputable def giTake (pre : List (Int × Tok)) (j : Nat) : List Value := (List.range j).map fun i => (giVal pre i).getD .none
theorem giTake_succ (pre : List (Int × Tok)) (j : Nat) : giTake pre (j + 1) = giTake pre j ++ [(giVal pre j).getD .none] := by simp [giTake, List.range_succ]
theorem giTake_len (pre : List (Int × Tok)) (j : Nat) : (giTake pre j).length = j := by simp [giTake]
section
variable {prog : Program} {w : World} {A : Around} {E : Value → Shared → Prop} {s : Shared}
theorem len_any {l : Addr} {its : Array Value} {n : Nat} {Q : Value → Shared → Prop} (hl : s.heap.IsList l its) (e : its.size = n) (hz : n < 1000) (h : Q (.int n (s.toks + 1)) { s with toks := s.toks + 1 + 1 }) :
  wpAny (model prog w) A (call (.builtin "len") [.ref l]) Q E s := by
 subst e
 exact len_list hl (by omega) h
end
section
namespace J13
def pt : Part1 (aP.f.f.m.e.c.b.b.l.x.s.h.c.r.i.w.a.a.a.A.d.d.C.L.q.c.e.e.t.j) (∀ {w : World} {mean : ExcName → Option Value} {mg mb : Str → Option Value} {lr : Addr} {led : List (Addr × Obj)} {pre : List (Int × Tok)} {z : Int} {tz t4 : Tok} {rest : List Value} {nr : Nat}
  (hmr : (lr, listOf (intVs pre ++ .int z tz :: rest).toArray nr) ∈ led) (hw : ∀ p ∈ pre, p.1 ≠ 0 ∧ p.1 ≠ 127) (hzz : z = 0 ∨ z = 127) (hne : pre ≠ []) (hpl : pre.length < 4)
(dp un : Nat) (gd : Option (List Code)) (cn : Str) (cs : Scope) (a : Addr) (ccd : Value) (cl : List (Str × Addr)) (outer : List Env) (A₀ : Around) (base h₀ : Heap) (L : Addr) (m : Str → Option Value) (s : Shared) (Q E : Value → Shared → Prop)
  (B : Below A₀ base outer h₀) (F : Fr h₀ L s.heap m) (X : (hd.heap_1 w.params).In h₀) (N : News h₀ L s.heap led) (T : Top pv lv mean mg mb h₀) (hk : cs.kind = .function)
  (hdp : dp + 40 < recursionLimit) (hu : un + 320 < cLine)
  (hg : AllBare s.gens)
  (hret : ∀ (r : Addr) (n' : Nat) (h' : Heap) (tk' : Nat) (g' : Array GenState), AllBare g' → Fr h₀ L h' m → News h₀ L h' ((r, listOf (giTake pre (if z = 0 then 4 else pre.length)).toArray n') :: led) → (∀ p ∈ led, p.1 < r) → Q (.ref r) { s with heap := h', toks := tk', gens := g' }), wpAny (model theProg w) (ktrTop dp un gd cn cs L a ccd cl outer) (call (.ref 408) [.ref lr, .int 4 t4]) Q E s) := by
 apply Part1.mk
 case h => intro hS1 w mean mg mb lr led pre z tz t4 rest nr hmr hw hzz hne hpl dp un gd cn cs a ccd cl outer A₀ base h₀ L m s Q E B F X N T hk hdp hu hg hret; revert hmr hw hzz hne hpl B F X N T hk hdp hu hg hret; exact @hS1 w mean mg mb lr led pre z tz t4 rest nr dp un gd cn cs a ccd cl outer A₀ base h₀ L m s Q E
def Z0 := pt.z1
def w := hx0 Z0
def mean := hx1 Z0
def mg := hx2 Z0
def mb := hx3 Z0
def lr := hx4 Z0
def led := hx5 Z0
def pre := hx6 Z0
def z := hx7 Z0
def Z1 := ht Z0
def tz := hx0 Z1
def t4 := hx1 Z1
def rest := hx2 Z1
def nr := hx3 Z1
def dp := hx4 Z1
def un := hx5 Z1
def gd := hx6 Z1
def cn := hx7 Z1
def Z2 := ht Z1
def cs := hx0 Z2
def a := hx1 Z2
def ccd := hx2 Z2
def cl := hx3 Z2
def outer := hx4 Z2
def A₀ := hx5 Z2
def base := hx6 Z2
def h₀ := hx7 Z2
def Z3 := ht Z2
def L := hx0 Z3
def m := hx1 Z3
def s := hx2 Z3
def Q := hx3 Z3
def E := hx4 Z3
theorem eq_1 : pt.Q1 w mean mg mb lr led pre z tz t4 rest nr dp un gd cn cs a ccd cl outer A₀ base h₀ L m s Q E := by
 intro hmr hw hzz hne hpl B F X N T hk hdp hu hg hret
 k_with_none
 k_with "ne" => (refine neN ?_; (try dsimp only); first | with_reducible (first | assumption | (refine Ne.symm ?_; assumption) | exact ne_1 | exact ne_1.symm | exact ne_2 | exact ne_2.symm | exact ne_3 | exact ne_3.symm | exact ne_4 | exact ne_4.symm) | exact (by with_reducible assumption : Apt _ _) | exact Ne.symm (by with_reducible assumption : Apt _ _) | omega)
 k_with "d2" => (repeat' (first | with_reducible (first | exact m_id | exact m_nil | exact m_lid | exact m_mapl | exact m_mapl2 | refine m_cons ?_ ?_ | refine m_app ?_ ?_ | refine m_map ?_ ?_ | refine m_map1 ?_ | exact m_hd | refine m_tl ?_ | exact m_mapr rfl | refine m_tail ?_ | refine m_right ?_ | refine m_inr ?_) | exact m_hd | refine m_tl ?_))
 k_with "d3" => (first | assumption | omega | ktr_room | ktr_units | (simp only [] at *; omega))
 k_with "call ref" => (k_here; (with_reducible show wpAny _ _ (call (Value.ref 218) _) _ _ _); (refine Halt.out ?_))
 k_with "exec For Name Call cons nil" => (k_here; (refine Halt.out ?_))
 k_with "execs cons" => ((try k_fold); (refine wpAny_execs_cons ?_); (try dsimp only); (try k_fold))
 have _ := fl X
 refine wpAny_call ?_
 k_dflt (refine codeD (h := ?_); k_whole; intro m' g' L' h' tk' FG' F' N' B' X' T'; (try dsimp only); (try k_lift B'); (try k_fold))
 k_steps
 unfold Halt
 refine frest_start ?_
 k_steps
 unfold Halt
 rename_i D _ lD h1 F1 N1
 refine c_gi (.tail _ hmr) _ _ _ _ _ _ _ _ _ _ _ g' L' _ _ _ _ B' F1 (by k_asm) N1 T' rfl (by simp only [] at *; lia) hw hzz hne fun G gs h4 tk4 gled F4 N4 hap hG ok hb => ?_
 have F5 := Fr.same F4 (m' := (fun z => if z = Str.ofString "size" then none else if z = Str.ofString "sizes" then some (.ref D) else if z = Str.ofString "many" then some (.int 4 t4) else if z = Str.ofString "ruler" then some (.ref lr) else none)) (by refine frk (ks := [Str.ofString "size", Str.ofString "sizes", Str.ofString "many", Str.ofString "ruler"]) ?_ ?_ ?_; (focus (repeat (first | with_reducible exact supp_none | with_reducible refine supp_ite (by kernel_rfl) ?_ | with_reducible exact supp_look (by kernel_rfl)))); (focus (repeat (first | with_reducible exact supp_none | with_reducible refine supp_ite (by kernel_rfl) ?_ | with_reducible exact supp_look (by kernel_rfl)))); kernel_rfl)
 refine for_gi (fun j m led' => ∃ (nS : Nat) (u1 : Option Value), j < 4 ∧ led' = (D, listOf (giTake pre j).toArray nS) :: led ∧ m = (fun z => if z = Str.ofString "size" then u1 else if z = Str.ofString "sizes" then some (.ref D) else if z = Str.ofString "many" then some (.int 4 t4) else if z = Str.ofString "ruler" then some (.ref lr) else none))
  (by passes_own) rfl (show dp + 1 < recursionLimit by lia) T'.nolimit (by rfl) (by rfl) F5 N4 hap ⟨_, .tail _ hmr⟩ (hg.push hb) (by simp) hG ok ⟨0, none, by decide, rfl, rfl⟩ ?_ ?_ ?_ ?_
 ·rintro j m' led' ⟨nS, u1, hj, -, -⟩
  lia
 ·rintro j m' led' h ⟨nS, u1, hj, rfl, rfl⟩ F6 N6
  exact N6.isList (.tail _ hmr)
 ·rintro j v m' led' gled' h tk' g hv hc ⟨nS, u1, hj, rfl, rfl⟩ hap' hg' F6 N6
  have F7 := Fr.same F6 (m' := (fun z => if z = Str.ofString "size" then some (v) else if z = Str.ofString "sizes" then some (.ref D) else if z = Str.ofString "many" then some (.int 4 t4) else if z = Str.ofString "ruler" then some (.ref lr) else none)) (by
   intro z
   revert z; refine frk (ks := [Str.ofString "size", Str.ofString "sizes", Str.ofString "many", Str.ofString "ruler"]) ?_ ?_ ?_; (focus (repeat (first | with_reducible exact supp_none | with_reducible refine supp_ite (by kernel_rfl) ?_ | with_reducible exact supp_look (by kernel_rfl)))); (focus (repeat (first | with_reducible exact supp_none | with_reducible refine supp_ite (by kernel_rfl) ?_ | with_reducible exact supp_look (by kernel_rfl)))); kernel_rfl)
  clear F6
  have hlen := giTake_len pre j
  k_steps
  have hap2 : ∀ p ∈ led ++ gled', p.1 ≠ D := fun p hp => (List.mem_append.mp hp).elim (fun hp => Nat.ne_of_lt (lD p hp)) fun hp => (hap' (D, _) (.head _) p hp).symm
  refine append_K F7 N6 (.head hap2) (fun h8 F8 N8 => ?_) (by simp [sizeLine, hlen]; lia)
  have hes : (giTake pre j).toArray.push v = (giTake pre (j + 1)).toArray := by
   rw [giTake_succ, ← hv]
   simp
  rw [hes] at N8
  have hlen2 := giTake_len pre (j + 1)
  clear F7 N6
  k_steps
  refine len_any (N8.isList (.head _)) (n := j + 1) (by simp [hlen2]) (by lia) ?_
  k_steps
  ·have h4 : ((j + 1 : Nat) : Int) = 4 := by assumption
   obtain rfl : j = 3 := by lia
   have hz0 : z = 0 := hc.resolve_left (by lia)
   unfold GPost
   dsimp only
   k_steps
   rename_i kF kN _ _
   rw [if_pos hz0] at hret
   exact hret D _ _ _ _ hg' kF (fun p hp => kN p (by
    refine m_el hp (m_all ?_ ?_)
    ·exact .head _
    ·intro p hp; exact .tail _ (List.mem_append_left _ hp))) lD
  ·have h4 : ((j + 1 : Nat) : Int) ≠ 4 := by assumption
   refine gpost_next (led' := (D, listOf (giTake pre (j + 1)).toArray (nS + 1)) :: led) F8 N8 ?_ ⟨nS + 1, some v, by lia, rfl, ?_⟩
   ·intro p hp q hq
    refine m_el hp (m_all ?_ ?_)
    ·exact hap' (D, _) (.head _) q hq
    ·intro p hp; exact hap' p (.tail _ hp) q hq
   ·rfl
 ·rintro m' led' h tk' g ⟨nS, u1, hj, rfl, rfl⟩ hz hg' F6 N6
  dsimp only
  k_steps
  rename_i kF kN _ _
  rw [if_neg hz] at hret
  exact hret D _ _ _ _ hg' kF kN lD
theorem eq_2 : pt.U1 := hy @eq_1
end J13
theorem c_sizes : type_of% (@Part1.h _ _ _ J13.pt J13.eq_2) := @Part1.h _ _ _ J13.pt J13.eq_2
end
noncomputable def cnt (t : Nat) (l : List Nat) : Nat := l.countP fun x => decide (t < x)
theorem cnt_le (t : Nat) (l : List Nat) : cnt t l ≤ l.length := List.countP_le_length
theorem cnt_cons (t a : Nat) (l : List Nat) : cnt t (a :: l) = (if t < a then 1 else 0) + cnt t l := by
 unfold cnt
 rw [List.countP_cons]
 simp only [decide_eq_true_eq]
 lia
theorem cnt_append (t : Nat) (l r : List Nat) : cnt t (l ++ r) = cnt t l + cnt t r := by
 unfold cnt
 exact List.countP_append
theorem cnt_perm {t : Nat} {l r : List Nat} (h : l.Perm r) : cnt t l = cnt t r := h.countP_eq _
theorem sorted_above {t : Nat} : ∀ {l : List Nat} {i v : Nat}, l.Pairwise (· ≤ ·) → l[i]? = some v → (t < v ↔ l.length ≤ i + cnt t l)
 | [], _, _, _, h => by simp at h
 | a :: r, i, v, hs, h => by
  rw [List.pairwise_cons] at hs
  rw [cnt_cons, List.length_cons]
  by_cases ha : t < a
  ·have hall : cnt t r = r.length := by
    unfold cnt
    rw [List.countP_eq_length]
    intro b hb
    exact decide_eq_true (Nat.lt_of_lt_of_le ha (hs.1 b hb))
   have hv : t < v := by
    cases i with
    | zero => simp at h; lia
    | succ i =>
     simp at h
     exact Nat.lt_of_lt_of_le ha (hs.1 v (List.mem_of_getElem? h))
   simp only [if_pos ha, hall]
   lia
  ·have hle := cnt_le t r
   rw [if_neg ha]
   cases i with
   | zero => simp at h; lia
   | succ i =>
    simp at h
    have := sorted_above (t := t) hs.2 h
    lia
noncomputable def colRec (w j : Nat) : Nat → List Nat → List Nat
 | 0, _ => []
 | n + 1, x => x[j]?.toList ++ colRec w j n (x.drop w)
noncomputable def newC (w : Nat) : Bool → List Nat → Nat → Nat
 | _, [], _ => 0
 | b, k :: r, j => (if (if b = true then j + 1 ≤ k else w ≤ k + j) then 1 else 0) + newC w (!b) r j
noncomputable def chunkC (w t : Nat) : Nat → List Nat → List Nat
 | 0, _ => []
 | n + 1, x => cnt t (x.take w) :: chunkC w t n (x.drop w)
inductive FroN (w : Nat) : Bool → List Nat → List Nat → Prop
 | nil (b : Bool) : FroN w b [] []
 | cons {b : Bool} {x line rest : List Nat} : x ≠ [] → line.Perm (x.take w) → line.Pairwise (· ≤ ·) → FroN w (!b) (x.drop w) rest → FroN w b x ((if b then line.reverse else line) ++ rest)
theorem fro_fron {w : Nat} {b : Bool} {ps qs : Row} (h : FroRel w b ps qs) : FroN w b (ps.map (·.1)) (qs.map (·.1)) := by
 induction h with
 | nil b => exact .nil b
 | @cons b ps line rest hne hp hs _ ih =>
  have e : ((if b then line.reverse else line) ++ rest).map (·.1) = (if b then (line.map (·.1)).reverse else line.map (·.1)) ++ rest.map (·.1) := by
   cases b <;> simp
  rw [e]
  refine .cons (by simpa using hne) ?_ ?_ ?_
  ·rw [← List.map_take]
   exact hp.map _
  ·exact List.Pairwise.map _ (fun a b h => h) hs
  ·rw [← List.map_drop]
   exact ih
theorem fro_perm {w : Nat} {b : Bool} {x y : List Nat} (h : FroN w b x y) : y.Perm x := by
 induction h with
 | nil b => exact .nil
 | @cons b x line rest hne hp hs _ ih =>
  have h1 : (if b then line.reverse else line).Perm (x.take w) := by
   cases b
   ·exact hp
   ·exact (List.reverse_perm line).trans hp
  exact (h1.append ih).trans (by rw [List.take_append_drop])
theorem line_len {w n : Nat} {x line : List Nat} (hp : line.Perm (x.take w)) (hx : x.length = w * (n + 1)) : line.length = w := by
 rw [hp.length_eq, List.length_take, hx, Nat.mul_succ]
 lia
theorem row_phase {w t j : Nat} (hw : 0 < w) (hj : j < w) {b : Bool} {x y : List Nat} (h : FroN w b x y) : ∀ n, x.length = w * n → cnt t (colRec w j n y) = newC w b (chunkC w t n x) j := by
 induction h with
 | nil b =>
  intro n hn
  cases n with
  | zero => rfl
  | succ n => simp [Nat.mul_succ] at hn; omega
 | @cons b x line rest hne hp hs _ ih =>
  intro n hn
  cases n with
  | zero => exact absurd (List.eq_nil_of_length_eq_zero (by simpa using hn)) hne
  | succ n =>
   have hll := line_len hp hn
   have hlen : (if b then line.reverse else line).length = w := by cases b <;> simpa using hll
   have hdrop : ((if b then line.reverse else line) ++ rest).drop w = rest := by
    rw [← hlen]; exact List.drop_left
   have ihn := ih n (by rw [List.length_drop, hn, Nat.mul_succ]; omega)
   show cnt t (((if b then line.reverse else line) ++ rest)[j]?.toList ++ colRec w j n (((if b then line.reverse else line) ++ rest).drop w)) = _
   rw [hdrop, cnt_append, ihn]
   show _ = (if (if b = true then j + 1 ≤ cnt t (x.take w) else w ≤ cnt t (x.take w) + j) then 1 else 0) + newC w (!b) (chunkC w t n (x.drop w)) j
   rw [List.getElem?_append_left (by omega), ← cnt_perm (t := t) hp]
   congr 1
   have hcl := cnt_le t line
   cases b with
   | false =>
    simp only [Bool.false_eq_true, if_false]
    obtain ⟨v, hv⟩ : ∃ v, line[j]? = some v := ⟨line[j], List.getElem?_eq_getElem (by omega)⟩
    have hs' := sorted_above (t := t) hs hv
    rw [hv]
    show cnt t [v] = _
    rw [cnt_cons]
    show (if t < v then 1 else 0) + 0 = _
    by_cases h1 : t < v
    ·rw [if_pos h1, if_pos (by omega)]
    ·rw [if_neg h1, if_neg (by omega)]
   | true =>
    simp only [if_true]
    have hb : line.reverse[j]? = line[w - 1 - j]? := by
     rw [List.getElem?_reverse (by omega), hll]
    rw [hb]
    obtain ⟨v, hv⟩ : ∃ v, line[w - 1 - j]? = some v := ⟨line[w - 1 - j], List.getElem?_eq_getElem (by omega)⟩
    have hs' := sorted_above (t := t) hs hv
    rw [hv]
    show cnt t [v] = _
    rw [cnt_cons]
    show (if t < v then 1 else 0) + 0 = _
    by_cases h1 : t < v
    ·rw [if_pos h1, if_pos (by omega)]
    ·rw [if_neg h1, if_neg (by omega)]
theorem col_len {w j : Nat} (hj : j < w) : ∀ n (x : List Nat), x.length = w * n → (colRec w j n x).length = n
 | 0, _, _ => rfl
 | n + 1, x, hx => by
  have := col_len hj n (x.drop w) (by rw [List.length_drop, hx, Nat.mul_succ]; lia)
  show (x[j]?.toList ++ colRec w j n (x.drop w)).length = _
  rw [List.length_append, this, List.getElem?_eq_getElem (by rw [hx, Nat.mul_succ]; lia)]
  simp; lia
theorem chunk_len (w t : Nat) : ∀ n (x : List Nat), (chunkC w t n x).length = n
 | 0, _ => rfl
 | n + 1, x => by simp [chunkC, chunk_len w t n]
theorem chunk_get (w t : Nat) : ∀ n (x : List Nat) i, i < n → (chunkC w t n x)[i]? = some (cnt t ((x.drop (i * w)).take w))
 | 0, _, _, h => absurd h (Nat.not_lt_zero _)
 | n + 1, x, 0, _ => by simp [chunkC]
 | n + 1, x, i + 1, h => by
  show (chunkC w t n (x.drop w))[i]? = _
  rw [chunk_get w t n (x.drop w) i (by lia), List.drop_drop]
  congr 4
  rw [Nat.succ_mul]; lia
theorem newC_half (w : Nat) : ∀ (n : Nat) (b : Bool) (ks : List Nat), ks.length ≤ n → ∀ j j', j < w → j' < w → newC w b ks j ≤ newC w b ks j' + (ks.length + 1) / 2 := by
 intro n
 induction n using Nat.strongRecOn with
 | _ n ih =>
  intro b ks hk j j' hj hj'
  match ks, hk with
  | [], _ => simp [newC]
  | [k], _ =>
   simp only [newC, List.length_cons, List.length_nil]
   split <;> split <;> lia
  | k :: l :: r, hk =>
   simp only [List.length_cons] at hk ⊢
   have := ih (n - 2) (by lia) (!!b) r (by lia) j j' hj hj'
   simp only [newC]
   cases b <;> simp only [Bool.not_true, Bool.not_false, Bool.false_eq_true, if_true, if_false] at this ⊢ <;> (repeat' split) <;> lia
theorem newC_append (w : Nat) : ∀ (b : Bool) (xs ys : List Nat), ∃ b', ∀ j, newC w b (xs ++ ys) j = newC w b xs j + newC w b' ys j
 | b, [], ys => ⟨b, fun j => by simp [newC]⟩
 | b, k :: r, ys => by
  obtain ⟨b', h⟩ := newC_append w (!b) r ys
  refine ⟨b', fun j => ?_⟩
  show _ + newC w (!b) (r ++ ys) j = (_ + newC w (!b) r j) + _
  rw [h, Nat.add_assoc]
theorem newC_zero {w j : Nat} (hj : j < w) : ∀ (b : Bool) (ks : List Nat), (∀ k ∈ ks, k = 0) → newC w b ks j = 0
 | b, [], _ => rfl
 | b, k :: r, h => by
  show _ + newC w (!b) r j = 0
  rw [newC_zero hj (!b) r fun k hk => h k (.tail _ hk), h k (.head _), if_neg]
  cases b <;> simp <;> omega
theorem newC_full {w j : Nat} (hj : j < w) : ∀ (b : Bool) (ks : List Nat), (∀ k ∈ ks, k = w) → newC w b ks j = ks.length
 | b, [], _ => rfl
 | b, k :: r, h => by
  show _ + newC w (!b) r j = _
  rw [newC_full hj (!b) r fun k hk => h k (.tail _ hk), h k (.head _), if_pos]
  ·simp; lia
  ·cases b <;> simp <;> lia
theorem newC_band {w a c : Nat} {b : Bool} {ks : List Nat} (h0 : ∀ i k, ks[i]? = some k → i < a → k = 0) (h1 : ∀ i k, ks[i]? = some k → a + c ≤ i → k = w) {j j' : Nat} (hj : j < w) (hj' : j' < w) :
  newC w b ks j ≤ newC w b ks j' + (c + 1) / 2 := by
 have e : ks = ks.take a ++ ((ks.drop a).take c ++ (ks.drop a).drop c) := by
  rw [List.take_append_drop, List.take_append_drop]
 obtain ⟨b1, e1⟩ := newC_append w b (ks.take a) ((ks.drop a).take c ++ (ks.drop a).drop c)
 obtain ⟨b2, e2⟩ := newC_append w b1 ((ks.drop a).take c) ((ks.drop a).drop c)
 have z : ∀ k ∈ ks.take a, k = 0 := fun k hk => by
  obtain ⟨i, hi⟩ := List.mem_iff_getElem?.mp hk
  rw [List.getElem?_take] at hi
  split at hi
  ·rename_i hlt; exact h0 i k hi hlt
  ·cases hi
 have f : ∀ k ∈ (ks.drop a).drop c, k = w := fun k hk => by
  obtain ⟨i, hi⟩ := List.mem_iff_getElem?.mp hk
  rw [List.getElem?_drop, List.getElem?_drop] at hi
  exact h1 _ k hi (by lia)
 have half := newC_half w _ b1 ((ks.drop a).take c) (Nat.le_refl _) j j' hj hj'
 have hl : ((ks.drop a).take c).length ≤ c := by rw [List.length_take]; lia
 rw [e, e1, e1, e2, e2, newC_zero hj _ _ z, newC_zero hj' _ _ z, newC_full hj _ _ f, newC_full hj' _ _ f]
 have : (((ks.drop a).take c).length + 1) / 2 ≤ (c + 1) / 2 := Nat.div_le_div_right (by lia)
 lia
theorem cut_free {c : Nat} : ∀ {a b r r' : List Nat}, c ∉ a → c ∉ b → a ++ c :: r = b ++ c :: r' → a = b ∧ r = r'
 | [], [], r, r', _, _, h => ⟨rfl, by simpa using h⟩
 | [], y :: b, r, r', _, hb, h => by
  simp at h
  exact absurd (by rw [h.1]; exact .head _) hb
 | x :: a, [], r, r', ha, _, h => by
  simp at h
  exact absurd (by rw [← h.1]; exact .head _) ha
 | x :: a, y :: b, r, r', ha, hb, h => by
  simp only [List.cons_append, List.cons.injEq] at h
  obtain ⟨h1, h2⟩ := cut_free (fun q => ha (.tail _ q)) (fun q => hb (.tail _ q)) h.2
  exact ⟨by rw [h.1, h1], h2⟩
theorem cps_add (x y : Str) : (x ++ y).cps.toList = x.cps.toList ++ y.cps.toList := by
 rw [Str.cps_append, Array.toList_append]
theorem join_two (c : Nat) (y z : Str) (r : List Str) : (Txt.join ⟨#[c]⟩ (y :: z :: r)).cps.toList = y.cps.toList ++ c :: (Txt.join ⟨#[c]⟩ (z :: r)).cps.toList := by
 rw [txt_cons, cps_add, cps_add, List.append_assoc]
 rfl
theorem join_free {c : Nat} : ∀ {as bs : List Str}, as ≠ [] → bs ≠ [] → (∀ p ∈ as, c ∉ p.cps.toList) → (∀ p ∈ bs, c ∉ p.cps.toList) → Txt.join ⟨#[c]⟩ as = Txt.join ⟨#[c]⟩ bs → as = bs
 | [], _, h, _, _, _, _ => absurd rfl h
 | _, [], _, h, _, _, _ => absurd rfl h
 | [x], [y], _, _, _, _, h => by
  have h : x ++ Str.ofString "" = y ++ Str.ofString "" ∨ x = y := .inr h
  rcases h with h | h
  ·have := congrArg (fun z => z.cps.toList) h
   simp only [cps_add] at this
   rw [show x = y from Str.ext' (Array.toList_inj.mp (by simpa using this))]
  ·rw [h]
 | [x], y :: z :: r, _, _, ha, _, h => by
  have h1 : x = Txt.join ⟨#[c]⟩ (y :: z :: r) := h
  have h2 := join_two c y z r
  rw [← h1] at h2
  exact absurd (by rw [h2]; simp) (ha x (.head _))
 | x :: z :: r, [y], _, _, _, hb, h => by
  have h1 : Txt.join ⟨#[c]⟩ (x :: z :: r) = y := h
  have h2 := join_two c x z r
  rw [h1] at h2
  exact absurd (by rw [h2]; simp) (hb y (.head _))
 | x :: z :: r, y :: z' :: r', _, _, ha, hb, h => by
  have h1 := congrArg (fun q => q.cps.toList) h
  simp only [join_two] at h1
  obtain ⟨e1, e2⟩ := cut_free (ha x (.head _)) (hb y (.head _)) h1
  have e3 := join_free (as := z :: r) (bs := z' :: r') (by simp) (by simp) (fun p hp => ha p (.tail _ hp)) (fun p hp => hb p (.tail _ hp)) (Str.ext' (Array.toList_inj.mp e2))
  rw [Str.ext' (Array.toList_inj.mp e1), e3]
theorem split_ne (x y : Str) : Txt.split x y ≠ [] := by
 unfold Txt.split
 split
 ·simp
 ·split
  ·simp
  ·rw [StrLaws.partsBetween_eq]
   obtain ⟨p, q, e⟩ := StrLaws.partsFrom_ne x y.length 0 (Builtin.Str.occurrences x y 0 x.length (x.length + 1))
   rw [e]
   simp
theorem split_join {c : Nat} {as : List Str} (hne : as ≠ []) (h : ∀ p ∈ as, c ∉ p.cps.toList) : Txt.split (Txt.join ⟨#[c]⟩ as) ⟨#[c]⟩ = as :=
 join_free (split_ne _ _) hne (StrLaws.split_free _ c) h (by
  have := StrLaws.join_split (Txt.join ⟨#[c]⟩ as) ⟨#[c]⟩
  rw [← StrLaws.glued_eq_join] at this
  exact this)
noncomputable def rowL (r : List Nat) : Str := Txt.join (Str.ofString " ") (r.map one)
theorem rowL_split {r : List Nat} (hne : r ≠ []) (hl : ∀ v ∈ r, v ≠ 32) : Txt.split (rowL r) (Str.ofString " ") = r.map one := by
 refine split_join (c := 32) (by simpa using hne) fun p hp => ?_
 obtain ⟨v, hv, rfl⟩ := List.mem_map.mp hp
 show 32 ∉ [v]
 have := hl v hv
 simp
 lia
theorem not_blank {a : Nat} (h : a ≠ 32) (r : List Nat) : ¬ (⟨#[a]⟩ : Str) = Str.ofString " " := fun e => h (by
 have h2 : [a] = [32] := congrArg (fun z : Str => z.cps.toList) e
 simpa using h2)
theorem strip_two {q0 : Str} (hq : q0 = Str.ofString "" ∨ q0 = Str.ofString " ") {a b : Nat} (ha : a ≠ 32) (hb : b ≠ 32) :
  (1 ≤ (q0 ++ rowL [a, b]).length ∧ (q0 ++ rowL [a, b]).length < 1000 ∧ (Txt.item (q0 ++ rowL [a, b]) 0 = Str.ofString " " ∨ Txt.item (q0 ++ rowL [a, b]) ((q0 ++ rowL [a, b]).length - 1) ≠ Str.ofString " ")) ∧
  Txt.slice (q0 ++ rowL [a, b]) (some (if Txt.item (q0 ++ rowL [a, b]) 0 = Str.ofString " " then 1 else 0)) (some (q0 ++ rowL [a, b]).length) = rowL [a, b] := by
 rcases hq with rfl | rfl
 ·have e : Txt.item (Str.ofString "" ++ rowL [a, b]) 0 = ⟨#[a]⟩ := by kernel_rfl
  have e2 : Txt.item (Str.ofString "" ++ rowL [a, b]) (((Str.ofString "" ++ rowL [a, b]).length : Int) - 1) = ⟨#[b]⟩ := by kernel_rfl
  have e3 : (Str.ofString "" ++ rowL [a, b]).length = 3 := by kernel_rfl
  refine ⟨⟨by lia, by lia, .inr ?_⟩, ?_⟩
  ·rw [e2]; exact not_blank hb []
  ·rw [e, if_neg (not_blank ha []), e3]
   kernel_rfl
 ·have e : Txt.item (Str.ofString " " ++ rowL [a, b]) 0 = Str.ofString " " := by kernel_rfl
  have e3 : (Str.ofString " " ++ rowL [a, b]).length = 4 := by kernel_rfl
  refine ⟨⟨by lia, by lia, .inl e⟩, ?_⟩
  rw [e, if_pos rfl, e3]
  kernel_rfl
theorem strip_three {q0 : Str} (hq : q0 = Str.ofString "" ∨ q0 = Str.ofString " ") {a b c : Nat} (ha : a ≠ 32) (hb : c ≠ 32) :
  (1 ≤ (q0 ++ rowL [a, b, c]).length ∧ (q0 ++ rowL [a, b, c]).length < 1000 ∧ (Txt.item (q0 ++ rowL [a, b, c]) 0 = Str.ofString " " ∨ Txt.item (q0 ++ rowL [a, b, c]) ((q0 ++ rowL [a, b, c]).length - 1) ≠ Str.ofString " ")) ∧
  Txt.slice (q0 ++ rowL [a, b, c]) (some (if Txt.item (q0 ++ rowL [a, b, c]) 0 = Str.ofString " " then 1 else 0)) (some (q0 ++ rowL [a, b, c]).length) = rowL [a, b, c] := by
 rcases hq with rfl | rfl
 ·have e : Txt.item (Str.ofString "" ++ rowL [a, b, c]) 0 = ⟨#[a]⟩ := by kernel_rfl
  have e2 : Txt.item (Str.ofString "" ++ rowL [a, b, c]) (((Str.ofString "" ++ rowL [a, b, c]).length : Int) - 1) = ⟨#[c]⟩ := by kernel_rfl
  have e3 : (Str.ofString "" ++ rowL [a, b, c]).length = 5 := by kernel_rfl
  refine ⟨⟨by lia, by lia, .inr ?_⟩, ?_⟩
  ·rw [e2]; exact not_blank hb []
  ·rw [e, if_neg (not_blank ha []), e3]
   kernel_rfl
 ·have e : Txt.item (Str.ofString " " ++ rowL [a, b, c]) 0 = Str.ofString " " := by kernel_rfl
  have e3 : (Str.ofString " " ++ rowL [a, b, c]).length = 6 := by kernel_rfl
  refine ⟨⟨by lia, by lia, .inl e⟩, ?_⟩
  rw [e, if_pos rfl, e3]
  kernel_rfl
theorem strip_row {q0 : Str} (hq : q0 = Str.ofString "" ∨ q0 = Str.ofString " ") {r : List Nat} (hr : r.length = 2 ∨ r.length = 3) (hl : ∀ v ∈ r, v ≠ 32) :
  (1 ≤ (q0 ++ rowL r).length ∧ (q0 ++ rowL r).length < 1000 ∧ (Txt.item (q0 ++ rowL r) 0 = Str.ofString " " ∨ Txt.item (q0 ++ rowL r) ((q0 ++ rowL r).length - 1) ≠ Str.ofString " ")) ∧
  Txt.slice (q0 ++ rowL r) (some (if Txt.item (q0 ++ rowL r) 0 = Str.ofString " " then 1 else 0)) (some (q0 ++ rowL r).length) = rowL r := by
 rcases hr with hr | hr
 ·match r, hr with
  | [a, b], _ => exact strip_two hq (hl a (by simp)) (hl b (by simp))
 ·match r, hr with
  | [a, b, c], _ => exact strip_three hq (hl a (by simp)) (hl c (by simp))
section
theorem c_strip {w : World} {mean : ExcName → Option Value} {mg mb : Str → Option Value} {led : List (Addr × Obj)} {x : Str} {tx ta : Tok} (h0 : 1 ≤ x.length) (h1 : x.length < 1000) (hsp : Txt.item x 0 = Str.ofString " " ∨ Txt.item x (x.length - 1) ≠ Str.ofString " ")
(dp un : Nat) (gd : Option (List Code)) (cn : Str) (cs : Scope) (a : Addr) (ccd : Value) (cl : List (Str × Addr)) (outer : List Env) (A₀ : Around) (base h₀ : Heap) (L : Addr) (m : Str → Option Value) (s : Shared) (Q E : Value → Shared → Prop)
  (B : Below A₀ base outer h₀) (F : Fr h₀ L s.heap m) (X : (hd.heap_1 w.params).In h₀) (N : News h₀ L s.heap led) (T : Top pv lv mean mg mb h₀) (hk : cs.kind = .function)
  (hdp : dp + 60 < recursionLimit) (hu : un + 560 < cLine)
  (hret : ∀ (t : Tok) (h' : Heap) (tk' : Nat), Fr h₀ L h' m → News h₀ L h' led → Q (.str (Txt.slice x (some (if Txt.item x 0 = Str.ofString " " then 1 else 0)) (some x.length)) t) { s with heap := h', toks := tk' }) :
  wpAny (model theProg w) (ktrTop dp un gd cn cs L a ccd cl outer) (call (.ref 225) [.str x tx, .int 1 ta]) Q E s := by
 k_with_none
 k_with "ne" => (refine neN ?_; (try dsimp only); first | with_reducible (first | assumption | (refine Ne.symm ?_; assumption) | exact ne_1 | exact ne_1.symm | exact ne_2 | exact ne_2.symm | exact ne_3 | exact ne_3.symm | exact ne_4 | exact ne_4.symm) | exact (by with_reducible assumption : Apt _ _) | exact Ne.symm (by with_reducible assumption : Apt _ _) | omega)
 k_with "d2" => (repeat' (first | with_reducible (first | exact m_id | exact m_nil | exact m_lid | exact m_mapl | exact m_mapl2 | refine m_cons ?_ ?_ | refine m_app ?_ ?_ | refine m_map ?_ ?_ | refine m_map1 ?_ | exact m_hd | refine m_tl ?_ | exact m_mapr rfl | refine m_tail ?_ | refine m_right ?_ | refine m_inr ?_) | exact m_hd | refine m_tl ?_))
 k_with "d3" => (first | assumption | omega | ktr_room | ktr_units | (simp only [] at *; omega))
 k_with "exec While" => (k_here; (refine Halt.out ?_))
 k_with "exec While BoolOp" => (k_here; (refine Halt.out ?_))
 have _ := fl X
 refine wpAny_call ?_
 k_dflt (refine codeD (h := ?_); k_whole; intro m' g' L' h' tk' FG' F' N' B' X' T'; (try dsimp only); (try k_lift B'); (try k_fold))
 k_steps
 unfold Halt
 refine whl_start 0 ?_
 refine whl_turn (k := 0) (by passes_own) ?_
 k_steps
 ·exact 0
 ·have h5 : (Txt.item x 0 == Str.ofString " ") = true := by assumption
  have e5 : Txt.item x 0 = Str.ofString " " := eq_of_beq h5
  unfold Halt
  refine whl_start 0 ?_
  refine whl_turn (k := 0) (by passes_own) ?_
  k_steps
  rename_i kF kN _ _
  have e : Txt.slice x (some (if Txt.item x 0 = Str.ofString " " then 1 else 0)) (some x.length) = Txt.slice x (some (0 + 1)) (some ((x.length : Int) - 1 + 1)) := by rw [if_pos e5, show (x.length : Int) - 1 + 1 = x.length by lia]; rfl
  rw [← e]
  exact hret _ _ _ kF kN
 ·rename_i h5 _ _ _ _
  have e5 : Txt.item x 0 ≠ Str.ofString " " := fun e => absurd (beq_iff_eq.mpr e) (by rw [h5]; decide)
  have e6 := hsp.resolve_left e5
  unfold Halt
  refine whl_start 0 ?_
  refine whl_turn (k := 0) (by passes_own) ?_
  k_steps
  ·exact 0
  ·have h7 : (Txt.item x ((x.length : Int) - 1) == Str.ofString " ") = true := by assumption
   exact absurd (eq_of_beq h7) e6
  ·rename_i kF kN _ _
   have e : Txt.slice x (some (if Txt.item x 0 = Str.ofString " " then 1 else 0)) (some x.length) = Txt.slice x (some (0)) (some ((x.length : Int) - 1 + 1)) := by rw [if_neg e5, show (x.length : Int) - 1 + 1 = x.length by lia]
   rw [← e]
   exact hret _ _ _ kF kN
end
theorem parts_len (x : Str) (w : Nat) : ∀ (cuts : List Nat) (a : Nat), (StrLaws.partsFrom x w a cuts).length = cuts.length + 1
 | [], _ => rfl
 | c :: r, a => by
  show (StrLaws.partsFrom x w (c + w) r).length + 1 = _
  rw [parts_len x w r (c + w)]
  rfl
section
variable {prog : Program} {w : World} {A : Around} {E : Value → Shared → Prop} {s : Shared} {h₀ : Heap} {L : Addr} {m : Str → Option Value} {news : List (Addr × Obj)}
theorem split_txt {x y : Str} {t u : Tok} {Q : Value → Shared → Prop} (F : Fr h₀ L s.heap m) (N : News h₀ L s.heap news) (hy : (y.length == 0) = false) (hx : x.length ≤ 5000)
  (h : ∀ (D : Addr) (l : List (Str × Tok)) (h' : Heap) (tk' : Nat), l.map (·.1) = Txt.split x y → (∀ p ∈ news, p.1 < D) → Fr h₀ L h' m → News h₀ L h' ((D, listOf (strValues l).toArray 0) :: news) → Q (.ref D) { s with heap := h', toks := tk' }) :
  wpAny (model prog w) A (call (.builtin "str.split") [.str x t, .str y u]) Q E s := by
 have hL : L < s.heap.objs.size := F.ns.lt
 have done : ∀ (l : List (Str × Tok)) (tk' : Nat), l.map (·.1) = Txt.split x y → Q (.ref s.heap.objs.size) { s with heap := s.heap.push (listOf (strValues l).toArray 0), toks := tk' } := fun l tk' e =>
  h _ l _ tk' e (fun p hp => Heap.lt_size (N p hp).1) (F.kept fun _ _ e => Heap.get?_push_of_some _ e)
   (N.kept_cons F (fun _ _ e => Heap.get?_push_of_some _ e) (Nat.le_refl _) (Heap.get?_push_size _ rfl))
 have hsz : x.length ≤ sizeLine := by simp [sizeLine]; lia
 have hsz2 : (Builtin.Str.partsBetween x (Builtin.Str.occurrences x y 0 x.length (x.length + 1)) y.length).length ≤ sizeLine := by
  rw [StrLaws.partsBetween_eq, parts_len]
  have := StrLaws.occ_length_le x y 0 x.length (x.length + 1)
  simp [sizeLine]
  lia
 cases h1 : (decide (x.length < y.length) || decide (Builtin.Str.strKind x < Builtin.Str.strKind y))
 ·cases hf : (Builtin.Str.occurrences x y 0 x.length (x.length + 1)).isEmpty
  ·refine call_meets PySem.F.slot_str_split (typeIs_str _ _ _) PySem.F.entry_str_split (PySem.F.args_str_split_2 _ _) (meets_str_split_sep x y t u h1 hy hf hsz hsz2) ?_
   show wants Q E _ { s with toks := _, heap := s.heap.push { cls := .type "list", data := .seq (strsFrom s.toks (Builtin.Str.partsBetween x (Builtin.Str.occurrences x y 0 x.length (x.length + 1)) y.length)).toArray } }
   rw [strsFrom_eq]
   exact done (numbered s.toks _) _ ((numbered_texts _ _).trans ((if_neg (ne_true_of_eq_false h1)).trans (if_neg (ne_true_of_eq_false hf))).symm)
  ·exact call_meets PySem.F.slot_str_split (typeIs_str _ _ _) PySem.F.entry_str_split (PySem.F.args_str_split_2 _ _) (meets_str_split_not_found x y t u h1 hy hf)
    (done [(x, t)] s.toks ((if_neg (ne_true_of_eq_false h1)).trans (if_pos hf)).symm)
 ·exact call_meets PySem.F.slot_str_split (typeIs_str _ _ _) PySem.F.entry_str_split (PySem.F.args_str_split_2 _ _) (meets_str_split_cannot_occur x y t u h1)
   (done [(x, t)] s.toks (if_pos h1).symm)
end
theorem join_mem {sep : Str} {d : Nat} : ∀ {l : List Str}, d ∈ (Txt.join sep l).cps.toList → d ∈ sep.cps.toList ∨ ∃ x ∈ l, d ∈ x.cps.toList
 | [], h => by
  have h : d ∈ ([] : List Nat) := h
  cases h
 | [x], h => .inr ⟨x, .head _, by
  have h : d ∈ (Txt.join sep [x]).cps.toList := h
  have e : Txt.join sep [x] = x := rfl
  rw [e] at h
  exact h⟩
 | x :: y :: r, h => by
  rw [txt_cons, cps_add, cps_add] at h
  rcases List.mem_append.mp h with h | h
  ·rcases List.mem_append.mp h with h | h
   ·exact .inr ⟨x, .head _, h⟩
   ·exact .inl h
  ·rcases join_mem h with h | ⟨z, hz, h⟩
   ·exact .inl h
   ·exact .inr ⟨z, .tail _ hz, h⟩
theorem line_free {q0 : Str} (hq : q0 = Str.ofString "" ∨ q0 = Str.ofString " ") {wd i : Nat} {cs : List Nat} (hl : ∀ v ∈ cs, isLet v = true) : 10 ∉ (lineT q0 wd i cs).cps.toList := fun h => by
 unfold lineT at h
 rw [cps_add] at h
 rcases List.mem_append.mp h with h | h
 ·split at h
  ·rcases hq with rfl | rfl
   ·have h : 10 ∈ ([] : List Nat) := h
    cases h
   ·have h : 10 ∈ ([32] : List Nat) := h
    simp at h
  ·have h : 10 ∈ ([32] : List Nat) := h
   simp at h
 ·rcases join_mem h with h | ⟨x, hx, h⟩
  ·have h : 10 ∈ ([32] : List Nat) := h
   simp at h
  ·obtain ⟨v, hv, rfl⟩ := List.mem_map.mp hx
   have h : 10 ∈ [v] := h
   rw [List.mem_singleton] at h
   subst h
   have := hl 10 (List.mem_of_mem_drop (List.mem_of_mem_take hv))
   simp [isLet] at this
theorem lines_split {q0 : Str} (hq : q0 = Str.ofString "" ∨ q0 = Str.ofString " ") {wd many : Nat} (hm : 0 < many) {cs : List Nat} (hl : ∀ v ∈ cs, isLet v = true) : Txt.split (Txt.join (Str.ofString "\n") (linesT q0 wd many cs)) (Str.ofString "\n") = linesT q0 wd many cs := by
 refine split_join (c := 10) ?_ fun p hp => ?_
 ·unfold linesT
  intro h
  have := congrArg List.length h
  simp at this
  lia
 ·unfold linesT at hp
  obtain ⟨i, _, rfl⟩ := List.mem_map.mp hp
  exact line_free hq hl
structure Ents (hs : List Pr) (es : List (Nat × Nat)) : Prop where
 eq : hs.map (fun t => (nmL t, t.2.2.1)) = es.map fun e => (97 + e.1, one e.2)
 nm : ∀ t ∈ hs, ∃ k, t.2.1.1 = ⟨#[k]⟩ ∧ isLet k = true
theorem Ents.nil : Ents [] [] := ⟨rfl, fun t ht => (List.not_mem_nil ht).elim⟩
theorem Ents.len {hs : List Pr} {es : List (Nat × Nat)} (h : Ents hs es) : hs.length = es.length := by
 have := congrArg List.length h.eq
 simpa using this
theorem Ents.snoc {hs : List Pr} {es : List (Nat × Nat)} (h : Ents hs es) {T : Addr} {x y j : Nat} {tx ty : Tok} (hx : isLet x = true) (hj : lowL x = 97 + j) : Ents (hs ++ [(T, (⟨#[x]⟩, tx), (⟨#[y]⟩, ty))]) (es ++ [(j, y)]) :=
  ⟨by
    rw [List.map_append, List.map_append, h.eq]
    have e : nmL (T, (⟨#[x]⟩, tx), (⟨#[y]⟩, ty)) = 97 + j := hj
    simp only [List.map_cons, List.map_nil, e],
  fun t ht => by
    rcases List.mem_append.mp ht with ht | ht
    · exact h.nm t ht
    · rw [List.mem_singleton] at ht
      subst ht
      exact ⟨x, rfl, hx⟩⟩
theorem Ents.pick : ∀ {hs : List Pr} {es : List (Nat × Nat)}, Ents hs es → ∀ {x j : Nat}, lowL x = 97 + j → (pickL x hs).map (·.1) = ((es.filter fun e => e.1 == j).map fun e => one e.2)
 | [], [], _, _, _, _ => rfl
 | [], _ :: _, h, _, _, _ => by have := h.len; simp at this
 | _ :: _, [], h, _, _, _ => by have := h.len; simp at this
 | t :: hs, e :: es, h, x, j, hx => by
  have h1 := h.eq
  simp only [List.map_cons, List.cons.injEq, Prod.mk.injEq] at h1
  have ih := Ents.pick (hs := hs) (es := es) ⟨h1.2, fun t ht => h.nm t (.tail _ ht)⟩ hx
  unfold pickL at ih ⊢
  by_cases hj : e.1 = j
  ·have hc : (nmL t == lowL x) = true := by rw [h1.1.1, hx, hj]; exact beq_self_eq_true _
   have hc2 : (e.1 == j) = true := by rw [hj]; exact beq_self_eq_true _
   rw [List.filter_cons_of_pos (p := fun t : Pr => nmL t == lowL x) hc, List.filter_cons_of_pos (p := fun e : Nat × Nat => e.1 == j) hc2]
   simp only [List.map_cons]
   rw [ih, h1.1.2]
  ·have hc : ¬ (nmL t == lowL x) = true := by rw [h1.1.1, hx]; simp; omega
   have hc2 : ¬ (e.1 == j) = true := by simp; exact hj
   rw [List.filter_cons_of_neg (p := fun t : Pr => nmL t == lowL x) hc, List.filter_cons_of_neg (p := fun e : Nat × Nat => e.1 == j) hc2, ih]
noncomputable def rowE (r : List Nat) : Nat → List (Nat × Nat)
 | 0 => []
 | k + 1 => rowE r k ++ (r[k]?.map fun v => (k, v)).toList
noncomputable def pageE (wd : Nat) (cs : List Nat) : Nat → List (Nat × Nat)
 | 0 => []
 | i + 1 => pageE wd cs i ++ rowE ((cs.drop (i * wd)).take wd) wd
theorem rowE_len (r : List Nat) : ∀ k, k ≤ r.length → (rowE r k).length = k
 | 0, _ => rfl
 | k + 1, h => by
  have := rowE_len r k (by lia)
  simp [rowE, this, List.getElem?_eq_getElem (show k < r.length by lia)]
theorem rowE_filter (r : List Nat) (j : Nat) : ∀ k, ((rowE r k).filter fun e => e.1 == j).map (·.2) = if j < k then r[j]?.toList else []
 | 0 => by simp [rowE]
 | k + 1 => by
  rw [rowE, List.filter_append, List.map_append, rowE_filter r j k]
  by_cases h1 : j < k
  ·rw [if_pos h1, if_pos (by lia)]
   cases h2 : r[k]? with
   | none => simp
   | some v =>
    have hb : (k == j) = false := by simp; lia
    simp [List.filter, hb]
  ·rw [if_neg h1]
   by_cases h3 : j = k
   ·subst h3
    rw [if_pos (by lia)]
    cases h2 : r[j]? with
    | none => simp
    | some v => simp [List.filter]
   ·rw [if_neg (by lia)]
    cases h2 : r[k]? with
    | none => simp
    | some v =>
     have hb : (k == j) = false := by simp; lia
     simp [List.filter, hb]
theorem colRec_snoc (wd j : Nat) : ∀ n (cs : List Nat), colRec wd j (n + 1) cs = colRec wd j n cs ++ (cs.drop (n * wd))[j]?.toList
 | 0, cs => by simp [colRec]
 | n + 1, cs => by
  show cs[j]?.toList ++ colRec wd j (n + 1) (cs.drop wd) = (cs[j]?.toList ++ colRec wd j n (cs.drop wd)) ++ _
  rw [colRec_snoc wd j n (cs.drop wd), List.append_assoc, List.drop_drop]
  rw [show (n + 1) * wd = wd + n * wd by rw [Nat.succ_mul]; lia]
theorem pageE_col {wd j : Nat} (hj : j < wd) (cs : List Nat) : ∀ i, ((pageE wd cs i).filter fun e => e.1 == j).map (·.2) = colRec wd j i cs
 | 0 => rfl
 | i + 1 => by
  rw [pageE, List.filter_append, List.map_append, pageE_col hj cs i, rowE_filter, if_pos hj, colRec_snoc, List.getElem?_take, if_pos hj]
section
open LCg LCt
theorem lts_strs : ∀ ps : Row, StrsAre (lts ps) (ps.map fun p => one p.1)
 | [] => .nil
 | p :: r => .cons _ _ (lts_strs r)
theorem one_sum : ∀ ps : Row, ((ps.map fun p => one p.1).map (·.length)).sum = ps.length
 | [] => rfl
 | p :: r => by simp only [List.map_cons, List.sum_cons, List.length_cons, one_sum r]; show 1 + r.length = _; lia
theorem either_text {M : Model} {A : Around} {e1 e2 e3 : Expr} {px : Pos} {env : Env} {Q E : Value → Shared → Prop} {s : Shared}
  (hb : ∀ Q' : Value → Shared → Prop, (∀ q0 t tk, (q0 = Str.ofString "" ∨ q0 = Str.ofString " ") → Q' (.str q0 t) { s with toks := tk }) → wpAny M A (isTrue e1 env (eval e1 env)) (fun b s' => if b = true then wpAny M A (eval e2 env) Q' E s' else wpAny M A (eval e3 env) Q' E s') E s)
  (hc : ∀ q0 t tk, (q0 = Str.ofString "" ∨ q0 = Str.ofString " ") → Q (.str q0 t) { s with toks := tk }) : wpAny M A (eval (.IfExp e1 e2 e3 px) env) Q E s := IfExp_ (hb Q hc)
theorem step_range {wd many : Nat} (hwd : wd = 2 ∨ wd = 3) (hmany : many = 2 ∨ many = 3 ∨ many = 4 ∨ many = 5) :
  Builtin.Range.small 0 ((wd * many : Nat) : Int) (wd : Int) = true ∧ Builtin.Range.rangeSize 0 ((wd * many : Nat) : Int) (wd : Int) = ((many : Nat) : Int) := by
 rcases hwd with rfl | rfl <;> rcases hmany with rfl | rfl | rfl | rfl <;> decide
theorem rowT_pick (ps : Row) (wd i : Nat) : Txt.join (Str.ofString " ") (((ps.drop (i * wd)).take (i * wd + wd - i * wd)).map fun p => one p.1) = rowT wd i (ps.map (·.1)) := by
 unfold rowT
 rw [← List.map_drop, ← List.map_take, List.map_map, Nat.add_sub_cancel_left]
 rfl
theorem add_txt {prog : Program} {w : World} {A : Around} {Q E : Value → Shared → Prop} {s : Shared} {x y : Str} {t u : Tok} (hz : (x ++ y).length ≤ sizeLine) (h : ∀ t' tk, Q (.str (x ++ y) t') { s with toks := tk }) :
  wpAny (model prog w) A (binaryOp .Add (.str x t) (.str y u)) Q E s := by
 refine PySem.P.add_str ?_
 have e0 : ∀ z : Str, (z.length == 0) = true → z.cps.toList = [] := fun z hz => List.eq_nil_of_length_eq_zero (by simpa [Str.length] using hz)
 split
 ·rename_i hx
  have e : x ++ y = y := Str.ext' (Array.toList_inj.mp (by rw [cps_add, e0 x hx, List.nil_append]))
  have := h u s.toks
  rw [e] at this
  exact this
 ·split
  ·rename_i hy
   have e : x ++ y = x := Str.ext' (Array.toList_inj.mp (by rw [cps_add, e0 y hy, List.append_nil]))
   have := h t s.toks
   rw [e] at this
   exact this
  ·exact ⟨hz, h _ _⟩
theorem sum_cap (b : Nat) : ∀ l : List Nat, (∀ x ∈ l, x ≤ b) → l.sum ≤ b * l.length
 | [], _ => by simp
 | x :: r, h => by
  have h1 := sum_cap b r fun y hy => h y (.tail _ hy)
  have h2 := h x (.head _)
  rw [List.sum_cons, List.length_cons, Nat.mul_succ]
  lia
theorem rows_len {wd many : Nat} {cs : List Nat} (hwd : wd = 2 ∨ wd = 3) : ((((List.range many).map fun j => rowT wd j cs)).map (·.length)).sum ≤ 6 * many := by
 have := sum_cap 6 ((((List.range many).map fun j => rowT wd j cs)).map (·.length)) fun x hx => by
  rw [List.map_map] at hx
  obtain ⟨j, _, rfl⟩ := List.mem_map.mp hx
  have h1 := len_join_one ((cs.drop (j * wd)).take wd)
  have h2 : ((cs.drop (j * wd)).take wd).length ≤ 3 := by rw [List.length_take]; lia
  show (rowT wd j cs).length ≤ 6
  unfold rowT
  lia
 simpa using this
theorem text_len {q0 : Str} (hq : q0 = Str.ofString "" ∨ q0 = Str.ofString " ") {wd many : Nat} (hwd : wd = 2 ∨ wd = 3) (hm : many < 9) {cs : List Nat} : (Txt.join (Str.ofString "\n") (linesT q0 wd many cs)).length ≤ 99 := by
 have h1 := StrLaws.join_length_le (Str.ofString "\n") (linesT q0 wd many cs)
 rw [← StrLaws.glued_eq_join] at h1
 have h1 : (Txt.join (Str.ofString "\n") (linesT q0 wd many cs)).length ≤ ((linesT q0 wd many cs).map (·.length)).sum + (linesT q0 wd many cs).length * (Str.ofString "\n").length := h1
 have h2 := sum_cap 10 ((linesT q0 wd many cs).map (·.length)) fun x hx => by
  unfold linesT at hx
  rw [List.map_map] at hx
  obtain ⟨j, _, rfl⟩ := List.mem_map.mp hx
  exact lineT_len hq hwd
 have h3 : (linesT q0 wd many cs).length = many := by simp [linesT]
 rw [List.length_map, h3] at h2
 have h4 : (Str.ofString "\n").length = 1 := by decide
 rw [h3, h4] at h1
 lia
theorem either_name {M : Model} {A : Around} {e1 e2 e3 : Expr} {px : Pos} {env : Env} {Q E : Value → Shared → Prop} {s : Shared} {j : Nat}
  (hb : ∀ Q' : Value → Shared → Prop, (∀ x t tk, isLet x = true → lowL x = 97 + j → Q' (.str ⟨#[x]⟩ t) { s with toks := tk }) → wpAny M A (isTrue e1 env (eval e1 env)) (fun b s' => if b = true then wpAny M A (eval e2 env) Q' E s' else wpAny M A (eval e3 env) Q' E s') E s)
  (hc : ∀ x t tk, isLet x = true → lowL x = 97 + j → Q (.str ⟨#[x]⟩ t) { s with toks := tk }) : wpAny M A (eval (.IfExp e1 e2 e3 px) env) Q E s := IfExp_ (hb Q hc)
theorem vals_at {l : List (Str × Tok)} {xs : List Str} (e : l.map (·.1) = xs) {i : Nat} {v : Value} (h : (strValues l).toArray[i]? = some v) : ∃ x t, xs[i]? = some x ∧ v = .str x t := by
 rw [List.getElem?_toArray] at h
 simp only [strValues, List.getElem?_map, Option.map_eq_some_iff] at h
 obtain ⟨p, hp, rfl⟩ := h
 exact ⟨p.1, p.2, by rw [← e, List.getElem?_map, hp]; rfl, rfl⟩
theorem iA0 : Txt.item (Str.ofString "ABC") ((0 : Nat) : Int) = ⟨#[65]⟩ := by kernel_rfl
theorem iA1 : Txt.item (Str.ofString "ABC") ((1 : Nat) : Int) = ⟨#[66]⟩ := by kernel_rfl
theorem iA2 : Txt.item (Str.ofString "ABC") ((2 : Nat) : Int) = ⟨#[67]⟩ := by kernel_rfl
theorem ia0 : Txt.item (Str.ofString "abc") ((0 : Nat) : Int) = ⟨#[97]⟩ := by kernel_rfl
theorem ia1 : Txt.item (Str.ofString "abc") ((1 : Nat) : Int) = ⟨#[98]⟩ := by kernel_rfl
theorem ia2 : Txt.item (Str.ofString "abc") ((2 : Nat) : Int) = ⟨#[99]⟩ := by kernel_rfl
theorem rowE_le (r : List Nat) : ∀ k, (rowE r k).length ≤ k
 | 0 => Nat.le_refl _
 | k + 1 => by
  have := rowE_le r k
  rw [rowE, List.length_append]
  cases r[k]? <;> simp <;> lia
theorem pageE_le (wd : Nat) (cs : List Nat) : ∀ i, (pageE wd cs i).length ≤ i * wd
 | 0 => by simp [pageE]
 | i + 1 => by
  have h1 := pageE_le wd cs i
  have h2 := rowE_le ((cs.drop (i * wd)).take wd) wd
  rw [pageE, List.length_append, Nat.succ_mul]
  lia
theorem item_aBc {i : Nat} (h : i < 3) : ∃ x, Txt.item (Str.ofString "aBc") (0 + (i : Int)) = ⟨#[x]⟩ ∧ isLet x = true ∧ lowL x = 97 + i := by
 match i, h with
 | 0, _ => exact ⟨97, by kernel_rfl, by decide, by decide⟩
 | 1, _ => exact ⟨66, by kernel_rfl, by decide, by decide⟩
 | 2, _ => exact ⟨99, by kernel_rfl, by decide, by decide⟩
theorem rows_of : ∀ {l : List (Str × Tok)} {cs : List Nat}, l.map (·.1) = cs.map one → ∃ r : Row, strValues l = lts r ∧ r.map (·.1) = cs
 | [], [], _ => ⟨[], rfl, rfl⟩
 | [], _ :: _, h => by simp at h
 | _ :: _, [], h => by simp at h
 | p :: l, c :: cs, h => by
  simp only [List.map_cons, List.cons.injEq] at h
  obtain ⟨r, e1, e2⟩ := rows_of h.2
  refine ⟨(c, p.2) :: r, ?_, by simp [e2]⟩
  have e1 : l.map (fun q => Value.str q.1 q.2) = r.map fun q => Value.str ⟨#[q.1]⟩ q.2 := e1
  show Value.str p.1 p.2 :: l.map (fun q => Value.str q.1 q.2) = Value.str ⟨#[c]⟩ p.2 :: r.map fun q => Value.str ⟨#[q.1]⟩ q.2
  rw [e1, h.1]
noncomputable abbrev colsLed (ds : List (Addr × Row)) : List (Addr × Obj) := ds.map fun d => (d.1, listOf (lts d.2).toArray (lts d.2).length)
section
namespace J0
def pt : Part1 (aP.f.f.m.e.c.b.b.l.x.s.h.c.r.i.w.a.a.a.y.y.q.d.d.C.a.a.D.c.e.e.t.j) (∀ {w : World} {mean : ExcName → Option Value} {mg mb : Str → Option Value} {ls : Addr} {ps : Row} {n wd : Nat} {great : Int} {tw tg : Tok} {led : List (Addr × Obj)} {p1 p2 : Array Value} (ht1 : OneTab ⟨101, 19, 101, 63⟩ p1) (ht2 : OneTab ⟨104, 32, 104, 85⟩ p2) (hap0 : ∀ p ∈ led, p.1 ≠ 162 ∧ p.1 ≠ 169)
  (hm : (ls, listOf (lts ps).toArray n) ∈ led) (hwd : wd = 2 ∨ wd = 3) {many : Nat} (hmany : many = 2 ∨ many = 3 ∨ many = 4 ∨ many = 5) (hz : ps.length = wd * many) (hlet : ∀ p ∈ ps, isLet p.1 = true)
(dp un : Nat) (gd : Option (List Code)) (cn : Str) (cs : Scope) (a : Addr) (ccd : Value) (cl : List (Str × Addr)) (outer : List Env) (A₀ : Around) (base h₀ : Heap) (L : Addr) (m : Str → Option Value) (s : Shared) (Q E : Value → Shared → Prop)
   (B : Below A₀ base outer h₀) (F : Fr h₀ L s.heap m) (X : (hd.heap_1 w.params).In h₀) (N : News h₀ L s.heap ((162, tabObj p1) :: (169, tabObj p2) :: led)) (T : Top pv lv mean mg mb h₀) (hk : cs.kind = .function)
   (hdp : dp + 200 < recursionLimit) (hu : un + 2500 < cLine)
   (CH1 : CodeHd h₀ 166 162) (CH2 : CodeHd h₀ 173 169) (hg : AllBare s.gens)
   (hret : ∀ (D : Addr) (ds : List (Addr × Row)) (q1 q2 : Array Value) (h' : Heap) (tk' : Nat) (gs : Array GenState), OneTab ⟨101, 19, 101, 63⟩ q1 → OneTab ⟨104, 32, 104, 85⟩ q2 → AllBare gs → ds.map (fun d => d.2.map (·.1)) = (List.range wd).map (fun j => colRec wd j many (ps.map (·.1))) →
     (∀ d ∈ ds, ∀ p ∈ (162, tabObj q1) :: (169, tabObj q2) :: led, p.1 ≠ d.1) → (∀ p ∈ (162, tabObj q1) :: (169, tabObj q2) :: led, p.1 ≠ D) → (∀ d ∈ ds, d.1 ≠ D) → Fr h₀ L h' m →
     News h₀ L h' ((D, listOf (ds.map fun d => Value.ref d.1).toArray (ds.map fun d => Value.ref d.1).length) :: (colsLed ds ++ ((162, tabObj q1) :: (169, tabObj q2) :: led))) → Q (.ref D) { s with heap := h', toks := tk', gens := gs }), wpAny (model theProg w) (ktrTop dp un gd cn cs L a ccd cl outer) (call (.ref 413) [.ref ls, .int wd tw, .int great tg]) Q E s) := by
  apply Part1.mk
  case h => intro hS1 w mean mg mb ls ps n wd great tw tg led p1 p2 ht1 ht2 hap0 hm hwd many hmany hz hlet dp un gd cn cs a ccd cl outer A₀ base h₀ L m s Q E B F X N T hk hdp hu CH1 CH2 hg hret; revert ht1 ht2 hap0 hm hwd hmany hz hlet B F X N T hk hdp hu CH1 CH2 hg hret; exact @hS1 w mean mg mb ls ps n wd great tw tg led p1 p2 many dp un gd cn cs a ccd cl outer A₀ base h₀ L m s Q E
def Z0 := pt.z1
def w := hx0 Z0
def mean := hx1 Z0
def mg := hx2 Z0
def mb := hx3 Z0
def ls := hx4 Z0
def ps := hx5 Z0
def n := hx6 Z0
def wd := hx7 Z0
def Z1 := ht Z0
def great := hx0 Z1
def tw := hx1 Z1
def tg := hx2 Z1
def led := hx3 Z1
def p1 := hx4 Z1
def p2 := hx5 Z1
def many := hx6 Z1
def dp := hx7 Z1
def Z2 := ht Z1
def un := hx0 Z2
def gd := hx1 Z2
def cn := hx2 Z2
def cs := hx3 Z2
def a := hx4 Z2
def ccd := hx5 Z2
def cl := hx6 Z2
def outer := hx7 Z2
def Z3 := ht Z2
def A₀ := hx0 Z3
def base := hx1 Z3
def h₀ := hx2 Z3
def L := hx3 Z3
def m := hx4 Z3
def s := hx5 Z3
def Q := hx6 Z3
def E := hx7 Z3
def pm : Part2 (aP.I.d.f.a.b.e.c.g.c.g.c.a.b.a.b.a.b.p.d.B.b.d.i.G.g.g.g.c.b) (aP.a.b.c.I.b.a.b.a.b.p.d.B.d.i.B.G.g.g.g.c.b) (pt.Q1 w mean mg mb ls ps n wd great tw tg led p1 p2 many dp un gd cn cs a ccd cl outer A₀ base h₀ L m s Q E) := by
 apply Part2.mk
 case h =>
  intro hS1 hS2
  intro ht1 ht2 hap0 hm hwd hmany hz hlet B F X N T hk hdp hu CH1 CH2 hg hret
  k_with_none
  k_with "ne" => (refine neN ?_; (try dsimp only); first | with_reducible (first | assumption | (refine Ne.symm ?_; assumption) | exact ne_1 | exact ne_1.symm | exact ne_2 | exact ne_2.symm | exact ne_3 | exact ne_3.symm | exact ne_4 | exact ne_4.symm) | exact (by with_reducible assumption : Apt _ _) | exact Ne.symm (by with_reducible assumption : Apt _ _) | omega)
  k_with "d2" => (repeat' (first | with_reducible (first | exact m_id | exact m_nil | exact m_lid | exact m_mapl | exact m_mapl2 | refine m_cons ?_ ?_ | refine m_app ?_ ?_ | refine m_map ?_ ?_ | refine m_map1 ?_ | exact m_hd | refine m_tl ?_ | exact m_mapr rfl | refine m_tail ?_ | refine m_right ?_ | refine m_inr ?_) | exact m_hd | refine m_tl ?_))
  k_with "d3" => (first | assumption | omega | ktr_room | ktr_units | (simp only [] at *; omega))
  k_with "call ref" => (k_here; (with_reducible show wpAny _ _ (call (Value.ref 116) _) _ _ _); (refine Halt.out ?_))
  k_with "call ref" => (k_here; (with_reducible show wpAny _ _ (call (Value.ref 106) _) _ _ _); (refine Halt.out ?_))
  k_with "call ref" => (k_here; (with_reducible show wpAny _ _ (call (Value.ref 64) _) _ _ _); (refine Halt.out ?_))
  k_with "eval ListComp" => (k_here; (refine Halt.out ?_))
  k_with "eval IfExp" => (k_here; (refine Halt.out ?_))
  k_with "subscriptTail Name Slice ref ref" => (k_here; (refine Halt.out ?_))
  k_with "exec Assign cons ListComp" => (k_here; (refine Halt.out ?_))
  k_with "call builtin:str.join" => (k_here; (refine Halt.out ?_))
  k_with "call type:enumerate" => (k_here; (refine Halt.out ?_))
  k_with "exec For Tuple Call" => (k_here; (refine Halt.out ?_))
  k_with "exec For Name Call cons nil" => (k_here; (refine Halt.out ?_))
  k_with "CompSrc" => ((refine Halt.out ?_))
  k_with "call ref" => (k_here; (with_reducible show wpAny _ _ (call (Value.ref 225) _) _ _ _); (refine Halt.out ?_))
  k_with "call ref" => (k_here; (with_reducible show wpAny _ _ (call (Value.ref 308) _) _ _ _); (refine Halt.out ?_))
  k_with "call ref" => (k_here; (with_reducible show wpAny _ _ (call (Value.ref 366) _) _ _ _); (refine Halt.out ?_))
  have hz50 : ps.length < 50 := hz ▸ dims50 hwd hmany
  have _ := fl X
  refine wpAny_call ?_
  k_dflt (refine' code_defC ?k1 ?k2 ?k3 ?k4 ?k5 ?kA ?kF ?kK ?k6 ?k7 ?k8 ?k9 ?kB ?kD ?_ ?c2 ?c3 ?c4; (case kA => exact rfl); (case kF => exact rfl); (case kK => assumption); (case k1 => k_asm); (case k2 => k_asm); (case k3 => k_asm); (case k4 => k_asm); (case k5 => k_asm); (case k6 => k_is); (case k7 => k_is); (case k8 => ktr_room); (case k9 => first | exact BindsTo.of_eq rfl | exact binds_K (by k_in) rfl (by k_is) rfl rfl rfl | (refine' kp_binds ?kx ?ke; (case kx => k_in); (case ke => exact fun _ => rfl))); (case kB => exact rfl); (case kD => decide +kernel); (case c2 => exact rfl); (case c3 => exact rfl); (case c4 => exact rfl); k_whole; intro g' L' h' tk' cells' FG' F' N' Y' B' X' T' l1; k_cells Y'; (try simp only [List.cons_append, List.nil_append] at N'); (try dsimp only); (try k_lift B'); (try k_fold))
  rename_i oT oW oS dT dW dS
  have dT' : oT.data = .cell none := dT
  have dW' : oW.data = .cell (some (.int wd tw)) := dW
  have dS' : oS.data = .cell (some (.ref ls)) := dS
  have F0 := Fr.same F' (m' := (fun z => if z = Str.ofString "great" then some (Value.int great tg) else none)) (fun z => rfl)
  clear dT dW dS F'
  k_steps
  unfold Halt
  rw [show (2 : Int) * (wd : Int) = ((2 * wd : Nat) : Int) by lia]
  have N0 : News g' L' h' ((L' + 1 + 1 + 1, oT) :: (L' + 1 + 1, oW) :: (L' + 1, oS) :: (162, tabObj p1) :: (169, tabObj p2) :: led) := N'
  refine' c_fmtnew (.tail _ (.tail _ (.tail _ (.head _)))) (.tail _ (.tail _ (.tail _ (.tail _ (.head _))))) (gd := _) (cn := _) (a := _) (ccd := _) (cl := _) (E := _) (B := ?kB) (F := F0) (X := X') (N := N0) (T := T') (hk := ?kk) (hdp := ?kd) (hu := ?ku)  (hret := ?_)
  case kB => k_asm
  case kk => rfl
  case kd => walk_at "d3"
  case ku => walk_at "d3"
  intro c st h1 tk1 ewd hc hlt et el ep1 ep2 F1 N1
  have GR : FGood c st ((L' + 1 + 1 + 1, oT) :: (L' + 1 + 1, oW) :: (L' + 1, oS) :: led) := by
   refine ⟨hc, ⟨ep1 ▸ ht1, ep2 ▸ ht2⟩, fun p hp => ?_, by rw [et]; decide, by rw [el]; decide, fun t ht => by rw [et] at ht; cases ht⟩
   have hp0 : p ∈ (L' + 1 + 1 + 1, oT) :: (L' + 1 + 1, oW) :: (L' + 1, oS) :: (162, tabObj p1) :: (169, tabObj p2) :: led := by
    refine m_use ?_ p hp; walk_at "d2"
   have hlo := hlt p hp0
   refine hG fun G9 hG9 => ?_; obtain ⟨i1, i2, i3, i4, i5, i6⟩ := hc.nat; refine hG9 ?_; clear hG9 G9
   have h162 : @LT.lt Nat _ 162 L' := l1 (162, _) (.head _)
   have h169 : @LT.lt Nat _ 169 L' := l1 (169, _) (.tail _ (.head _))
   refine ⟨Nat.ne_of_lt (Nat.lt_trans hlo (by lia)), Nat.ne_of_lt (Nat.lt_trans hlo (by lia)), Nat.ne_of_lt (Nat.lt_trans hlo (by lia)), ?_⟩
   simp only [List.mem_cons] at hp
   rcases hp with rfl | rfl | rfl | hp
   ·exact ⟨Nat.ne_of_gt (show @LT.lt Nat _ 162 (L' + 1 + 1 + 1) by lia), Nat.ne_of_gt (show @LT.lt Nat _ 169 (L' + 1 + 1 + 1) by lia)⟩
   ·exact ⟨Nat.ne_of_gt (show @LT.lt Nat _ 162 (L' + 1 + 1) by lia), Nat.ne_of_gt (show @LT.lt Nat _ 169 (L' + 1 + 1) by lia)⟩
   ·exact ⟨Nat.ne_of_gt (show @LT.lt Nat _ 162 (L' + 1) by lia), Nat.ne_of_gt (show @LT.lt Nat _ 169 (L' + 1) by lia)⟩
   ·exact hap0 p hp
  have NR : News g' L' h1 (fled w c st ((L' + 1 + 1 + 1, oT) :: (L' + 1 + 1, oW) :: (L' + 1, oS) :: led)) := fled_mono N1 (fun p hp => by
   refine m_use ?_ p hp; walk_at "d2")
  have walkLed : ∀ {st : FSt} {h : Heap}, News g' L' h (fled w c st ((L' + 1 + 1 + 1, oT) :: (L' + 1 + 1, oW) :: (L' + 1, oS) :: led)) → News g' L' h ((L' + 1 + 1 + 1, oT) :: (L' + 1 + 1, oW) :: (L' + 1, oS) :: (ls, listOf (lts ps).toArray n) :: fled w c st led) := fun N p hp => N p (by
   refine (fled_zl (zl := [_, _, _])).mpr ?_
   refine m_el hp (m_all ?_ ?_)
   ·exact .head _
   refine m_all ?_ ?_
   ·exact .tail _ (.head _)
   refine m_all ?_ ?_
   ·exact .tail _ (.tail _ (.head _))
   refine m_all ?_ ?_
   ·exact .tail _ (.tail _ (.tail _ (fled_rest hm)))
   intro p hp
   exact .tail _ (.tail _ (.tail _ hp)))
  have N2 := walkLed NR
  dsimp only [fled] at N2
  clear N' N0 N1 F0 NR
  have hz' : (ps.map (·.1)).length = wd * many := by rw [List.length_map]; exact hz
  have CTE := cols_text (.inl rfl) hwd hmany hz'
  have CTB := cols_text (.inr rfl) hwd hmany hz'
  have hlet' : ∀ v ∈ ps.map (·.1), isLet v = true := fun v hv => by
   refine hG fun G9 hG9 => ?_; obtain ⟨p, hp, rfl⟩ := List.mem_map.mp hv; refine hG9 ?_; clear hG9 G9
   exact hlet p hp
  have hmany9 : many < 9 := by lia
  have hclean : ∀ v ∈ ps.map (·.1), v ≠ 32 ∧ v ≠ 9 := fun v hv => by
   have := hlet' v hv
   unfold isLet at this
   simp at this
   lia
  have hpne : ps.map (·.1) ≠ [] := fun h => by
   rw [h] at hz'
   exact dims_ne hwd hmany hz'.symm
  k_steps
  unfold Halt
  refine either_text (fun Q' hQ => ?_) fun q0 tq tkq hq => ?_
  ·k_steps
   all_goals first | exact hQ _ _ _ (.inl rfl) | exact hQ _ _ _ (.inr rfl)
  have CT := cols_text hq hwd hmany hz'
  clear CTE CTB
  k_steps
  unfold Halt
  rename_i F3 N3
  refine join_listW (ys := ps.map fun p => one p.1) (N3.isList (.tail _ (.tail _ (.tail _ (.head _))))) (lts_strs ps) (by decide) (by rw [one_sum, List.length_map]; lia) fun u tk3 => ?_
  k_steps
  unfold Halt
  have N4 : News g' L' _ (fled w c st ((L' + 1 + 1 + 1, oT) :: (L' + 1 + 1, oW) :: (L' + 1, oS) :: led)) := fun p hp => N3 p (by
   have hp := (fled_zl (zl := [_, _, _])).mp hp
   refine m_el hp (m_all ?_ ?_)
   ·exact .head _
   refine m_all ?_ ?_
   ·exact .tail _ (.head _)
   refine m_all ?_ ?_
   ·exact .tail _ (.tail _ (.head _))
   intro p hp
   exact .tail _ (.tail _ (.tail _ (.tail _ hp))))
  clear N3
  have hxf : (Txt.join (Str.ofString " ") (ps.map fun p => one p.1)).cps.toList = flatW ((ps.map (·.1)).map fun c => [c]) := by
   rw [← CT.flat, List.map_map]
   rfl
  refine' c_asplit (ls := ps.map (·.1)) hq GR ⟨et, el⟩ hxf hclean hpne (by simp; lia) (by lia) (gd := _) (cn := _) (a := _) (ccd := _) (cl := _) (E := _) (B := ?kB) (F := F3) (X := X') (N := N4) (T := T') (hk := ?kk) (hdp := ?kd) (hu := ?ku) (CH1 := CH1.keeps FG'.keep) (CH2 := CH2.keeps FG'.keep) (hg := hg) (hret := ?_)
  case kB => k_asm
  case kk => rfl
  case kd => walk_at "d3"
  case ku => walk_at "d3"
  intro st5 h5 tk5 g5 G5 e5 B5 F5 N5
  rw [ewd] at e5
  have N5w := walkLed N5
  dsimp only [fled] at N5w
  clear N4 F3
  k_steps
  unfold Halt
  refine' c_text1 hq hwd hmany9 CT hlet' G5 e5 (gd := _) (cn := _) (a := _) (ccd := _) (cl := _) (E := _) (B := ?kB) (F := F5) (X := X') (N := N5) (T := T') (hk := ?kk) (hdp := ?kd) (hu := ?ku) (CH1 := CH1.keeps FG'.keep) (CH2 := CH2.keeps FG'.keep) (hg := B5) (hret := ?_)
  case kB => k_asm
  case kk => rfl
  case kd => walk_at "d3"
  case ku => walk_at "d3"
  intro st7 u7 h7 tk7 g7 G7 et7 el7 B7 F7 N7
  have N7w := walkLed N7
  dsimp only [fled] at N7w
  clear F5 N5 N5w
  k_steps
  unfold Halt
  rename_i F8 N8
  refine assign_block (hs := fun _ => rfl) (F₀ := F8) rfl (by with_unfolding_all rfl) (by with_unfolding_all rfl) (by decide) (by rfl) (by decide) (by rfl) (by rfl) (by rfl) ?_
  k_steps
  refine len_any (N8.isList (.tail _ (.tail _ (.tail _ (.head _))))) (n := wd * many) (by simpa using hz) (by lia) ?_
  k_steps
  rename_i hr9 F9 N9 kp9
  refine hG fun G9 hG9 => ?_; obtain ⟨sr1, sr2⟩ := step_range hwd hmany; refine hG9 ?_; clear hG9 G9
  refine srcS rfl F9 N9 hr9 sr1 sr2 (by simp [sizeLine]; lia) fun g => ?_
  refine comp_U (fun i ys led' => (∃ rs : List (Str × Tok), ys = strValues rs ∧ rs.map (·.1) = (List.range i).map (fun j => rowT wd j (ps.map (·.1)))) ∧
   led' = (L' + 1 + 1 + 1, oT) :: (L' + 1 + 1, oW) :: (L' + 1, oS) :: (ls, listOf (lts ps).toArray n) :: fled w c st7 led) ⟨⟨[], rfl, rfl⟩, rfl⟩ ?_ ?_
  ·intro i v ys led' I oI C oC D m₂ h tk E' hi y914 y915 hC hx2 F13 N13 off ne; refine hG fun G9 hG9 => ?_; obtain ⟨tp, rfl⟩ := y914; obtain ⟨⟨rs, rfl, hrs⟩, rfl⟩ := y915; refine hG9 ?_; clear hG9 G9
   have N14 := N13
   dsimp only [fled] at N14
   rename_i zz82 _ _ zz85 zz86 zz87 _ _ _
   revert hwd hmany hz X hz50 X' dW' dS' hi hC F13 hx2 hrs off N14
   exact @hS1 g' L' oT oW oS c q0 tq h5 st7 u7 g7 zz82 zz85 zz86 zz87 g i I oI C oC D m₂ h tk E' tp rs
  ·intro ys led' y92; refine hG fun G9 hG9 => ?_; obtain ⟨⟨rs, rfl, hrs⟩, rfl⟩ := y92; refine hG9 ?_; clear hG9 G9
   unfold FinA
   intro D9 h9 tk9 F10 N10 off
   have N10w := N10
   dsimp only [fled] at N10w
   clear F9 N9
   rename_i zz82 _ _ zz86 zz87 _ _ _
   revert hm hwd hmany hz B F X N T hk hdp hu CH1 CH2 hg hret hz50 FG' B' X' T' l1 dT' dW' hlt el walkLed hz' hlet' hmany9 hclean hq CT G7 et7 el7 B7 hrs F10 N10 off N10w
   exact @hS2 g' L' oT oW oS c st q0 tq st7 u7 g7 zz82 tk zz86 zz87 g rs D9 h9 tk9
end J0
namespace J0.Kcols1
def Z0 := J0.pm.z1
def g' := hx0 Z0
def L' := hx1 Z0
def oT := hx2 Z0
def oW := hx3 Z0
def oS := hx4 Z0
def c := hx5 Z0
def q0 := hx6 Z0
def tq := hx7 Z0
def Z1 := ht Z0
def h5 := hx0 Z1
def st7 := hx1 Z1
def u7 := hx2 Z1
def g7 := hx3 Z1
def zz82 := hx4 Z1
def zz85 := hx5 Z1
def zz86 := hx6 Z1
def zz87 := hx7 Z1
def Z2 := ht Z1
def g := hx0 Z2
def i := hx1 Z2
def I := hx2 Z2
def oI := hx3 Z2
def C := hx4 Z2
def oC := hx5 Z2
def D := hx6 Z2
def m₂ := hx7 Z2
def Z3 := ht Z2
def h := hx0 Z3
def tk := hx1 Z3
def E' := hx2 Z3
def tp := hx3 Z3
def rs := hx4 Z3
theorem eq_1 : J0.pm.Q1 g' L' oT oW oS c q0 tq h5 st7 u7 g7 zz82 zz85 zz86 zz87 g i I oI C oC D m₂ h tk E' tp rs := by
 intro hwd hmany hz X hz50 X' dW' dS' hi hC F13 hx2 hrs off N14
 k_steps
 unfold Halt
 refine run_lts (a := i * wd) (b := i * wd + wd) F13 N14 (.tail _ (.tail _ (.tail _ (.tail _ (.tail _ (.tail _ (.head _))))))) ?ca ?cb (by lia) ?_ (by with_unfolding_all rfl) (by kmk_pure)
 case ca => exact (show ((i * wd : Nat) : Int) = 0 + (i : Int) * wd by simp) ▸ IsPart.int _ _
 case cb => exact (show ((i * wd + wd : Nat) : Int) = 0 + (i : Int) * wd + wd by simp) ▸ IsPart.int _ _
 intro D5 h5 F15 N15 lD5
 k_steps
 unfold Halt
 have hdl : ((ps.drop (i * wd)).take (i * wd + wd - i * wd)).length ≤ 50 := by rw [List.length_take]; exact Nat.le_trans (Nat.min_le_left _ _) (by rw [Nat.add_sub_cancel_left]; rcases hwd with e | e <;> rw [e] <;> decide)
 refine join_listW (ys := ((ps.drop (i * wd)).take (i * wd + wd - i * wd)).map fun p => one p.1) (N15.isList (.head _)) (lts_strs _) (by decide) (by rw [one_sum, List.length_map]; lia) fun u9 tk9 => ?_
 k_steps
 unfold CompEnd
 refine ⟨h5, _, (L' + 1 + 1 + 1, oT) :: (L' + 1 + 1, oW) :: (L' + 1, oS) :: (ls, listOf (lts ps).toArray n) :: fled w c st7 led, rfl, F15, fun p hp => N15 p ?_, off, trivial, ⟨rs ++ [(_, u9)], by simp only [strValues, List.map_append, List.map_cons, List.map_nil]; rfl, ?_⟩, rfl⟩
 ·exact .tail _ hp
 ·rw [List.map_append, hrs, List.range_succ, List.map_append, List.map_cons, List.map_nil, List.map_cons, List.map_nil, rowT_pick]
end J0.Kcols1
namespace J0.Kcols1
theorem eq_2 : J0.pm.U1 := hy @eq_1
end J0.Kcols1
namespace J0.Kcols2
def Z0 := J0.pm.z2
def g' := hx0 Z0
def L' := hx1 Z0
def oT := hx2 Z0
def oW := hx3 Z0
def oS := hx4 Z0
def c := hx5 Z0
def st := hx6 Z0
def q0 := hx7 Z0
def Z1 := ht Z0
def tq := hx0 Z1
def st7 := hx1 Z1
def u7 := hx2 Z1
def g7 := hx3 Z1
def zz82 := hx4 Z1
def tk := hx5 Z1
def zz86 := hx6 Z1
def zz87 := hx7 Z1
def Z2 := ht Z1
def g := hx0 Z2
def rs := hx1 Z2
def D9 := hx2 Z2
def h9 := hx3 Z2
def tk9 := hx4 Z2
def pm : Part1 (aP.a.b.I.c.g.b.a.S.p.B) (J0.pm.Q2 g' L' oT oW oS c st q0 tq st7 u7 g7 zz82 tk zz86 zz87 g rs D9 h9 tk9) := by
 apply Part1.mk
 case h =>
  intro hS1
  intro hm hwd hmany hz B F X N T hk hdp hu CH1 CH2 hg hret hz50 FG' B' X' T' l1 dT' dW' hlt el walkLed hz' hlet' hmany9 hclean hq CT G7 et7 el7 B7 hrs F10 N10 off N10w
  k_with "ite" => (k_here; first | refine ite_pos (by with_reducible assumption) ?_ | refine ite_neg (by with_reducible assumption) ?_ | refine ite_isFalse (by with_reducible assumption) ?_ | refine ite_pos (by k_dec) ?_ | refine ite_neg (by k_dec) ?_)
  k_steps
  unfold Halt
  refine join_listW (ys := rs.map (·.1)) (N10.isList (.head _)) (strsAre_vals rs) (by decide) (by rw [hrs]; have := rows_len (many := many) (cs := ps.map (·.1)) hwd; simp only [List.length_map, List.length_range]; lia) fun u9 tk9 => ?_
  rw [hrs]
  k_steps
  refine add_txt (by rw [← CT.text]; have := text_len hq hwd hmany9 (cs := ps.map (·.1)); simp [sizeLine]; lia) fun u10 tk10 => ?_
  rw [← CT.text]
  k_steps
  ·rename_i hbad _ _ _ _ _ _ _ _ _
   exact absurd hbad (by rw [bne_self_eq_false]; exact Bool.false_ne_true)
  unfold Halt
  have N11 : News g' L' _ (fled w c st7 ((L' + 1 + 1 + 1, oT) :: (L' + 1 + 1, oW) :: (L' + 1, oS) :: led)) := fun p hp => N10 p (by
   have hp := (fled_zl (zl := [_, _, _])).mp hp
   refine m_el hp (m_all ?_ ?_)
   ·exact .tail _ (.head _)
   refine m_all ?_ ?_
   ·exact .tail _ (.tail _ (.head _))
   refine m_all ?_ ?_
   ·exact .tail _ (.tail _ (.tail _ (.head _)))
   intro p hp
   exact .tail _ (.tail _ (.tail _ (.tail _ (.tail _ hp)))))
  have hll7 : ∀ x ∈ st7.lines, x.1.length ≤ 1000 := fun x hx => by
   have hm : x.1 ∈ st7.lns := List.mem_map.mpr ⟨x, hx, rfl⟩
   rw [el7] at hm
   unfold linesT at hm
   refine hG fun G9 hG9 => ?_; obtain ⟨k, _, e⟩ := List.mem_map.mp hm; refine hG9 ?_; clear hG9 G9
   have := lineT_len hq hwd (i := k) (cs := ps.map (·.1))
   rw [← e]
   lia
  clear N10w N10
  refine' c_fstr0 G7 et7 hll7 (gd := _) (cn := _) (a := _) (ccd := _) (cl := _) (E := _) (B := ?kB) (F := F10) (X := X') (N := N11) (T := T') (hk := ?kk) (hdp := ?kd) (hu := ?ku) (CH1 := CH1.keeps FG'.keep) (CH2 := CH2.keeps FG'.keep) (hg := B7) (hret := ?_)
  case kB => k_asm
  case kk => rfl
  case kd => walk_at "d3"
  case ku => walk_at "d3"
  intro st8 u8 h8 tk8 g8 G8 et8 el8 B8 F8 N8
  have el8' : st8.lines.map (·.1) = linesT q0 wd many (ps.map (·.1)) := by rw [el8]; exact el7
  rw [el8']
  have N8w := walkLed N8
  dsimp only [fled] at N8w
  clear F10 N11
  k_steps
  have N9 : News g' L' h8 ((L' + 1 + 1 + 1, oT) :: (L' + 1 + 1, oW) :: (L' + 1, oS) :: (162, tabObj st8.p1) :: (169, tabObj st8.p2) :: led) := fun p hp => N8w p (by
   refine m_el hp (m_all ?_ ?_)
   ·exact .head _
   refine m_all ?_ ?_
   ·exact .tail _ (.head _)
   refine m_all ?_ ?_
   ·exact .tail _ (.tail _ (.head _))
   refine m_all ?_ ?_
   ·exact .tail _ (.tail _ (.tail _ (.tail _ (.tail _ (.tail _ (.tail _ (.tail _ (.tail _ (.head _)))))))))
   refine m_all ?_ ?_
   ·exact .tail _ (.tail _ (.tail _ (.tail _ (.tail _ (.tail _ (.tail _ (.tail _ (.tail _ (.tail _ (.head _))))))))))
   intro p hp
   exact .tail _ (.tail _ (.tail _ (.tail _ (.tail _ (.tail _ (.tail _ (.tail _ (.tail _ (.tail _ (.tail _ (List.mem_append_right _ hp))))))))))))
  have OT1 := G8.tb.1
  have OT2 := G8.tb.2
  clear N8w N8
  refine' c_hnew (gd := _) (cn := _) (a := _) (ccd := _) (cl := _) (E := _) (B := ?kB) (F := F8) (X := X') (N := N9) (T := T') (hk := ?kk) (hdp := ?kd) (hu := ?ku)  (hret := ?_)
  case kB => k_asm
  case kk => rfl
  case kd => walk_at "d3"
  case ku => walk_at "d3"
  intro c2 h10 tk10 v1 v2 v3 F10 N10
  k_steps
  refine storeX_C F10 N10 rfl (.tail ?_ (.tail ?_ (.tail ?_ (.head ?_)))) dT' (fun h12 oT2 F12 N12 dT2 => ?_) rfl rfl
  ·have := v3 (L' + 1 + 1 + 1, oT) (.head _)
   exact Nat.ne_of_gt (Nat.lt_trans this (Nat.lt_trans v1 v2))
  ·have := v3 (L' + 1 + 1 + 1, oT) (.head _)
   exact Nat.ne_of_gt (Nat.lt_trans this v1)
  ·exact Nat.ne_of_gt (v3 (L' + 1 + 1 + 1, oT) (.head _))
  ·intro p hp
   refine m_el hp (m_all ?_ ?_)
   ·exact Nat.ne_of_lt (Nat.lt_succ_self _)
   refine m_all ?_ ?_
   ·exact Nat.ne_of_lt (Nat.lt_succ_of_lt (Nat.lt_succ_self _))
   intro p hp
   have : p.1 < L' := by
    refine m_el hp (m_all ?_ ?_)
    ·exact l1 (162, tabObj p1) (.head _)
    refine m_all ?_ ?_
    ·exact l1 (169, tabObj p2) (.tail _ (.head _))
    intro p hp
    exact l1 p (.tail _ (.tail _ hp))
   exact Nat.ne_of_lt (Nat.lt_succ_of_lt (Nat.lt_succ_of_lt (Nat.lt_succ_of_lt this)))
  clear F10 N10 dT'
  k_steps
  unfold Halt
  refine frest_start ?_
  k_steps
  refine split_txt F12 N12 (by decide) (by have := text_len hq hwd hmany9 (cs := ps.map (·.1)); lia) fun Dl l h13 tk13 el lD F13 N13 => ?_
  rw [lines_split hq (by lia) hlet'] at el
  have hap1 : ∀ p ∈ (L' + 1 + 1 + 1, oT2) :: (L' + 1 + 1, oW) :: (L' + 1, oS) :: (162, tabObj st8.p1) :: (169, tabObj st8.p2) :: led, p.1 ≠ c2.HL := fun p hp => by
   have : p.1 < c2.FD := by
    refine m_el hp (m_all ?_ ?_)
    ·exact v3 (L' + 1 + 1 + 1, oT) (.head _)
    ·intro p hp; exact v3 p (.tail _ hp)
   exact Nat.ne_of_lt (Nat.lt_trans this (Nat.lt_trans v1 v2))
  have F14 := Fr.same F13 (m' := (fun z => if z = Str.ofString "line" then none else if z = Str.ofString "sign" then none else if z = Str.ofString "name" then none else if z = Str.ofString "place" then none else if z = Str.ofString "lines" then some (.ref D9) else if z = Str.ofString "text" then some (Value.str (Txt.join (Str.ofString "\n") (linesT q0 wd many (ps.map (·.1)))) u7) else if z = Str.ofString "white" then some (Value.str q0 tq) else if z = Str.ofString "page" then some (Value.ref c.fo) else if z = Str.ofString "great" then some (Value.int great tg) else none)) (by
   intro z
   revert z; refine frk (ks := [Str.ofString "lines", Str.ofString "text", Str.ofString "white", Str.ofString "page", Str.ofString "great", Str.ofString "line", Str.ofString "sign", Str.ofString "name", Str.ofString "place"]) ?_ ?_ ?_; (focus (repeat (first | with_reducible exact supp_none | with_reducible refine supp_ite (by kernel_rfl) ?_ | with_reducible exact supp_look (by kernel_rfl)))); (focus (repeat (first | with_reducible exact supp_none | with_reducible refine supp_ite (by kernel_rfl) ?_ | with_reducible exact supp_look (by kernel_rfl)))); kernel_rfl)
  rename_i zz33 _ _
  revert hwd hmany hz B F X N T hk hdp hu hret hz50 B' X' T' dW' hlt zz33 hz' hlet' hmany9 hclean hq off B8 OT1 OT2 v1 v2 dT2 el lD N13 hap1 F14
  exact @hS1 st8 g8 c2 tk10 h12 oT2 Dl l h13 tk13
end J0.Kcols2
namespace J0.Kcols2.Kcols3
def Z0 := Kcols2.pm.z1
def st8 := hx0 Z0
def g8 := hx1 Z0
def c2 := hx2 Z0
def tk10 := hx3 Z0
def h12 := hx4 Z0
def oT2 := hx5 Z0
def Dl := hx6 Z0
def l := hx7 Z0
def Z1 := ht Z0
def h13 := hx0 Z1
def tk13 := hx1 Z1
def pm : Part2 (aP.o.o.o.o.a.E.p.a.b) (aP.i.d.o.o.o.a.E.g.c.p.a.b.a) (Kcols2.pm.Q1 st8 g8 c2 tk10 h12 oT2 Dl l h13 tk13) := by
 apply Part2.mk
 case h =>
  intro hS1 hS2
  intro hwd hmany hz B F X N T hk hdp hu hret hz50 B' X' T' dW' hlt el hz' hlet' hmany9 hclean hq off B8 OT1 OT2 v1 v2 dT2 el lD N13 hap1 F14
  refine for_list (items := (strValues l).toArray) (d := s.drawn) (os := s.os) AllBare (fun i m led' => ∃ (hs : List Pr) (nH : Nat) (u1 u2 u3 u4 : Option Value), Ents hs (pageE wd (ps.map (·.1)) i) ∧ HGood c2 hs ((L' + 1 + 1 + 1, oT2) :: (L' + 1 + 1, oW) :: (L' + 1, oS) :: (162, tabObj st8.p1) :: (169, tabObj st8.p2) :: led) ∧
    led' = (Dl, listOf (strValues l).toArray 0) :: hled w c2 hs nH ((L' + 1 + 1 + 1, oT2) :: (L' + 1 + 1, oW) :: (L' + 1, oS) :: (162, tabObj st8.p1) :: (169, tabObj st8.p2) :: led) ∧
    m = (fun z => if z = Str.ofString "line" then u1 else if z = Str.ofString "sign" then u2 else if z = Str.ofString "name" then u3 else if z = Str.ofString "place" then u4 else if z = Str.ofString "lines" then some (.ref D9) else if z = Str.ofString "text" then some (Value.str (Txt.join (Str.ofString "\n") (linesT q0 wd many (ps.map (·.1)))) u7) else if z = Str.ofString "white" then some (Value.str q0 tq) else if z = Str.ofString "page" then some (Value.ref c.fo) else if z = Str.ofString "great" then some (Value.int great tg) else none))
   (by passes_own) rfl rfl rfl F14 N13 B8 ⟨[], 0, none, none, none, none, Ents.nil, ⟨v1, v2, hap1, by simp⟩, rfl, rfl⟩ ?hl ?turn ?done
  case hl =>
   intro i m' led' h y94 F N; refine hG fun G9 hG9 => ?_; obtain ⟨hs, nH, w1, w2, w3, w4, EN, HG, rfl, rfl⟩ := y94; refine hG9 ?_; clear hG9 G9
   exact N.isList (.head _)
  case done =>
   intro m' led' h tk g y95 hgb F N; refine hG fun G9 hG9 => ?_; obtain ⟨hs, nH, w1, w2, w3, w4, EN, HG, rfl, rfl⟩ := y95; refine hG9 ?_; clear hG9 G9
   dsimp only
   have hsz9 : (strValues l).toArray.size = many := by
    have := congrArg List.length el
    simp only [List.length_map, linesT, List.length_range] at this
    simp [strValues, this]
   rw [hsz9] at EN
   have N30 : News g' L' h ((L' + 1 + 1 + 1, oT2) :: (L' + 1 + 1, oW) :: (L' + 1, oS) :: hled w c2 hs nH ((162, tabObj st8.p1) :: (169, tabObj st8.p2) :: led)) := fun p hp => N p (by
    dsimp only [hled] at hp ⊢
    refine m_use ?_ p hp; walk_at "d2")
   rename_i zz9 zz11 _
   revert hwd hmany hz B zz9 X zz11 T hk hdp hu hret hz50 B' X' T' dW' off OT1 OT2 v1 v2 dT2 hgb EN HG N F N30
   exact @hS1 h tk g hs nH w1 w2 w3 w4
  case turn =>
   intro i v m' led' h tk g I oI hv y910 hap hgb F N; refine hG fun G9 hG9 => ?_; obtain ⟨hs, nH, w1, w2, w3, w4, EN, HG, rfl, rfl⟩ := y910; refine hG9 ?_; clear hG9 G9
   refine hG fun G9 hG9 => ?_; obtain ⟨x, tx, hx, rfl⟩ := vals_at el hv; refine hG9 ?_; clear hG9 G9
   have him : i < many := by
    have := (List.getElem?_eq_some_iff.mp hx).1
    simpa [linesT] using this
   obtain ⟨q9, hq9, rfl⟩ : ∃ q9, (q9 = Str.ofString "" ∨ q9 = Str.ofString " ") ∧ x = q9 ++ rowL (((ps.map (·.1)).drop (i * wd)).take wd) := by
    refine ⟨if i = 0 then q0 else Str.ofString " ", by split; exact hq; exact .inr rfl, ?_⟩
    simp only [linesT, List.getElem?_map, List.getElem?_range him, Option.map_some, Option.some.injEq] at hx
    exact hx.symm
   have hrl : (((ps.map (·.1)).drop (i * wd)).take wd).length = wd := by
    have h1 : (i + 1) * wd ≤ many * wd := Nat.mul_le_mul_right wd him
    rw [Nat.succ_mul] at h1
    rw [List.length_take, List.length_drop, hz', Nat.mul_comm wd many]
    lia
   have hr32 : ∀ v ∈ ((ps.map (·.1)).drop (i * wd)).take wd, v ≠ 32 := fun v hv => (hclean v (List.mem_of_mem_drop (List.mem_of_mem_take hv))).1
   refine hG fun G9 hG9 => ?_; obtain ⟨⟨s1, s2, s3⟩, s4⟩ := strip_row hq9 (by rw [hrl]; exact hwd) hr32; refine hG9 ?_; clear hG9 G9
   have F3 := Fr.same F (m' := (fun z => if z = Str.ofString "line" then some (Value.str (q9 ++ rowL (((ps.map (·.1)).drop (i * wd)).take wd)) tx) else if z = Str.ofString "sign" then w2 else if z = Str.ofString "name" then w3 else if z = Str.ofString "place" then w4 else if z = Str.ofString "lines" then some (.ref D9) else if z = Str.ofString "text" then some (Value.str (Txt.join (Str.ofString "\n") (linesT q0 wd many (ps.map (·.1)))) u7) else if z = Str.ofString "white" then some (Value.str q0 tq) else if z = Str.ofString "page" then some (Value.ref c.fo) else if z = Str.ofString "great" then some (Value.int great tg) else none)) (by
    intro z
    revert z; refine frk (ks := [Str.ofString "line", Str.ofString "sign", Str.ofString "name", Str.ofString "place", Str.ofString "lines", Str.ofString "text", Str.ofString "white", Str.ofString "page", Str.ofString "great"]) ?_ ?_ ?_; (focus (repeat (first | with_reducible exact supp_none | with_reducible refine supp_ite (by kernel_rfl) ?_ | with_reducible exact supp_look (by kernel_rfl)))); (focus (repeat (first | with_reducible exact supp_none | with_reducible refine supp_ite (by kernel_rfl) ?_ | with_reducible exact supp_look (by kernel_rfl)))); kernel_rfl)
   clear F
   rename_i zz11 _
   revert hwd hmany hz B F X zz11 T hk hdp hu hret hz50 B' X' T' hlt hlet' hmany9 hq v1 v2 dT2 lD hgb EN HG hap N him hrl hr32 s4 s1 s2 s3 F3
   exact @hS2 i h tk g I oI hs nH w2 w3 w4 tx q9
end J0.Kcols2.Kcols3
namespace J0.Kcols2.Kcols3.Kcols4
def Z0 := Kcols3.pm.z1
def h := hx0 Z0
def tk := hx1 Z0
def g := hx2 Z0
def hs := hx3 Z0
def nH := hx4 Z0
def w1 := hx5 Z0
def w2 := hx6 Z0
def w3 := hx7 Z0
def Z1 := ht Z0
def w4 := hx0 Z1
def pm : Part1 (aP.a.K.d.f.a.b.e.c.g.c.g.c.a.b.a.b) (Kcols3.pm.Q1 h tk g hs nH w1 w2 w3 w4) := by
 apply Part1.mk
 case h =>
  intro hS1
  intro hwd hmany hz B F X N T hk hdp hu hret hz50 B' X' T' dW' off OT1 OT2 v1 v2 dT2 hgb EN HG N F N30
  k_steps
  unfold Halt
  refine LCg.ListComp_U (F₀ := F) (by with_unfolding_all rfl) (by decide) (by rfl) (by decide) (by rfl) ?_
  k_steps
  unfold Halt
  rename_i hr31 F31 N31 kp31
  refine LCg.CompSrc.range rfl F31 N31 hr31 (small_up (by lia)) rangeSize_up (by simp [sizeLine]; lia) fun g9 => ?_
  refine comp_U (fun i ys led' => ∃ (ds : List (Addr × Row)), ys = ds.map (fun d => Value.ref d.1) ∧ ds.map (fun d => d.2.map (·.1)) = (List.range i).map (fun j => colRec wd j many (ps.map (·.1))) ∧
    (∀ d ∈ ds, ∀ p ∈ (L' + 1 + 1 + 1, oT2) :: (L' + 1 + 1, oW) :: (L' + 1, oS) :: hled w c2 hs nH ((162, tabObj st8.p1) :: (169, tabObj st8.p2) :: led), p.1 ≠ d.1) ∧ led' = (L' + 1 + 1 + 1, oT2) :: (L' + 1 + 1, oW) :: (L' + 1, oS) :: (colsLed ds ++ hled w c2 hs nH ((162, tabObj st8.p1) :: (169, tabObj st8.p2) :: led))) ⟨[], rfl, rfl, fun d hd => (List.not_mem_nil hd).elim, rfl⟩ ?_ ?_
  ·intro i v ys led' I oI C oC D m₂ h tk E' hi y914 y915 hC hx2 F33 N33 off ne; refine hG fun G9 hG9 => ?_; obtain ⟨tp, rfl⟩ := y914; obtain ⟨ds, rfl, hds, hfd, rfl⟩ := y915; refine hG9 ?_; clear hG9 G9
   have N34 : News g' L' h ((I, oI) :: (C, oC) :: (D, lst (ds.map fun d => Value.ref d.1)) :: (L' + 1 + 1 + 1, oT2) :: (L' + 1 + 1, oW) :: (L' + 1, oS) :: (c2.HL, listOf (prRefs hs).toArray nH) :: (c2.fo, instObj 369 c2.FD) :: (c2.FD, hdrDict w c2) :: (colsLed ds ++ (prLed hs ++ ((162, tabObj st8.p1) :: (169, tabObj st8.p2) :: led)))) := fun p hp => N33 p (by
    dsimp only [hled]
    refine m_use ?_ p hp; walk_at "d2")
   have hi3 : (0 : Int) + (i : Int) < 3 := by lia
   have hi0 : (0 : Int) ≤ 0 + (i : Int) := by lia
   refine hG fun G9 hG9 => ?_; obtain ⟨xc, ix1, ix2, ix3⟩ := item_aBc (i := i) (by lia); refine hG9 ?_; clear hG9 G9
   rename_i zz11 zz60 _ _ zz91 zz92 _ _ _
   revert B F X zz11 T hk hdp hu hret B' X' T' zz60 v1 v2 dT2 EN HG N hi hC F33 hx2 hds hfd off N33 N34 hi3 ix1 ix2 ix3
   exact @hS1 zz91 zz92 g9 i I oI C oC D m₂ h tk E' tp ds xc
  ·intro ys led' y92 D h tk F41 N41 off; refine hG fun G9 hG9 => ?_; obtain ⟨ds, rfl, hds, hfd, rfl⟩ := y92; refine hG9 ?_; clear hG9 G9
   k_steps
   rename_i kF kN _ _
   refine hret D ds st8.p1 st8.p2 h tk g OT1 OT2 hgb hds (fun d hd p hp => hfd d hd p (.tail _ (.tail _ (.tail _ (.tail _ (.tail _ (.tail _ (List.mem_append_right _ hp)))))))) (fun p hp => ?_) (fun d hd => ?_) kF (fun p hp => kN p ?_)
   ·exact off1_mem off p (.tail _ (.tail _ (.tail _ (List.mem_append_right _ (.tail _ (.tail _ (.tail _ (List.mem_append_right _ hp))))))))
   ·exact off1_mem off (d.1, listOf (lts d.2).toArray (lts d.2).length) (.tail _ (.tail _ (.tail _ (List.mem_append_left _ (List.mem_map.mpr ⟨d, hd, rfl⟩)))))
   ·dsimp only [hled]
    refine m_use ?_ p hp; walk_at "d2"
end J0.Kcols2.Kcols3.Kcols4
namespace J0.Kcols2.Kcols3.Kcols4.Kcols8
def Z0 := Kcols4.pm.z1
def zz91 := hx0 Z0
def zz92 := hx1 Z0
def g9 := hx2 Z0
def i := hx3 Z0
def I := hx4 Z0
def oI := hx5 Z0
def C := hx6 Z0
def oC := hx7 Z0
def Z1 := ht Z0
def D := hx0 Z1
def m₂ := hx1 Z1
def h := hx2 Z1
def tk := hx3 Z1
def E' := hx4 Z1
def tp := hx5 Z1
def ds := hx6 Z1
def xc := hx7 Z1
theorem eq_1 : Kcols4.pm.Q1 zz91 zz92 g9 i I oI C oC D m₂ h tk E' tp ds xc := by
 intro B F X N T hk hdp hu hret B' X' T' off v1 v2 dT2 EN HG N hi hC F33 hx2 hds hfd off N33 N34 hi3 ix1 ix2 ix3
 k_steps
 unfold Halt
 rw [ix1]
 have N35 : News g' L' h (hled w c2 hs nH ((I, oI) :: (C, oC) :: (D, lst (ds.map fun d => Value.ref d.1)) :: (L' + 1 + 1 + 1, oT2) :: (L' + 1 + 1, oW) :: (L' + 1, oS) :: (colsLed ds ++ ((162, tabObj st8.p1) :: (169, tabObj st8.p2) :: led)))) := fun p hp => N34 p (by
  dsimp only [hled] at hp
  refine m_use ?_ p hp; walk_at "d2")
 have offm := off.mem (c2.HL, listOf (prRefs hs).toArray nH) (.tail _ (.tail _ (.tail _ (List.mem_append_right _ (.head _)))))
 have HG5 : HGood c2 hs ((I, oI) :: (C, oC) :: (D, lst (ds.map fun d => Value.ref d.1)) :: (L' + 1 + 1 + 1, oT2) :: (L' + 1 + 1, oW) :: (L' + 1, oS) :: (colsLed ds ++ ((162, tabObj st8.p1) :: (169, tabObj st8.p2) :: led))) := ⟨v1, v2, fun p hp => by
  refine m_el hp (m_all ?_ ?_)
  ·exact Ne.symm offm.1
  refine m_all ?_ ?_
  ·exact Ne.symm offm.2.1
  refine m_all ?_ ?_
  ·exact Ne.symm offm.2.2
  refine m_all ?_ ?_
  ·exact HG.ap _ (.head _)
  refine m_all ?_ ?_
  ·exact HG.ap _ (.tail _ (.head _))
  refine m_all ?_ ?_
  ·exact HG.ap _ (.tail _ (.tail _ (.head _)))
  intro p hp
  rcases List.mem_append.mp hp with hp | hp
  ·refine hG fun G9 hG9 => ?_; obtain ⟨d, hd, rfl⟩ := List.mem_map.mp hp; refine hG9 ?_; clear hG9 G9
   exact Ne.symm (hfd d hd (c2.HL, listOf (prRefs hs).toArray nH) (.tail _ (.tail _ (.tail _ (.head _)))))
  ·exact HG.ap _ (.tail _ (.tail _ (.tail _ hp))), HG.lt⟩
 refine' c_getall HG5 EN.nm ix2 (gd := _) (cn := _) (a := _) (ccd := _) (cl := _) (E := _) (B := ?kB) (F := F33) (X := X') (N := N35) (T := T') (hk := ?kk) (hdp := ?kd) (hu := ?ku)  (hret := ?_)
 case kB => k_asm
 case kk => rfl
 case kd => walk_at "d3"
 case ku => walk_at "d3"
 intro Dn h40 tk40 hDn F40 N40
 clear F33 N35 N34 N33
 k_steps
 refine hG fun G9 hG9 => ?_; obtain ⟨r9, e91, e92⟩ := rows_of (l := pickL xc hs) (cs := colRec wd i many (ps.map (·.1))) (by rw [EN.pick ix3, ← pageE_col hi, List.map_map]; rfl); refine hG9 ?_; clear hG9 G9
 rw [e91] at N40
 unfold CompEnd
 refine ⟨h40, _, (L' + 1 + 1 + 1, oT2) :: (L' + 1 + 1, oW) :: (L' + 1, oS) :: (colsLed (ds ++ [(Dn, r9)]) ++ hled w c2 hs nH ((162, tabObj st8.p1) :: (169, tabObj st8.p2) :: led)), rfl, F40, fun p hp => N40 p ?_, LCg.Off3.of fun p hp => ?_, trivial, ds ++ [(Dn, r9)], by simp, ?_, fun d hd p hp => ?_, rfl⟩
 ·dsimp only [hled] at hp ⊢
  refine m_use ?_ p hp; walk_at "d2"
 ·have hp2 : p ∈ (Dn, listOf (lts r9).toArray (lts r9).length) :: ((L' + 1 + 1 + 1, oT2) :: (L' + 1 + 1, oW) :: (L' + 1, oS) :: (colsLed ds ++ hled w c2 hs nH ((162, tabObj st8.p1) :: (169, tabObj st8.p2) :: led))) := by
   dsimp only [hled] at hp ⊢
   refine m_use ?_ p hp; walk_at "d2"
  rcases (List.mem_cons.mp hp2).symm with hp2 | rfl
  ·exact off.mem p hp2
  ·exact ⟨Ne.symm (hDn (I, oI) (.tail _ (.tail _ (.tail _ (List.mem_append_right _ (.head _)))))), Ne.symm (hDn (C, oC) (.tail _ (.tail _ (.tail _ (List.mem_append_right _ (.tail _ (.head _))))))), Ne.symm (hDn (D, _) (.tail _ (.tail _ (.tail _ (List.mem_append_right _ (.tail _ (.tail _ (.head _))))))))⟩
 ·rw [List.map_append, hds, List.range_succ, List.map_append]
  simp only [List.map_cons, List.map_nil, e92]
 ·rcases List.mem_append.mp hd with hd | hd
  ·exact hfd d hd p hp
  ·rw [List.mem_singleton] at hd
   subst hd
   refine hDn p ?_
   dsimp only [hled] at hp ⊢
   refine m_use ?_ p hp; walk_at "d2"
end J0.Kcols2.Kcols3.Kcols4.Kcols8
namespace J0.Kcols2.Kcols3.Kcols4.Kcols8
theorem eq_2 : Kcols4.pm.U1 := hy @eq_1
end J0.Kcols2.Kcols3.Kcols4.Kcols8
namespace J0.Kcols2.Kcols3.Kcols4
theorem eq_2 : Kcols3.pm.U1 := hy (pm.h Kcols8.eq_2)
end J0.Kcols2.Kcols3.Kcols4
namespace J0.Kcols2.Kcols3.Kcols5
def Z0 := Kcols3.pm.z2
def i := hx0 Z0
def h := hx1 Z0
def tk := hx2 Z0
def g := hx3 Z0
def I := hx4 Z0
def oI := hx5 Z0
def hs := hx6 Z0
def nH := hx7 Z0
def Z1 := ht Z0
def w2 := hx0 Z1
def w3 := hx1 Z1
def w4 := hx2 Z1
def tx := hx3 Z1
def q9 := hx4 Z1
def pm : Part2 (aP.o.o.o.a.E.p.a.b.I.c) (aP.a.d.o.a.E.q.p.a.b.d.c.I.c) (Kcols3.pm.Q2 i h tk g I oI hs nH w2 w3 w4 tx q9) := by
 apply Part2.mk
 case h =>
  intro hS1 hS2
  intro hwd hmany hz B F X N T hk hdp hu hret hz50 B' X' T' hlt hlet' hmany9 hq v1 v2 dT2 lD hgb EN HG hap N him hrl hr32 s4 s1 s2 s3 F3
  k_steps
  unfold Halt
  refine frest_start ?_
  k_steps
  unfold Halt
  refine' c_strip s1 s2 s3 (gd := _) (cn := _) (a := _) (ccd := _) (cl := _) (E := _) (B := ?kB) (F := F3) (X := X') (N := N) (T := T') (hk := ?kk) (hdp := ?kd) (hu := ?ku)  (hret := ?_)
  case kB => k_asm
  case kk => rfl
  case kd => walk_at "d3"
  case ku => walk_at "d3"
  intro t5 h5 tk5 F5 N5
  rw [s4]
  clear F3 N
  k_steps
  refine split_txt F5 N5 (by decide) (by have := len_join_one (((ps.map (·.1)).drop (i * wd)).take wd); unfold rowL; lia) fun Dr lr h15 tk15 er lDr F15 N15 => ?_
  rw [rowL_split (fun h => by rw [h] at hrl; simp at hrl; lia) hr32] at er
  clear F5 N5
  k_steps
  unfold Halt
  refine enum_new F15 N15 (N15.isList (.head _)) fun e it oE h16 hit F16 N16 lt1 lt2 lt3 => ?_
  clear F15 N15
  refine wpAny_pyIter_enum (N16 _ (.head _)).1 ?_
  have F17 := Fr.same F16 (m' := (fun z => if z = Str.ofString "line" then some (Value.str (q9 ++ rowL (((ps.map (·.1)).drop (i * wd)).take wd)) tx) else if z = Str.ofString "sign" then w2 else if z = Str.ofString "name" then w3 else if z = Str.ofString "place" then w4 else if z = Str.ofString "lines" then some (.ref D9) else if z = Str.ofString "text" then some (Value.str (Txt.join (Str.ofString "\n") (linesT q0 wd many (ps.map (·.1)))) u7) else if z = Str.ofString "white" then some (Value.str q0 tq) else if z = Str.ofString "page" then some (Value.ref c.fo) else if z = Str.ofString "great" then some (Value.int great tg) else none)) (by
   intro z
   revert z; refine frk (ks := [Str.ofString "line", Str.ofString "sign", Str.ofString "name", Str.ofString "place", Str.ofString "lines", Str.ofString "text", Str.ofString "white", Str.ofString "page", Str.ofString "great"]) ?_ ?_ ?_; (focus (repeat (first | with_reducible exact supp_none | with_reducible refine supp_ite (by kernel_rfl) ?_ | with_reducible exact supp_look (by kernel_rfl)))); (focus (repeat (first | with_reducible exact supp_none | with_reducible refine supp_ite (by kernel_rfl) ?_ | with_reducible exact supp_look (by kernel_rfl)))); kernel_rfl)
  clear F16
  have hap2 : ∀ p ∈ (Dr, listOf (strValues lr).toArray 0) :: (I, oI) :: (Dl, listOf (strValues l).toArray 0) :: ((L' + 1 + 1 + 1, oT2) :: (L' + 1 + 1, oW) :: (L' + 1, oS) :: (162, tabObj st8.p1) :: (169, tabObj st8.p2) :: led), p.1 ≠ c2.HL := fun p hp => by
   refine m_el hp (m_all ?_ ?_)
   ·exact Nat.ne_of_gt (lDr (c2.HL, _) (.tail _ (.tail _ (.head _))))
   refine m_all ?_ ?_
   ·exact (hap (c2.HL, _) (.tail _ (.head _))).symm
   refine m_all ?_ ?_
   ·exact Nat.ne_of_gt (lD (c2.HL, _) (.head _))
   intro p hp
   exact HG.ap p hp
  have N17 : News g' L' h16 (eledOf e it 0 Value.none oE ++ hled w c2 hs nH ((Dr, listOf (strValues lr).toArray 0) :: (I, oI) :: (Dl, listOf (strValues l).toArray 0) :: ((L' + 1 + 1 + 1, oT2) :: (L' + 1 + 1, oW) :: (L' + 1, oS) :: (162, tabObj st8.p1) :: (169, tabObj st8.p2) :: led))) := fun p hp => N16 p (by
   dsimp only [hled] at hp ⊢
   refine m_use ?_ p hp; walk_at "d2")
  clear N16
  have hfr0 : ∀ t ∈ hs, t.1 ≠ I := fun t ht => hap (t.1, _) (.tail _ (.tail _ (.tail _ (.tail _ (List.mem_append_left _ (List.mem_map.mpr ⟨t, ht, rfl⟩))))))
  refine for_enum2 (items := (strValues lr).toArray) (d := s.drawn) (os := s.os) AllBare (fun j m led' => ∃ (hs : List Pr) (nH : Nat) (w2 w3 w4 : Option Value), Ents hs (pageE wd (ps.map (·.1)) i ++ rowE (((ps.map (·.1)).drop (i * wd)).take wd) j) ∧ HGood c2 hs ((Dr, listOf (strValues lr).toArray 0) :: (I, oI) :: (Dl, listOf (strValues l).toArray 0) :: ((L' + 1 + 1 + 1, oT2) :: (L' + 1 + 1, oW) :: (L' + 1, oS) :: (162, tabObj st8.p1) :: (169, tabObj st8.p2) :: led)) ∧ (∀ t ∈ hs, t.1 ≠ I) ∧
    led' = hled w c2 hs nH ((Dr, listOf (strValues lr).toArray 0) :: (I, oI) :: (Dl, listOf (strValues l).toArray 0) :: ((L' + 1 + 1 + 1, oT2) :: (L' + 1 + 1, oW) :: (L' + 1, oS) :: (162, tabObj st8.p1) :: (169, tabObj st8.p2) :: led)) ∧
    m = (fun z => if z = Str.ofString "line" then some (Value.str (q9 ++ rowL (((ps.map (·.1)).drop (i * wd)).take wd)) tx) else if z = Str.ofString "sign" then w2 else if z = Str.ofString "name" then w3 else if z = Str.ofString "place" then w4 else if z = Str.ofString "lines" then some (.ref D9) else if z = Str.ofString "text" then some (Value.str (Txt.join (Str.ofString "\n") (linesT q0 wd many (ps.map (·.1)))) u7) else if z = Str.ofString "white" then some (Value.str q0 tq) else if z = Str.ofString "page" then some (Value.ref c.fo) else if z = Str.ofString "great" then some (Value.int great tg) else none))
   (by passes_own) rfl rfl rfl rfl lt3 lt2 F17 N17 hit ?hap hgb ⟨hs, nH, w2, w3, w4, by rw [rowE, List.append_nil]; exact EN, ⟨v1, v2, hap2, HG.lt⟩, hfr0, rfl, rfl⟩ ?hl ?turn ?done
  case hap =>
   have hlt : ∀ p ∈ hled w c2 hs nH ((Dr, listOf (strValues lr).toArray 0) :: (I, oI) :: (Dl, listOf (strValues l).toArray 0) :: ((L' + 1 + 1 + 1, oT2) :: (L' + 1 + 1, oW) :: (L' + 1, oS) :: (162, tabObj st8.p1) :: (169, tabObj st8.p2) :: led)), p.1 < it := fun p hp => lt1 p (by
    dsimp only [hled] at hp ⊢
    refine m_use ?_ p hp; walk_at "d2")
   intro p hp q hq
   refine m_el hq ?_; refine m_all ?_ (m_all ?_ m_nil)
   ·exact Nat.ne_of_lt (Nat.lt_trans (hlt p hp) lt3)
   ·exact Nat.ne_of_lt (hlt p hp)
  case hl =>
   intro j m' led' h y94 F N; refine hG fun G9 hG9 => ?_; obtain ⟨hs, nH, w2, w3, w4, EN, HG, hfr, rfl, rfl⟩ := y94; refine hG9 ?_; clear hG9 G9
   exact N.isList (.tail _ (.tail _ (.tail _ (List.mem_append_right _ (.head _)))))
  case done =>
   intro m' led' h tk g y95 hgb F N; refine hG fun G9 hG9 => ?_; obtain ⟨hs, nH, w2, w3, w4, EN, HG, hfr, rfl, rfl⟩ := y95; refine hG9 ?_; clear hG9 G9
   dsimp only
   have hsz : (strValues lr).toArray.size = wd := by
    have := congrArg List.length er
    simp only [List.length_map] at this
    simp [strValues, this, hrl]
   rw [hsz] at EN
   rename_i zz9 zz11 zz84 zz85 zz86
   revert zz9 X zz11 X' v1 v2 zz84 zz85 zz86 hap hgb EN HG hfr N F
   exact @hS1 Dr lr h tk g hs nH w2 w3 w4
  case turn =>
   intro j v t m' led' h tk g zl hv2 y910 hap3 hgb F N; refine hG fun G9 hG9 => ?_; obtain ⟨hs, nH, w2, w3, w4, EN, HG, hfr, rfl, rfl⟩ := y910; refine hG9 ?_; clear hG9 G9
   refine hG fun G9 hG9 => ?_; obtain ⟨x, ty, hx2, rfl⟩ := vals_at er hv2; refine hG9 ?_; clear hG9 G9
   have hjw : j < wd := by
    have := (List.getElem?_eq_some_iff.mp hx2).1
    rw [List.length_map, hrl] at this
    exact this
   obtain ⟨y, hy, rfl⟩ : ∃ y, (((ps.map (·.1)).drop (i * wd)).take wd)[j]? = some y ∧ x = ⟨#[y]⟩ := by
    rw [List.getElem?_map, Option.map_eq_some_iff] at hx2
    refine hG fun G9 hG9 => ?_; obtain ⟨y, hy, e⟩ := hx2; refine hG9 ?_; clear hG9 G9
    exact ⟨y, hy, e.symm⟩
   have hyl : isLet y = true := hlet' y (List.mem_of_mem_drop (List.mem_of_mem_take (List.mem_of_getElem? hy)))
   have F18 := Fr.same F (m' := (fun z => if z = Str.ofString "line" then some (Value.str (q9 ++ rowL (((ps.map (·.1)).drop (i * wd)).take wd)) tx) else if z = Str.ofString "sign" then some (Value.str ⟨#[y]⟩ ty) else if z = Str.ofString "name" then w3 else if z = Str.ofString "place" then some (Value.int (j : Nat) t) else if z = Str.ofString "lines" then some (.ref D9) else if z = Str.ofString "text" then some (Value.str (Txt.join (Str.ofString "\n") (linesT q0 wd many (ps.map (·.1)))) u7) else if z = Str.ofString "white" then some (Value.str q0 tq) else if z = Str.ofString "page" then some (Value.ref c.fo) else if z = Str.ofString "great" then some (Value.int great tg) else none)) (by
    intro z
    revert z; refine frk (ks := [Str.ofString "line", Str.ofString "sign", Str.ofString "name", Str.ofString "place", Str.ofString "lines", Str.ofString "text", Str.ofString "white", Str.ofString "page", Str.ofString "great"]) ?_ ?_ ?_; (focus (repeat (first | with_reducible exact supp_none | with_reducible refine supp_ite (by kernel_rfl) ?_ | with_reducible exact supp_look (by kernel_rfl)))); (focus (repeat (first | with_reducible exact supp_none | with_reducible refine supp_ite (by kernel_rfl) ?_ | with_reducible exact supp_look (by kernel_rfl)))); kernel_rfl)
   clear F
   have N18 : News g' L' h ((c2.HL, listOf (prRefs hs).toArray nH) :: (c2.fo, instObj 369 c2.FD) :: (c2.FD, hdrDict w c2) :: (L' + 1 + 1 + 1, oT2) :: (L' + 1 + 1, oW) :: (L' + 1, oS) :: (prLed hs ++ (zl ++ (Dr, listOf (strValues lr).toArray 0) :: (I, oI) :: (Dl, listOf (strValues l).toArray 0) :: (162, tabObj st8.p1) :: (169, tabObj st8.p2) :: led))) := fun p hp => N p (by
    dsimp only [hled]
    refine m_use ?_ p hp; walk_at "d2")
   rename_i zz11 zz84 zz85 zz86
   revert hwd hmany hz B F X zz11 T hk hdp hu hret hz50 B' X' T' hmany9 hq v1 v2 dT2 zz84 zz85 zz86 him j hgb EN HG hfr hap3 N hjw hy hx2 hv2 hyl F18 N18
   exact @hS2 Dr lr e t h tk g zl hs nH w3 ty y
end J0.Kcols2.Kcols3.Kcols5
namespace J0.Kcols2.Kcols3.Kcols5.Kcols7
def Z0 := Kcols5.pm.z1
def Dr := hx0 Z0
def lr := hx1 Z0
def h := hx2 Z0
def tk := hx3 Z0
def g := hx4 Z0
def hs := hx5 Z0
def nH := hx6 Z0
def w2 := hx7 Z0
def Z1 := ht Z0
def w3 := hx0 Z1
def w4 := hx1 Z1
theorem eq_1 : Kcols5.pm.Q1 Dr lr h tk g hs nH w2 w3 w4 := by
 intro F X N X' v1 v2 hgb EN HG hap hgb EN HG hfr N F
 k_steps
 refine tpost_next (led' := (Dl, listOf (strValues l).toArray 0) :: hled w c2 hs nH ((L' + 1 + 1 + 1, oT2) :: (L' + 1 + 1, oW) :: (L' + 1, oS) :: (162, tabObj st8.p1) :: (169, tabObj st8.p2) :: led)) F (fun p hp => N p (by
  dsimp only [hled] at hp ⊢
  refine m_use ?_ p hp; walk_at "d2")) hgb (fun p hp => ?_) ⟨hs, nH, _, _, _, _, EN, ⟨v1, v2, fun p hp => HG.ap p (.tail _ (.tail _ (.tail _ hp))), HG.lt⟩, rfl, rfl⟩
 refine m_el hp (m_all ?_ ?_)
 ·exact hap (Dl, _) (.head _)
 refine m_all ?_ ?_
 ·exact (show c2.HL ≠ I from hap (c2.HL, _) (.tail _ (.head _)))
 refine m_all ?_ ?_
 ·exact hap (c2.fo, _) (.tail _ (.tail _ (.head _)))
 refine m_all ?_ ?_
 ·exact hap (c2.FD, _) (.tail _ (.tail _ (.tail _ (.head _))))
 intro p hp
 rcases List.mem_append.mp hp with hp | hp
 ·refine hG fun G9 hG9 => ?_; obtain ⟨t9, ht9, rfl⟩ := List.mem_map.mp hp; refine hG9 ?_; clear hG9 G9
  exact hfr t9 ht9
 ·exact hap p (.tail _ (.tail _ (.tail _ (.tail _ (List.mem_append_right _ hp)))))
end J0.Kcols2.Kcols3.Kcols5.Kcols7
namespace J0.Kcols2.Kcols3.Kcols5.Kcols7
theorem eq_2 : Kcols5.pm.U1 := hy @eq_1
end J0.Kcols2.Kcols3.Kcols5.Kcols7
namespace J0.Kcols2.Kcols3.Kcols5.Kcols6
def Z0 := Kcols5.pm.z2
def Dr := hx0 Z0
def lr := hx1 Z0
def e := hx2 Z0
def t := hx3 Z0
def h := hx4 Z0
def tk := hx5 Z0
def g := hx6 Z0
def zl := hx7 Z0
def Z1 := ht Z0
def hs := hx0 Z1
def nH := hx1 Z1
def w3 := hx2 Z1
def ty := hx3 Z1
def y := hx4 Z1
theorem eq_1 : Kcols5.pm.Q2 Dr lr e t h tk g zl hs nH w3 ty y := by
 intro hwd hmany hz B F X N T hk hdp hu hret hz50 B' X' T' hmany9 hq v1 v2 dT2 hgb EN HG him j hgb EN HG hfr hap3 N hjw hy hx2 hv2 hyl F18 N18
 k_steps
 unfold Halt
 refine either_name (j := j) (fun Q' hQ => ?_) fun xn tn tkn hxn hxj => ?_
 ·have hj3 : j = 0 ∨ j = 1 ∨ j = 2 := by lia
  clear hret
  rcases hj3 with rfl | rfl | rfl
  all_goals k_steps
  all_goals first
   | (rw [iA0]; exact hQ 65 _ _ rfl rfl)
   | (rw [iA1]; exact hQ 66 _ _ rfl rfl)
   | (rw [iA2]; exact hQ 67 _ _ rfl rfl)
   | (rw [ia0]; exact hQ 97 _ _ rfl rfl)
   | (rw [ia1]; exact hQ 98 _ _ rfl rfl)
   | (rw [ia2]; exact hQ 99 _ _ rfl rfl)
 k_steps
 unfold Halt
 rename_i F19 N19
 have N20 : News g' L' _ (hled w c2 hs nH (zl ++ ((Dr, listOf (strValues lr).toArray 0) :: (I, oI) :: (Dl, listOf (strValues l).toArray 0) :: ((L' + 1 + 1 + 1, oT2) :: (L' + 1 + 1, oW) :: (L' + 1, oS) :: (162, tabObj st8.p1) :: (169, tabObj st8.p2) :: led)))) := fun p hp => N19 p (by
  dsimp only [hled] at hp
  refine m_use ?_ p hp; walk_at "d2")
 have HG2 : HGood c2 hs (zl ++ ((Dr, listOf (strValues lr).toArray 0) :: (I, oI) :: (Dl, listOf (strValues l).toArray 0) :: ((L' + 1 + 1 + 1, oT2) :: (L' + 1 + 1, oW) :: (L' + 1, oS) :: (162, tabObj st8.p1) :: (169, tabObj st8.p2) :: led))) := ⟨v1, v2, fun p hp => (List.mem_append.mp hp).elim (fun hp => (hap3 (c2.HL, _) (.head _) p hp).symm) (HG.ap p), HG.lt⟩
 have hlen9 : hs.length < 399 := by
  rw [EN.len, List.length_append]
  have a1 := pageE_le wd (ps.map (·.1)) i
  have a2 := rowE_le (((ps.map (·.1)).drop (i * wd)).take wd) j
  have a3 : i * wd ≤ 9 * 3 := Nat.mul_le_mul (by lia) (by lia)
  lia
 refine' c_addh HG2 hlen9 hxn hyl (gd := _) (cn := _) (a := _) (ccd := _) (cl := _) (E := _) (B := ?kB) (F := F19) (X := X') (N := N20) (T := T') (hk := ?kk) (hdp := ?kd) (hu := ?ku)  (hret := ?_)
 case kB => k_asm
 case kk => rfl
 case kd => walk_at "d3"
 case ku => walk_at "d3"
 intro Tn t' h20 tk20 lT HG3 F20 N21
 clear F19 N19 N20
 k_steps
 have F21 := Fr.same F20 (m' := (fun z => if z = Str.ofString "line" then some (Value.str (q9 ++ rowL (((ps.map (·.1)).drop (i * wd)).take wd)) tx) else if z = Str.ofString "sign" then some (Value.str ⟨#[y]⟩ ty) else if z = Str.ofString "name" then some (Value.str ⟨#[xn]⟩ tn) else if z = Str.ofString "place" then some (Value.int (j : Nat) t) else if z = Str.ofString "lines" then some (.ref D9) else if z = Str.ofString "text" then some (Value.str (Txt.join (Str.ofString "\n") (linesT q0 wd many (ps.map (·.1)))) u7) else if z = Str.ofString "white" then some (Value.str q0 tq) else if z = Str.ofString "page" then some (Value.ref c.fo) else if z = Str.ofString "great" then some (Value.int great tg) else none)) (by
  intro z
  revert z; refine frk (ks := [Str.ofString "name", Str.ofString "line", Str.ofString "sign", Str.ofString "place", Str.ofString "lines", Str.ofString "text", Str.ofString "white", Str.ofString "page", Str.ofString "great"]) ?_ ?_ ?_; (focus (repeat (first | with_reducible exact supp_none | with_reducible refine supp_ite (by kernel_rfl) ?_ | with_reducible exact supp_look (by kernel_rfl)))); (focus (repeat (first | with_reducible exact supp_none | with_reducible refine supp_ite (by kernel_rfl) ?_ | with_reducible exact supp_look (by kernel_rfl)))); kernel_rfl)
 refine ⟨h20, _, g, _, hled w c2 (hs ++ [(Tn, (⟨#[xn]⟩, tn), (⟨#[y]⟩, t'))]) (nH + 1) ((Dr, listOf (strValues lr).toArray 0) :: (I, oI) :: (Dl, listOf (strValues l).toArray 0) :: ((L' + 1 + 1 + 1, oT2) :: (L' + 1 + 1, oW) :: (L' + 1, oS) :: (162, tabObj st8.p1) :: (169, tabObj st8.p2) :: led)), rfl, hgb, F21, fun p hp => N21 p ?_, fun p hp q hq => ?_, hs ++ [(Tn, (⟨#[xn]⟩, tn), (⟨#[y]⟩, t'))], nH + 1, some (Value.str ⟨#[y]⟩ ty), some (Value.str ⟨#[xn]⟩ tn), some (Value.int (j : Nat) t), ?_, ⟨v1, v2, HG.ap, HG3.lt⟩, fun t9 ht9 => ?_, rfl, rfl⟩
 ·dsimp only [hled] at hp ⊢
  refine m_use ?_ p hp; walk_at "d2"
 ·refine m_el hp (m_all ?_ ?_)
  ·exact (show c2.HL ≠ q.1 from hap3 (c2.HL, _) (.head _) q hq)
  refine m_all ?_ ?_
  ·exact hap3 (c2.fo, _) (.tail _ (.head _)) q hq
  refine m_all ?_ ?_
  ·exact hap3 (c2.FD, _) (.tail _ (.tail _ (.head _))) q hq
  intro p hp
  rcases List.mem_append.mp hp with hp | hp
  ·refine hG fun G9 hG9 => ?_; obtain ⟨t9, ht9, rfl⟩ := List.mem_map.mp hp; refine hG9 ?_; clear hG9 G9
   rcases List.mem_append.mp ht9 with ht9 | ht9
   ·exact hap3 (t9.1, prObj t9) (.tail _ (.tail _ (.tail _ (List.mem_append_left _ (List.mem_map.mpr ⟨t9, ht9, rfl⟩))))) q hq
   ·rw [List.mem_singleton] at ht9
    subst ht9
    exact Nat.ne_of_gt (lT q (.tail _ (.tail _ (.tail _ (List.mem_append_right _ (List.mem_append_left _ hq))))))
  ·exact hap3 p (.tail _ (.tail _ (.tail _ (List.mem_append_right _ hp)))) q hq
 ·have e : rowE (((ps.map (·.1)).drop (i * wd)).take wd) (j + 1) = rowE (((ps.map (·.1)).drop (i * wd)).take wd) j ++ [(j, y)] := by rw [rowE, hy]; rfl
  rw [e, ← List.append_assoc]
  exact EN.snoc hxn hxj
 ·rcases List.mem_append.mp ht9 with ht9 | ht9
  ·exact hfr t9 ht9
  ·rw [List.mem_singleton] at ht9
   subst ht9
   exact Nat.ne_of_gt (lT (I, oI) (.tail _ (.tail _ (.tail _ (List.mem_append_right _ (List.mem_append_right _ (.tail _ (.head _)))))))) 
end J0.Kcols2.Kcols3.Kcols5.Kcols6
namespace J0.Kcols2.Kcols3.Kcols5.Kcols6
theorem eq_2 : Kcols5.pm.U2 := hy @eq_1
end J0.Kcols2.Kcols3.Kcols5.Kcols6
namespace J0.Kcols2.Kcols3.Kcols5
theorem eq_2 : Kcols3.pm.U2 := hy (pm.h Kcols7.eq_2 Kcols6.eq_2)
end J0.Kcols2.Kcols3.Kcols5
namespace J0.Kcols2.Kcols3
theorem eq_2 : Kcols2.pm.U1 := hy (pm.h Kcols4.eq_2 Kcols5.eq_2)
end J0.Kcols2.Kcols3
namespace J0.Kcols2
theorem eq_2 : J0.pm.U2 := hy (pm.h Kcols3.eq_2)
end J0.Kcols2
namespace J0
theorem eq_2 : pt.U1 := hy (pm.h Kcols1.eq_2 Kcols2.eq_2)
end J0
theorem c_cols : type_of% (@Part1.h _ _ _ J0.pt J0.eq_2) := @Part1.h _ _ _ J0.pt J0.eq_2
end
end
noncomputable abbrev natVals (ds : List (Nat × Tok)) : List Value := ds.map fun p => .int (p.1 : Int) p.2
section
namespace J12
def pt : Part1 (aP.f.f.m.e.c.b.b.l.x.s.h.c.r.i.w.a.a.d.d.a.C.q.e.e.t.j) (∀ {w : World} {mean : ExcName → Option Value} {mg mb : Str → Option Value} {led : List (Addr × Obj)} {f : Int} {k : Nat} {tf tk0 : Tok} (hk1 : k < 50)
(dp un : Nat) (gd : Option (List Code)) (cn : Str) (cs : Scope) (a : Addr) (ccd : Value) (cl : List (Str × Addr)) (outer : List Env) (A₀ : Around) (base h₀ : Heap) (L : Addr) (m : Str → Option Value) (s : Shared) (Q E : Value → Shared → Prop)
  (B : Below A₀ base outer h₀) (F : Fr h₀ L s.heap m) (X : (hd.heap_1 w.params).In h₀) (N : News h₀ L s.heap led) (T : Top pv lv mean mg mb h₀) (hk : cs.kind = .function)
  (hdp : dp + 60 < recursionLimit) (hu : un + 560 < cLine)
  (hret : ∀ (D : Addr) (ds : List (Nat × Tok)) (h' : Heap) (tk' : Nat), ds.length = k → (∀ p ∈ ds, p.1 < 10) → (∀ p ∈ led, p.1 < D) → Fr h₀ L h' m → News h₀ L h' ((D, listOf (natVals ds).toArray k) :: led) → Q (.ref D) { s with heap := h', toks := tk' }), wpAny (model theProg w) (ktrTop dp un gd cn cs L a ccd cl outer) (call (.ref 387) [.int f tf, .int k tk0]) Q E s) := by
 apply Part1.mk
 case h => intro hS1 w mean mg mb led f k tf tk0 hk1 dp un gd cn cs a ccd cl outer A₀ base h₀ L m s Q E B F X N T hk hdp hu hret; revert hk1 B F X N T hk hdp hu hret; exact @hS1 w mean mg mb led f k tf tk0 dp un gd cn cs a ccd cl outer A₀ base h₀ L m s Q E
def Z0 := pt.z1
def w := hx0 Z0
def mean := hx1 Z0
def mg := hx2 Z0
def mb := hx3 Z0
def led := hx4 Z0
def f := hx5 Z0
def k := hx6 Z0
def tf := hx7 Z0
def Z1 := ht Z0
def tk0 := hx0 Z1
def dp := hx1 Z1
def un := hx2 Z1
def gd := hx3 Z1
def cn := hx4 Z1
def cs := hx5 Z1
def a := hx6 Z1
def ccd := hx7 Z1
def Z2 := ht Z1
def cl := hx0 Z2
def outer := hx1 Z2
def A₀ := hx2 Z2
def base := hx3 Z2
def h₀ := hx4 Z2
def L := hx5 Z2
def m := hx6 Z2
def s := hx7 Z2
def Z3 := ht Z2
def Q := hx0 Z3
def E := hx1 Z3
theorem eq_1 : pt.Q1 w mean mg mb led f k tf tk0 dp un gd cn cs a ccd cl outer A₀ base h₀ L m s Q E := by
 intro hk1 B F X N T hk hdp hu hret
 k_with_none
 k_with "ne" => (refine neN ?_; (try dsimp only); first | with_reducible (first | assumption | (refine Ne.symm ?_; assumption) | exact ne_1 | exact ne_1.symm | exact ne_2 | exact ne_2.symm | exact ne_3 | exact ne_3.symm | exact ne_4 | exact ne_4.symm) | exact (by with_reducible assumption : Apt _ _) | exact Ne.symm (by with_reducible assumption : Apt _ _) | omega)
 k_with "d2" => (repeat' (first | with_reducible (first | exact m_id | exact m_nil | exact m_lid | exact m_mapl | exact m_mapl2 | refine m_cons ?_ ?_ | refine m_app ?_ ?_ | refine m_map ?_ ?_ | refine m_map1 ?_ | exact m_hd | refine m_tl ?_ | exact m_mapr rfl | refine m_tail ?_ | refine m_right ?_ | refine m_inr ?_) | exact m_hd | refine m_tl ?_))
 k_with "d3" => (first | assumption | omega | ktr_room | ktr_units | (simp only [] at *; omega))
 k_with "pyIter ref" => (k_here; (refine Halt.out ?_))
 k_with "exec For Name Call cons nil" => (k_here; (refine Halt.out ?_))
 have _ := fl X
 refine wpAny_call ?_
 k_dflt (refine codeD (h := ?_); k_whole; intro m' g' L' h' tk' FG' F' N' B' X' T'; (try dsimp only); (try k_lift B'); (try k_fold))
 k_steps
 unfold Halt
 refine frest_start ?_
 k_steps
 unfold Halt
 rename_i D _ lD h1 _ _ h2 tk2 w1 w2 w3 hr F2 N2 _
 refine for_range (n := k) (d := s.drawn) (os := s.os) (fun g => g = s.gens) (fun i m led' => ∃ (ds : List (Nat × Tok)) (f : Int) (tf : Tok) (u1 u2 : Option Value), ds.length = i ∧ (∀ p ∈ ds, p.1 < 10) ∧ led' = (D, listOf (natVals ds).toArray i) :: led ∧
   m = (fun z => if z = Str.ofString "turn" then u1 else if z = Str.ofString "rest" then u2 else if z = Str.ofString "digits" then some (Value.ref D) else if z = Str.ofString "number" then some (Value.int f tf) else if z = Str.ofString "many" then some (Value.int k tk0) else none))
  (by passes_own) rfl rfl rfl (small_up (by lia)) rangeSize_up (Fr.same F2 (m' := (fun z => if z = Str.ofString "turn" then none else if z = Str.ofString "rest" then none else if z = Str.ofString "digits" then some (Value.ref D) else if z = Str.ofString "number" then some (Value.int f tf) else if z = Str.ofString "many" then some (Value.int k tk0) else none)) ?e) N2 hr rfl ⟨[], f, tf, none, none, rfl, by simp, rfl, rfl⟩ ?turn ?done
 case e => exact (by refine frk (ks := [Str.ofString "turn", Str.ofString "rest", Str.ofString "digits", Str.ofString "many", Str.ofString "number"]) ?_ ?_ ?_; (focus (repeat (first | with_reducible exact supp_none | with_reducible refine supp_ite (by kernel_rfl) ?_ | with_reducible exact supp_look (by kernel_rfl)))); (focus (repeat (first | with_reducible exact supp_none | with_reducible refine supp_ite (by kernel_rfl) ?_ | with_reducible exact supp_look (by kernel_rfl)))); kernel_rfl)
 case done =>
  rintro m' led' h tk g ⟨ds, f2, tf2, v1, v2, e1, e2, rfl, rfl⟩ rfl F N
  dsimp only
  k_steps
  rename_i kF kN _ _
  exact hret D ds _ _ e1 e2 lD kF kN
 case turn =>
  rintro i t m' led' h tk7 g I oI hi ⟨ds, f2, tf2, v1, v2, e1, e2, rfl, rfl⟩ hap rfl F N
  have F3 := Fr.same F (m' := (fun z => if z = Str.ofString "turn" then some (Value.int (0 + (i : Nat) * 1) t) else if z = Str.ofString "rest" then v2 else if z = Str.ofString "digits" then some (Value.ref D) else if z = Str.ofString "number" then some (Value.int f2 tf2) else if z = Str.ofString "many" then some (Value.int k tk0) else none)) (by
   intro z
   revert z; refine frk (ks := [Str.ofString "turn", Str.ofString "rest", Str.ofString "digits", Str.ofString "number", Str.ofString "many"]) ?_ ?_ ?_; (focus (repeat (first | with_reducible exact supp_none | with_reducible refine supp_ite (by kernel_rfl) ?_ | with_reducible exact supp_look (by kernel_rfl)))); (focus (repeat (first | with_reducible exact supp_none | with_reducible refine supp_ite (by kernel_rfl) ?_ | with_reducible exact supp_look (by kernel_rfl)))); kernel_rfl)
  clear F
  k_steps
  rename_i F5 N5
  have hr0 := fmod_lo f2 (n := 10) (by decide)
  have hr1 := fmod_hi f2 (n := 10) (by decide)
  have N6 : News g' L' _ ((I, oI) :: (D, listOf (natVals ds).toArray i) :: led) := fun p hp => N5 p (.tail _ hp)
  have hDI : I ≠ D := (hap (D, _) (.head _)).symm
  have hes : ∀ t9 : Tok, (natVals (ds ++ [((f2.fmod 10).toNat, t9)])).toArray = (natVals ds).toArray.push (.int (f2.fmod 10) t9) := fun t9 => by
   have e : ((f2.fmod 10).toNat : Int) = f2.fmod 10 := by lia
   simp [natVals, e]
  refine append_K F5 N6 (.tail hDI (.head fun p hp => Nat.ne_of_lt (lD p hp))) (fun h8 F8 N8 => ?_) (by simp [sizeLine, e1]; lia)
  rw [← hes] at N8
  clear F5 N5 N6
  k_steps
  refine tpost_next F8 N8 rfl ?_ ⟨_, f2.fdiv 10, tk7 + 1, some (.int (0 + (i : Nat) * 1) t), some (.int (f2.fmod 10) (tk7 + 1 + 1)), ?_, ?_, rfl, ?_⟩
  ·intro p hp
   refine m_el hp (m_all ?_ ?_)
   ·exact hDI.symm
   ·intro p hp; exact hap p (.tail _ hp)
  ·simp [e1]
  ·intro p hp
   rcases List.mem_append.mp hp with hp | hp
   ·exact e2 p hp
   ·rw [List.mem_singleton] at hp
    subst hp
    show (f2.fmod 10).toNat < 10
    lia
  ·funext z
   revert z; refine frk (ks := [Str.ofString "turn", Str.ofString "rest", Str.ofString "digits", Str.ofString "number", Str.ofString "many"]) ?_ ?_ ?_; (focus (repeat (first | with_reducible exact supp_none | with_reducible refine supp_ite (by kernel_rfl) ?_ | with_reducible exact supp_look (by kernel_rfl)))); (focus (repeat (first | with_reducible exact supp_none | with_reducible refine supp_ite (by kernel_rfl) ?_ | with_reducible exact supp_look (by kernel_rfl)))); kernel_rfl
theorem eq_2 : pt.U1 := hy @eq_1
end J12
theorem c_digits : type_of% (@Part1.h _ _ _ J12.pt J12.eq_2) := @Part1.h _ _ _ J12.pt J12.eq_2
end
noncomputable def CellJ (K : Addr) (J : (Str → Option Value) → List (Addr × Obj) → Prop) (m : Str → Option Value) (led : List (Addr × Obj)) : Prop :=
 ∃ oK vK led', led = (K, oK) :: led' ∧ oK.data = .cell vK ∧ (∀ p ∈ led', p.1 ≠ K) ∧ J m led'
section
variable {prog : Program} {w : World} {A : Around} {E : Value → Shared → Prop} {env : Env} {x : Str} {px : Pos} {body : List Stmt} {Q : Flow → Shared → Prop}
variable {h₀ h : Heap} {g : Array GenState} {d : Drawn} {tk : Nat} {os : OsState} {m : Str → Option Value} {l K : Addr} {items : Array Value} {led : List (Addr × Obj)} {oK : Obj} {vK : Option Value}
theorem for_cell (G : Array GenState → Prop) (J : Nat → (Str → Option Value) → List (Addr × Obj) → Prop) (hE : PassesOwn (model prog w) A env E) (hh : A.handled = none)
    (hf : env.scope.kind = .function) (hx : env.kindOf x = some .cell) (hc : env.cells.lookup x = some K)
    (F : Fr h₀ env.locals h m) (N : News h₀ env.locals h ((K, oK) :: led)) (hK : oK.data = .cell vK) (hKl : ∀ p ∈ led, p.1 ≠ K) (hg : G g) (h0 : J 0 m led)
    (hl : ∀ i m led h, J i m led → Fr h₀ env.locals h m → News h₀ env.locals h led → h.IsList l items)
    (turn : ∀ i v m led h tk g I oI oK, items[i]? = some v → J i m led → (∀ p ∈ led, p.1 ≠ I ∧ p.1 ≠ K) → K ≠ I → oK.data = .cell (some v) → G g → Fr h₀ env.locals h m → News h₀ env.locals h ((I, oI) :: (K, oK) :: led) →
      wpAny (model prog w) A (execs body env) (TPost h₀ env.locals G d os I oI (CellJ K (J (i + 1))) Q) E ⟨h, g, d, tk, os⟩)
    (done : ∀ m led oK vK h tk g, J items.size m led → (∀ p ∈ led, p.1 ≠ K) → oK.data = .cell vK → G g → Fr h₀ env.locals h m → News h₀ env.locals h ((K, oK) :: led) → Q .next ⟨h, g, d, tk, os⟩) :
    wpAny (model prog w) A (pyIter (.ref l)) (fun it s₂ => FRest prog w A E env (.Name x px) it body [] Q s₂) E ⟨h, g, d, tk, os⟩ := by
  refine list_iter (s := ⟨h, g, d, tk, os⟩) F N (hl 0 m led h h0 F fun p hp => N p (.tail _ hp)) fun I oI h' hI F' N' hap hlI _ => ?_
  have key : ∀ k i m led h tk g oI oK vK, items.size - i = k → i ≤ items.size → J i m led → ItObj l i oI → (∀ p ∈ (K, oK) :: led, p.1 ≠ I) → (∀ p ∈ led, p.1 ≠ K) → oK.data = .cell vK → G g → Fr h₀ env.locals h m → News h₀ env.locals h ((I, oI) :: (K, oK) :: led) →
      FRest prog w A E env (.Name x px) (.ref I) body [] Q ⟨h, g, d, tk, os⟩ := by
    intro k
    induction k with
    | zero =>
      intro i m led h tk g oI oK vK hk hi hJ hI hap hKl hK hg F N
      have hl' := hl i m led h hJ F fun p hp => N p (.tail _ (.tail _ hp))
      refine frest_turn hE (list_end (s := ⟨h, g, d, tk, os⟩) hh F N hI hap hl' (by simp; omega) fun h' F' N' => ?_)
      have : i = items.size := by omega
      subst this
      exact wpAny_execs_nil (done m led oK vK h' tk g hJ hKl hK hg F' N')
    | succ k ih =>
      intro i m led h tk g oI oK vK hk hi hJ hI hap hKl hK hg F N
      have hl' := hl i m led h hJ F fun p hp => N p (.tail _ (.tail _ hp))
      have hlt : i < items.size := by omega
      refine frest_turn hE (list_next (s := ⟨h, g, d, tk, os⟩) (v := items[i]) F N hI hap (Nat.ne_of_lt hlI) hl' (by simp [hlt]) fun oI' h' hI' F' N' hl'' => ?_)
      refine wpAny_of_eq (a := ()) rfl ?_
      have nK := N' (K, oK) (.tail _ (.head _))
      refine wpAny_assign_Name (wpAny_storeName_cell hf hx hc ⟨oK, nK.1, hK⟩ fun h₂ hv hs₂ => ?_)
      obtain ⟨oK', hK2, hKd⟩ := hv
      have hKI : K ≠ I := hap (K, oK) (.head _)
      have F₂ : Fr h₀ env.locals h₂ m := F'.change hs₂ nK.2.1 nK.2.2
      have N₂ : News h₀ env.locals h₂ ((I, oI') :: (K, oK') :: led) := fun p hp => by
        refine m_el hp (m_all ?_ ?_)
        · have z := N' (I, oI') (.head _)
          exact ⟨hs₂.extBut _ _ (Ne.symm hKI) z.1, z.2⟩
        refine m_all ?_ ?_
        · exact ⟨hK2, nK.2⟩
        · intro p hp; have z := N' p (.tail _ (.tail _ hp))
          exact ⟨hs₂.extBut _ _ (hKl p hp) z.1, z.2⟩
      refine wpAny_mono (turn i items[i] m led h₂ _ g I oI' oK' (by simp [hlt]) hJ (fun p hp => ⟨hap p (.tail _ hp), hKl p hp⟩) hKI hKd hg F₂ N₂) (fun f s₃ h₃ => ?_) fun _ _ e => e
      have fin : TEnd h₀ env.locals G d os I oI' (CellJ K (J (i + 1))) s₃ → FRest prog w A E env (.Name x px) (.ref I) body [] Q s₃ := by
        rintro ⟨h', tk', g', m', led', rfl, hg', F'', N'', hap', ⟨oK2, vK2, led2, rfl, hK3, hKl3, hJ'⟩⟩
        exact ih (i + 1) m' led2 h' tk' g' oI' oK2 vK2 (by omega) hlt hJ' hI' hap' hKl3 hK3 hg' F'' N''
      cases f with
      | next => exact fin h₃
      | cont => exact fin h₃
      | brk => exact h₃
      | ret v => exact h₃
  exact key _ 0 m led h' tk g oI oK vK rfl (Nat.zero_le _) h0 hI (fun p hp => Nat.ne_of_lt (hap p hp)) hKl hK hg F' N'
end
section
open LCg
section
variable {prog : Program} {w : World} {A : Around} {E : Value → Shared → Prop} {s : Shared} {h₀ : Heap} {L : Addr} {m : Str → Option Value} {env : Env}
theorem new_env_cells {M : Model} {scope : Scope} {cl : List (Str × Addr)} {Q : Env → Shared → Prop}
    (h : Q { scope := scope, locals := s.heap.objs.size, globals := env.globals, cells := cellsFrom (s.heap.objs.size + 1) scope.names cl, qual := env.qual, func := none, code := env.code, frame := env.frame, builtins := env.builtins }
      { s with heap := pushCells (s.heap.push { cls := .type "dict", data := .dict #[] }) scope.names }) :
    wpAny M A (newFunctionEnv scope env.globals cl [] env.qual none .none (some env)) Q E s := by
  simp only [newFunctionEnv, Option.isSome_some, if_true]
  refine wpAny_bind (wpAny_alloc ?_)
  refine wpAny_bind (wpAny_layCells _ (fun name kind cells => by cases hkc : kind == NameKind.cell <;> simp [hkc]) _ _ _ _ ?_)
  rw [show ({ s with heap := s.heap.push { cls := .type "dict", data := .dict #[] } } : Shared).heap.objs.size = s.heap.objs.size + 1 from Heap.size_push ..]
  simp only [List.forIn_nil]
  exact wpAny_bind (wpAny_pure (wpAny_pure h))
noncomputable def EndC (h₀ : Heap) (L : Addr) (m : Str → Option Value) (s₁ : Shared) (I : Addr) (oI : Obj) (C : Addr) (oC : Obj) (K : Addr) (oK : Obj) (D : Addr) (oD : Obj) (rest : Value → List (Addr × Obj) → Prop) (y : Value) (s₂ : Shared) : Prop :=
 ∃ h' tk news', s₂ = { s₁ with heap := h', toks := tk } ∧ Fr h₀ L h' m ∧ News h₀ L h' ((I, oI) :: (C, oC) :: (K, oK) :: (D, oD) :: news') ∧ (∀ p ∈ news', p.1 ≠ I ∧ p.1 ≠ C ∧ p.1 ≠ K ∧ p.1 ≠ D) ∧ rest y news'
noncomputable def RestC (prog : Program) (w : World) (A : Around) (h₀ : Heap) (L : Addr) (m : Str → Option Value) (env : Env) (elt : Expr) (x y : Str) (scope : Scope) (cl : List (Str × Addr)) (Q : Flow → Shared → Prop) (s : Shared) (n : Nat) (news : List (Addr × Obj)) : Prop :=
  ∃ J : Nat → List Value → List (Addr × Obj) → Prop, J 0 [] news ∧
    (∀ i t ys news I oI C oC K oK D h tk (E' : Value → Shared → Prop), i < n → J i ys news → oK.data = .cell (some (.int (i : Int) t)) → Fr h₀ L h m → News h₀ L h ((I, oI) :: (C, oC) :: (K, oK) :: (D, lst ys) :: news) →
      (∀ p ∈ news, p.1 ≠ I ∧ p.1 ≠ C ∧ p.1 ≠ K ∧ p.1 ≠ D) → (@Ne Nat I C ∧ @Ne Nat I K ∧ @Ne Nat I D ∧ @Ne Nat C K ∧ @Ne Nat C D ∧ @Ne Nat K D) →
      wpAny (model prog w) A (eval elt (compEnvC scope ((x, K) :: cl) C env)) (EndC h₀ L m { s with heap := h, toks := tk } I oI C oC K oK D (lst ys) (fun v news' => J (i + 1) (ys ++ [v]) news')) E' { s with heap := h, toks := tk }) ∧
    (∀ ys news' D h tk, J n ys news' → Fr h₀ L h (fun z => if z = y then some (.ref D) else m z) → News h₀ L h ((D, lst ys) :: news') → (∀ p ∈ news', p.1 ≠ D) → Q .next { s with heap := h, toks := tk })
noncomputable def SrcC (prog : Program) (w : World) (A : Around) (h₀ : Heap) (L : Addr) (m : Str → Option Value) (env : Env) (elt : Expr) (x y : Str) (scope : Scope) (cl : List (Str × Addr)) (Q : Flow → Shared → Prop) (xv : Value) (s₁ : Shared) : Prop :=
 ∃ r b t u v n news, xv = .ref r ∧ A.handled = none ∧ Fr h₀ L s₁.heap m ∧ News h₀ L s₁.heap news ∧ IsRange s₁.heap r 0 b 1 t u v ∧ Builtin.Range.small 0 b 1 = true ∧ Builtin.Range.rangeSize 0 b 1 = ((n : Nat) : Int) ∧ n ≤ sizeLine ∧
  ∀ s₂ : Shared, (∃ h, s₂ = { s₁ with heap := h }) → RestC prog w A h₀ L m env elt x y scope cl Q s₂ n news
theorem srcC {elt : Expr} {x y : Str} {scope : Scope} {cl : List (Str × Addr)} {Q : Flow → Shared → Prop} {r : Addr} {b : Int} {t u v : Tok} {n : Nat} {news : List (Addr × Obj)} {s₁ : Shared}
  (hh : A.handled = none) (F : Fr h₀ L s₁.heap m) (N : News h₀ L s₁.heap news) (hr : IsRange s₁.heap r 0 b 1 t u v) (hsm : Builtin.Range.small 0 b 1 = true) (hn : Builtin.Range.rangeSize 0 b 1 = ((n : Nat) : Int)) (hsz : n ≤ sizeLine)
  (h : ∀ g, RestC prog w A h₀ L m env elt x y scope cl Q { s₁ with heap := g } n news) :
  SrcC prog w A h₀ L m env elt x y scope cl Q (.ref r) s₁ := ⟨r, b, t, u, v, n, news, rfl, hh, F, N, hr, hsm, hn, hsz, fun _ ⟨g, e⟩ => e ▸ h g⟩
end
namespace J17
def pt : Part1 (aP.U.z.z.s.r.z.z.i.i.J.J.N.e.b.m.f.l.j.F) (∀ {prog : Program} {w : World} {A : Around} {E : Value → Shared → Prop} {s : Shared} {h₀ : Heap} {L : Addr} {m : Str → Option Value} {env : Env} {elt iter : Expr} {x y : Str} {px py : Pos} {scope : Scope} {cl : List (Str × Addr)} {pos spos : Pos} {Q : Flow → Shared → Prop} (F₀ : Fr h₀ L s.heap m) (hLe : env.locals = L)
  (hsw : swapsWith (.ListComp elt [⟨.Name x px, iter, [], 0⟩] scope pos) (some (.Name y py)) spos.line env = pure true)
  (hclos : closureFor scope env = pure cl) (hkind : scope.kind = .function)
  (hcf : ∀ c, cellsFrom c scope.names cl = (x, c) :: cl) (hpc : ∀ h, pushCells h scope.names = h.push { cls := .type "cell", data := .cell none })
  (hnames : ∀ z ∈ scope.names, z.2 = .local → scope.names.lookup z.1 = some .local) (hkx : ∀ K C, (compEnvC scope ((x, K) :: cl) C env).kindOf x = some .cell)
  (hy : env.kindOf y = some .local) (hp : (env.scope.kind == .class || (env.scope.kind == .module && env.locals != env.globals)) = false)
  (h : wpAny (model prog w) A (eval iter env) (SrcC prog w A h₀ L m env elt x y scope cl Q) E s)
  (hs : ∀ x, foldedSetIterable iter env x = pure x), wpAny (model prog w) A (exec (.Assign [.Name y py] (.ListComp elt [⟨.Name x px, iter, [], 0⟩] scope pos) spos) env) Q E s) := by
 apply Part1.mk
 case h => intro hS1 prog w A E s h₀ L m env elt iter x y px py scope cl pos spos Q F₀ hLe hsw hclos hkind hcf hpc hnames hkx hy hp h hs; revert L F₀ hLe hsw hclos hkind hcf hpc hnames hkx hy hp h hs; exact @hS1 prog w A E s h₀ m env elt iter x y px py scope cl pos spos Q
def Z0 := pt.z1
def prog := hx0 Z0
def w := hx1 Z0
def A := hx2 Z0
def E := hx3 Z0
def s := hx4 Z0
def h₀ := hx5 Z0
def m := hx6 Z0
def env := hx7 Z0
def Z1 := ht Z0
def elt := hx0 Z1
def iter := hx1 Z1
def x := hx2 Z1
def y := hx3 Z1
def px := hx4 Z1
def py := hx5 Z1
def scope := hx6 Z1
def cl := hx7 Z1
def Z2 := ht Z1
def pos := hx0 Z2
def spos := hx1 Z2
def Q := hx2 Z2
theorem eq_1 : pt.Q1 prog w A E s h₀ m env elt iter x y px py scope cl pos spos Q := by
  intro L F₀ hLe hsw hclos hkind hcf hpc hnames hkx hy hp h hs
  subst hLe
  rw [exec_Assign_Name_used _ _ _ _ hsw]
  refine wpAny_bind (wpAny_standAt (wpAny_bind ?_))
  show wpAny _ A (do let _ ← comprehension (.ListComp elt [⟨.Name x px, iter, [], 0⟩] scope pos) scope env _ (newList []) false (eval iter env) (some (assign (.Name y py) env))) _ _ s
  refine wpAny_bind (wpAny_mono (wpAny_comprehension_free (use := some (assign (.Name y py) env)) (Q := fun _ s' => Q .next s') rfl hs hclos hkind hnames
    (wpAny_mono h (fun xv s₁ h₁ => ?_) fun _ _ e => e)) (fun _ s' hq => wpAny_pure (wpAny_pure hq)) fun _ _ e => e)
  refine hG fun G9 hG9 => ?_; obtain ⟨r, b, t, u, v, n, news, rfl, hh, F1, N1, hr, hsm, hn, hsz, R⟩ := h₁; refine hG9 ?_; clear hG9 G9
  refine wpAny_pyIter_range hr hsm ?_
  generalize hI : s₁.heap.objs.size = I
  generalize hH1 : s₁.heap.push { cls := .type "range_iterator", data := .fields #[rawInt 0, rawInt (Builtin.Range.rangeSize 0 b 1), rawInt 1] } = H1
  refine hG fun G9 hG9 => ?_; obtain ⟨J, j0, turn, fin⟩ := R { s₁ with heap := H1 } ⟨_, rfl⟩; refine hG9 ?_; clear hG9 G9
  have up1 : ∀ b o, s₁.heap.get? b = some o → H1.get? b = some o := fun b o e => by rw [← hH1]; exact Heap.get?_push_of_some _ e
  have sz1 : H1.objs.size = I + 1 := by rw [← hH1, Heap.size_push, hI]
  refine wpAny_newObj_type ?_
  generalize hH2 : H1.push { cls := .type "list", dict := none, data := .seq ([] : List Value).toArray } = H2
  have sz2 : H2.objs.size = I + 1 + 1 := by rw [← hH2, Heap.size_push, sz1]
  refine new_env_cells ?_
  rw [hcf, hpc]
  show codeAny (model prog w) A (.compStart _ 0 (.ref I) (.ref H1.objs.size) (compEnvC scope ((x, H2.objs.size + 1) :: cl) H2.objs.size env)) (compPost (model prog w) A E (some (assign (.Name y py) env)) (fun _ s' => Q .next s') (.ref H1.objs.size) H2.objs.size) { s₁ with heap := (H2.push { cls := .type "dict", data := .dict #[] }).push { cls := .type "cell", data := .cell none } }
  rw [sz1, sz2]
  generalize hH4 : (H2.push { cls := .type "dict", data := .dict #[] }).push { cls := .type "cell", data := .cell none } = H4
  have hL1 : env.locals < I := by rw [← hI]; exact F1.ns.lt
  have g2 : ∀ b o, H2.get? b = some o → H4.get? b = some o := fun b o e => by rw [← hH4]; exact Heap.get?_push_of_some _ (Heap.get?_push_of_some _ e)
  have g1 : ∀ b o, H1.get? b = some o → H4.get? b = some o := fun b o e => g2 b o (by rw [← hH2]; exact Heap.get?_push_of_some _ e)
  have old : ∀ b o, s₁.heap.get? b = some o → H4.get? b = some o := fun b o e => g1 b o (up1 b o e)
  have hIget : H4.get? I = some { cls := .type "range_iterator", data := .fields #[rawInt 0, rawInt (Builtin.Range.rangeSize 0 b 1), rawInt 1] } := g1 _ _ (by rw [← hH1, ← hI]; exact Heap.get?_push_size _ rfl)
  have hDget : H4.get? (I + 1) = some (lst []) := g2 _ _ (by rw [← hH2, ← sz1]; exact Heap.get?_push_size _ rfl)
  have hCget : (H2.push { cls := .type "dict", data := .dict #[] }).get? (I + 1 + 1) = some { cls := .type "dict", data := .dict #[] } := by rw [← sz2]; exact Heap.get?_push_size _ rfl
  have hCget4 : H4.get? (I + 1 + 1) = some { cls := .type "dict", data := .dict #[] } := by rw [← hH4]; exact Heap.get?_push_of_some _ hCget
  have hKget : H4.get? (I + 1 + 1 + 1) = some { cls := .type "cell", data := .cell none } := by
    have : (H2.push { cls := .type "dict", data := .dict #[] }).objs.size = I + 1 + 1 + 1 := by rw [Heap.size_push, sz2]
    rw [← hH4, ← this]
    exact Heap.get?_push_size _ rfl
  have fresh : ∀ a, I ≤ a → h₀.get? a = none := fun a ha => Heap.get?_none_of_le (Nat.le_trans F1.above (Nat.le_trans (Nat.le_of_lt hL1) ha))
  have hI0 : h₀.get? I = none := fresh _ (Nat.le_refl _)
  have hD0 : h₀.get? (I + 1) = none := fresh _ (Nat.le_succ _)
  have hC0 : h₀.get? (I + 1 + 1) = none := fresh _ (Nat.le_succ_of_le (Nat.le_succ _))
  have hK0 : h₀.get? (I + 1 + 1 + 1) = none := fresh _ (Nat.le_succ_of_le (Nat.le_succ_of_le (Nat.le_succ _)))
  have hIL : I ≠ env.locals := Nat.ne_of_gt hL1
  have hDL : I + 1 ≠ env.locals := Nat.ne_of_gt (Nat.lt_succ_of_lt hL1)
  have hCL : I + 1 + 1 ≠ env.locals := Nat.ne_of_gt (Nat.lt_succ_of_lt (Nat.lt_succ_of_lt hL1))
  have hKL : I + 1 + 1 + 1 ≠ env.locals := Nat.ne_of_gt (Nat.lt_succ_of_lt (Nat.lt_succ_of_lt (Nat.lt_succ_of_lt hL1)))
  have dIC : @Ne Nat I (I + 1 + 1) := by lia
  have dIK : @Ne Nat I (I + 1 + 1 + 1) := by lia
  have dID : @Ne Nat I (I + 1) := by lia
  have dCK : @Ne Nat (I + 1 + 1) (I + 1 + 1 + 1) := by lia
  have dCD : @Ne Nat (I + 1 + 1) (I + 1) := by lia
  have dKD : @Ne Nat (I + 1 + 1 + 1) (I + 1) := by lia
  have W := Walks.range (prog := prog) (w := w) (A := A) hh I 0 1 n
  have st0 : IsRangeIter H4 I (0 + ((0 : Nat) : Int) * 1) ((n : Int) - ((0 : Nat) : Int)) 1 := by
    rw [hn] at hIget
    simpa [IsRangeIter] using hIget
  have loop : ∀ s₃ : Shared, s₃ = { s₁ with heap := H4 } →
      codeAny (model prog w) A (.compLoop (.ListComp elt [⟨.Name x px, iter, [], 0⟩] scope pos) 0 (.ref I) (.ref (I + 1)) (compEnvC scope ((x, I + 1 + 1 + 1) :: cl) (I + 1 + 1) env))
        (compPost (model prog w) A E (some (assign (.Name y py) env)) (fun _ s' => Q .next s') (.ref (I + 1)) (I + 1 + 1)) s₃ := by
    rintro s₃ rfl
    refine codeAny_compLoop_tests
      (fun k s' => ∃ h' tk i ys oC oK v0 news', s' = { s₁ with heap := h', toks := tk } ∧ i ≤ n ∧ k = n + 1 - i ∧ ys.length = i ∧ IsRangeIter h' I (0 + (i : Nat) * 1) ((n : Int) - (i : Nat)) 1 ∧ Fr h₀ env.locals h' m ∧
        News h₀ env.locals h' ((I + 1 + 1, oC) :: (I + 1 + 1 + 1, oK) :: (I + 1, lst ys) :: news') ∧ (∃ m', NsObj oC m') ∧ oK.data = .cell v0 ∧ (∀ p ∈ news', p.1 ≠ I ∧ p.1 ≠ I + 1 + 1 ∧ p.1 ≠ I + 1 + 1 + 1 ∧ p.1 ≠ I + 1) ∧ J i ys news') ?_ (n + 1)
      ⟨H4, _, 0, [], { cls := .type "dict", data := .dict #[] }, { cls := .type "cell", data := .cell none }, none, news, rfl, Nat.zero_le _, rfl, rfl, st0, F1.keeps old, fun p hp => ?_, ⟨fun _ => none, #[], _, rfl, (fun _ h => by simp at h), fun _ => rfl⟩, rfl, fun p hp => ?_, j0⟩
    · intro k s' y92; refine hG fun G9 hG9 => ?_; obtain ⟨h', tk, i, ys, oC, oK, v0, news', rfl, hi, rfl, hyl, hst', F', N', ⟨m', hC'⟩, hK', off', hJ⟩ := y92; refine hG9 ?_; clear hG9 G9
      have nL : ∀ q : Addr, q ∉ [I] → q ≠ I := fun q hq e => hq (by rw [e]; exact .head _)
      by_cases hlt : i < n
      · refine W.item i _ _ _ hlt hst' fun v h₂ tk₂ hPv hst₂ hk₂ => ?_
        refine hG fun G9 hG9 => ?_; obtain ⟨tv, rfl⟩ := hPv; refine hG9 ?_; clear hG9 G9
        have N₂ : News h₀ env.locals h₂ ((I + 1 + 1, oC) :: (I + 1 + 1 + 1, oK) :: (I + 1, lst ys) :: news') := news_but N' hk₂ fun p hp => by
          refine m_el hp (m_all ?_ ?_)
          · exact Ne.symm dIC
          refine m_all ?_ ?_
          · exact Ne.symm dIK
          refine m_all ?_ ?_
          · exact Ne.symm dID
          intro p hp
          exact (off' p hp).1
        have zK := (N₂ (I + 1 + 1 + 1, oK) (.tail _ (.head _))).1
        refine wpAny_assign_Name (wpAny_storeName_cell (by simpa [compEnvC, relabel] using hkind) (hkx _ _) (by simp [compEnvC]) ⟨oK, zK, hK'⟩ fun h₃ hv hs₃ => ?_)
        refine hG fun G9 hG9 => ?_; obtain ⟨oK', hK3, hKd⟩ := hv; refine hG9 ?_; clear hG9 G9
        refine wpAny_tests_nil ?_
        simp only [if_true]
        have hst₃ : IsRangeIter h₃ I (0 + ((i + 1 : Nat) : Int) * 1) ((n : Int) - ((i + 1 : Nat) : Int)) 1 := hs₃.extBut I _ dIK hst₂
        have F₃ : Fr h₀ env.locals h₃ m := (fr_but F' hk₂ hIL.symm hI0).change hs₃ hKL hK0
        have N₃ : News h₀ env.locals h₃ ((I, { cls := .type "range_iterator", data := .fields #[rawInt (0 + ((i + 1 : Nat) : Int) * 1), rawInt ((n : Int) - ((i + 1 : Nat) : Int)), rawInt 1] }) :: (I + 1 + 1, oC) :: (I + 1 + 1 + 1, oK') :: (I + 1, lst ys) :: news') := fun p hp => by
          refine m_el hp (m_all ?_ ?_)
          · exact ⟨hst₃, hIL, hI0⟩
          refine m_all ?_ ?_
          · have z := N₂ (I + 1 + 1, oC) (.head _)
            exact ⟨hs₃.extBut _ _ dCK z.1, z.2⟩
          refine m_all ?_ ?_
          · exact ⟨hK3, hKL, hK0⟩
          refine m_all ?_ ?_
          · have z := N₂ (I + 1, lst ys) (.tail _ (.tail _ (.head _)))
            exact ⟨hs₃.extBut _ _ (Ne.symm dKD) z.1, z.2⟩
          intro p hp
          have z := N₂ p (.tail _ (.tail _ (.tail _ hp)))
          exact ⟨hs₃.extBut _ _ (off' p hp).2.2.1 z.1, z.2⟩
        have hKd' : oK'.data = .cell (some (.int (i : Int) tv)) := by rw [hKd]; simp
        refine wpAny_mono (turn i tv ys news' I _ (I + 1 + 1) oC (I + 1 + 1 + 1) oK' (I + 1) h₃ _ _ hlt hJ hKd' F₃ N₃ off' ⟨dIC, dIK, dID, dCK, dCD, dKD⟩) (fun y s₄ h₄ => ?_) fun _ _ e => e
        refine hG fun G9 hG9 => ?_; obtain ⟨h₄, tk₄, news₄, rfl, F₄, N₄, off₄, hJ₄⟩ := h₄; refine hG9 ?_; clear hG9 G9
        have zI := (N₄ (I, _) (.head _)).1
        have zD := (N₄ (I + 1, lst ys) (.tail _ (.tail _ (.tail _ (.head _))))).1
        refine append_at (hsz := by show ys.toArray.size ≤ sizeLine; rw [List.size_toArray, hyl]; exact Nat.le_trans hi hsz) zD fun h₅ hs₅ hD₅ => ?_
        refine ⟨n + 1 - (i + 1), by lia, h₅, tk₄, i + 1, ys ++ [y], oC, oK', _, news₄, rfl, hlt, rfl, by rw [List.length_append, List.length_singleton, hyl], hs₅.extBut I _ dID zI, F₄.change hs₅ hDL hD0, fun p hp => ?_, ⟨m', hC'⟩, hKd, off₄, hJ₄⟩
        refine m_el hp (m_all ?_ ?_)
        · have z := N₄ (I + 1 + 1, oC) (.tail _ (.head _))
          exact ⟨hs₅.extBut _ _ dCD z.1, z.2⟩
        refine m_all ?_ ?_
        · have z := N₄ (I + 1 + 1 + 1, oK') (.tail _ (.tail _ (.head _)))
          exact ⟨hs₅.extBut _ _ dKD z.1, z.2⟩
        refine m_all ?_ ?_
        · exact ⟨hD₅.trans (congrArg some (lst_snoc ys y)), hDL, hD0⟩
        · intro p hp; have z := N₄ p (.tail _ (.tail _ (.tail _ (.tail _ hp))))
          exact ⟨hs₅.extBut _ _ (off₄ p hp).2.2.2 z.1, z.2⟩
      · obtain rfl : i = n := Nat.le_antisymm hi (Nat.not_lt.mp hlt)
        refine W.done _ _ _ hst' fun h₂ tk₂ hk₂ => ?_
        have F₂ : Fr h₀ env.locals h₂ m := fr_but F' hk₂ hIL.symm hI0
        have N₂ : News h₀ env.locals h₂ ((I + 1 + 1, oC) :: (I + 1 + 1 + 1, oK) :: (I + 1, lst ys) :: news') := news_but N' hk₂ fun p hp => by
          refine m_el hp (m_all ?_ ?_)
          · exact Ne.symm dIC
          refine m_all ?_ ?_
          · exact Ne.symm dIK
          refine m_all ?_ ?_
          · exact Ne.symm dID
          intro p hp
          exact (off' p hp).1
        show wpAny _ A (assign (.Name y py) env (.ref (I + 1))) _ _ _
        refine wpAny_assign_Name (wpAny_storeName_local hy F₂.ns (fun h₃ hn₃ hs₃ => ?_) hp)
        have F₃ : Fr h₀ env.locals h₃ (fun z => if z = y then some (.ref (I + 1)) else m z) := F₂.set hn₃ hs₃
        have N₃ := N₂.set hs₃
        have hn := hC'.ns (N₃ (I + 1 + 1, oC) (.head _)).1
        refine ⟨m', hn, fun h'' hs'' => fin ys news' (I + 1) h'' _ hJ (F₃.change hs'' hCL hC0) (fun p hp => ?_) fun p hp => (off' p hp).2.2.2⟩
        refine m_el hp (m_all ?_ ?_)
        · have z := N₃ (I + 1, lst ys) (.tail _ (.tail _ (.head _)))
          exact ⟨hs''.extBut _ _ (Ne.symm dCD) z.1, z.2⟩
        · intro p hp; have z := N₃ p (.tail _ (.tail _ (.tail _ hp)))
          exact ⟨hs''.extBut _ _ (off' p hp).2.1 z.1, z.2⟩
    · refine m_el hp (m_all ?_ ?_)
      · exact ⟨hCget4, hCL, hC0⟩
      refine m_all ?_ ?_
      · exact ⟨hKget, hKL, hK0⟩
      refine m_all ?_ ?_
      · exact ⟨hDget, hDL, hD0⟩
      · intro p hp; exact ⟨old _ _ (N1 p hp).1, (N1 p hp).2⟩
    · have hlt : @LT.lt Nat _ p.1 I := by rw [← hI]; exact Heap.lt_size (N1 p hp).1
      exact ⟨Nat.ne_of_lt hlt, Nat.ne_of_lt (Nat.lt_succ_of_lt (Nat.lt_succ_of_lt hlt)), Nat.ne_of_lt (Nat.lt_succ_of_lt (Nat.lt_succ_of_lt (Nat.lt_succ_of_lt hlt))), Nat.ne_of_lt (Nat.lt_succ_of_lt hlt)⟩
  exact codeAny_compStart_list (loop _ rfl) (W.self 0 _ _ _ st0 (loop _ rfl))
theorem eq_2 : pt.U1 := hy @eq_1
end J17
theorem assign_cells : type_of% (@Part1.h _ _ _ J17.pt J17.eq_2) := @Part1.h _ _ _ J17.pt J17.eq_2
section
end
end
section
open LCg
theorem two0 (elt t1 i1 t2 i2 : Expr) (scope : Scope) (pos : Pos) (it acc : Value) (env : Env) :
    compTurn (.ListComp elt [⟨t1, i1, [], 0⟩, ⟨t2, i2, [], 0⟩] scope pos) 0 it acc env = (standAt i1.pos >>= fun _ => pyNext it >>= fun r => match r with
      | none => pure (.done .next)
      | some v => letOwnedTupleGo t1 it v >>= fun _ => assign t1 env v >>= fun _ =>
        (eval i2 env >>= fun x => standAt i2.pos >>= fun _ => foldedSetIterable i2 env x >>= fun x => holding [x] (pyIter x) >>= fun it2 =>
          runOwn (.compStart (.ListComp elt [⟨t1, i1, [], 0⟩, ⟨t2, i2, [], 0⟩] scope pos) 1 it2 acc env) env >>= fun _ => again (.compLoop (.ListComp elt [⟨t1, i1, [], 0⟩, ⟨t2, i2, [], 0⟩] scope pos) 0 it acc env))) := by rfl
theorem two1 (elt t1 i1 t2 i2 : Expr) (scope : Scope) (pos : Pos) (it acc : Value) (env : Env) :
  compTurn (.ListComp elt [⟨t1, i1, [], 0⟩, ⟨t2, i2, [], 0⟩] scope pos) 1 it acc env = (standAt i2.pos >>= fun _ => pyNext it >>= fun r => match r with
   | none => pure (.done .next)
   | some v => letOwnedTupleGo t2 it v >>= fun _ => assign t2 env v >>= fun _ =>
    (eval elt env >>= fun x => call (.builtin "list.append") [acc, x] >>= fun _ => pure ()) >>= fun _ =>
     again (.compLoop (.ListComp elt [⟨t1, i1, [], 0⟩, ⟨t2, i2, [], 0⟩] scope pos) 1 it acc env)) := by rfl
section
variable {prog : Program} {w : World} {A : Around} {R : Result → Shared → Prop} {s : Shared} {env : Env} {elt t1 i1 t2 i2 : Expr} {scope : Scope} {pos : Pos} {it acc : Value}
theorem turn1 (ht : ∀ v, letOwnedTupleGo t2 it v = pure ())
    (h : ∀ E : Value → Shared → Prop, wpAny (model prog w) A (pyNext it) (fun r s₁ => match r with
      | none => R (.ok .next) s₁
      | some v => wpAny (model prog w) A (assign t2 env v) (fun _ s₂ => wpAny (model prog w) A (eval elt env) (fun x s₃ =>
          wpAny (model prog w) A (call (.builtin "list.append") [acc, x]) (fun _ s₄ => codeAny (model prog w) A (.compLoop (.ListComp elt [⟨t1, i1, [], 0⟩, ⟨t2, i2, [], 0⟩] scope pos) 1 it acc env) R s₄) E s₃) E s₂) E s₁) E s) :
    codeAny (model prog w) A (.compLoop (.ListComp elt [⟨t1, i1, [], 0⟩, ⟨t2, i2, [], 0⟩] scope pos) 1 it acc env) R s := by
  refine codeAny_of_tree ?_
  show wpAny _ A ((compTurn (.ListComp elt [⟨t1, i1, [], 0⟩, ⟨t2, i2, [], 0⟩] scope pos) 1 it acc env).onRaise (fun x => do noteFrame x env; theTreesLotGoes x)) _ _ s
  refine wpAny_noted ?_
  rw [two1]
  refine wpAny_bind (wpAny_standAt (wpAny_bind (wpAny_mono (h _) (fun r s₁ h₁ => ?_) fun _ _ h' => h')))
  cases r with
  | none => exact wpAny_pure h₁
  | some v =>
    refine wpAny_bind (wpAny_of_eq (ht v) ?_)
    exact wpAny_bind (wpAny_mono h₁ (fun _ s₂ h₂ => wpAny_bind (wpAny_bind (wpAny_mono h₂ (fun x s₃ h₃ => wpAny_bind (wpAny_mono h₃
      (fun _ s₄ h₄ => wpAny_pure (wpAny_pure ⟨rfl, h₄⟩)) fun _ _ h' => h')) fun _ _ h' => h'))) fun _ _ h' => h')
theorem turn0 (ht : ∀ v, letOwnedTupleGo t1 it v = pure ()) (hf : ∀ x, foldedSetIterable i2 env x = pure x)
    (h : ∀ E : Value → Shared → Prop, wpAny (model prog w) A (pyNext it) (fun r s₁ => match r with
      | none => R (.ok .next) s₁
      | some v => wpAny (model prog w) A (assign t1 env v) (fun _ s₂ => wpAny (model prog w) A (eval i2 env) (fun x s₃ =>
          wpAny (model prog w) A (pyIter x) (fun it2 s₄ => codeAny (model prog w) A (.compStart (.ListComp elt [⟨t1, i1, [], 0⟩, ⟨t2, i2, [], 0⟩] scope pos) 1 it2 acc env)
            (fun r s₅ => r = .ok .next ∧ codeAny (model prog w) A (.compLoop (.ListComp elt [⟨t1, i1, [], 0⟩, ⟨t2, i2, [], 0⟩] scope pos) 0 it acc env) R s₅) s₄) E s₃) E s₂) E s₁) E s) :
    codeAny (model prog w) A (.compLoop (.ListComp elt [⟨t1, i1, [], 0⟩, ⟨t2, i2, [], 0⟩] scope pos) 0 it acc env) R s := by
  refine codeAny_of_tree ?_
  show wpAny _ A ((compTurn (.ListComp elt [⟨t1, i1, [], 0⟩, ⟨t2, i2, [], 0⟩] scope pos) 0 it acc env).onRaise (fun x => do noteFrame x env; theTreesLotGoes x)) _ _ s
  refine wpAny_noted ?_
  rw [two0]
  refine wpAny_bind (wpAny_standAt (wpAny_bind (wpAny_mono (h _) (fun r s₁ h₁ => ?_) fun _ _ h' => h')))
  cases r with
  | none => exact wpAny_pure h₁
  | some v =>
    refine wpAny_bind (wpAny_of_eq (ht v) ?_)
    refine wpAny_bind (wpAny_mono h₁ (fun _ s₂ h₂ => wpAny_bind (wpAny_mono h₂ (fun x s₃ h₃ => ?_) fun _ _ h' => h')) fun _ _ h' => h')
    refine wpAny_bind (wpAny_standAt (wpAny_bind (wpAny_of_eq (hf x) (wpAny_bind (wpAny_holding (wpAny_mono h₃ (fun it2 s₄ h₄ => ?_) fun _ _ h' => h'))))))
    refine wpAny_bind (wpAny_runOwn (codeAny_mono h₄ fun r s₅ hr => ?_))
    obtain ⟨rfl, hr⟩ := hr
    exact wpAny_pure ⟨rfl, hr⟩
theorem start1 {it' : Value}
  (h0 : codeAny (model prog w) A (.compLoop (.ListComp elt [⟨t1, i1, [], 0⟩, ⟨t2, i2, [], 0⟩] scope pos) 1 it acc env) R s)
  (h : ∀ E : Value → Shared → Prop, wpAny (model prog w) A (pyIter it) (fun it' s' => codeAny (model prog w) A (.compLoop (.ListComp elt [⟨t1, i1, [], 0⟩, ⟨t2, i2, [], 0⟩] scope pos) 1 it' acc env) R s') E s) :
  codeAny (model prog w) A (.compStart (.ListComp elt [⟨t1, i1, [], 0⟩, ⟨t2, i2, [], 0⟩] scope pos) 1 it acc env) R s := by
 refine codeAny_of_tree ?_
 show wpAny _ _ ((compStart (.ListComp elt [⟨t1, i1, [], 0⟩, ⟨t2, i2, [], 0⟩] scope pos) 1 it acc env).onRaise (fun x => do noteFrame x env; standAt theWindowsPlace)) _ _ s
 refine wpAny_notedAt ?_
 unfold compStart
 show wpAny _ _ (ask >>= _) _ _ s
 refine wpAny_bind (wpAny_askSetting (wpAny_ite ?_))
 split
 ·first
   | exact wpAny_bind (wpAny_pure (wpAny_pure (And.intro rfl h0)))
   | exact wpAny_pure (And.intro rfl h0)
 ·first
   | exact wpAny_bind (wpAny_rule (wpAny_bind (wpAny_standAt (wpAny_bind (wpAny_mono (h _) (fun it' s' h' => wpAny_pure (And.intro rfl h')) fun _ _ x => x)))))
   | (refine wpAny_bind (wpAny_rule ?_); show wpAny _ _ (standAt i2.pos >>= _) _ _ s; exact wpAny_bind (wpAny_standAt (wpAny_bind (wpAny_mono (h _) (fun it' s' h' => wpAny_pure (And.intro rfl h')) fun _ _ x => x))))
end
end
section
open LCg
noncomputable def Src2 (A : Around) (h₀ : Heap) (L : Addr) (m : Str → Option Value) (Q : Value → Shared → Prop) (xv : Value) (s₁ : Shared) : Prop :=
 ∃ (l : Addr) (rows : List (Addr × List Value)) (k : Nat) (news : List (Addr × Obj)), xv = .ref l ∧ A.handled = none ∧ Fr h₀ L s₁.heap m ∧ News h₀ L s₁.heap news ∧ (l, listOf (rows.map fun r => Value.ref r.1).toArray k) ∈ news ∧
   (∀ r ∈ rows, ∃ n, (r.1, listOf r.2.toArray n) ∈ news) ∧ (rows.flatMap (·.2)).length ≤ sizeLine ∧
   ∀ D h tk, Fr h₀ L h m → News h₀ L h ((D, lst (rows.flatMap (·.2))) :: news) → (∀ p ∈ news, p.1 ≠ D) → Q (.ref D) { s₁ with heap := h, toks := tk }
section
variable {prog : Program} {w : World} {A : Around} {E : Value → Shared → Prop} {s : Shared} {h₀ : Heap} {L : Addr} {m : Str → Option Value} {env : Env}
end
namespace J18
def pt : Part1 (aP.f.z.s.r.z.z.z.z.i.i.J.N.e.c.b.m.f.l.j.F) (∀ {prog : Program} {w : World} {A : Around} {E : Value → Shared → Prop} {s : Shared} {h₀ : Heap} {L : Addr} {m : Str → Option Value} {env : Env} {iter : Expr} {x1 x2 : Str} {p1 p2 pi pe : Pos} {scope : Scope} {cl : List (Str × Addr)} {pos : Pos} {Q : Value → Shared → Prop}
  (F₀ : Fr h₀ L s.heap m) (hclos : closureFor scope env = pure cl) (hkind : scope.kind = .function) (hcf : ∀ c, cellsFrom c scope.names cl = cl) (hpc : ∀ h, pushCells h scope.names = h)
  (hnames : ∀ z ∈ scope.names, z.2 = .local → scope.names.lookup z.1 = some .local)
  (hx1 : ∀ C, (compEnvC scope cl C env).kindOf x1 = some .local) (hx2 : ∀ C, (compEnvC scope cl C env).kindOf x2 = some .local) (hd1 : (x1 == ("__debug__" : Str)) = false) (hd2 : (x2 == ("__debug__" : Str)) = false)
  (h : wpAny (model prog w) A (eval iter env) (Src2 A h₀ L m Q) E s)
  (hs : ∀ x, foldedSetIterable iter env x = pure x), wpAny (model prog w) A (eval (.ListComp (.Name x2 pe) [⟨.Name x1 p1, iter, [], 0⟩, ⟨.Name x2 p2, .Name x1 pi, [], 0⟩] scope pos) env) Q E s) := by
 apply Part1.mk
 case h => intro hS1 prog w A E s h₀ L m env iter x1 x2 p1 p2 pi pe scope cl pos Q F₀ hclos hkind hcf hpc hnames hx1 hx2 hd1 hd2 h hs; revert F₀ hclos hkind hcf hpc hnames hx1 hx2 hd1 hd2 h hs; exact @hS1 prog w A E s h₀ L m env iter x1 x2 p1 p2 pi pe scope cl pos Q
def Z0 := pt.z1
def prog := hx0 Z0
def w := hx1 Z0
def A := hx2 Z0
def E := hx3 Z0
def s := hx4 Z0
def h₀ := hx5 Z0
def L := hx6 Z0
def m := hx7 Z0
def Z1 := ht Z0
def env := hx0 Z1
def iter := hx1 Z1
def x1 := hx2 Z1
def x2 := hx3 Z1
def p1 := hx4 Z1
def p2 := hx5 Z1
def pi := hx6 Z1
def pe := hx7 Z1
def Z2 := ht Z1
def scope := hx0 Z2
def cl := hx1 Z2
def pos := hx2 Z2
def Q := hx3 Z2
theorem eq_1 : pt.Q1 prog w A E s h₀ L m env iter x1 x2 p1 p2 pi pe scope cl pos Q := by
 intro F₀ hclos hkind hcf hpc hnames hx1 hx2 hd1 hd2 h hs
 rw [eval_ListComp]
 refine wpAny_comprehension_free (use := none) rfl hs hclos hkind hnames (wpAny_mono h (fun xv s₁ h₁ => ?_) fun _ _ e => e)
 obtain ⟨l, rows, k, news, rfl, hh, F1, N1, hm, hr, hsz, fin⟩ := h₁
 refine list_iter F1 N1 (N1.isList hm) fun I oI1 h1 hI1 F2 N2 hap1 hlI _ => ?_
 refine wpAny_newObj_type ?_
 refine new_env_cells ?_
 rw [hcf, hpc]
 show codeAny (model prog w) A (.compStart _ 0 (.ref I) (.ref h1.objs.size) (compEnvC scope cl (h1.push { cls := .type "list", dict := none, data := .seq ([] : List Value).toArray }).objs.size env)) (compPost (model prog w) A E none Q (.ref h1.objs.size) (h1.push { cls := .type "list", dict := none, data := .seq ([] : List Value).toArray }).objs.size)
  { s₁ with heap := (h1.push { cls := .type "list", dict := none, data := .seq ([] : List Value).toArray }).push { cls := .type "dict", data := .dict #[] } }
 rw [show (h1.push { cls := .type "list", dict := none, data := .seq ([] : List Value).toArray }).objs.size = h1.objs.size + 1 from Heap.size_push ..]
 generalize hH : (h1.push { cls := .type "list", dict := none, data := .seq ([] : List Value).toArray }).push { cls := .type "dict", data := .dict #[] } = H
 have hIs : I < h1.objs.size := Heap.lt_size (N2 (I, oI1) (.head _)).1
 generalize hD : h1.objs.size = D at hIs ⊢
 have up : ∀ b o, h1.get? b = some o → H.get? b = some o := fun b o e => by rw [← hH]; exact Heap.get?_push_of_some _ (Heap.get?_push_of_some _ e)
 have hL1 : L < D := by rw [← hD]; exact F2.ns.lt
 have hDget : H.get? D = some (lst []) := by rw [← hH, ← hD]; exact Heap.get?_push_of_some _ (Heap.get?_push_size _ rfl)
 have hCget : H.get? (D + 1) = some { cls := .type "dict", data := .dict #[] } := by
  have : (h1.push { cls := .type "list", dict := none, data := .seq ([] : List Value).toArray }).objs.size = D + 1 := by rw [Heap.size_push, hD]
  rw [← hH, ← this]
  exact Heap.get?_push_size _ rfl
 have hD0 : h₀.get? D = none := Heap.get?_none_of_le (Nat.le_trans F2.above (Nat.le_of_lt hL1))
 have hC0 : h₀.get? (D + 1) = none := Heap.get?_none_of_le (Nat.le_trans F2.above (Nat.le_succ_of_le (Nat.le_of_lt hL1)))
 have hDL : D ≠ L := Nat.ne_of_gt hL1
 have hCL : D + 1 ≠ L := Nat.ne_of_gt (Nat.lt_succ_of_lt hL1)
 have dIC : I ≠ D + 1 := Nat.ne_of_lt (Nat.lt_succ_of_lt hIs)
 have dID : I ≠ D := Nat.ne_of_lt hIs
 have dCD : D + 1 ≠ D := Nat.ne_of_gt (Nat.lt_succ_self _)
 have apn : ∀ p ∈ news, p.1 ≠ I ∧ p.1 ≠ D + 1 ∧ p.1 ≠ D := fun p hp => by
  have h1 := hap1 p hp
  exact ⟨Nat.ne_of_lt h1, Nat.ne_of_lt (Nat.lt_succ_of_lt (Nat.lt_trans h1 hIs)), Nat.ne_of_lt (Nat.lt_trans h1 hIs)⟩
 have hlD : l ≠ I := Nat.ne_of_lt hlI
 have hkf : (compEnvC scope cl (D + 1) env).scope.kind = .function := by simpa [compEnvC, relabel] using hkind
 have hpl : ((compEnvC scope cl (D + 1) env).scope.kind == .class || ((compEnvC scope cl (D + 1) env).scope.kind == .module && (compEnvC scope cl (D + 1) env).locals != (compEnvC scope cl (D + 1) env).globals)) = false := by rw [hkf]; rfl
 have inner : ∀ (R' : Result → Shared → Prop) (lr I2 : Addr) (vs : List Value) (oI1 : Obj), (∃ n, (lr, listOf vs.toArray n) ∈ news) → lr ≠ I2 → (I2 ≠ I ∧ I2 ≠ D + 1 ∧ I2 ≠ D) → (∀ p ∈ news, p.1 ≠ I2) → ∀ k j ys h tk oI2 oC m', vs.length - j = k → j ≤ vs.length → ItObj lr j oI2 → NsObj oC m' → Fr h₀ L h m →
   News h₀ L h ((I2, oI2) :: (D + 1, oC) :: (D, lst ys) :: (I, oI1) :: news) → ys.length + (vs.length - j) ≤ sizeLine →
   (∀ h' tk' oC' m'', NsObj oC' m'' → Fr h₀ L h' m → News h₀ L h' ((D + 1, oC') :: (D, lst (ys ++ vs.drop j)) :: (I, oI1) :: news) → R' (.ok .next) { s₁ with heap := h', toks := tk' }) →
   codeAny (model prog w) A (.compLoop (.ListComp (.Name x2 pe) [⟨.Name x1 p1, iter, [], 0⟩, ⟨.Name x2 p2, .Name x1 pi, [], 0⟩] scope pos) 1 (.ref I2) (.ref D) (compEnvC scope cl (D + 1) env)) R' { s₁ with heap := h, toks := tk } := by
  intro R' lr I2 vs oI1 ⟨n, hmr⟩ hlr ⟨n1, n2, n3⟩ hn2 k
  have hap2 : ∀ oC ys, ∀ p ∈ (D + 1, oC) :: (D, lst ys) :: (I, oI1) :: news, p.1 ≠ I2 := fun oC ys p hp => by
   refine m_el hp (m_all ?_ ?_)
   ·exact Ne.symm n2
   refine m_all ?_ ?_
   ·exact Ne.symm n3
   refine m_all ?_ ?_
   ·exact Ne.symm n1
   intro p hp
   exact hn2 p hp
  induction k with
  | zero =>
   intro j ys h tk oI2 oC m' hk hj hI2 hC F N hz hdone
   refine turn1 (fun _ => rfl) fun E => ?_
   refine list_end hh F N hI2 (hap2 _ _) (N.isList (.tail _ (.tail _ (.tail _ (.tail _ hmr))))) (by simp; lia) fun h' F' N' => ?_
   have hj' : j = vs.length := by lia
   have := hdone h' tk oC m' hC F' (by rw [hj', List.drop_length, List.append_nil]; exact N')
   exact this
  | succ k ih =>
   intro j ys h tk oI2 oC m' hk hj hI2 hC F N hz hdone
   have hlt : j < vs.length := by lia
   refine turn1 (fun _ => rfl) fun E => ?_
   refine list_next (v := vs[j]) F N hI2 (hap2 _ _) hlr (N.isList (.tail _ (.tail _ (.tail _ (.tail _ hmr))))) (by simp [hlt]) fun oI2' h' hI2' F' N' _ => ?_
   have zC := (N' (D + 1, oC) (.tail _ (.head _))).1
   refine wpAny_assign_Name (wpAny_storeName_local (hx2 _) (hC.ns zC) (fun h₂ hn₂ hs₂ => ?_) hpl)
   obtain ⟨oC', zC', hC'⟩ := ns_obj hn₂
   have F₂ : Fr h₀ L h₂ m := F'.change hs₂ hCL hC0
   have N₂ : News h₀ L h₂ ((I2, oI2') :: (D + 1, oC') :: (D, lst ys) :: (I, oI1) :: news) := fun p hp => by
    refine m_el hp (m_all ?_ ?_)
    ·have z := N' (I2, oI2') (.head _)
     exact ⟨hs₂.extBut _ _ n2 z.1, z.2⟩
    refine m_all ?_ ?_
    ·exact ⟨zC', hCL, hC0⟩
    refine m_all ?_ ?_
    ·have z := N' (D, lst ys) (.tail _ (.tail _ (.head _)))
     exact ⟨hs₂.extBut _ _ (Ne.symm dCD) z.1, z.2⟩
    refine m_all ?_ ?_
    ·have z := N' (I, oI1) (.tail _ (.tail _ (.tail _ (.head _))))
     exact ⟨hs₂.extBut _ _ dIC z.1, z.2⟩
    ·intro p hp; have z := N' p (.tail _ (.tail _ (.tail _ (.tail _ hp))))
     exact ⟨hs₂.extBut _ _ (apn p hp).2.1 z.1, z.2⟩
   refine PySem.W.LCgL.ld_own (N := N₂) (.tail _ (.head _)) hC' (if_pos rfl) ?_ hkf (hx2 _) hd2
   refine append_at (hsz := by show ys.toArray.size ≤ sizeLine; rw [List.size_toArray]; lia) (N₂ (D, lst ys) (.tail _ (.tail _ (.head _)))).1 fun h₅ hs₅ hD₅ => ?_
   refine ih (j + 1) (ys ++ [vs[j]]) h₅ _ oI2' oC' _ (by lia) hlt hI2' hC' (F₂.change hs₅ hDL hD0) (fun p hp => ?_) (by rw [List.length_append, List.length_singleton]; lia) fun h' tk' oC2 m2 hC2 F3 N3 => hdone h' tk' oC2 m2 hC2 F3 ?_
   ·refine m_el hp (m_all ?_ ?_)
    ·have z := N₂ (I2, oI2') (.head _)
     exact ⟨hs₅.extBut _ _ n3 z.1, z.2⟩
    refine m_all ?_ ?_
    ·have z := N₂ (D + 1, oC') (.tail _ (.head _))
     exact ⟨hs₅.extBut _ _ dCD z.1, z.2⟩
    refine m_all ?_ ?_
    ·exact ⟨hD₅.trans (congrArg some (lst_snoc ys _)), hDL, hD0⟩
    refine m_all ?_ ?_
    ·have z := N₂ (I, oI1) (.tail _ (.tail _ (.tail _ (.head _))))
     exact ⟨hs₅.extBut _ _ dID z.1, z.2⟩
    ·intro p hp; have z := N₂ p (.tail _ (.tail _ (.tail _ (.tail _ hp))))
     exact ⟨hs₅.extBut _ _ (apn p hp).2.2 z.1, z.2⟩
   ·rw [List.append_assoc, List.singleton_append, List.getElem_cons_drop] at N3
    exact N3
 have outer : ∀ k i h tk oI1 oC m', rows.length - i = k → i ≤ rows.length → ItObj l i oI1 → NsObj oC m' → Fr h₀ L h m → News h₀ L h ((I, oI1) :: (D + 1, oC) :: (D, lst ((rows.take i).flatMap (·.2))) :: news) →
   codeAny (model prog w) A (.compLoop (.ListComp (.Name x2 pe) [⟨.Name x1 p1, iter, [], 0⟩, ⟨.Name x2 p2, .Name x1 pi, [], 0⟩] scope pos) 0 (.ref I) (.ref D) (compEnvC scope cl (D + 1) env)) (compPost (model prog w) A E none Q (.ref D) (D + 1)) { s₁ with heap := h, toks := tk } := by
  intro k
  have hap2 : ∀ oC ys, ∀ p ∈ (D + 1, oC) :: (D, lst ys) :: news, p.1 ≠ I := fun oC ys p hp => by
   refine m_el hp (m_all ?_ ?_)
   ·exact Ne.symm dIC
   refine m_all ?_ ?_
   ·exact Ne.symm dID
   intro p hp
   exact (apn p hp).1
  induction k with
  | zero =>
   intro i h tk oI1 oC m' hk hi hI1 hC F N
   refine turn0 (fun _ => rfl) (fun _ => rfl) fun E' => ?_
   refine list_end hh F N hI1 (hap2 _ _) (N.isList (.tail _ (.tail _ (.tail _ hm)))) (by simp; lia) fun h' F' N' => ?_
   have hi' : i = rows.length := by lia
   rw [hi', List.take_length] at N'
   show ∃ m, _ ∧ _
   refine ⟨m', hC.ns (N' (D + 1, oC) (.head _)).1, fun h'' hs'' => fin D h'' tk (F'.change hs'' hCL hC0) (fun p hp => ?_) fun p hp => (apn p hp).2.2⟩
   refine m_el hp (m_all ?_ ?_)
   ·have z := N' _ (.tail _ (.head _))
    exact ⟨hs''.extBut _ _ (Ne.symm dCD) z.1, z.2⟩
   ·intro p hp; have z := N' p (.tail _ (.tail _ hp))
    exact ⟨hs''.extBut _ _ (apn p hp).2.1 z.1, z.2⟩
  | succ k ih =>
   intro i h tk oI1 oC m' hk hi hI1 hC F N
   have hlt : i < rows.length := by lia
   refine turn0 (fun _ => rfl) (fun _ => rfl) fun E' => ?_
   refine list_next (v := .ref rows[i].1) F N hI1 (hap2 _ _) hlD (N.isList (.tail _ (.tail _ (.tail _ hm)))) (by simp [hlt]) fun oI1' h' hI1' F' N' _ => ?_
   have zC := (N' (D + 1, oC) (.tail _ (.head _))).1
   refine wpAny_assign_Name (wpAny_storeName_local (hx1 _) (hC.ns zC) (fun h₂ hn₂ hs₂ => ?_) hpl)
   obtain ⟨oC', zC', hC'⟩ := ns_obj hn₂
   have F₂ : Fr h₀ L h₂ m := F'.change hs₂ hCL hC0
   have N₂ : News h₀ L h₂ ((D + 1, oC') :: (D, lst ((rows.take i).flatMap (·.2))) :: (I, oI1') :: news) := fun p hp => by
    refine m_el hp (m_all ?_ ?_)
    ·exact ⟨zC', hCL, hC0⟩
    refine m_all ?_ ?_
    ·have z := N' (D, _) (.tail _ (.tail _ (.head _)))
     exact ⟨hs₂.extBut _ _ (Ne.symm dCD) z.1, z.2⟩
    refine m_all ?_ ?_
    ·have z := N' (I, oI1') (.head _)
     exact ⟨hs₂.extBut _ _ dIC z.1, z.2⟩
    ·intro p hp; have z := N' p (.tail _ (.tail _ (.tail _ hp)))
     exact ⟨hs₂.extBut _ _ (apn p hp).2.1 z.1, z.2⟩
   refine PySem.W.LCgL.ld_own (N := N₂) (.head _) hC' (if_pos rfl) ?_ hkf (hx1 _) hd1
   obtain ⟨n, hmr⟩ := hr rows[i] (List.getElem_mem hlt)
   refine list_iter F₂ N₂ (N₂.isList (.tail _ (.tail _ (.tail _ hmr)))) fun I2 oI2 h₃ hI2 F₃ N₃ hap3 hl3 _ => ?_
   have hlen : ((rows.take i).flatMap (·.2)).length + rows[i].2.length ≤ sizeLine := by
    refine Nat.le_trans ?_ hsz
    have e : rows.flatMap (·.2) = (rows.take i).flatMap (·.2) ++ (rows.drop i).flatMap (·.2) := by rw [← List.flatMap_append, List.take_append_drop]
    rw [e, List.drop_eq_getElem_cons hlt, List.flatMap_cons, List.length_append, List.length_append]
    lia
   have step : ∀ tk3, codeAny (model prog w) A (.compLoop (.ListComp (.Name x2 pe) [⟨.Name x1 p1, iter, [], 0⟩, ⟨.Name x2 p2, .Name x1 pi, [], 0⟩] scope pos) 1 (.ref I2) (.ref D) (compEnvC scope cl (D + 1) env))
     (fun r s₅ => r = .ok .next ∧ codeAny (model prog w) A (.compLoop (.ListComp (.Name x2 pe) [⟨.Name x1 p1, iter, [], 0⟩, ⟨.Name x2 p2, .Name x1 pi, [], 0⟩] scope pos) 0 (.ref I) (.ref D) (compEnvC scope cl (D + 1) env)) (compPost (model prog w) A E none Q (.ref D) (D + 1)) s₅) { s₁ with heap := h₃, toks := tk3 } := fun tk3 => by
    refine inner _ rows[i].1 I2 rows[i].2 oI1' ⟨n, hmr⟩ (Nat.ne_of_lt hl3) ⟨Nat.ne_of_gt (hap3 (I, oI1') (.tail _ (.tail _ (.head _)))), Nat.ne_of_gt (hap3 (D + 1, oC') (.head _)), Nat.ne_of_gt (hap3 (D, _) (.tail _ (.head _)))⟩
     (fun p hp => Nat.ne_of_lt (hap3 p (.tail _ (.tail _ (.tail _ hp))))) _ 0 _ h₃ tk3 oI2 oC' _ rfl (Nat.zero_le _) hI2 hC' F₃ N₃ (by simpa using hlen) fun h' tk' oC2 m2 hC2 F4 N4 => ⟨rfl, ?_⟩
    refine ih (i + 1) h' tk' oI1' oC2 m2 (by lia) hlt hI1' hC2 F4 fun p hp => N4 p ?_
    rw [List.take_add_one, List.getElem?_eq_getElem hlt, Option.toList_some, List.flatMap_append] at hp
    simp only [List.flatMap_cons, List.flatMap_nil, List.append_nil, List.drop_zero, List.mem_cons] at hp ⊢
    rcases hp with h | h | h | h <;> simp [h]
   refine start1 (it' := .none) (step _) fun E'' => ?_
   exact wpAny_pyIter_listiter (hI2.at (N₃ (I2, oI2) (.head _)).1) (step _)
 have N0 : News h₀ L H ((I, oI1) :: (D + 1, { cls := .type "dict", data := .dict #[] }) :: (D, lst ((rows.take 0).flatMap (·.2))) :: news) := fun p hp => by
  refine m_el hp (m_all ?_ ?_)
  ·have z := N2 (I, oI1) (.head _)
   exact ⟨up _ _ z.1, z.2⟩
  refine m_all ?_ ?_
  ·exact ⟨hCget, hCL, hC0⟩
  refine m_all ?_ ?_
  ·exact ⟨hDget, hDL, hD0⟩
  ·intro p hp; have z := N2 p (.tail _ hp)
   exact ⟨up _ _ z.1, z.2⟩
 have go : ∀ tk, codeAny (model prog w) A (.compLoop (.ListComp (.Name x2 pe) [⟨.Name x1 p1, iter, [], 0⟩, ⟨.Name x2 p2, .Name x1 pi, [], 0⟩] scope pos) 0 (.ref I) (.ref D) (compEnvC scope cl (D + 1) env)) (compPost (model prog w) A E none Q (.ref D) (D + 1)) { s₁ with heap := H, toks := tk } :=
  fun tk => outer _ 0 H tk oI1 _ (fun _ => none) rfl (Nat.zero_le _) hI1 ⟨#[], _, rfl, (fun _ h => by simp at h), fun _ => rfl⟩ (F2.keeps up) N0
 exact codeAny_compStart_list (go _) (wpAny_pyIter_listiter (hI1.at (N0 (I, oI1) (.head _)).1) (go _))
theorem eq_2 : pt.U1 := hy @eq_1
end J18
theorem list_two : type_of% (@Part1.h _ _ _ J18.pt J18.eq_2) := @Part1.h _ _ _ J18.pt J18.eq_2
section
end
end
theorem wd_of (a : Int) : ∃ wd : Nat, (wd = 2 ∨ wd = 3) ∧ 2 + a.fmod 2 = (wd : Int) := by
 have h1 := fmod_lo a (n := 2) (by decide)
 have h2 := fmod_hi a (n := 2) (by decide)
 exact ⟨(2 + a.fmod 2).toNat, by lia, by lia⟩
theorem many_of (a : Int) : ∃ many : Nat, (many = 2 ∨ many = 3 ∨ many = 4 ∨ many = 5) ∧ 2 + (a.fdiv 2).fmod 4 = (many : Int) := by
 have h1 := fmod_lo (a.fdiv 2) (n := 4) (by decide)
 have h2 := fmod_hi (a.fdiv 2) (n := 4) (by decide)
 exact ⟨(2 + (a.fdiv 2).fmod 4).toNat, by lia, by lia⟩
theorem item_sign {d : Nat} (h : d < 10) : ∃ x, Txt.item (Str.ofString "aBcDeFgHiJ") (d : Int) = ⟨#[x]⟩ ∧ isLet x = true ∧ x < 128 := by
 match d, h with
 | 0, _ => exact ⟨97, by kernel_rfl, by decide, by decide⟩
 | 1, _ => exact ⟨66, by kernel_rfl, by decide, by decide⟩
 | 2, _ => exact ⟨99, by kernel_rfl, by decide, by decide⟩
 | 3, _ => exact ⟨68, by kernel_rfl, by decide, by decide⟩
 | 4, _ => exact ⟨101, by kernel_rfl, by decide, by decide⟩
 | 5, _ => exact ⟨70, by kernel_rfl, by decide, by decide⟩
 | 6, _ => exact ⟨103, by kernel_rfl, by decide, by decide⟩
 | 7, _ => exact ⟨72, by kernel_rfl, by decide, by decide⟩
 | 8, _ => exact ⟨105, by kernel_rfl, by decide, by decide⟩
 | 9, _ => exact ⟨74, by kernel_rfl, by decide, by decide⟩
noncomputable def Lets (ps : Row) : Prop := ∀ p ∈ ps, isLet p.1 = true ∧ p.1 < 128
theorem Lets.low {ps : Row} (h : Lets ps) : Low ps := fun p hp => (h p hp).2
theorem Lets.lets {ps : Row} (h : Lets ps) : ∀ p ∈ ps, isLet p.1 = true := fun p hp => (h p hp).1
theorem pick3 {H h : Heap} {L l : Addr} {news : List (Addr × Obj)} {a b c : Int} {t t' t'' : Tok} {n : Nat} (N : News H L h news) (hm : (l, listOf #[.int a t, .int b t', .int c t''] n) ∈ news) :
  ∃ t t' t'' n, (l, listOf #[.int a t, .int b t', .int c t''] n) ∈ news := ⟨t, t', t'', n, hm⟩
theorem ints_toks : ∀ {vs : List Value} {ns : List Int}, IntsAre vs ns → ∃ P : List (Int × Tok), vs = intVs P ∧ P.map (·.1) = ns
 | _, _, .nil => ⟨[], rfl, rfl⟩
 | _, _, .cons n t h => by
  obtain ⟨P, rfl, rfl⟩ := ints_toks h
  exact ⟨(n, t) :: P, rfl, rfl⟩
theorem flat_rep (a : Int) : ∀ n : Nat, (List.replicate n [a]).flatten = List.replicate n a
 | 0 => rfl
 | n + 1 => by rw [List.replicate_succ, List.flatten_cons, flat_rep a n, List.replicate_succ]; rfl
theorem ruler_mid {ws : List Value} {wd many : Nat} (h : IntsAre ws ((List.replicate (many : Int).toNat [(wd : Int)]).flatten ++ [127, 1])) :
  ∃ (pre : List (Int × Tok)) (t1 t2 : Tok), ws = intVs pre ++ [.int 127 t1, .int 1 t2] ∧ pre.length = many ∧ ∀ p ∈ pre, p.1 = (wd : Int) := by
 obtain ⟨P, rfl, hP⟩ := ints_toks h
 rw [Int.toNat_natCast, flat_rep] at hP
 have hl : P.length = many + 2 := by
  have := congrArg List.length hP
  simpa using this
 have e : P = P.take many ++ P.drop many := (List.take_append_drop ..).symm
 have h1 : (P.take many).map (·.1) = List.replicate many (wd : Int) := by
  rw [List.map_take, hP, List.take_left' (by simp)]
 have h2 : (P.drop many).map (·.1) = [127, 1] := by
  rw [List.map_drop, hP, List.drop_left' (by simp)]
 match hq : P.drop many, h2 with
 | [], h2 => simp at h2
 | [a], h2 => simp at h2
 | _ :: _ :: _ :: _, h2 => simp at h2
 | [a, b], h2 =>
  simp only [List.map_cons, List.map_nil, List.cons.injEq, and_true] at h2
  refine ⟨P.take many, a.2, b.2, ?_, by rw [List.length_take]; lia, fun p hp => ?_⟩
  ·rw [hq] at e
   conv => lhs; rw [e]
   simp only [intVs, List.map_append, List.map_cons, List.map_nil, h2.1, h2.2]
  ·have : p.1 ∈ (P.take many).map (·.1) := List.mem_map.mpr ⟨p, hp, rfl⟩
   rw [h1] at this
   exact List.eq_of_mem_replicate this
theorem wd_some0 {wd : Nat} (hw : wd = 2 ∨ wd = 3) : (some (wd : Int) : Option Int) ≠ some 0 := by rcases hw with rfl | rfl <;> decide
theorem via {M : Model} {A : Around} {e : Expr} {env : Env} {Q E : Value → Shared → Prop} {s : Shared} (P : (Value → Shared → Prop) → Prop) (hb : ∀ Q' : Value → Shared → Prop, P Q' → wpAny M A (eval e env) Q' E s) (hc : P Q) : wpAny M A (eval e env) Q E s := hb Q hc
noncomputable def NoEq : Prop := True
theorem pick4 {b : Heap} {L : Addr} {h : Heap} {led : List (Addr × Obj)} {l : Addr} {a1 a2 a3 a4 : Int} {ta tb tc td : Tok} {n : Nat} (_ : News b L h led) (hm : (l, listOf #[.int a1 ta, .int a2 tb, .int a3 tc, .int a4 td] n) ∈ led) :
  ∃ (ta tb tc td : Tok) (nn : Nat), (l, listOf ((intVs [(a1, ta), (a2, tb)] ++ Value.int a3 tc :: [Value.int a4 td] : List Value)).toArray nn) ∈ led := by
 refine ⟨ta, tb, tc, td, n, ?_⟩
 exact hm
noncomputable abbrev colD (c : List Nat) : PyData := .list ((c.map fun v => (⟨#[v]⟩ : Str)).map PyData.str)
theorem cols_same : ∀ cs : List (List Nat), PySem.Spec.sameAll (cs.map colD) (cs.map colD) = true
 | [] => by simp [PySem.Spec.sameAll]
 | c :: r => by
  simp only [List.map_cons, PySem.Spec.sameAll, PySem.Spec.same, cols_same r, Bool.and_true]
  rw [str_same]
  simp
theorem low_ok {c : List Nat} (h : ∀ v ∈ c, v < 128) : ∀ s ∈ c.map fun v => (⟨#[v]⟩ : Str), PyData.strOk s = true := by
 intro s hs
 obtain ⟨v, hv, rfl⟩ := List.mem_map.mp hs
 refine strOk_low fun c hc => ?_
 have hc : c ∈ [v] := hc
 rw [List.mem_singleton] at hc
 rw [hc]
 exact h v hv
theorem cols_lay : ∀ cs : List (List Nat), (∀ c ∈ cs, ∀ v ∈ c, v < 128) → PyData.canLayAll0 (cs.map colD) = true
 | [], _ => by simp [PyData.canLayAll0]
 | c :: r, h => by
  have h1 := str_lay _ (low_ok (h c (.head _)))
  have h2 := cols_lay r fun c hc => h c (.tail _ hc)
  simp only [List.map_cons, PyData.canLayAll0, PyData.canLay0, h1, h2, Bool.and_self]
theorem cols_depth : ∀ cs : List (List Nat), PyData.depthAll (cs.map colD) ≤ 1
 | [] => by simp [PyData.depthAll]
 | c :: r => by
  have h := cols_depth r
  simp only [List.map_cons, PyData.depthAll, PyData.depth, str_depth]
  lia
theorem cols_shaped {cs : List (List Nat)} (h : ∀ c ∈ cs, ∀ v ∈ c, v < 128) : SeqAt.shaped (.list (cs.map colD)) = true := by
 have h1 := cols_lay cs h
 have h2 := cols_depth cs
 simp only [SeqAt.shaped, PyData.canLay0, h1, PyData.depth, Bool.true_and]
 exact decide_eq_true (by lia)
section
variable {prog : Program} {w : World} {A : Around} {E : Value → Shared → Prop} {s : Shared} {a b : Addr} {Q : Value → Shared → Prop}
theorem cols_reads {h : Heap} : ∀ {ds : List (Addr × Row)}, (∀ d ∈ ds, h.IsList d.1 (lts d.2).toArray) → ∃ as, ReadsAll h (ds.map fun d => Value.ref d.1) ((ds.map fun d => d.2.map (·.1)).map colD) as
 | [], _ => ⟨_, .nil⟩
 | d :: r, hl => by
  obtain ⟨as, ih⟩ := cols_reads (ds := r) fun d hd => hl d (.tail _ hd)
  have h1 := reads_newData (hl d (.head _)) (str_carried (ps := d.2))
  have h2 : Reads h (.ref d.1) (colD (d.2.map (·.1))) [d.1] := by
   show Reads h (.ref d.1) (.list (((d.2.map (·.1)).map fun v => (⟨#[v]⟩ : Str)).map PyData.str)) [d.1]
   rw [List.map_map (f := fun p : Nat × Tok => p.1)]
   exact h1
  exact ⟨[d.1] ++ as, .cons h2 ih⟩
theorem ne_cols {ds es : List (Addr × Row)} (ha : s.heap.IsList a (ds.map fun d => Value.ref d.1).toArray) (hb : s.heap.IsList b (es.map fun d => Value.ref d.1).toArray) (hd : ∀ d ∈ ds, s.heap.IsList d.1 (lts d.2).toArray) (he : ∀ d ∈ es, s.heap.IsList d.1 (lts d.2).toArray)
  (hlow : ∀ d ∈ ds, Low d.2) (e : ds.map (fun d => d.2.map (·.1)) = es.map fun d => d.2.map (·.1)) (hu : A.units + 64 < cLine) (h : Q (.bool false) s) : wpAny (model prog w) A (compareOp .NotEq (.ref a) (.ref b)) Q E s := by
 obtain ⟨as, ra⟩ := cols_reads hd
 obtain ⟨bs, rb⟩ := cols_reads he
 rw [← e] at rb
 obtain ⟨o, ho, hc, n, hda⟩ := ha
 obtain ⟨o', ho', hc', n', hda'⟩ := hb
 have hlo : ∀ c ∈ ds.map (fun d => d.2.map (·.1)), ∀ v ∈ c, v < 128 := fun c hc v hv => by
  obtain ⟨d, hd, rfl⟩ := List.mem_map.mp hc
  obtain ⟨p, hp, rfl⟩ := List.mem_map.mp hv
  exact hlow d hd p hp
 refine ne_dataH_same (.list ho hc hda ra) (.list ho' hc' hda' rb) (cols_shaped hlo) (cols_shaped hlo) hu (SeqAt.noMix_of_shape (.list (.list .str)) rfl _ _ (list_map_has fun _ => list_map_has fun _ => rfl) (list_map_has fun _ => list_map_has fun _ => rfl)) ?_
 simp only [PySem.Spec.same]
 rw [cols_same]
 exact h
end
noncomputable def colRow (w j : Nat) : Nat → Row → Row
 | 0, _ => []
 | n + 1, x => x[j]?.toList ++ colRow w j n (x.drop w)
theorem colRow_map (w j : Nat) : ∀ n (x : Row), (colRow w j n x).map (·.1) = colRec w j n (x.map (·.1))
 | 0, _ => rfl
 | n + 1, x => by
  show (x[j]?.toList ++ colRow w j n (x.drop w)).map (·.1) = (x.map (·.1))[j]?.toList ++ colRec w j n ((x.map (·.1)).drop w)
  rw [List.map_append, colRow_map w j n, List.map_drop, List.getElem?_map]
  congr 1
  cases x[j]? <;> rfl
theorem as_range' {α : Type} {l : List α} {n : Nat} (d : α) (h : l.length = n) : (List.range n).map (fun i => l.getD i d) = l := by
 subst h
 apply List.ext_getElem?
 intro i
 rw [List.getElem?_map]
 by_cases q : i < l.length
 ·rw [List.getElem?_range q, List.getElem?_eq_getElem q, Option.map_some, List.getD_eq_getElem?_getD, List.getElem?_eq_getElem q, Option.getD_some]
 ·rw [List.getElem?_eq_none (by rw [List.length_range]; lia), List.getElem?_eq_none (Nat.le_of_not_lt q), Option.map_none]
noncomputable def StepAt (wd many j : Nat) (ps : Row) : Prop := (slicePick (lts ps).toArray (some (j : Int)) none (some (wd : Int))).toList = lts (colRow wd j many ps)
theorem sp220 (f : Nat → Nat × Tok) : StepAt 2 2 0 ((List.range 4).map f) := by unfold StepAt; kernel_rfl
theorem sp221 (f : Nat → Nat × Tok) : StepAt 2 2 1 ((List.range 4).map f) := by unfold StepAt; kernel_rfl
theorem sp230 (f : Nat → Nat × Tok) : StepAt 2 3 0 ((List.range 6).map f) := by unfold StepAt; kernel_rfl
theorem sp231 (f : Nat → Nat × Tok) : StepAt 2 3 1 ((List.range 6).map f) := by unfold StepAt; kernel_rfl
theorem sp240 (f : Nat → Nat × Tok) : StepAt 2 4 0 ((List.range 8).map f) := by unfold StepAt; kernel_rfl
theorem sp241 (f : Nat → Nat × Tok) : StepAt 2 4 1 ((List.range 8).map f) := by unfold StepAt; kernel_rfl
theorem sp250 (f : Nat → Nat × Tok) : StepAt 2 5 0 ((List.range 10).map f) := by unfold StepAt; kernel_rfl
theorem sp251 (f : Nat → Nat × Tok) : StepAt 2 5 1 ((List.range 10).map f) := by unfold StepAt; kernel_rfl
theorem sp320 (f : Nat → Nat × Tok) : StepAt 3 2 0 ((List.range 6).map f) := by unfold StepAt; kernel_rfl
theorem sp321 (f : Nat → Nat × Tok) : StepAt 3 2 1 ((List.range 6).map f) := by unfold StepAt; kernel_rfl
theorem sp322 (f : Nat → Nat × Tok) : StepAt 3 2 2 ((List.range 6).map f) := by unfold StepAt; kernel_rfl
theorem sp330 (f : Nat → Nat × Tok) : StepAt 3 3 0 ((List.range 9).map f) := by unfold StepAt; kernel_rfl
theorem sp331 (f : Nat → Nat × Tok) : StepAt 3 3 1 ((List.range 9).map f) := by unfold StepAt; kernel_rfl
theorem sp332 (f : Nat → Nat × Tok) : StepAt 3 3 2 ((List.range 9).map f) := by unfold StepAt; kernel_rfl
theorem sp340 (f : Nat → Nat × Tok) : StepAt 3 4 0 ((List.range 12).map f) := by unfold StepAt; kernel_rfl
theorem sp341 (f : Nat → Nat × Tok) : StepAt 3 4 1 ((List.range 12).map f) := by unfold StepAt; kernel_rfl
theorem sp342 (f : Nat → Nat × Tok) : StepAt 3 4 2 ((List.range 12).map f) := by unfold StepAt; kernel_rfl
theorem sp350 (f : Nat → Nat × Tok) : StepAt 3 5 0 ((List.range 15).map f) := by unfold StepAt; kernel_rfl
theorem sp351 (f : Nat → Nat × Tok) : StepAt 3 5 1 ((List.range 15).map f) := by unfold StepAt; kernel_rfl
theorem sp352 (f : Nat → Nat × Tok) : StepAt 3 5 2 ((List.range 15).map f) := by unfold StepAt; kernel_rfl
theorem step_pick {wd many j : Nat} (hwd : wd = 2 ∨ wd = 3) (hm : many = 2 ∨ many = 3 ∨ many = 4 ∨ many = 5) (hj : j < wd) {ps : Row} (h : ps.length = wd * many) :
  (slicePick (lts ps).toArray (some (j : Int)) none (some (wd : Int))).toList = lts (colRow wd j many ps) := by
 have k : ∀ f : Nat → Nat × Tok, StepAt wd many j ((List.range (wd * many)).map f) := by
  clear h
  rcases hwd with rfl | rfl
  ·have e : j = 0 ∨ j = 1 := by lia
   clear hj
   rcases hm with rfl | rfl | rfl | rfl <;> rcases e with rfl | rfl
   ·exact sp220
   ·exact sp221
   ·exact sp230
   ·exact sp231
   ·exact sp240
   ·exact sp241
   ·exact sp250
   ·exact sp251
  ·have e : j = 0 ∨ j = 1 ∨ j = 2 := by lia
   clear hj
   rcases hm with rfl | rfl | rfl | rfl <;> rcases e with rfl | rfl | rfl
   ·exact sp320
   ·exact sp321
   ·exact sp322
   ·exact sp330
   ·exact sp331
   ·exact sp332
   ·exact sp340
   ·exact sp341
   ·exact sp342
   ·exact sp350
   ·exact sp351
   ·exact sp352
 have := k fun i => ps.getD i (0, default)
 rw [as_range' (0, default) h] at this
 exact this
noncomputable abbrev slcLed (ds : List (Addr × Row)) : List (Addr × Obj) := ds.map fun d => (d.1, listOf (lts d.2).toArray 0)
theorem colRec_mem {w j v : Nat} : ∀ {n : Nat} {x : List Nat}, v ∈ colRec w j n x → v ∈ x
 | 0, _, h => (List.not_mem_nil h).elim
 | n + 1, x, h => by
  have h : v ∈ x[j]?.toList ++ colRec w j n (x.drop w) := h
  rcases List.mem_append.mp h with h | h
  ·cases hx : x[j]? with
   | none => rw [hx] at h; simp at h
   | some u =>
    rw [hx] at h
    simp at h
    rw [h]
    exact List.mem_of_getElem? hx
  ·exact List.mem_of_mem_drop (colRec_mem h)
theorem cols_low {ds : List (Addr × Row)} {wd many : Nat} {ys : Row} (h : ds.map (fun d => d.2.map (·.1)) = (List.range wd).map (fun j => colRec wd j many (ys.map (·.1)))) (hL : Lets ys) : ∀ d ∈ ds, Lets d.2 := fun d hd p hp => by
 have h1 : d.2.map (·.1) ∈ ds.map (fun d => d.2.map (·.1)) := List.mem_map.mpr ⟨d, hd, rfl⟩
 rw [h] at h1
 obtain ⟨j, _, e⟩ := List.mem_map.mp h1
 have h2 : p.1 ∈ d.2.map (·.1) := List.mem_map.mpr ⟨p, hp, rfl⟩
 rw [← e] at h2
 obtain ⟨q, hq, e2⟩ := List.mem_map.mp (colRec_mem h2)
 rw [← e2]
 exact hL q hq
noncomputable abbrev ordLed (ds : List (Addr × Row × Nat)) : List (Addr × Obj) := ds.map fun d => (d.1, listOf (lts d.2.1).toArray d.2.2)
theorem cols_len {ds : List (Addr × Row)} {wd many : Nat} {ys : Row} (h : ds.map (fun d => d.2.map (·.1)) = (List.range wd).map (fun j => colRec wd j many (ys.map (·.1)))) (hy : ys.length = wd * many) : ∀ d ∈ ds, d.2.length = many := fun d hd => by
 have h1 : d.2.map (·.1) ∈ ds.map (fun d => d.2.map (·.1)) := List.mem_map.mpr ⟨d, hd, rfl⟩
 rw [h] at h1
 obtain ⟨j, hj, e⟩ := List.mem_map.mp h1
 have h2 := congrArg List.length e
 rw [col_len (List.mem_range.mp hj) many _ (by simpa using hy), List.length_map] at h2
 exact h2.symm
noncomputable def Ordered (dc : List (Addr × Row)) (oc : List (Addr × Row × Nat)) : Prop :=
 ∀ (k : Nat) (d : Addr × Row × Nat), oc[k]? = some d → ∃ e : Addr × Row, dc[k]? = some e ∧ (d.2.1.map (·.1)).Perm (e.2.map (·.1)) ∧ (d.2.1.map (·.1)).Pairwise (· ≤ ·)
theorem Ordered.nil (dc : List (Addr × Row)) : Ordered dc [] := fun k d h => by simp at h
theorem Ordered.snoc {dc : List (Addr × Row)} {oc : List (Addr × Row × Nat)} (h : Ordered dc oc) {d : Addr × Row} (hd : dc[oc.length]? = some d) {a : Addr} {qs : Row} {n : Nat} (hp : qs.Perm d.2) (hs : qs.Pairwise fun a b => a.1 ≤ b.1) : Ordered dc (oc ++ [(a, qs, n)]) := fun k x hk => by
 by_cases hlt : k < oc.length
 ·rw [List.getElem?_append_left hlt] at hk
  exact h k x hk
 ·rw [List.getElem?_append_right (Nat.le_of_not_lt hlt)] at hk
  have hk0 : k - oc.length = 0 := by
   refine Nat.le_antisymm (Nat.le_of_not_lt fun q => ?_) (Nat.zero_le _)
   rw [List.getElem?_eq_none (by simp; lia)] at hk
   cases hk
  rw [hk0] at hk
  simp at hk
  subst hk
  have : k = oc.length := by lia
  rw [this]
  exact ⟨d, hd, hp.map _, List.Pairwise.map _ (fun _ _ h => h) hs⟩
theorem ord_len {dc : List (Addr × Row)} {oc : List (Addr × Row × Nat)} {many : Nat} (h : Ordered dc oc) (hl : ∀ d ∈ dc, d.2.length = many) : ∀ e ∈ oc, e.2.1.length = many := fun e he => by
 obtain ⟨k, hk⟩ := List.mem_iff_getElem?.mp he
 obtain ⟨d, hd, hp, _⟩ := h k e hk
 have := hp.length_eq
 rw [List.length_map, List.length_map, hl d (List.mem_of_getElem? hd)] at this
 exact this
theorem ord_lets {dc : List (Addr × Row)} {oc : List (Addr × Row × Nat)} (h : Ordered dc oc) (hl : ∀ d ∈ dc, Lets d.2) : ∀ e ∈ oc, Lets e.2.1 := fun e he p hp => by
 obtain ⟨k, hk⟩ := List.mem_iff_getElem?.mp he
 obtain ⟨d, hd, hq, _⟩ := h k e hk
 have : p.1 ∈ d.2.map (·.1) := hq.subset (List.mem_map.mpr ⟨p, hp, rfl⟩)
 obtain ⟨q, hq, e2⟩ := List.mem_map.mp this
 rw [← e2]
 exact hl d (List.mem_of_getElem? hd) q hq
noncomputable def Inv (w n s : Nat) (x : List Nat) : Prop := ∀ t, ∃ C : Nat → Nat, (∃ lo, ∀ j, j < w → lo ≤ C j ∧ C j ≤ lo + s) ∧ ∀ i j v, i < n → j < w → x[i * w + j]? = some v → (t < v ↔ n ≤ i + C j)
theorem argmin (f : Nat → Nat) : ∀ w, 0 < w → ∃ j0, j0 < w ∧ ∀ j, j < w → f j0 ≤ f j
 | 0, h => absurd h (Nat.lt_irrefl 0)
 | 1, _ => ⟨0, Nat.one_pos, fun j hj => by rw [Nat.lt_one_iff.mp hj]; exact Nat.le_refl _⟩
 | w + 2, _ => by
  obtain ⟨j0, h0, h⟩ := argmin f (w + 1) (by lia)
  by_cases hc : f j0 ≤ f (w + 1)
  ·refine ⟨j0, by lia, fun j hj => ?_⟩
   by_cases e : j = w + 1
   ·exact e ▸ hc
   ·exact h j (by lia)
  ·refine ⟨w + 1, by lia, fun j hj => ?_⟩
   by_cases e : j = w + 1
   ·exact e ▸ Nat.le_refl _
   ·have := h j (by lia); lia
theorem spread_of {w s : Nat} {f : Nat → Nat} (hw : 0 < w) (h : ∀ j j', j < w → j' < w → f j ≤ f j' + s) : ∃ lo, ∀ j, j < w → lo ≤ f j ∧ f j ≤ lo + s := by
 obtain ⟨j0, h0, hm⟩ := argmin f w hw
 exact ⟨f j0, fun j hj => ⟨hm j hj, h j j0 hj h0⟩⟩
structure Round (w n : Nat) (x y x' : List Nat) (c : Nat → List Nat) : Prop where
 len : x.length = w * n
 fro : FroN w false x y
 perm : ∀ j, j < w → (c j).Perm (colRec w j n y)
 sort : ∀ j, j < w → (c j).Pairwise (· ≤ ·)
 cell : ∀ i j, i < n → j < w → x'[i * w + j]? = (c j)[i]?
theorem Round.above {w n : Nat} {x y x' : List Nat} {c : Nat → List Nat} (R : Round w n x y x' c) (hw : 0 < w) {t i j v : Nat} (hi : i < n) (hj : j < w) (hv : x'[i * w + j]? = some v) :
  t < v ↔ n ≤ i + newC w false (chunkC w t n x) j := by
 rw [R.cell i j hi hj] at hv
 have hy : y.length = w * n := by rw [(fro_perm R.fro).length_eq, R.len]
 have := sorted_above (t := t) (R.sort j hj) hv
 rw [(R.perm j hj).length_eq, col_len hj n y hy, cnt_perm (R.perm j hj), row_phase hw hj R.fro n R.len] at this
 exact this
theorem Round.first {w n : Nat} {x y x' : List Nat} {c : Nat → List Nat} (R : Round w n x y x' c) (hw : 0 < w) : Inv w n ((n + 1) / 2) x' := fun t => by
 refine ⟨newC w false (chunkC w t n x), spread_of hw fun j j' hj hj' => ?_, fun i j v hi hj hv => R.above hw hi hj hv⟩
 have := newC_half w _ false (chunkC w t n x) (Nat.le_refl _) j j' hj hj'
 rwa [chunk_len] at this
theorem mem_chunk {w i v : Nat} {x : List Nat} (h : v ∈ (x.drop (i * w)).take w) : ∃ j, j < w ∧ x[i * w + j]? = some v := by
 obtain ⟨j, hj⟩ := List.mem_iff_getElem?.mp h
 rw [List.getElem?_take] at hj
 split at hj
 ·rename_i hlt
  rw [List.getElem?_drop] at hj
  exact ⟨j, hlt, hj⟩
 ·cases hj
theorem Round.next {w n s : Nat} {x y x' : List Nat} {c : Nat → List Nat} (R : Round w n x y x' c) (hw : 0 < w) (I : Inv w n s x) : Inv w n ((s + 1) / 2) x' := fun t => by
 refine ⟨newC w false (chunkC w t n x), spread_of hw fun j j' hj hj' => ?_, fun i j v hi hj hv => R.above hw hi hj hv⟩
 obtain ⟨C, ⟨lo, hlo⟩, hC⟩ := I t
 refine newC_band (a := n - (lo + s)) (c := s) (fun i k hk hi => ?_) (fun i k hk hi => ?_) hj hj'
 ·have hin : i < n := by
   have := (List.getElem?_eq_some_iff.mp hk).1
   rwa [chunk_len] at this
  rw [chunk_get w t n x i hin] at hk
  cases hk
  unfold cnt
  rw [List.countP_eq_zero]
  intro v hv
  obtain ⟨j, hj, hx⟩ := mem_chunk hv
  have := hC i j v hin hj hx
  have := hlo j hj
  simp only [decide_eq_true_eq]
  omega
 ·have hin : i < n := by
   have := (List.getElem?_eq_some_iff.mp hk).1
   rwa [chunk_len] at this
  rw [chunk_get w t n x i hin] at hk
  cases hk
  have hl : ((x.drop (i * w)).take w).length = w := by
   have h1 : (i + 1) * w ≤ n * w := Nat.mul_le_mul_right w hin
   rw [Nat.succ_mul] at h1
   rw [List.length_take, List.length_drop, R.len, Nat.mul_comm w n]
   omega
  have : cnt t ((x.drop (i * w)).take w) = ((x.drop (i * w)).take w).length := by
   unfold cnt
   rw [List.countP_eq_length]
   intro v hv
   obtain ⟨j, hj, hx⟩ := mem_chunk hv
   have := hC i j v hin hj hx
   have := hlo j hj
   simp only [decide_eq_true_eq]
   omega
  rw [this, hl]
theorem count_band {a s : Nat} {p : Nat → Bool} : ∀ n, (∀ i, i < n → p i = true → a ≤ i ∧ i < a + s) → ((List.range n).filter p).length ≤ min s (n - a)
 | 0, _ => by simp
 | n + 1, h => by
  have ih := count_band (a := a) (s := s) (p := p) n fun i hi => h i (by omega)
  rw [List.range_succ, List.filter_append, List.length_append]
  by_cases hp : p n = true
  ·have := h n (by omega) hp
   simp [List.filter, hp]
   omega
  ·simp [List.filter, hp]
   omega
theorem Inv.mixed {w n s : Nat} {x : List Nat} (I : Inv w n s x) (t : Nat) {p : Nat → Bool}
  (hp : ∀ i, i < n → p i = true → ∃ j j' v v', j < w ∧ j' < w ∧ x[i * w + j]? = some v ∧ x[i * w + j']? = some v' ∧ v ≤ t ∧ t < v') : ((List.range n).filter p).length ≤ s := by
 obtain ⟨C, ⟨lo, hlo⟩, hC⟩ := I t
 have := count_band (a := n - (lo + s)) (s := s) (p := p) n fun i hi hpi => by
  obtain ⟨j, j', v, v', hj, hj', hv, hv', h1, h2⟩ := hp i hi hpi
  have a1 := hC i j v hi hj hv
  have a2 := hC i j' v' hi hj' hv'
  have := hlo j hj
  have := hlo j' hj'
  lia
 lia
noncomputable def snake (w : Nat) : Bool → Nat → List Nat → List Nat
 | _, 0, _ => []
 | b, n + 1, y => (if b then (y.take w).reverse else y.take w) ++ snake w (!b) n (y.drop w)
theorem snake_perm (w : Nat) : ∀ (b : Bool) (n : Nat) (y : List Nat), y.length = w * n → (snake w b n y).Perm y
 | b, 0, y, h => by
  have e : y = [] := List.eq_nil_of_length_eq_zero (by simpa using h)
  subst e
  exact .nil
 | b, n + 1, y, h => by
  have ih := snake_perm w (!b) n (y.drop w) (by rw [List.length_drop, h, Nat.mul_succ]; omega)
  have h1 : (if b then (y.take w).reverse else y.take w).Perm (y.take w) := by
   cases b
   ·exact .refl _
   ·exact List.reverse_perm _
  exact (h1.append ih).trans (by rw [List.take_append_drop])
theorem snake_sorted {w : Nat} (hw : 0 < w) {b : Bool} {x y : List Nat} (h : FroN w b x y) : ∀ n, x.length = w * n → (∀ i j i' j' v v', j < w → j' < w → i < i' → x[i * w + j]? = some v → x[i' * w + j']? = some v' → v ≤ v') → (snake w b n y).Pairwise (· ≤ ·) := by
 induction h with
 | nil b =>
  intro n hn _
  cases n with
  | zero => exact .nil
  | succ n => simp [Nat.mul_succ] at hn; lia
 | @cons b x line rest hne hp hs hr ih =>
  intro n hn hord
  cases n with
  | zero => exact absurd (List.eq_nil_of_length_eq_zero (by simpa using hn)) hne
  | succ n =>
   have hll := line_len hp hn
   have hlen : (if b then line.reverse else line).length = w := by cases b <;> simpa using hll
   have hn' : (x.drop w).length = w * n := by rw [List.length_drop, hn, Nat.mul_succ]; lia
   have hrl : rest.length = w * n := by rw [(fro_perm hr).length_eq, hn']
   have hdrop : ((if b then line.reverse else line) ++ rest).drop w = rest := by
    rw [← hlen]; exact List.drop_left
   have htake : ((if b then line.reverse else line) ++ rest).take w = (if b then line.reverse else line) := by
    rw [← hlen]; exact List.take_left
   show ((if b then (((if b then line.reverse else line) ++ rest).take w).reverse else ((if b then line.reverse else line) ++ rest).take w) ++ snake w (!b) n (((if b then line.reverse else line) ++ rest).drop w)).Pairwise (· ≤ ·)
   rw [hdrop, htake]
   have e : (if b then (if b then line.reverse else line).reverse else (if b then line.reverse else line)) = line := by cases b <;> simp
   rw [e, List.pairwise_append]
   refine ⟨hs, ih n hn' fun i j i' j' v v' hj hj' hi hv hv' => ?_, fun a ha c hc => ?_⟩
   ·rw [List.getElem?_drop] at hv hv'
    refine hord (i + 1) j (i' + 1) j' v v' hj hj' (by lia) ?_ ?_
    ·rw [← hv]; congr 1; rw [Nat.succ_mul]; lia
    ·rw [← hv']; congr 1; rw [Nat.succ_mul]; lia
   ·have ha' := hp.subset ha
    have hc' := (fro_perm hr).subset ((snake_perm w (!b) n rest hrl).subset hc)
    obtain ⟨j, hj⟩ := List.mem_iff_getElem?.mp ha'
    obtain ⟨q, hq⟩ := List.mem_iff_getElem?.mp hc'
    rw [List.getElem?_take] at hj
    split at hj
    ·rename_i hlt
     rw [List.getElem?_drop] at hq
     refine hord 0 j ((w + q) / w) ((w + q) % w) a c hlt (Nat.mod_lt _ hw) ?_ (by simpa using hj) ?_
     ·exact Nat.div_pos (by lia) hw
     ·rw [← hq, Nat.mul_comm, Nat.div_add_mod]
    ·cases hj
theorem Inv.final {w n : Nat} {x y : List Nat} (I : Inv w n 1 x) (hw : 0 < w) (hx : x.length = w * n) (h : FroN w false x y) : (snake w false n y).Pairwise (· ≤ ·) := by
 refine snake_sorted hw h n hx fun i j i' j' v v' hj hj' hi hv hv' => ?_
 refine Nat.le_of_not_lt fun hlt => ?_
 obtain ⟨C, ⟨lo, hlo⟩, hC⟩ := I v'
 have hin' : i' < n := by
  have h1 := (List.getElem?_eq_some_iff.mp hv').1
  rw [hx] at h1
  refine Nat.lt_of_not_le fun hle => ?_
  have := Nat.mul_le_mul_right w hle
  rw [Nat.mul_comm n w] at this
  lia
 have a1 := hC i j v (by lia) hj hv
 have a2 := hC i' j' v' hin' hj' hv'
 have := hlo j hj
 have := hlo j' hj'
 lia
theorem sorted_unique {l₁ l₂ : List Nat} (h : l₁.Perm l₂) (h1 : l₁.Pairwise (· ≤ ·)) (h2 : l₂.Pairwise (· ≤ ·)) : l₁ = l₂ :=
 h.eq_of_pairwise (fun _ _ _ _ a b => Nat.le_antisymm a b) h1 h2
theorem flat_len {w : Nat} {f : Nat → List Nat} (hf : ∀ i, (f i).length = w) : ∀ n, ((List.range n).flatMap f).length = w * n
 | 0 => by simp
 | n + 1 => by
  rw [List.range_succ, List.flatMap_append, List.length_append, flat_len hf n, Nat.mul_succ]
  simp [hf]
theorem flat_get {w : Nat} {f : Nat → List Nat} (hf : ∀ i, (f i).length = w) : ∀ n i j, i < n → j < w → ((List.range n).flatMap f)[i * w + j]? = (f i)[j]?
 | 0, i, j, h, _ => absurd h (Nat.not_lt_zero _)
 | n + 1, i, j, h, hj => by
  rw [List.range_succ, List.flatMap_append]
  by_cases hi : i < n
  ·have h1 : (i + 1) * w ≤ n * w := Nat.mul_le_mul_right w hi
   rw [Nat.succ_mul] at h1
   rw [List.getElem?_append_left (by rw [flat_len hf, Nat.mul_comm w n]; lia)]
   exact flat_get hf n i j hi hj
  ·have : i = n := by lia
   subst this
   rw [List.getElem?_append_right (by rw [flat_len hf, Nat.mul_comm w i]; lia), flat_len hf, Nat.mul_comm w i, Nat.add_sub_cancel_left]
   simp
theorem colRec_get {w j : Nat} (hj : j < w) : ∀ (n : Nat) (x : List Nat) (i : Nat), x.length = w * n → i < n → (colRec w j n x)[i]? = x[i * w + j]?
 | 0, _, _, _, h => absurd h (Nat.not_lt_zero _)
 | n + 1, x, i, hx, h => by
  have hlt : j < x.length := by rw [hx, Nat.mul_succ]; lia
  have e : colRec w j (n + 1) x = x[j] :: colRec w j n (x.drop w) := by
   show x[j]?.toList ++ _ = _
   rw [List.getElem?_eq_getElem hlt]
   rfl
  rw [e]
  cases i with
  | zero => simp [List.getElem?_eq_getElem hlt]
  | succ i =>
   rw [List.getElem?_cons_succ, colRec_get hj n (x.drop w) i (by rw [List.length_drop, hx, Nat.mul_succ]; lia) (by lia), List.getElem?_drop]
   congr 1
   rw [Nat.succ_mul]; lia
theorem count_take (a : Nat) (x : List Nat) : ∀ w, ((List.range w).map fun j => (x[j]?.toList).count a).sum = (x.take w).count a
 | 0 => by simp
 | w + 1 => by
  rw [List.range_succ, List.map_append, List.sum_append, count_take a x w, List.take_add_one, List.count_append]
  simp
theorem sum_add {f g : Nat → Nat} : ∀ l : List Nat, (l.map fun j => f j + g j).sum = (l.map f).sum + (l.map g).sum
 | [] => rfl
 | j :: r => by
  simp only [List.map_cons, List.sum_cons, sum_add r]
  lia
theorem count_cols {w : Nat} (a : Nat) : ∀ (n : Nat) (x : List Nat), x.length = w * n → x.count a = ((List.range w).map fun j => (colRec w j n x).count a).sum
 | 0, x, h => by
  have : x = [] := List.eq_nil_of_length_eq_zero (by simpa using h)
  subst this
  have : ∀ l : List Nat, (l.map fun j => (colRec w j 0 []).count a).sum = 0 := fun l => by
   induction l with
   | nil => rfl
   | cons j r ih => simp only [List.map_cons, List.sum_cons, ih]; rfl
  rw [this]
  rfl
 | n + 1, x, h => by
  have ih := count_cols (w := w) a n (x.drop w) (by rw [List.length_drop, h, Nat.mul_succ]; lia)
  have e : x.count a = (x.take w).count a + (x.drop w).count a := by
   rw [← List.count_append, List.take_append_drop]
  have e2 : ((List.range w).map fun j => (colRec w j (n + 1) x).count a) = (List.range w).map fun j => (x[j]?.toList).count a + (colRec w j n (x.drop w)).count a := by
   refine List.map_congr_left fun j _ => ?_
   show (x[j]?.toList ++ colRec w j n (x.drop w)).count a = _
   rw [List.count_append]
  rw [e, ih, e2, sum_add, count_take]
noncomputable def pageOf (w n : Nat) (c : Nat → List Nat) : List Nat := (List.range n).flatMap fun i => (List.range w).map fun j => (c j).getD i 0
theorem page_len (w n : Nat) (c : Nat → List Nat) : (pageOf w n c).length = w * n := flat_len (fun i => by simp) n
theorem page_get {w n : Nat} {c : Nat → List Nat} (hc : ∀ j, j < w → (c j).length = n) {i j : Nat} (hi : i < n) (hj : j < w) : (pageOf w n c)[i * w + j]? = (c j)[i]? := by
 unfold pageOf
 rw [flat_get (fun i => by simp) n i j hi hj, List.getElem?_map, List.getElem?_range hj]
 have : i < (c j).length := by rw [hc j hj]; exact hi
 simp [List.getD_eq_getElem?_getD, List.getElem?_eq_getElem this]
theorem page_col {w n : Nat} {c : Nat → List Nat} (hc : ∀ j, j < w → (c j).length = n) {j : Nat} (hj : j < w) : colRec w j n (pageOf w n c) = c j := by
 refine List.ext_getElem? fun i => ?_
 by_cases hi : i < n
 ·rw [colRec_get hj n _ i (page_len w n c) hi, page_get hc hi hj]
 ·rw [List.getElem?_eq_none (by rw [col_len hj n _ (page_len w n c)]; lia), List.getElem?_eq_none (by rw [hc j hj]; lia)]
theorem page_perm {w n : Nat} {c : Nat → List Nat} {y : List Nat} (hy : y.length = w * n) (hc : ∀ j, j < w → (c j).Perm (colRec w j n y)) : (pageOf w n c).Perm y := by
 have hl : ∀ j, j < w → (c j).length = n := fun j hj => by rw [(hc j hj).length_eq, col_len hj n y hy]
 refine List.perm_iff_count.mpr fun a => ?_
 rw [count_cols a n _ (page_len w n c), count_cols a n y hy]
 congr 1
 refine List.map_congr_left fun j hj => ?_
 have hj := List.mem_range.mp hj
 rw [page_col hl hj]
 exact (hc j hj).count_eq a
theorem page_round {w n : Nat} {c : Nat → List Nat} {x y : List Nat} (hx : x.length = w * n) (h : FroN w false x y) (hc : ∀ j, j < w → (c j).Perm (colRec w j n y)) (hs : ∀ j, j < w → (c j).Pairwise (· ≤ ·)) : Round w n x y (pageOf w n c) c := by
 have hy : y.length = w * n := by rw [(fro_perm h).length_eq, hx]
 have hl : ∀ j, j < w → (c j).length = n := fun j hj => by rw [(hc j hj).length_eq, col_len hj n y hy]
 exact ⟨hx, h, hc, hs, fun i j hi hj => page_get hl hi hj⟩
noncomputable def mixB (t : Nat) (l : List Nat) : Bool := l.any (fun v => decide (v ≤ t)) && l.any fun v => decide (t < v)
theorem page_mixed {w n s : Nat} {c : Nat → List Nat} (hc : ∀ j, j < w → (c j).length = n) (I : Inv w n s (pageOf w n c)) (t : Nat) :
  ((List.range n).filter fun i => mixB t ((List.range w).map fun j => (c j).getD i 0)).length ≤ s := by
 refine I.mixed t fun i hi hp => ?_
 unfold mixB at hp
 simp only [Bool.and_eq_true, List.any_eq_true, List.mem_map, decide_eq_true_eq] at hp
 obtain ⟨⟨v, ⟨j, hj, rfl⟩, h1⟩, ⟨v', ⟨j', hj', rfl⟩, h2⟩⟩ := hp
 have hj := List.mem_range.mp hj
 have hj' := List.mem_range.mp hj'
 have e1 : i < (c j).length := by rw [hc j hj]; exact hi
 have e2 : i < (c j').length := by rw [hc j' hj']; exact hi
 refine ⟨j, j', (c j).getD i 0, (c j').getD i 0, hj, hj', ?_, ?_, h1, h2⟩
 ·rw [page_get hc hi hj]
  simp [List.getD_eq_getElem?_getD, List.getElem?_eq_getElem e1]
 ·rw [page_get hc hi hj']
  simp [List.getD_eq_getElem?_getD, List.getElem?_eq_getElem e2]
noncomputable def colsOf (oc : List (Addr × Row × Nat)) (j : Nat) : List Nat := ((oc[j]?).map fun e => e.2.1.map (·.1)).getD []
theorem rowF_eq {oc : List (Addr × Row × Nat)} {wd : Nat} (h : oc.length = wd) (k : Nat) : oc.map (fun e => (e.2.1.map (·.1)).getD k 0) = (List.range wd).map fun j => (colsOf oc j).getD k 0 := by
 refine List.ext_getElem? fun j => ?_
 rw [List.getElem?_map, List.getElem?_map]
 by_cases hj : j < wd
 ·rw [List.getElem?_range hj, List.getElem?_eq_getElem (by lia)]
  simp [colsOf, List.getElem?_eq_getElem (show j < oc.length by lia)]
 ·rw [List.getElem?_eq_none (by lia), List.getElem?_eq_none (by simp; lia)]
  rfl
theorem colsOf_perm {dc : List (Addr × Row)} {oc : List (Addr × Row × Nat)} {wd many : Nat} {y : List Nat} (hdc : dc.map (fun d => d.2.map (·.1)) = (List.range wd).map (fun j => colRec wd j many y)) (hoc : Ordered dc oc) (hol : oc.length = wd) :
  ∀ j, j < wd → (colsOf oc j).Perm (colRec wd j many y) ∧ (colsOf oc j).Pairwise (· ≤ ·) := fun j hj => by
 have hk : oc[j]? = some oc[j] := List.getElem?_eq_getElem (by omega)
 obtain ⟨e, he, hp, hs⟩ := hoc j _ hk
 have h1 : (dc.map (fun d => d.2.map (·.1)))[j]? = some (e.2.map (·.1)) := by rw [List.getElem?_map, he]; rfl
 rw [hdc, List.getElem?_map, List.getElem?_range hj] at h1
 have h2 : colRec wd j many y = e.2.map (·.1) := Option.some.inj h1
 have e3 : colsOf oc j = oc[j].2.1.map (·.1) := by simp [colsOf, hk]
 rw [e3, h2]
 exact ⟨hp, hs⟩
theorem rows_map {oc rw9 : List (Addr × Row × Nat)} {wd many : Nat} (hol : oc.length = wd) (hrl : rw9.length = many) (hrw : ∀ (k : Nat) (d : Addr × Row × Nat), rw9[k]? = some d → d.2.1.map (·.1) = oc.map fun e => (e.2.1.map (·.1)).getD k 0) :
  rw9.map (fun d => d.2.1.map (·.1)) = (List.range many).map fun i => (List.range wd).map fun j => (colsOf oc j).getD i 0 := by
 refine List.ext_getElem? fun i => ?_
 rw [List.getElem?_map, List.getElem?_map]
 by_cases hi : i < many
 ·have hk : rw9[i]? = some rw9[i] := List.getElem?_eq_getElem (by lia)
  rw [List.getElem?_range hi, hk]
  simp only [Option.map_some]
  rw [hrw i _ hk, rowF_eq hol]
 ·rw [List.getElem?_eq_none (by lia), List.getElem?_eq_none (by simp; lia)]
  rfl
theorem rows_count {oc rw9 : List (Addr × Row × Nat)} {wd many : Nat} (hol : oc.length = wd) (hrl : rw9.length = many) (hrw : ∀ (k : Nat) (d : Addr × Row × Nat), rw9[k]? = some d → d.2.1.map (·.1) = oc.map fun e => (e.2.1.map (·.1)).getD k 0) (t : Nat) :
  (rw9.filter fun d => mixB t (d.2.1.map (·.1))).length = ((List.range many).filter fun i => mixB t ((List.range wd).map fun j => (colsOf oc j).getD i 0)).length := by
 have h := congrArg (fun l : List (List Nat) => (l.filter fun r => mixB t r).length) (rows_map hol hrl hrw)
 simp only [List.filter_map, List.length_map] at h
 exact h
theorem rows_flat {oc rw9 : List (Addr × Row × Nat)} {wd many : Nat} (hol : oc.length = wd) (hrl : rw9.length = many) (hrw : ∀ (k : Nat) (d : Addr × Row × Nat), rw9[k]? = some d → d.2.1.map (·.1) = oc.map fun e => (e.2.1.map (·.1)).getD k 0) :
  (rw9.flatMap fun d => d.2.1).map (·.1) = pageOf wd many (colsOf oc) := by
 have h := congrArg List.flatten (rows_map hol hrl hrw)
 unfold pageOf
 rw [List.flatMap_def, List.flatMap_def, List.map_flatten, List.map_map]
 exact h
theorem mixB_min {t c : Nat} {l : List Nat} (hm : c ∈ l) (h : ∀ a ∈ l, c ≤ a) : l.any (fun v => decide (v ≤ t)) = decide (c ≤ t) := by
 apply Bool.eq_iff_iff.mpr
 simp only [List.any_eq_true, decide_eq_true_eq]
 exact ⟨fun ⟨v, hv, hvt⟩ => Nat.le_trans (h v hv) hvt, fun hc => ⟨c, hm, hc⟩⟩
theorem mixB_max {t c : Nat} {l : List Nat} (hm : c ∈ l) (h : ∀ a ∈ l, a ≤ c) : l.any (fun v => decide (t < v)) = decide (t < c) := by
 apply Bool.eq_iff_iff.mpr
 simp only [List.any_eq_true, decide_eq_true_eq]
 exact ⟨fun ⟨v, hv, hvt⟩ => Nat.lt_of_lt_of_le hvt (h v hv), fun hc => ⟨c, hm, hc⟩⟩
theorem half (k : Nat) : ((k : Int) + 1).fdiv 2 = (((k + 1) / 2 : Nat) : Int) := by
 rw [Int.fdiv_eq_ediv_of_nonneg _ (by decide)]
 lia
theorem half_lt {k : Nat} (h : (1 : Int) < (k : Int)) : (k + 1) / 2 < k := by lia
theorem half_pos {k : Nat} (h : (1 : Int) < (k : Int)) : 1 ≤ (k + 1) / 2 := by omega
theorem rows_lts (rw9 : List (Addr × Row × Nat)) : (rw9.map fun d => (d.1, lts d.2.1)).flatMap (·.2) = lts (rw9.flatMap fun d => d.2.1) := by
 induction rw9 with
 | nil => rfl
 | cons d r ih => rw [List.map_cons, List.flatMap_cons, List.flatMap_cons, ih, lts_append]
theorem one_of {k : Nat} (h1 : 1 ≤ k) (h2 : ¬ (1 : Int) < (k : Int)) : k = 1 := by lia
noncomputable def readP (w : Nat) (y : List Nat) : Nat → List Nat
 | 0 => []
 | i + 1 => readP w y i ++ (if i % 2 = 1 then ((y.drop (i * w)).take w).reverse else (y.drop (i * w)).take w)
theorem snake_snoc (w : Nat) : ∀ (n : Nat) (b : Bool) (y : List Nat), snake w b (n + 1) y = snake w b n y ++ (if (b != decide (n % 2 = 1)) then ((y.drop (n * w)).take w).reverse else (y.drop (n * w)).take w)
 | 0, b, y => by cases b <;> simp [snake]
 | n + 1, b, y => by
  show (if b then (y.take w).reverse else y.take w) ++ snake w (!b) (n + 1) (y.drop w) = ((if b then (y.take w).reverse else y.take w) ++ snake w (!b) n (y.drop w)) ++ _
  rw [snake_snoc w n (!b) (y.drop w), List.append_assoc, List.drop_drop]
  have e1 : w + n * w = (n + 1) * w := by rw [Nat.succ_mul]; lia
  have e2 : ((!b) != decide (n % 2 = 1)) = (b != decide ((n + 1) % 2 = 1)) := by
   have : decide ((n + 1) % 2 = 1) = !decide (n % 2 = 1) := by
    by_cases h : n % 2 = 1
    ·rw [decide_eq_true h, decide_eq_false (by lia)]; rfl
    ·rw [decide_eq_false h, decide_eq_true (by lia)]; rfl
   rw [this]
   cases b <;> cases decide (n % 2 = 1) <;> rfl
  rw [e1, e2]
theorem readP_snake (w : Nat) (y : List Nat) : ∀ n, readP w y n = snake w false n y
 | 0 => rfl
 | n + 1 => by
  rw [snake_snoc, readP, readP_snake w y n]
  simp
theorem odd_iff (i : Nat) : ((i : Int).fmod 2 = 1) ↔ i % 2 = 1 := by
 rw [Int.fmod_eq_emod_of_nonneg _ (by decide)]
 lia
theorem pick_sub (i wd : Nat) : (i + 1) * wd - i * wd = wd := by rw [Nat.succ_mul, Nat.add_sub_cancel_left]
theorem read_odd {ys zs : Row} {wd i : Nat} (h : zs.map (·.1) = readP wd (ys.map (·.1)) i) (ho : i % 2 = 1) : (zs ++ ((ys.drop (i * wd)).take wd).reverse).map (·.1) = readP wd (ys.map (·.1)) (i + 1) := by
 rw [List.map_append, h, readP, if_pos ho, List.map_reverse, List.map_take, List.map_drop]
theorem read_even {ys zs : Row} {wd i : Nat} (h : zs.map (·.1) = readP wd (ys.map (·.1)) i) (ho : ¬ i % 2 = 1) : (zs ++ (ys.drop (i * wd)).take wd).map (·.1) = readP wd (ys.map (·.1)) (i + 1) := by
 rw [List.map_append, h, readP, if_neg ho, List.map_take, List.map_drop]
theorem lets_pick {ys zs row : Row} {a b : Nat} (hy : Lets ys) (hz : Lets zs) (hr : ∀ p ∈ row, p ∈ (ys.drop a).take b) : Lets (zs ++ row) := fun p hp => by
 rcases List.mem_append.mp hp with hp | hp
 ·exact hz p hp
 ·exact hy p (List.mem_of_mem_drop (List.mem_of_mem_take (hr p hp)))
theorem len_pick {ys zs row : Row} {wd i b : Nat} (hz : zs.length ≤ i * wd) (hr : row.length = ((ys.drop (i * wd)).take wd).length) : (zs ++ row).length ≤ (i + 1) * wd := by
 rw [List.length_append, hr, List.length_take, Nat.succ_mul]
 omega
theorem room_pick {zs row : Row} {wd many i : Nat} (hz : zs.length ≤ i * wd) (hi : i < many) (h50 : wd * many < 50) (hr : row.length ≤ wd) (hw : wd < 127) : zs.length + row.length < 2000 := by
 have h1 : i * wd ≤ many * wd := Nat.mul_le_mul_right wd (Nat.le_of_lt hi)
 rw [Nat.mul_comm many wd] at h1
 lia
noncomputable abbrev zledL (z TI TO I1 I2 : Addr) (a b : Value) (o1 o2 : Obj) : List (Addr × Obj) := [(z, zipO .none TI TO), (TO, twoO a b), (I1, o1), (I2, o2), (TI, twoO (.ref I1) (.ref I2))]
section
variable {prog : Program} {w : World} {A : Around} {E : Value → Shared → Prop} {s : Shared} {h₀ : Heap} {L : Addr} {m : Str → Option Value} {led : List (Addr × Obj)}
theorem zip_lists {l1 l2 : Addr} {xs ys : Array Value} {Q : Value → Shared → Prop} (F : Fr h₀ L s.heap m) (N : News h₀ L s.heap led) (hl1 : s.heap.IsList l1 xs) (hl2 : s.heap.IsList l2 ys)
  (h : ∀ z TI TO I1 I2 o1 o2 h', ZipApart z TI TO I1 I2 l1 l2 → ItObj l1 0 o1 → ItObj l2 0 o2 → Fr h₀ L h' m → News h₀ L h' (zledL z TI TO I1 I2 .none .none o1 o2 ++ led) → (∀ p ∈ led, ∀ q ∈ zledL z TI TO I1 I2 Value.none Value.none o1 o2, p.1 ≠ q.1) → Q (.ref z) { s with heap := h' }) :
  wpAny (model prog w) A (call (.type "zip") [.ref l1, .ref l2]) Q E s := by
 refine call_zip_2 hl1 hl2 fun h' z1 z2 z3 z4 z5 z6 hk => ?_
 obtain ⟨o1, ho1, hc1, hd1⟩ := z4
 obtain ⟨o2, ho2, hc2, hd2⟩ := z5
 have hLl : L < s.heap.objs.size := F.ns.lt
 have hlt1 : l1 < s.heap.objs.size := let ⟨_, ho, _⟩ := hl1; Heap.lt_size ho
 have hlt2 : l2 < s.heap.objs.size := let ⟨_, ho, _⟩ := hl2; Heap.lt_size ho
 have hSl : ∀ p ∈ led, p.1 < s.heap.objs.size := fun p hp => Heap.lt_size (N p hp).1
 have hnone : ∀ b, s.heap.objs.size ≤ b → h₀.get? b = none := fun b hb => Heap.get?_none_of_le (Nat.le_trans F.above (Nat.le_trans (Nat.le_of_lt hLl) hb))
 generalize s.heap.objs.size = S at *
 have nL : ∀ k, S + k ≠ L := fun k => Nat.ne_of_gt (Nat.lt_of_lt_of_le hLl (Nat.le_add_right ..))
 have nb1 : ∀ k, l1 ≠ S + k := fun k => Nat.ne_of_lt (Nat.lt_of_lt_of_le hlt1 (Nat.le_add_right ..))
 have nb2 : ∀ k, l2 ≠ S + k := fun k => Nat.ne_of_lt (Nat.lt_of_lt_of_le hlt2 (Nat.le_add_right ..))
 have nn : ∀ j k : Nat, j ≠ k → S + j ≠ S + k := fun j k h e => h (Nat.add_left_cancel e)
 have ap : ZipApart (S + 4) (S + 2) (S + 3) (S + 0) (S + 1) l1 l2 := by
  constructor
  all_goals first
   | exact nb1 _
   | exact nb2 _
   | exact nn _ _ (by decide)
 refine h (S + 4) (S + 2) (S + 3) S (S + 1) o1 o2 h' ap ⟨hc1, hd1⟩ ⟨hc2, hd2⟩ (F.keeps hk) (fun p hp => ?_) (fun p hp q hq => ?_)
 ·rcases List.mem_append.mp hp with hp | hp
  ·refine m_el hp ?_; refine m_all ?_ (m_all ?_ (m_all ?_ (m_all ?_ (m_all ?_ m_nil))))
   ·exact ⟨z1, nL 4, hnone _ (Nat.le_add_right ..)⟩
   ·exact ⟨z3, nL 3, hnone _ (Nat.le_add_right ..)⟩
   ·exact ⟨ho1, nL 0, hnone _ (Nat.le_refl _)⟩
   ·exact ⟨ho2, nL 1, hnone _ (Nat.le_add_right ..)⟩
   ·exact ⟨z2, nL 2, hnone _ (Nat.le_add_right ..)⟩
  ·exact ⟨hk _ _ (N p hp).1, (N p hp).2⟩
 ·have hp' : p.1 < S := hSl p hp
  refine m_el hq ?_; refine m_all ?_ (m_all ?_ (m_all ?_ (m_all ?_ (m_all ?_ m_nil))))
  ·exact Nat.ne_of_lt (Nat.lt_of_lt_of_le hp' (Nat.le_add_right ..))
  ·exact Nat.ne_of_lt (Nat.lt_of_lt_of_le hp' (Nat.le_add_right ..))
  ·exact Nat.ne_of_lt hp'
  ·exact Nat.ne_of_lt (Nat.lt_of_lt_of_le hp' (Nat.le_add_right ..))
  ·exact Nat.ne_of_lt (Nat.lt_of_lt_of_le hp' (Nat.le_add_right ..))
end
theorem for_zipL {prog : Program} {w : World} {A : Around} {E : Value → Shared → Prop} {env : Env} {xa xb : Str} {pa pb pt : Pos} {kt : Nat} {body : List Stmt} {Q : Flow → Shared → Prop}
    {h₀ h : Heap} {g : Array GenState} {d : Drawn} {tk : Nat} {os : OsState} {m : Str → Option Value} {z TI TO I1 I2 l1 l2 : Addr} {xs ys : Array Value} {led : List (Addr × Obj)} {o1 o2 : Obj} {a b : Value} {n : Nat}
    (G : Array GenState → Prop) (J : Nat → (Str → Option Value) → List (Addr × Obj) → Prop) (hE : PassesOwn (model prog w) A env E) (hh : A.handled = none)
    (hxa : env.kindOf xa = some .local) (hxb : env.kindOf xb = some .local) (hp : (env.scope.kind == .class || (env.scope.kind == .module && env.locals != env.globals)) = false)
    (D : ZipApart z TI TO I1 I2 l1 l2) (hn1 : n ≤ xs.size) (hn2 : n = ys.size)
    (F : Fr h₀ env.locals h m) (N : News h₀ env.locals h (zledL z TI TO I1 I2 a b o1 o2 ++ led)) (hI1 : ItObj l1 0 o1) (hI2 : ItObj l2 0 o2) (hap : ∀ p ∈ led, ∀ q ∈ zledL z TI TO I1 I2 a b o1 o2, p.1 ≠ q.1) (hg : G g) (h0 : J 0 m led)
    (hl1 : ∀ i m led h, J i m led → Fr h₀ env.locals h m → News h₀ env.locals h led → h.IsList l1 xs)
    (hl2 : ∀ i m led h, J i m led → Fr h₀ env.locals h m → News h₀ env.locals h led → h.IsList l2 ys)
    (turn : ∀ i va vb m led h tk g zl, i < n → xs[i]? = some va → ys[i]? = some vb → J i m led → (∀ p ∈ led, ∀ q ∈ zl, p.1 ≠ q.1) → G g →
      Fr h₀ env.locals h (fun y => if y = xb then some vb else if y = xa then some va else m y) → News h₀ env.locals h (zl ++ led) →
      wpAny (model prog w) A (execs body env) (ZPost h₀ env.locals G d os zl (J (i + 1)) Q) E ⟨h, g, d, tk, os⟩)
    (done : ∀ m led h tk g, J n m led → G g → Fr h₀ env.locals h m → News h₀ env.locals h led → Q .next ⟨h, g, d, tk, os⟩) :
    FRest prog w A E env (.Tuple [.Name xa pa, .Name xb pb] kt pt) (.ref z) body [] Q ⟨h, g, d, tk, os⟩ := by
  have key : ∀ k i m led h tk g o1 o2 a b, n - i = k → i ≤ n → J i m led → ItObj l1 i o1 → ItObj l2 i o2 → (∀ p ∈ led, ∀ q ∈ zledL z TI TO I1 I2 a b o1 o2, p.1 ≠ q.1) → G g → Fr h₀ env.locals h m → News h₀ env.locals h (zledL z TI TO I1 I2 a b o1 o2 ++ led) →
      FRest prog w A E env (.Tuple [.Name xa pa, .Name xb pb] kt pt) (.ref z) body [] Q ⟨h, g, d, tk, os⟩ := by
    intro k
    induction k with
    | zero =>
      intro i m led h tk g o1 o2 a b hk hi hJ hI1 hI2 hap hg F N
      have e : i = n := Nat.le_antisymm hi (Nat.le_of_sub_eq_zero hk)
      subst e
      have N' : News h₀ env.locals h led := fun p hp => N p (List.mem_append_right _ hp)
      have hl1' := hl1 i m led h hJ F N'
      have hl2' := hl2 i m led h hJ F N'
      have nz := N (z, zipO .none TI TO) (by (repeat (first | exact m_hd | refine m_tl ?_)))
      have nT := N (TO, twoO a b) (by (repeat (first | exact m_hd | refine m_tl ?_)))
      have nI1 := N (I1, o1) (by (repeat (first | exact m_hd | refine m_tl ?_)))
      have nI2 := N (I2, o2) (by (repeat (first | exact m_hd | refine m_tl ?_)))
      have nTI := N (TI, twoO (.ref I1) (.ref I2)) (by (repeat (first | exact m_hd | refine m_tl ?_)))
      refine frest_turn hE (wpAny_pyNext_zip_end (s := ⟨h, g, d, tk, os⟩) hh D nz.1 nTI.1 nT.1 (hI1.at nI1.1) (hI2.at nI2.1) hl1' hl2' (Or.inr (by simp [hn2])) fun h' hk' => ?_)
      refine wpAny_execs_nil (done m led h' tk g hJ hg ?_ ?_)
      · exact ⟨F.ns.at' fun o e => hk' env.locals o (Ne.symm nz.2.1) (Ne.symm nT.2.1) (Ne.symm nI1.2.1) (Ne.symm nI2.2.1) e,
          fun c o e => hk' c o (ne_of_none nz.2.2 e) (ne_of_none nT.2.2 e) (ne_of_none nI1.2.2 e) (ne_of_none nI2.2.2 e) (F.keep c o e), F.above⟩
      · intro p hp
        refine ⟨hk' p.1 p.2 (hap p hp _ (.head _)) (hap p hp _ (.tail _ (.head _))) (hap p hp _ (.tail _ (.tail _ (.head _)))) (hap p hp _ (.tail _ (.tail _ (.tail _ (.head _))))) (N' p hp).1, (N' p hp).2⟩
    | succ k ih =>
      intro i m led h tk g o1 o2 a b hk hi hJ hI1 hI2 hap hg F N
      have hlt : i < n := Nat.lt_of_sub_pos (by rw [hk]; exact Nat.succ_pos k)
      have N' : News h₀ env.locals h led := fun p hp => N p (List.mem_append_right _ hp)
      have hl1' := hl1 i m led h hJ F N'
      have hl2' := hl2 i m led h hJ F N'
      have nz := N (z, zipO .none TI TO) (by (repeat (first | exact m_hd | refine m_tl ?_)))
      have nT := N (TO, twoO a b) (by (repeat (first | exact m_hd | refine m_tl ?_)))
      have nI1 := N (I1, o1) (by (repeat (first | exact m_hd | refine m_tl ?_)))
      have nI2 := N (I2, o2) (by (repeat (first | exact m_hd | refine m_tl ?_)))
      have nTI := N (TI, twoO (.ref I1) (.ref I2)) (by (repeat (first | exact m_hd | refine m_tl ?_)))
      have b1 : i < xs.size := Nat.lt_of_lt_of_le hlt hn1
      have b2 : i < ys.size := hn2 ▸ hlt
      refine frest_turn hE (wpAny_pyNext_zip_item (s := ⟨h, g, d, tk, os⟩) (x := xs[i]) (y := ys[i]) D nz.1 nTI.1 nT.1 (hI1.at nI1.1) (hI2.at nI2.1) hl1' hl2' (by simp [b1]) (by simp [b2]) fun h' z' t' i1' i2' T' hsz hk' => ?_)
      obtain ⟨o1', hoI1, hcI1, hdI1⟩ := i1'
      obtain ⟨o2', hoI2, hcI2, hdI2⟩ := i2'
      have hTz : h.objs.size ≠ z := Nat.ne_of_gt (Heap.lt_size nz.1)
      have F1 : Fr h₀ env.locals h' m := ⟨F.ns.at' fun o e => hk' env.locals o (Ne.symm nz.2.1) (Ne.symm nT.2.1) (Ne.symm nI1.2.1) (Ne.symm nI2.2.1) e,
          fun c o e => hk' c o (ne_of_none nz.2.2 e) (ne_of_none nT.2.2 e) (ne_of_none nI1.2.2 e) (ne_of_none nI2.2.2 e) (F.keep c o e), F.above⟩
      have led1 : News h₀ env.locals h' led := fun p hp => ⟨hk' p.1 p.2 (hap p hp _ (.head _)) (hap p hp _ (.tail _ (.head _))) (hap p hp _ (.tail _ (.tail _ (.head _)))) (hap p hp _ (.tail _ (.tail _ (.tail _ (.head _))))) (N' p hp).1, (N' p hp).2⟩
      refine wpAny_letOwnedTupleGo_zip z' fun h2 z2 s2 => ?_
      have lift : ∀ c o, c ≠ z → h'.get? c = some o → h2.get? c = some o := fun c o hc e => s2.extBut c o hc e
      have F2 : Fr h₀ env.locals h2 m := F1.change s2 nz.2.1 nz.2.2
      have N2 : News h₀ env.locals h2 (zledL z TI TO I1 I2 xs[i] ys[i] o1' o2' ++ led) := fun p hp => by
        rcases List.mem_append.mp hp with hp | hp
        · refine m_el hp ?_; refine m_all ?_ (m_all ?_ (m_all ?_ (m_all ?_ (m_all ?_ m_nil))))
          · exact ⟨z2, nz.2⟩
          · exact ⟨lift _ _ D.TOz t', nT.2⟩
          · exact ⟨lift _ _ D.i1z hoI1, nI1.2⟩
          · exact ⟨lift _ _ D.i2z hoI2, nI2.2⟩
          · exact ⟨lift _ _ D.TIz (hk' _ _ D.TIz D.TITO D.TIi1 D.TIi2 nTI.1), nTI.2⟩
        · exact ⟨lift _ _ (hap p hp _ (.head _)) (led1 p hp).1, (led1 p hp).2⟩
      have T2 : h2.IsTuple h.objs.size #[xs[i], ys[i]] := ⟨_, lift _ _ hTz T', rfl, _, rfl⟩
      refine wpAny_assign_Tuple (s := ⟨h2, g, d, tk, os⟩) hh T2 rfl rfl fun h3 e3 => ?_
      have F3 : Fr h₀ env.locals h3 m := ⟨F2.ns.at' fun o e => e3 _ o (Nat.ne_of_lt F2.ns.lt) e, fun c o e => e3 c o (Nat.ne_of_lt (Heap.lt_size (F2.keep c o e))) (F2.keep c o e), F2.above⟩
      have N3 : News h₀ env.locals h3 (zledL z TI TO I1 I2 xs[i] ys[i] o1' o2' ++ led) := fun p hp => ⟨e3 _ _ (Nat.ne_of_lt (Heap.lt_size (N2 p hp).1)) (N2 p hp).1, (N2 p hp).2⟩
      refine assignInOrder_cons (wpAny_assign_Name (wpAny_storeName_local hxa F3.ns (fun h4 hn4 hs4 => ?_) hp))
      refine assignInOrder_cons (wpAny_assign_Name (wpAny_storeName_local hxb (F3.set hn4 hs4).ns (fun h5 hn5 hs5 => ?_) hp))
      refine assignInOrder_nil ?_
      have F5 := (F3.set hn4 hs4).set hn5 hs5
      have N5 := (N3.set hs4).set hs5
      have hapn : ∀ p ∈ led, ∀ q ∈ zledL z TI TO I1 I2 xs[i] ys[i] o1' o2', p.1 ≠ q.1 := fun p hp q hq => by
        refine m_el hq ?_; refine m_all ?_ (m_all ?_ (m_all ?_ (m_all ?_ (m_all ?_ m_nil))))
        · exact hap p hp _ (.head _)
        · exact hap p hp (TO, twoO a b) (.tail _ (.head _))
        · exact hap p hp (I1, o1) (.tail _ (.tail _ (.head _)))
        · exact hap p hp (I2, o2) (.tail _ (.tail _ (.tail _ (.head _))))
        · exact hap p hp _ (.tail _ (.tail _ (.tail _ (.tail _ (.head _)))))
      refine wpAny_mono (turn i xs[i] ys[i] m led h5 _ g _ hlt (by simp [b1]) (by simp [b2]) hJ hapn hg F5 N5) (fun f s₃ h₃ => ?_) fun _ _ e => e
      have fin : ZEnd h₀ env.locals G d os (zledL z TI TO I1 I2 xs[i] ys[i] o1' o2') (J (i + 1)) s₃ → FRest prog w A E env (.Tuple [.Name xa pa, .Name xb pb] kt pt) (.ref z) body [] Q s₃ := by
        rintro ⟨h', tk', g', m', led', rfl, hg', F'', N'', hap', hJ'⟩
        exact ih (i + 1) m' led' h' tk' g' o1' o2' _ _ (by rw [Nat.sub_add_eq, hk]; rfl) hlt hJ' ⟨hcI1, hdI1⟩ ⟨hcI2, hdI2⟩ hap' hg' F'' N''
      cases f with
      | next => exact fin h₃
      | cont => exact fin h₃
      | brk => exact h₃
      | ret v => exact h₃
  exact key _ 0 m led h tk g o1 o2 a b rfl (Nat.zero_le _) h0 hI1 hI2 hap hg F N
theorem read_done {zs ys qd : Row} {wd many : Nat} {x : List Nat} (hI : Inv wd many 1 x) (hw : 0 < wd) (hxl : x.length = wd * many) (hfr : FroN wd false x (ys.map (·.1))) (h1 : zs.map (·.1) = readP wd (ys.map (·.1)) many)
  (hyl : ys.length = wd * many) (hyq : (ys.map (·.1)).Perm (qd.map (·.1))) (hsort : (qd.map (·.1)).Pairwise (· ≤ ·)) : zs.map (·.1) = qd.map (·.1) ∧ (zs.map (·.1)).Pairwise (· ≤ ·) := by
 rw [readP_snake] at h1
 have hs := hI.final hw hxl hfr
 have hp := snake_perm wd false many (ys.map (·.1)) (by rw [List.length_map, hyl])
 rw [← h1] at hs hp
 exact ⟨sorted_unique (hp.trans hyq) hs hsort, hs⟩
theorem zpost_next {h₀ h' : Heap} {L : Addr} {G : Array GenState → Prop} {d : Drawn} {os : OsState} {zl : List (Addr × Obj)} {J : (Str → Option Value) → List (Addr × Obj) → Prop} {Q : Flow → Shared → Prop} {g' : Array GenState} {tk' : Nat} {m' : Str → Option Value} {led' : List (Addr × Obj)}
  (F : Fr h₀ L h' m') (N : News h₀ L h' (zl ++ led')) (hg : G g') (hap : ∀ p ∈ led', ∀ q ∈ zl, p.1 ≠ q.1) (hJ : J m' led') : ZPost h₀ L G d os zl J Q .next ⟨h', g', d, tk', os⟩ :=
 ⟨h', tk', g', m', led', rfl, hg, F, N, hap, hJ⟩
theorem pair_le {zs : Row} (hs : (zs.map (·.1)).Pairwise (· ≤ ·)) {i : Nat} {va vb : Value} (ha : (lts zs).toArray[i]? = some va) (hb : (lts (zs.drop 1)).toArray[i]? = some vb) :
  ∃ p q : Nat × Tok, va = .str ⟨#[p.1]⟩ p.2 ∧ vb = .str ⟨#[q.1]⟩ q.2 ∧ p ∈ zs ∧ q ∈ zs ∧ p.1 ≤ q.1 := by
 obtain ⟨p, hp, rfl⟩ := lts_get ha
 obtain ⟨q, hq, rfl⟩ := lts_get hb
 rw [List.getElem?_drop] at hq
 refine ⟨p, q, rfl, rfl, List.mem_of_getElem? hp, List.mem_of_getElem? hq, ?_⟩
 obtain ⟨h1, e1⟩ := List.getElem?_eq_some_iff.mp hp
 obtain ⟨h2, e2⟩ := List.getElem?_eq_some_iff.mp hq
 have := List.pairwise_iff_getElem.mp hs i (1 + i) (by simpa using h1) (by simpa using h2) (by lia)
 simpa [e1, e2] using this
theorem x_lt (a b : Nat) : ((Str.ofString "x" ++ (⟨#[a]⟩ : Str)).cps.toList < (Str.ofString "x" ++ (⟨#[b]⟩ : Str)).cps.toList) ↔ a < b := by
 show ([120, a] < [120, b]) ↔ _
 rw [List.cons_lt_cons_iff, List.cons_lt_cons_iff]
 simp
theorem coll_up {a b : Nat} (h : a < b) : b2i (decide ((Str.ofString "x" ++ (⟨#[b]⟩ : Str)).cps.toList < (Str.ofString "x" ++ (⟨#[a]⟩ : Str)).cps.toList)) - b2i (decide ((Str.ofString "x" ++ (⟨#[a]⟩ : Str)).cps.toList < (Str.ofString "x" ++ (⟨#[b]⟩ : Str)).cps.toList)) = -1 := by
 rw [decide_eq_false (fun q => Nat.lt_asymm h ((x_lt b a).mp q)), decide_eq_true ((x_lt a b).mpr h)]; rfl
theorem coll_down {a b : Nat} (h : a < b) : b2i (decide ((Str.ofString "x" ++ (⟨#[a]⟩ : Str)).cps.toList < (Str.ofString "x" ++ (⟨#[b]⟩ : Str)).cps.toList)) - b2i (decide ((Str.ofString "x" ++ (⟨#[b]⟩ : Str)).cps.toList < (Str.ofString "x" ++ (⟨#[a]⟩ : Str)).cps.toList)) = 1 := by
 rw [decide_eq_false (fun q => Nat.lt_asymm h ((x_lt b a).mp q)), decide_eq_true ((x_lt a b).mpr h)]; rfl
theorem coll_same {a b : Nat} (h : a = b) : b2i (decide ((Str.ofString "x" ++ (⟨#[b]⟩ : Str)).cps.toList < (Str.ofString "x" ++ (⟨#[a]⟩ : Str)).cps.toList)) - b2i (decide ((Str.ofString "x" ++ (⟨#[a]⟩ : Str)).cps.toList < (Str.ofString "x" ++ (⟨#[b]⟩ : Str)).cps.toList)) = 0 := by
 subst h; exact Int.sub_self _
theorem coll_begin (a b : Nat) : b2i (decide (((⟨#[a]⟩ : Str) ++ (⟨#[b]⟩ : Str)).cps.toList < (⟨#[a]⟩ : Str).cps.toList)) - b2i (decide ((⟨#[a]⟩ : Str).cps.toList < ((⟨#[a]⟩ : Str) ++ (⟨#[b]⟩ : Str)).cps.toList)) = -1 := by
 have h1 : ¬ (((⟨#[a]⟩ : Str) ++ (⟨#[b]⟩ : Str)).cps.toList < (⟨#[a]⟩ : Str).cps.toList) := by
  show ¬ ([a, b] < [a])
  rw [List.cons_lt_cons_iff]
  simp
 have h2 : (⟨#[a]⟩ : Str).cps.toList < ((⟨#[a]⟩ : Str) ++ (⟨#[b]⟩ : Str)).cps.toList := by
  show [a] < [a, b]
  rw [List.cons_lt_cons_iff]
  simp
 rw [decide_eq_false h1, decide_eq_true h2]; rfl
theorem vals_carried : ∀ rs : List (Str × Tok), CarriedAll (strValues rs) ((rs.map (·.1)).map PyData.str)
 | [] => .nil
 | _ :: r => .cons (.str _ _) (vals_carried r)
section
variable {prog : Program} {w : World} {A : Around} {E : Value → Shared → Prop} {s : Shared} {a b : Addr} {Q : Value → Shared → Prop}
theorem ne_vals {rs ss : List (Str × Tok)} (e : rs.map (·.1) = ss.map (·.1)) (hok : ∀ x ∈ ss.map (·.1), PyData.strOk x = true) (ha : s.heap.IsList a (strValues rs).toArray) (hb : s.heap.IsList b (strValues ss).toArray) (hu : A.units + 64 < cLine) (h : Q (.bool false) s) :
  wpAny (model prog w) A (compareOp .NotEq (.ref a) (.ref b)) Q E s :=
 ne_dataH_same (reads_newData ha (vals_carried rs)) (reads_newData hb (vals_carried ss)) (by rw [e]; exact str_shaped hok) (str_shaped hok) hu (SeqAt.noMix_of_shape (.list .str) rfl _ _ (list_map_has fun _ => rfl) (list_map_has fun _ => rfl))
  (by simp only [PySem.Spec.same]; rw [str_same, e, decide_eq_true rfl]; exact h)
end
theorem ok_0 : PyData.strOk (Str.ofString "0") = true := by kernel_rfl
theorem ok_1 : PyData.strOk (Str.ofString "1") = true := by kernel_rfl
theorem ok_m1 : PyData.strOk (Str.ofString "-1") = true := by kernel_rfl
theorem shown_snoc {rs : List (Str × Tok)} {xs : List Int} {i : Nat} {x : Int} {t : Tok} (h : rs.map (·.1) = (xs.take i).map (fun n : Int => Str.ofString (toString n))) (hx : xs[i]? = some x) :
  (rs ++ [(Str.ofString (toString x), t)]).map (·.1) = (xs.take (i + 1)).map (fun n : Int => Str.ofString (toString n)) := by
 rw [List.map_append, h, List.take_add_one, hx]
 simp
noncomputable def headI (v : Value) : Int := match v with | .str x _ => (x.cps.getD 0 0 : Nat) | _ => 0
theorem lts_head {ps : Row} {i : Nat} {v : Value} (h : (lts ps).toArray[i]? = some v) : ∃ c t, v = .str ⟨#[c]⟩ t ∧ (((ps.map (·.1)).getD i 0 : Nat) : Int) = (c : Int) := by
 obtain ⟨p, hp, rfl⟩ := lts_get h
 exact ⟨p.1, p.2, rfl, by simp [hp]⟩
theorem dec_lt (x y : Nat) : decide ((⟨#[x]⟩ : Str).cps.toList < (⟨#[y]⟩ : Str).cps.toList) = decide ((x : Int) < (y : Int)) := by
 apply Bool.eq_iff_iff.mpr
 rw [decide_eq_true_eq, decide_eq_true_eq, one_lt]
 omega
section
variable {prog : Program} {w : World} {A : Around} {E : Value → Shared → Prop} {s : Shared} {h₀ : Heap} {L : Addr} {m : Str → Option Value} {news : List (Addr × Obj)}
theorem cmp_lt {ps : Row} : CmpOf prog w A .Lt (fun i v => (lts ps).toArray[i]? = some v) (fun i j => decide ((((ps.map (·.1)).getD i 0 : Nat) : Int) < (((ps.map (·.1)).getD j 0 : Nat) : Int))) := fun i j vi vj s Q E hi hj h => by
 obtain ⟨c, t, rfl, e1⟩ := lts_head hi
 obtain ⟨d, u, rfl, e2⟩ := lts_head hj
 dsimp only at h
 rw [e1, e2, ← dec_lt] at h
 exact richCompare_gives (op := .Lt) (typeIs_str s _ t) (typeIs_str s _ u) F.slot_str_lt F.entry_str_lt (F.args_str_lt_2 _ _) (gives_str_lt _ _ t u) (fun x => nomatch x) h
theorem cmp_gt {ps : Row} : CmpOf prog w A .Gt (fun i v => (lts ps).toArray[i]? = some v) (fun i j => decide ((((ps.map (·.1)).getD i 0 : Nat) : Int) > (((ps.map (·.1)).getD j 0 : Nat) : Int))) := fun i j vi vj s Q E hi hj h => by
 obtain ⟨c, t, rfl, e1⟩ := lts_head hi
 obtain ⟨d, u, rfl, e2⟩ := lts_head hj
 have e3 : decide ((c : Int) > (d : Int)) = decide ((⟨#[d]⟩ : Str).cps.toList < (⟨#[c]⟩ : Str).cps.toList) := (dec_lt d c).symm
 dsimp only at h
 rw [e1, e2, e3] at h
 exact richCompare_gives (op := .Gt) (typeIs_str s _ t) (typeIs_str s _ u) F.slot_str_gt F.entry_str_gt (F.args_str_gt_2 _ _) (gives_str_gt _ _ t u) (fun x => nomatch x) h
theorem iter_rows {l : Addr} {its : Array Value} {Q : Value → Shared → Prop} (hl : s.heap.IsList l its)
    (h : ∀ s₂ : Shared, s₂ = { s with heap := s.heap.push { cls := .type "list_iterator", data := .fields #[.ref l, .int 0 0] } } →
      (s₂.heap.IsListIter s.heap.objs.size l 0 ∧ s₂.heap.IsList l its) → (∀ b ∈ [s.heap.objs.size, l], b < s₂.heap.objs.size) → l ≠ s.heap.objs.size → Q (.ref s.heap.objs.size) s₂) :
    wpAny (model prog w) A (pyIter (.ref l)) Q E s := by
  have hlt : l < s.heap.objs.size := by obtain ⟨_, e, _⟩ := hl; exact Heap.lt_size e
  refine wpAny_pyIter_list hl (h _ rfl ⟨⟨_, Heap.get?_push_size _ rfl, rfl, rfl⟩, hl.push _⟩ (fun b hb => ?_) (Nat.ne_of_lt hlt))
  show b < (s.heap.push _).objs.size
  rw [Heap.size_push]
  rcases List.mem_cons.mp hb with rfl | hb
  · exact Nat.lt_succ_self _
  · rw [List.mem_singleton.mp hb]
    exact Nat.lt_succ_of_lt hlt
theorem min_lts {l : Addr} {ps : Row} {Q : Value → Shared → Prop} (hh : A.handled = none) (F : Fr h₀ L s.heap m) (N : News h₀ L s.heap news) (hl : s.heap.IsList l (lts ps).toArray) (hne : ps ≠ [])
  (h : ∀ h' (c : Nat) (t : Tok) tk, Fr h₀ L h' m → News h₀ L h' news → c ∈ ps.map (·.1) → (∀ a ∈ ps.map (·.1), c ≤ a) → Q (.str ⟨#[c]⟩ t) { s with heap := h', toks := tk }) :
  wpAny (model prog w) A (call (.builtin "min") [.ref l]) Q E s := by
 have hlen : 0 < ps.length := List.length_pos_iff.mpr hne
 refine call_min_walk (iter_rows hl fun s₂ e st hfp hlI => ?_)
 subst e
 refine ⟨_, _, _, _, _, _, _, rfl, Walks.list (A := A.in1) hh _ l hlI (lts ps).toArray, st, hfp, by simpa using hlen, cmp_lt, fun v h' tk hP hk => ?_⟩
 have hk' := old_kept (s := s) (l := l) hk
 obtain ⟨b1, b2⟩ := argBest_lt (fun i => (((ps.map (·.1)).getD i 0 : Nat) : Int)) ((lts ps).toArray.size - 1)
 obtain ⟨c, t, rfl, e1⟩ := lts_head hP
 have hsz : (lts ps).toArray.size = ps.length := by simp
 refine h _ c t tk (F.grownK hk') (N.grown hk') ?_ fun a ha => ?_
 ·obtain ⟨p, hp, e⟩ := lts_get hP
  cases e
  exact List.mem_map.mpr ⟨p, List.mem_of_getElem? hp, rfl⟩
 ·obtain ⟨j, hj, rfl⟩ := List.mem_iff_getElem.mp ha
  rw [List.length_map] at hj
  have := b2 j (by omega)
  rw [e1, List.getD_eq_getElem?_getD, List.getElem?_eq_getElem (by simpa using hj)] at this
  simp only [Option.getD_some] at this
  omega
theorem max_lts {l : Addr} {ps : Row} {Q : Value → Shared → Prop} (hh : A.handled = none) (F : Fr h₀ L s.heap m) (N : News h₀ L s.heap news) (hl : s.heap.IsList l (lts ps).toArray) (hne : ps ≠ [])
  (h : ∀ h' (c : Nat) (t : Tok) tk, Fr h₀ L h' m → News h₀ L h' news → c ∈ ps.map (·.1) → (∀ a ∈ ps.map (·.1), a ≤ c) → Q (.str ⟨#[c]⟩ t) { s with heap := h', toks := tk }) :
  wpAny (model prog w) A (call (.builtin "max") [.ref l]) Q E s := by
 have hlen : 0 < ps.length := List.length_pos_iff.mpr hne
 refine call_max_walk (iter_rows hl fun s₂ e st hfp hlI => ?_)
 subst e
 refine ⟨_, _, _, _, _, _, _, rfl, Walks.list (A := A.in1) hh _ l hlI (lts ps).toArray, st, hfp, by simpa using hlen, cmp_gt, fun v h' tk hP hk => ?_⟩
 have hk' := old_kept (s := s) (l := l) hk
 obtain ⟨b1, b2⟩ := argBest_gt (fun i => (((ps.map (·.1)).getD i 0 : Nat) : Int)) ((lts ps).toArray.size - 1)
 obtain ⟨c, t, rfl, e1⟩ := lts_head hP
 have hsz : (lts ps).toArray.size = ps.length := by simp
 refine h _ c t tk (F.grownK hk') (N.grown hk') ?_ fun a ha => ?_
 ·obtain ⟨p, hp, e⟩ := lts_get hP
  cases e
  exact List.mem_map.mpr ⟨p, List.mem_of_getElem? hp, rfl⟩
 ·obtain ⟨j, hj, rfl⟩ := List.mem_iff_getElem.mp ha
  rw [List.length_map] at hj
  have := b2 j (by omega)
  rw [e1, List.getD_eq_getElem?_getD, List.getElem?_eq_getElem (by simpa using hj)] at this
  simp only [Option.getD_some] at this
  omega
theorem strs_row : ∀ {vs : List Value} {ss : List Str}, StrsAre vs ss → (∀ x ∈ ss, ∃ c, x = ⟨#[c]⟩) → ∃ qs : Row, vs = lts qs ∧ ss = qs.map fun q => ⟨#[q.1]⟩
 | _, _, .nil, _ => ⟨[], rfl, rfl⟩
 | _, _, .cons y t h, hx => by
  obtain ⟨c, rfl⟩ := hx _ (.head _)
  obtain ⟨qs, rfl, rfl⟩ := strs_row h fun x hm => hx x (.tail _ hm)
  exact ⟨(c, t) :: qs, rfl, rfl⟩
theorem ltCps_one (a b : Nat) : ltCps [a] [b] = decide (a < b) := by
 simp [ltCps]
theorem rising_row : ∀ (c : Nat) (qs : Row), risingS ⟨#[c]⟩ (qs.map fun q => (⟨#[q.1]⟩ : Str)) = true → (∀ q ∈ qs, c ≤ q.1) ∧ qs.Pairwise fun a b => a.1 ≤ b.1
 | c, [], _ => ⟨fun q hq => (List.not_mem_nil hq).elim, .nil⟩
 | c, q :: r, h => by
  simp only [List.map_cons, risingS, Bool.and_eq_true] at h
  obtain ⟨h1, h2⟩ := rising_row q.1 r h.2
  have h3 : c ≤ q.1 := by
   have := h.1
   rw [ltCps_one] at this
   simp at this
   exact this
  refine ⟨fun x hx => ?_, List.pairwise_cons.mpr ⟨h1, h2⟩⟩
  refine m_el hx (m_all ?_ ?_)
  ·exact h3
  ·intro x hx; exact Nat.le_trans h3 (h1 x hx)
theorem sorted_row : ∀ (qs : Row), sortedS (qs.map fun q => (⟨#[q.1]⟩ : Str)) = true → qs.Pairwise fun a b => a.1 ≤ b.1
 | [], _ => .nil
 | q :: r, h => by
  obtain ⟨h1, h2⟩ := rising_row q.1 r h
  exact List.pairwise_cons.mpr ⟨h1, h2⟩
theorem lts_strs' : ∀ ps : Row, StrsAre (lts ps) (ps.map fun p => (⟨#[p.1]⟩ : Str))
 | [] => .nil
 | p :: r => .cons _ _ (lts_strs' r)
theorem sorted_lts {l : Addr} {ps : Row} {Q : Value → Shared → Prop} (F : Fr h₀ L s.heap m) (N : News h₀ L s.heap news) (hl : s.heap.IsList l (lts ps).toArray) (h64 : ps.length < 64)
  (h : ∀ (D : Addr) (h' : Heap) (qs : Row) (e : Nat), (∀ p ∈ news, p.1 < D) → Fr h₀ L h' m → News h₀ L h' ((D, listOf (lts qs).toArray e) :: news) → (qs.map (·.1)).Perm (ps.map (·.1)) → (qs.map (·.1)).Pairwise (· ≤ ·) → Q (.ref D) { s with heap := h' }) :
  wpAny (model prog w) A (call (.builtin "sorted") [.ref l]) Q E s := by
 refine sorted_N_str F N hl (lts_strs' ps) (by simpa using h64) fun h' vs' ss' e F' N' hS hp hs => ?_
 obtain ⟨qs, rfl, rfl⟩ := strs_row hS fun x hx => by
  obtain ⟨p, _, rfl⟩ := List.mem_map.mp (hp.subset hx)
  exact ⟨p.1, rfl⟩
 refine h _ h' qs e (fun p hq => Nat.lt_succ_of_lt (Heap.lt_size (N p hq).1)) F' N' ?_ (List.Pairwise.map _ (fun _ _ h => h) (sorted_row qs hs))
 have := hp.map (fun x : Str => x.cps.getD 0 0)
 rw [List.map_map, List.map_map] at this
 exact this
end
noncomputable def LawEnd (h₀ : Heap) (os : OsState) (r : Result) (s' : Shared) : Prop :=
 r = .ok (.ret (.bool true)) ∧ (∀ b o, h₀.get? b = some o → s'.heap.get? b = some o) ∧ s'.os = os ∧ AllBare s'.gens
theorem my_post {M : Model} {A : Around} {cd : Code} {s s₁ : Shared} {cw : ClaimW} {cl : Str → Option Addr} {mean : ExcName → Option Value} {args : List WData} {tabs : List (Addr × Addr)} (hT : TabsAt tabs s₁.heap) (hr : ∀ a x, cw.raises a x = false)
  (hp : cw.post args (.bool true) args = true)
  (h : codeAny M A cd (fun r s' => LawEnd (ghostOf s₁.heap tabs) s₁.os r s' ∧ GrownAll tabs s'.heap) s) : codeAny M A cd (GoodWG cw cl mean args s₁) s :=
 codeAny_mono h fun r s' ⟨⟨hc, hk, hos, hg⟩, hgr⟩ => by
  have grown : ∀ b o, b ∈ tabs.map (·.2) → s₁.heap.get? b = some o → isCodeTable s₁.heap b ∧ o = tabObj #[] ∧ ∃ ps, s'.heap.get? b = some (tabObj ps) := fun b o hb e => by
   obtain ⟨q, hq, rfl⟩ := List.mem_map.mp hb
   have e2 := (hT q hq).2
   rw [e] at e2
   exact ⟨((hT q hq).1.tab (hT q hq).2).isCodeTable, Option.some.inj e2, hgr.get q hq⟩
  refine ⟨.inl ⟨.bool true, .bool true, [], hc, hr args, .bool true, hp, fun _ => ⟨.nil, fun a ha => (List.not_mem_nil ha).elim⟩⟩, ⟨fun b o e => ?_, fun b o e => ?_⟩, hos, hg⟩
  ·by_cases hb : b ∈ tabs.map (·.2)
   ·obtain ⟨ht, rfl, ps, hP⟩ := grown b o hb e
    exact .inr (.inl ⟨ht, rfl, #[], ps, rfl, by rw [Array.empty_append]; exact hP⟩)
   ·exact .inl (hk b o (ghost_ne e hb))
  ·by_cases hb : b ∈ tabs.map (·.2)
   ·obtain ⟨_, _, ps, hP⟩ := grown b o hb e
    exact ⟨_, hP⟩
   ·exact ⟨o, hk b o (ghost_ne e hb)⟩
theorem post_true (ns : List Int) : PySem.Challenge.rw_yj0030_01.row.claim.post [ofPy (PyData.list (List.map PyData.int ns))] (WData.bool true) [ofPy (PyData.list (List.map PyData.int ns))] = true := by
 first
  | kernel_rfl
  | exact postW_of (by wrow_shape) (by wtm_val) (by str_meet; first | done | w_fin)
theorem top_wider {loose loose' : List Str} {mean : ExcName → Option Value} {mg mb : Str → Option Value} {h : Heap} (hs : (loose.all fun x => loose'.contains x) = true) (T : Top topProg loose mean mg mb h) : Top topProg loose' mean mg mb h :=
  { g := T.g, b := T.b, nolimit := T.nolimit, nodigits := T.nodigits
    fn := fun d hd => absurd (show d ∈ ([] : List DefRec) from hd) List.not_mem_nil
    own := fun o ho => absurd (show o ∈ ([] : List OwnSpec) from ho) List.not_mem_nil
    const := fun x d e => by cases (show (none : Option PyData) = some d from e)
    free := fun x h1 h2 h3 h4 h5 => T.free x h1 (fun q => h2 (by simpa using List.all_eq_true.mp hs x q)) h3 h4 h5
    builtins := T.builtins
    tab := fun d hd => absurd (show d ∈ ([] : List DefRec) from hd) List.not_mem_nil
    bmain := T.bmain
    seer := fun e => absurd (show false = true from e) Bool.false_ne_true }
theorem loose_in : ((looseW view1
            [Str.ofString "_twin_re_1", Str.ofString "_Accumulator", Str.ofString "tspecials",
              Str.ofString "_name_disallowed_re", Str.ofString "_value_disallowed_re", Str.ofString "_formatparam"] ++
          List.map (fun x => x.name) (recsOf view1) ++
        List.map (fun x => x.1) (litsOf view1) ++
      List.map (fun x => x.name)
        (clssOf view1
          (looseW view1
            [Str.ofString "_twin_re_1", Str.ofString "_Accumulator", Str.ofString "tspecials",
              Str.ofString "_name_disallowed_re", Str.ofString "_value_disallowed_re", Str.ofString "_formatparam"]))).all fun x => lv.contains x) = true := by kernel_rfl
section
open LCg LCt
set_option maxHeartbeats 0
def rt : Part1 (aP.a.b.a.d.d.d.C.C.b.c.g.g.g.g.a.A.c.X.h.c.e.e.m.m.j) (PySem.Challenge.rw_yj0030_01.Holds) := by
 apply Part1.mk
 case h =>
  intro hS1
  k_with_none
  k_with "ne" => (refine neN ?_; (try dsimp only); first | with_reducible (first | assumption | (refine Ne.symm ?_; assumption) | exact ne_1 | exact ne_1.symm | exact ne_2 | exact ne_2.symm | exact ne_3 | exact ne_3.symm | exact ne_4 | exact ne_4.symm) | exact (by with_reducible assumption : Apt _ _) | exact Ne.symm (by with_reducible assumption : Apt _ _) | omega)
  k_with "d2" => (repeat' (first | with_reducible (first | exact m_id | exact m_nil | exact m_lid | exact m_mapl | exact m_mapl2 | refine m_cons ?_ ?_ | refine m_app ?_ ?_ | refine m_map ?_ ?_ | refine m_map1 ?_ | exact m_hd | refine m_tl ?_ | exact m_mapr rfl | refine m_tail ?_ | refine m_right ?_ | refine m_inr ?_) | exact m_hd | refine m_tl ?_))
  k_with "d3" => (first | assumption | omega | ktr_room | ktr_units | (simp only [] at *; omega))
  k_with "call ref" => (k_here; (with_reducible show wpAny _ _ (call (Value.ref 380) _) _ _ _); (refine Halt.out ?_))
  k_with "call ref" => (k_here; (with_reducible show wpAny _ _ (call (Value.ref 387) _) _ _ _); (refine Halt.out ?_))
  k_with "call ref" => (k_here; (with_reducible show wpAny _ _ (call (Value.ref 394) _) _ _ _); (refine Halt.out ?_))
  k_with "call ref" => (k_here; (with_reducible show wpAny _ _ (call (Value.ref 401) _) _ _ _); (refine Halt.out ?_))
  k_with "call ref" => (k_here; (with_reducible show wpAny _ _ (call (Value.ref 408) _) _ _ _); (refine Halt.out ?_))
  k_with "call ref" => (k_here; (with_reducible show wpAny _ _ (call (Value.ref 413) _) _ _ _); (refine Halt.out ?_))
  k_with "call ref" => (k_here; (with_reducible show wpAny _ _ (call (Value.ref 211) _) _ _ _); (refine Halt.out ?_))
  k_with "exec Assign cons ListComp" => (k_here; (refine Halt.out ?_))
  k_with "eval ListComp" => (k_here; (refine Halt.out ?_))
  k_with "exec While" => (k_here; (refine Halt.out ?_))
  k_with "exec While Compare" => (k_here; (refine Halt.out ?_))
  k_with "exec For Name Call cons nil" => (k_here; (refine Halt.out ?_))
  k_with "CompSrc" => ((refine Halt.out ?_))
  w_on
  refine holds_law said1 fun said => ?_
  refine holds_open (q := view1) (loose := loose1) (Xt := fun s => xlAt view1 [] s && recOk (RowW.records (OpenRow.toRowW PySem.Challenge.rw_yj0030_01.row)) s) (XP := XL view1 []) (Yf := Hook.obs H1) (Ya := Hook.val H1) (YP := Hook.says H1) (N := 5030) hl (Hook.of H1) (Hook.keeps H1) (fun s e => xl_of s (Bool.and_eq_true_iff.mp e).1) XL.keeps (by rfl) (by rfl) (by rfl) (fun s e => recFacts_of (Bool.and_eq_true_iff.mp e).2) (by rfl) (by first | assumption | decide +kernel) (by decide +kernel) ⟨rfl, rfl, rfl, rfl, rfl, by decide +kernel⟩ ?hw ?hc
  case hw => w_witness2
  clear said
  delta H1 loose1
  k_fill
  intro w s₀ s₁ mg mb G Y fa o pm cd doc dV kV ho hdd hcd hD hmg hg args vals as hpre hlay hrd hwl hlo
  have KX := km_in_of Y
  have hT8 := km_tabs_of Y
  have X := (Ground.X G).1
  have V := (Ground.X G).2
  refine Ground.open G ?_
  intro T B D TE TW
  try (refine guard_noD D (by decide +kernel) ?_; clear D)
  have hT9 : TabsAt ([(166, 162), (173, 169)] : List (Addr × Addr)) _ := List.forall_mem_cons.mpr ⟨⟨codeHd_of_K (c := 166) (P := 162) KX (by kernel_rfl), hT8 162 (by k_mem)⟩, List.forall_mem_cons.mpr ⟨⟨codeHd_of_K (c := 173) (P := 169) KX (by kernel_rfl), hT8 169 (by k_mem)⟩, fun _ h => nomatch h⟩⟩
  clear hmg
  wrow_args hpre hlay hrd hwl hlo
  all_goals (
   first | refine callC_kw (enter_call ?_) | refine enter_call ?_
   w_top on
   (refine my_post hT9 (fun _ _ => rfl) (post_true _) ?_)
   w_call any ho hdd hcd hD T F
   clear hdd
   kn_ghosts F T
   k_drop
   skip)
  all_goals (try k_fold)
  rename_i h1 tk1 oG oC oS oW dG dC dS dW Y0 X0 T0 B0 F0 CH1 N0 l1
  rename_i ns _ _ _ _ _ _ _ ls vs _ _ _ _ _ hI _ hc63 _
  have T9 : Top pv lv (ExcName.means s₀.heap) mg mb (ghostOf s₁.heap [(166, 162), (173, 169)]) := top_wider loose_in T0
  have dG' : oG.data = .cell none := dG
  have dC' : oC.data = .cell none := dC
  have dS' : oS.data = .cell none := dS
  have dW' : oW.data = .cell none := dW
  have hlen : ns.length ≤ 63 := by omega
  have hap9 : ∀ p ∈ ([(162, tabObj #[]), (169, tabObj #[])] : List (Addr × Obj)), p.1 < s₁.heap.objs.size := fun p hp => by
   refine m_el hp ?_; refine m_all ?_ (m_all ?_ m_nil)
   ·exact l1.1
   ·exact l1.2
  have F00 := Fr.same F0 (m' := (fun z => if z = Str.ofString "script" then some (Value.ref ls) else none)) (fun z => rfl)
  clear F0 Y0
  clear dG dC dS dW T0 hc63 TW TE T B V X hT8 Y G hD hcd ho
  k_steps
  unfold Halt
  rename_i lc h2 F2 N2 lc1
  have X' := X0
  have T' := T9
  have lc2 : ∀ p ∈ ([(s₁.heap.objs.size + 1 + 1 + 1 + 1, oG), (s₁.heap.objs.size + 1 + 1 + 1, oC), (s₁.heap.objs.size + 1 + 1, oS), (s₁.heap.objs.size + 1, oW), (162, tabObj #[]), (169, tabObj #[])] : List (Addr × Obj)), p.1 ≠ lc := fun p hp => by
   obtain ⟨q1, q2, q3, q4, q5, q6⟩ := lc1
   refine m_el hp ?_; refine m_all ?_ (m_all ?_ (m_all ?_ (m_all ?_ (m_all ?_ (m_all ?_ m_nil)))))
   ·exact Nat.ne_of_lt q1
   ·exact Nat.ne_of_lt q2
   ·exact Nat.ne_of_lt q3
   ·exact Nat.ne_of_lt q4
   ·exact Nat.ne_of_lt q5
   ·exact Nat.ne_of_lt q6
  refine' c_cells hI hlen lc2 (gd := _) (cn := _) (a := _) (ccd := _) (cl := _) (E := _) (B := ?kB) (F := F2) (X := X') (N := N2) (T := T') (hk := ?kk) (hdp := ?kd) (hu := ?ku) (hl := lifted) (hret := ?_)
  case kB => k_asm
  case kk => rfl
  case kd => walk_at "d3"
  case ku => walk_at "d3"
  intro a1 a2 a3 u1 u2 u3 n3 h3 tk3 F3 N3
  clear F2 N2
  rename_i zz15 _ _ _ _ _ _ _ _ _ _ _
  revert hg zz15 hI X0 B0 CH1 codeHd l1 T9 dG' dC' dS' dW' lc1 X' T' lc2 a3 F3 N3
  exact @hS1 w s₀ s₁ mg mb fa cd ns ls vs tk1 oG oC oS oW lc h2 a1 a2 u1 u2 u3 n3 h3 tk3
namespace K0
def Z0 := rt.z1
def w := hx0 Z0
def s₀ := hx1 Z0
def s₁ := hx2 Z0
def mg := hx3 Z0
def mb := hx4 Z0
def fa := hx5 Z0
def cd := hx6 Z0
def ns := hx7 Z0
def Z1 := ht Z0
def ls := hx0 Z1
def vs := hx1 Z1
def tk1 := hx2 Z1
def oG := hx3 Z1
def oC := hx4 Z1
def oS := hx5 Z1
def oW := hx6 Z1
def lc := hx7 Z1
def Z2 := ht Z1
def h2 := hx0 Z2
def a1 := hx1 Z2
def a2 := hx2 Z2
def u1 := hx3 Z2
def u2 := hx4 Z2
def u3 := hx5 Z2
def n3 := hx6 Z2
def h3 := hx7 Z2
def Z3 := ht Z2
def tk3 := hx0 Z3
def pt : Part1 (aP.d.a.g.b.c.D.Y.g.a.a.a) (rt.Q1 w s₀ s₁ mg mb fa cd ns ls vs tk1 oG oC oS oW lc h2 a1 a2 u1 u2 u3 n3 h3 tk3) := by
 apply Part1.mk
 case h =>
  intro hS1
  intro hg _ hI X0 B0 CH1 codeHd l1 T9 dG' dC' dS' dW' lc1 X' T' lc2 a3 F3 N3
  w_top off
  k_with_none
  k_with "ne" => (refine neN ?_; (try dsimp only); first | with_reducible (first | assumption | (refine Ne.symm ?_; assumption) | exact ne_1 | exact ne_1.symm | exact ne_2 | exact ne_2.symm | exact ne_3 | exact ne_3.symm | exact ne_4 | exact ne_4.symm) | exact (by with_reducible assumption : Apt _ _) | exact Ne.symm (by with_reducible assumption : Apt _ _) | omega)
  k_with "d2" => (repeat' (first | with_reducible (first | exact m_id | exact m_nil | exact m_lid | exact m_mapl | exact m_mapl2 | refine m_cons ?_ ?_ | refine m_app ?_ ?_ | refine m_map ?_ ?_ | refine m_map1 ?_ | exact m_hd | refine m_tl ?_ | exact m_mapr rfl | refine m_tail ?_ | refine m_right ?_ | refine m_inr ?_) | exact m_hd | refine m_tl ?_))
  k_with "d3" => (first | assumption | omega | ktr_room | ktr_units | (simp only [] at *; omega))
  k_with "call ref" => (k_here; (with_reducible show wpAny _ _ (call (Value.ref 380) _) _ _ _); (refine Halt.out ?_))
  k_with "call ref" => (k_here; (with_reducible show wpAny _ _ (call (Value.ref 387) _) _ _ _); (refine Halt.out ?_))
  k_with "call ref" => (k_here; (with_reducible show wpAny _ _ (call (Value.ref 394) _) _ _ _); (refine Halt.out ?_))
  k_with "call ref" => (k_here; (with_reducible show wpAny _ _ (call (Value.ref 401) _) _ _ _); (refine Halt.out ?_))
  k_with "call ref" => (k_here; (with_reducible show wpAny _ _ (call (Value.ref 408) _) _ _ _); (refine Halt.out ?_))
  k_with "call ref" => (k_here; (with_reducible show wpAny _ _ (call (Value.ref 413) _) _ _ _); (refine Halt.out ?_))
  k_with "call ref" => (k_here; (with_reducible show wpAny _ _ (call (Value.ref 211) _) _ _ _); (refine Halt.out ?_))
  k_with "eval ListComp" => (k_here; (refine Halt.out ?_))
  k_with "exec While" => (k_here; (refine Halt.out ?_))
  k_with "exec While Compare" => (k_here; (refine Halt.out ?_))
  k_with "exec For Name Call cons nil" => (k_here; (refine Halt.out ?_))
  k_with "CompSrc" => ((refine Halt.out ?_))
  k_with "call builtin:sorted" => (k_here; (refine Halt.out ?_))
  k_with "exec Assign" => (k_here; (with_reducible show wpAny _ _ (exec (Stmt.Assign [Expr.Name _ _] (Expr.Subscript (Expr.List _ _) _ _) _) _) _ _ _); (refine Halt.out ?_))
  obtain ⟨wd, hwd, ewd⟩ := wd_of a2
  obtain ⟨many, hmany, emany⟩ := many_of a2
  have hz50 : wd * many < 50 := by (first | exact wd_pos hwd | exact wd_127 hwd | exact many_1000 hmany | exact many_pos hmany | exact dims50 hwd hmany)
  k_steps
  unfold Halt
  rename_i oW2 dW2 h4 F4 N4
  rw [emany] at F4
  rw [ewd] at dW2
  have N5 : News (ghostOf s₁.heap [(166, 162), (173, 169)]) s₁.heap.objs.size h4 [(s₁.heap.objs.size + 1 + 1 + 1 + 1, oG), (s₁.heap.objs.size + 1 + 1 + 1, oC), (s₁.heap.objs.size + 1 + 1, oS), (s₁.heap.objs.size + 1, oW2), (162, tabObj #[]), (169, tabObj #[])] := fun p hp => N4 p (.tail _ (.tail _ hp))
  clear N4
  refine LCg.ListComp_U (F₀ := F4) (by with_unfolding_all rfl) (by decide) (by rfl) (by decide) (by rfl) ?_
  k_steps
  unfold Halt
  rw [show (wd : Int) * (many : Int) = ((wd * many : Nat) : Int) from (Int.natCast_mul ..).symm]
  refine' c_digits hz50 (gd := _) (cn := _) (a := _) (ccd := _) (cl := _) (E := _) (B := ?kB) (F := F4) (X := X') (N := N5) (T := T') (hk := ?kk) (hdp := ?kd) (hu := ?ku)  (hret := ?_)
  case kB => k_asm
  case kk => rfl
  case kd => walk_at "d3"
  case ku => walk_at "d3"
  intro Dd ds h5 tk5 eds hd10 lDd F6 N6
  clear N5
  k_steps
  unfold Halt
  refine CompSrc.ledger rfl F6 N6 (.head _) (by simp [sizeLine, eds]; omega) fun g => ?_
  refine comp_U (fun i ys led' => ∃ rs : Row, ys = lts rs ∧ rs.length = i ∧ Lets rs ∧ led' = (Dd, listOf (natVals ds).toArray (wd * many)) :: (s₁.heap.objs.size + 1 + 1 + 1 + 1, oG) :: (s₁.heap.objs.size + 1 + 1 + 1, oC) :: (s₁.heap.objs.size + 1 + 1, oS) :: (s₁.heap.objs.size + 1, oW2) :: (162, tabObj #[]) :: (169, tabObj #[]) :: []) ⟨[], rfl, rfl, fun p hp => (List.not_mem_nil hp).elim, rfl⟩ ?_ ?_
  ·rintro i v ys led' I oI Cc oCc D m₂ h tk E' hi hv ⟨rs, rfl, hrs, hLs, rfl⟩ hC hx2 F13 N13 off ne
   obtain ⟨d, td, rfl, hd9⟩ : ∃ (d : Nat) (td : Tok), v = .int (d : Int) td ∧ d < 10 := by
    rw [List.getElem?_toArray] at hv
    simp only [natVals, List.getElem?_map, Option.map_eq_some_iff] at hv
    obtain ⟨p, hp, rfl⟩ := hv
    exact ⟨p.1, p.2, rfl, hd10 p (List.mem_of_getElem? hp)⟩
   have h0 : (0 : Int) ≤ (d : Int) := Int.natCast_nonneg d
   have h9 : (d : Int) < 10 := by omega
   obtain ⟨x, ix1, ix2, ix3⟩ := item_sign hd9
   k_steps
   rw [ix1]
   unfold CompEnd
   refine ⟨h, _, (Dd, listOf (natVals ds).toArray (wd * many)) :: (s₁.heap.objs.size + 1 + 1 + 1 + 1, oG) :: (s₁.heap.objs.size + 1 + 1 + 1, oC) :: (s₁.heap.objs.size + 1 + 1, oS) :: (s₁.heap.objs.size + 1, oW2) :: (162, tabObj #[]) :: (169, tabObj #[]) :: [], rfl, F13, N13, off, .inr ⟨_, .head _, rfl, _, rfl⟩, rs ++ [(x, _)], by simp only [lts, List.map_append, List.map_cons, List.map_nil]; rfl, by simp [hrs], ?_, rfl⟩
   intro p hp
   rcases List.mem_append.mp hp with hp | hp
   ·exact hLs p hp
   ·rw [List.mem_singleton] at hp
    subst hp
    exact ⟨ix2, ix3⟩
  ·rintro ys led' ⟨ps, rfl, hps, hLs, rfl⟩
   unfold FinE
   intro D h6 tk6 F7 N7 off
   rw [show (natVals ds).toArray.size = wd * many by simp [eds]] at hps
   have N8 : News (ghostOf s₁.heap [(166, 162), (173, 169)]) s₁.heap.objs.size h6 ((D, listOf (lts ps).toArray (lts ps).length) :: (s₁.heap.objs.size + 1 + 1 + 1 + 1, oG) :: (s₁.heap.objs.size + 1 + 1 + 1, oC) :: (s₁.heap.objs.size + 1 + 1, oS) :: (s₁.heap.objs.size + 1, oW2) :: (162, tabObj #[]) :: (169, tabObj #[]) :: []) := fun p hp => N7 p (by
    refine m_el hp (m_all ?_ ?_)
    ·exact .head _
    ·intro p hp; exact .tail _ (.tail _ hp))
   have q1 : Apt (s₁.heap.objs.size + 1 + 1 + 1 + 1) D := off1_mem off (_, oG) (.tail _ (.head _))
   have q2 : Apt (s₁.heap.objs.size + 1 + 1 + 1) D := off1_mem off (_, oC) (.tail _ (.tail _ (.head _)))
   have q3 : Apt (s₁.heap.objs.size + 1 + 1) D := off1_mem off (_, oS) (.tail _ (.tail _ (.tail _ (.head _))))
   have q4 : Apt (s₁.heap.objs.size + 1) D := off1_mem off (_, oW2) (.tail _ (.tail _ (.tail _ (.tail _ (.head _)))))
   have q5 : Apt 162 D := off1_mem off (162, tabObj #[]) (.tail _ (.tail _ (.tail _ (.tail _ (.tail _ (.head _))))))
   have q6 : Apt 169 D := off1_mem off (169, tabObj #[]) (.tail _ (.tail _ (.tail _ (.tail _ (.tail _ (.tail _ (.head _)))))))
   clear N7 F6 N6 F4 lc1 lc2 off
   k_steps
   unfold Halt
   rename_i h7 oS2 F8 N9 dS2
   generalize hmt : (_ : Tok) + 1 + 1 + 1 + 1 + 1 + 1 + 1 + 1 + 1 = tmn at F8
   have F9 := Fr.same F8 (m' := (fun z => if z = Str.ofString "many" then some (Value.int (many : Int) tmn) else if z = Str.ofString "third" then some (Value.int a3 u3) else if z = Str.ofString "second" then some (Value.int a2 u2) else if z = Str.ofString "first" then some (Value.int a1 u1) else if z = Str.ofString "script" then some (Value.ref ls) else none)) (fun z => rfl)
   clear F8 hmt dW' dS' T9 lDd
   rename_i zz4 _ _ _ _ zz38 _ _ _ _ _ _
   revert hg zz4 hI X0 B0 CH1 codeHd l1 dG' dC' X' T' a3 hwd hmany emany hz50 dW2 eds hps hLs q1 q2 q3 q4 q5 q6 N9 dS2 F9
   exact @hS1 wd many zz38 oW2 ds ps D h7 oS2 tk tmn
end K0
namespace K0.K2
def Z0 := K0.pt.z1
def wd := hx0 Z0
def many := hx1 Z0
def zz38 := hx2 Z0
def oW2 := hx3 Z0
def ds := hx4 Z0
def ps := hx5 Z0
def D := hx6 Z0
def h7 := hx7 Z0
def Z1 := ht Z0
def oS2 := hx0 Z1
def tk := hx1 Z1
def tmn := hx2 Z1
def pt : Part1 (aP.a.b.a.D.c) (K0.pt.Q1 wd many zz38 oW2 ds ps D h7 oS2 tk tmn) := by
 apply Part1.mk
 case h =>
  intro hS1
  intro hg _ hI X0 B0 CH1 codeHd l1 dG' dC' X' T' a3 hwd hmany emany hz50 dW2 eds hps hLs q1 q2 q3 q4 q5 q6 N9 dS2 F9
  w_top off
  refine sorted_lts F9 N9 (N9.isList (.head _)) (by omega) fun Du h8 qd ed lDu F10 N10 hperm hsort => ?_
  k_steps
  unfold Halt
  rename_i h9 F11 N11
  rename_i zz4
  revert hg zz4 hI X0 B0 CH1 codeHd l1 dG' dC' X' T' a3 hwd hmany emany hz50 dW2 hps hLs q1 q2 q3 q4 q5 q6 dS2 lDu hperm hsort F11 N11
  exact @hS1 Du qd ed h9 tk
end K0.K2
namespace K0.K2.K4
def Z0 := K2.pt.z1
def Du := hx0 Z0
def qd := hx1 Z0
def ed := hx2 Z0
def h9 := hx3 Z0
def tk := hx4 Z0
def pt : Part1 (aP.b.c.a.a.A.d.C.L.c.C) (K2.pt.Q1 Du qd ed h9 tk) := by
 apply Part1.mk
 case h =>
  intro hS1
  intro hg _ hI X0 B0 CH1 codeHd l1 dG' dC' X' T' a3 hwd hmany emany hz50 dW2 hps hLs q1 q2 q3 q4 q5 q6 dS2 lDu hperm hsort F11 N11
  w_top off
  have F12 := Fr.same F11 (m' := (fun z => if z = Str.ofString "due" then some (Value.ref Du) else if z = Str.ofString "many" then some (Value.int (many : Int) tmn) else if z = Str.ofString "third" then some (Value.int a3 u3) else if z = Str.ofString "second" then some (Value.int a2 u2) else if z = Str.ofString "first" then some (Value.int a1 u1) else if z = Str.ofString "script" then some (Value.ref ls) else none)) (fun z => rfl)
  clear F11
  refine wpAny_Assign_Name ?_
  refine via (fun Q' => ∀ (R : Addr) (pre : List (Int × Tok)) (z : Int) (tz : Tok) (rest : List Value) (nr : Nat) (h' : Heap) (tk' : Nat), (∀ p ∈ pre, p.1 = (wd : Int)) → (z = 0 ∨ z = 127) → pre ≠ [] → (z = 0 ∨ wd * many ≤ wd * pre.length) → (∀ p ∈ (Du, listOf (lts qd).toArray ed) :: (D, listOf (lts ps).toArray (lts ps).length) :: (s₁.heap.objs.size + 1 + 1 + 1 + 1, oG) :: (s₁.heap.objs.size + 1 + 1 + 1, oC) :: (s₁.heap.objs.size + 1 + 1, oS2) :: (s₁.heap.objs.size + 1, oW2) :: (162, tabObj #[]) :: (169, tabObj #[]) :: [], p.1 < R) →
   Fr (ghostOf s₁.heap [(166, 162), (173, 169)]) s₁.heap.objs.size h' (fun z => if z = Str.ofString "due" then some (Value.ref Du) else if z = Str.ofString "many" then some (Value.int (many : Int) tmn) else if z = Str.ofString "third" then some (Value.int a3 u3) else if z = Str.ofString "second" then some (Value.int a2 u2) else if z = Str.ofString "first" then some (Value.int a1 u1) else if z = Str.ofString "script" then some (Value.ref ls) else none) → News (ghostOf s₁.heap [(166, 162), (173, 169)]) s₁.heap.objs.size h' ((R, listOf (intVs pre ++ .int z tz :: rest).toArray nr) :: (Du, listOf (lts qd).toArray ed) :: (D, listOf (lts ps).toArray (lts ps).length) :: (s₁.heap.objs.size + 1 + 1 + 1 + 1, oG) :: (s₁.heap.objs.size + 1 + 1 + 1, oC) :: (s₁.heap.objs.size + 1 + 1, oS2) :: (s₁.heap.objs.size + 1, oW2) :: (162, tabObj #[]) :: (169, tabObj #[]) :: []) → Q' (.ref R) ⟨h', s₁.gens, s₁.drawn, tk', s₁.os⟩) (fun Q' hQ => ?_) ?_
  ·have h3 : a3.fmod 3 = 0 ∨ a3.fmod 3 = 1 ∨ a3.fmod 3 = 2 := by
    have e1 := fmod_lo a3 (n := 3) (by decide)
    have e2 := fmod_hi a3 (n := 3) (by decide)
    omega
   k_steps
   ·(with_reducible rename Fr _ _ _ _ => F0)
    (with_reducible rename News _ _ _ _ => N0)
    obtain ⟨ta, tb, tc, nr, hm⟩ := pick3 N0 (.tail _ (.tail _ (.tail _ (.tail _ (.tail _ (.tail _ (.head _)))))))
    refine hQ _ [((wd : Int), ta)] 0 tb [.int 1 tc] nr _ _ (fun p hp => by rw [List.mem_singleton.mp hp]) (.inl rfl) (by simp) (.inl rfl) ?fr F0 ?nw
    case nw =>
     intro p hp
     refine m_el hp (m_all ?_ ?_)
     ·exact N0 _ hm
     ·intro p hp; refine N0 p ?_
      refine m_use ?_ p hp; walk_at "d2"
    case fr =>
     intro p hp
     refine m_el hp ?_; refine m_all ?_ (m_all ?_ (m_all ?_ (m_all ?_ (m_all ?_ (m_all ?_ (m_all ?_ (m_all ?_ m_nil))))))) <;> (show @LT.lt Nat _ _ _; omega)
   ·(with_reducible rename Fr _ _ _ _ => F0)
    (with_reducible rename News _ _ _ _ => N0)
    (with_reducible rename IntsAre _ _ => I0)
    obtain ⟨pre, t1, t2, rfl, hpl, hpw⟩ := ruler_mid I0
    refine hQ _ pre 127 t1 [.int 1 t2] 0 _ _ hpw (.inr rfl) (fun h => by rw [h] at hpl; simp at hpl; omega) (.inr (by rw [hpl]; exact Nat.le_refl _)) ?fr F0 ?nw
    case nw =>
     intro p hp
     refine m_el hp (m_all ?_ ?_)
     ·exact N0 _ (.tail _ (.tail _ (.head _)))
     ·intro p hp; refine N0 p ?_
      refine m_use ?_ p hp; walk_at "d2"
    case fr =>
     intro p hp
     refine m_el hp ?_; refine m_all ?_ (m_all ?_ (m_all ?_ (m_all ?_ (m_all ?_ (m_all ?_ (m_all ?_ (m_all ?_ m_nil))))))) <;> (show @LT.lt Nat _ _ _; omega)
   ·(with_reducible rename Fr _ _ _ _ => F0)
    (with_reducible rename News _ _ _ _ => N0)
    obtain ⟨ta, tb, tc, nr, hm⟩ := pick3 N0 (.tail _ (.head _))
    refine hQ _ [((wd : Int), ta), ((wd : Int), tb)] 0 tc [] nr _ _ (fun p hp => by simp only [List.mem_cons, List.not_mem_nil, or_false] at hp; rcases hp with rfl | rfl <;> rfl) (.inl rfl) (by simp) (.inl rfl) ?fr F0 ?nw
    case nw =>
     intro p hp
     refine m_el hp (m_all ?_ ?_)
     ·exact N0 _ hm
     ·intro p hp; refine N0 p ?_
      refine m_use ?_ p hp; walk_at "d2"
    case fr =>
     intro p hp
     refine m_el hp ?_; refine m_all ?_ (m_all ?_ (m_all ?_ (m_all ?_ (m_all ?_ (m_all ?_ (m_all ?_ (m_all ?_ m_nil))))))) <;> (show @LT.lt Nat _ _ _; omega)
  ·intro R pre z tz rest nr h10 tk10 hw hzz hne hen lR F13 N13
   clear F12 N11
   k_steps
   unfold Halt
   rename_i lq h11 F14 N14 lq1
   rename_i zz4 _
   revert hg zz4 hI X0 B0 CH1 codeHd l1 dG' dC' X' T' hwd hmany emany hz50 dW2 hps hLs q1 q2 q3 q4 q5 q6 dS2 lDu hperm hsort hw hzz hne hen lR F14 N14
   exact @hS1 a3 R pre z tz rest nr tk10 lq h11
end K0.K2.K4
namespace K0.K2.K4.K6
def Z0 := K4.pt.z1
def a3 := hx0 Z0
def R := hx1 Z0
def pre := hx2 Z0
def z := hx3 Z0
def tz := hx4 Z0
def rest := hx5 Z0
def nr := hx6 Z0
def tk10 := hx7 Z0
def Z1 := ht Z0
def lq := hx0 Z1
def h11 := hx1 Z1
def pt : Part1 (aP.b.a.c.p.a.a.c.a.d.d.d.d.c.c.a.a.c.a.d.d.d.d) (K4.pt.Q1 a3 R pre z tz rest nr tk10 lq h11) := by
 apply Part1.mk
 case h =>
  intro hS1
  intro hg _ hI X0 B0 CH1 codeHd l1 dG' dC' X' T' hwd hmany emany hz50 dW2 hps hLs q1 q2 q3 q4 q5 q6 dS2 lDu hperm hsort hw hzz hne hen lR F14 N14
  w_top off
  have hg0 : AllBare s₁.gens := .of_eq hg
  obtain ⟨ta, tb, tc, td, nn, hm4⟩ := pick4 N14 (.head _)
  have hwm : ∀ p ∈ [((wd : Int), ta), ((many : Int), tb)], p.1 ≠ 0 ∧ p.1 ≠ 127 := fun p hp => by
   exact m_el hp (m_all (ints_ok hwd hmany).1 (m_all (ints_ok hwd hmany).2.1 m_nil))
  refine' c_sizes (rest := [.int 1 td]) hm4 hwm (.inr rfl) (by simp) (by simp) (gd := _) (cn := _) (a := _) (ccd := _) (cl := _) (E := _) (B := ?kB) (F := F14) (X := X') (N := N14) (T := T') (hk := ?kk) (hdp := ?kd) (hu := ?ku) (hg := hg0) (hret := ?_)
  case kB => k_asm
  case kk => rfl
  case kd => walk_at "d3"
  case ku => walk_at "d3"
  intro r7 n7 h12 tk12 g7 hb7 F15 N15 lr7
  rw [show giTake [((wd : Int), ta), ((many : Int), tb)] (if (127 : Int) = 0 then 4 else ([((wd : Int), ta), ((many : Int), tb)] : List (Int × Tok)).length) = [.int (wd : Int) ta, .int (many : Int) tb] from rfl] at N15
  clear F14 N14
  k_steps
  unfold Halt
  rename_i lm _ lm1 lq2 h13 F16 N16 lq3
  obtain ⟨tA, tB, tC, tD, nN, hm5⟩ := pick4 N16 (.head _)
  have hwm2 : ∀ p ∈ [((wd : Int), tA), ((many : Int) + 2, tB)], p.1 ≠ 0 ∧ p.1 ≠ 127 := fun p hp => by
   exact m_el hp (m_all (ints_ok hwd hmany).1 (m_all (ints_ok hwd hmany).2.2 m_nil))
  refine' c_sizes (rest := [.int 1 tD]) hm5 hwm2 (.inl rfl) (by simp) (by simp) (gd := _) (cn := _) (a := _) (ccd := _) (cl := _) (E := _) (B := ?kB) (F := F16) (X := X') (N := N16) (T := T') (hk := ?kk) (hdp := ?kd) (hu := ?ku) (hg := hb7) (hret := ?_)
  case kB => k_asm
  case kk => rfl
  case kd => walk_at "d3"
  case ku => walk_at "d3"
  intro r8 n8 h14 tk14 g8 hb8 F17 N17 lr8
  rw [show giTake [((wd : Int), tA), ((many : Int) + 2, tB)] (if (0 : Int) = 0 then 4 else ([((wd : Int), tA), ((many : Int) + 2, tB)] : List (Int × Tok)).length) = [.int (wd : Int) tA, .int ((many : Int) + 2) tB, .int ((many : Int) + 2) tB, .int ((many : Int) + 2) tB] from rfl] at N17
  clear F16 N16
  k_steps
  unfold Halt
  rename_i h15 F18 N18
  rename_i zz4 _ zz88 _ _
  revert hg zz4 hI X0 B0 CH1 codeHd l1 dG' dC' X' T' hwd hmany emany hz50 dW2 hps hLs q1 q2 q3 q4 q5 q6 dS2 lDu hperm hsort hw hzz hne hen lR hm4 hwm lr7 hm5 hwm2 hb8 lr8 F18 N18
  exact @hS1 ta tb tc td nn r7 n7 tk12 lm lq2 tA tB tC tD nN r8 n8 tk14 g8 zz88 tk h15
end K0.K2.K4.K6
namespace K0.K2.K4.K6.K8
def Z0 := K6.pt.z1
def ta := hx0 Z0
def tb := hx1 Z0
def tc := hx2 Z0
def td := hx3 Z0
def nn := hx4 Z0
def r7 := hx5 Z0
def n7 := hx6 Z0
def tk12 := hx7 Z0
def Z1 := ht Z0
def lm := hx0 Z1
def lq2 := hx1 Z1
def tA := hx2 Z1
def tB := hx3 Z1
def tC := hx4 Z1
def tD := hx5 Z1
def nN := hx6 Z1
def r8 := hx7 Z1
def Z2 := ht Z1
def n8 := hx0 Z2
def tk14 := hx1 Z2
def g8 := hx2 Z2
def zz88 := hx3 Z2
def tk := hx4 Z2
def h15 := hx5 Z2
def pt : Part2 (aP.b.a.y.y.o.o.g.g.g.a.c.D.o.d.p.b.a.d) (aP.a.y.y.g.g.g.a.c.D.o.d.p.b.a.d) (K6.pt.Q1 ta tb tc td nn r7 n7 tk12 lm lq2 tA tB tC tD nN r8 n8 tk14 g8 zz88 tk h15) := by
  apply Part2.mk
  case h =>
    intro hS1 hS2
    intro hg _ hI X0 B0 CH1 codeHd l1 dG' dC' X' T' hwd hmany emany hz50 dW2 hps hLs q1 q2 q3 q4 q5 q6 dS2 lDu hperm hsort hw hzz hne hen lR hm4 hwm lr7 hm5 hwm2 hb8 lr8 F18 N18
    w_top off
    obtain ⟨twd, dW3⟩ : ∃ t, oW2.data = .cell (some (.int (wd : Int) t)) := ⟨_, dW2⟩
    have F19 := Fr.same F18 (m' := (fun z => if z = Str.ofString "left" then some (Value.int (many : Int) tmn) else if z = Str.ofString "lines" then none else if z = Str.ofString "ruler" then some (Value.ref R) else if z = Str.ofString "due" then some (Value.ref Du) else if z = Str.ofString "many" then some (Value.int (many : Int) tmn) else if z = Str.ofString "third" then some (Value.int a3 u3) else if z = Str.ofString "second" then some (Value.int a2 u2) else if z = Str.ofString "first" then some (Value.int a1 u1) else if z = Str.ofString "script" then some (Value.ref ls) else none)) (by
      intro z
      revert z; refine frk (ks := [Str.ofString "left", Str.ofString "ruler", Str.ofString "due", Str.ofString "many", Str.ofString "third", Str.ofString "second", Str.ofString "first", Str.ofString "script", Str.ofString "lines"]) ?_ ?_ ?_; (focus (repeat (first | with_reducible exact supp_none | with_reducible refine supp_ite (by kernel_rfl) ?_ | with_reducible exact supp_look (by kernel_rfl)))); (focus (repeat (first | with_reducible exact supp_none | with_reducible refine supp_ite (by kernel_rfl) ?_ | with_reducible exact supp_look (by kernel_rfl)))); kernel_rfl)
    have N19 : News (ghostOf s₁.heap [(166, 162), (173, 169)]) s₁.heap.objs.size h15 ((D, listOf (lts ps).toArray (lts ps).length) :: (R, listOf (intVs pre ++ .int z tz :: rest).toArray nr) :: (Du, listOf (lts qd).toArray ed) :: (s₁.heap.objs.size + 1 + 1 + 1 + 1, oG) :: (s₁.heap.objs.size + 1 + 1 + 1, oC) :: (s₁.heap.objs.size + 1 + 1, oS2) :: (s₁.heap.objs.size + 1, oW2) :: (162, tabObj #[]) :: (169, tabObj #[]) :: []) := fun p hp => N18 p (by
      refine m_use ?_ p hp; walk_at "d2")
    have hDu : Apt (s₁.heap.objs.size + 1 + 1 + 1 + 1) Du ∧ Apt (s₁.heap.objs.size + 1 + 1 + 1) Du ∧ Apt (s₁.heap.objs.size + 1 + 1) Du ∧ Apt (s₁.heap.objs.size + 1) Du ∧ Apt 162 Du ∧ Apt 169 Du := ⟨Nat.ne_of_lt (lDu (_, oG) (by walk_at "d2")), Nat.ne_of_lt (lDu (_, oC) (by walk_at "d2")), Nat.ne_of_lt (lDu (_, oS2) (by walk_at "d2")), Nat.ne_of_lt (lDu (_, oW2) (by walk_at "d2")), Nat.ne_of_lt (lDu (162, tabObj #[]) (by walk_at "d2")), Nat.ne_of_lt (lDu (169, tabObj #[]) (by walk_at "d2"))⟩
    have hR : Apt (s₁.heap.objs.size + 1 + 1 + 1 + 1) R ∧ Apt (s₁.heap.objs.size + 1 + 1 + 1) R ∧ Apt (s₁.heap.objs.size + 1 + 1) R ∧ Apt (s₁.heap.objs.size + 1) R ∧ Apt 162 R ∧ Apt 169 R := ⟨Nat.ne_of_lt (lR (_, oG) (by walk_at "d2")), Nat.ne_of_lt (lR (_, oC) (by walk_at "d2")), Nat.ne_of_lt (lR (_, oS2) (by walk_at "d2")), Nat.ne_of_lt (lR (_, oW2) (by walk_at "d2")), Nat.ne_of_lt (lR (162, tabObj #[]) (by walk_at "d2")), Nat.ne_of_lt (lR (169, tabObj #[]) (by walk_at "d2"))⟩
    clear F18 N18 dW2 lDu lR hm4 hm5 hwm hwm2 lr7 lr8
    refine while_by (d := s₁.drawn) (os := s₁.os) (k := many) AllBare (fun k m led' => ∃ (left : Nat) (tl : Tok) (ul : Option Value) (xs : Row) (dx : Addr) (nx : Nat) (bG bC bS : Obj) (vG vC : Option Value) (p1 p2 : Array Value),
      k = left ∧ 1 ≤ left ∧ (left = many ∨ Inv wd many left (xs.map (·.1))) ∧ (xs.map (·.1)).Perm (ps.map (·.1)) ∧ Lets xs ∧ OneTab ⟨101, 19, 101, 63⟩ p1 ∧ OneTab ⟨104, 32, 104, 85⟩ p2 ∧
      bG.data = .cell vG ∧ bC.data = .cell vC ∧ bS.data = .cell (some (.ref dx)) ∧ (Apt (s₁.heap.objs.size + 1 + 1 + 1 + 1) dx ∧ Apt (s₁.heap.objs.size + 1 + 1 + 1) dx ∧ Apt (s₁.heap.objs.size + 1 + 1) dx ∧ Apt (s₁.heap.objs.size + 1) dx ∧ Apt 162 dx ∧ Apt 169 dx) ∧
      led' = (dx, listOf (lts xs).toArray nx) :: (R, listOf (intVs pre ++ .int z tz :: rest).toArray nr) :: (Du, listOf (lts qd).toArray ed) :: (s₁.heap.objs.size + 1 + 1 + 1 + 1, bG) :: (s₁.heap.objs.size + 1 + 1 + 1, bC) :: (s₁.heap.objs.size + 1 + 1, bS) :: (s₁.heap.objs.size + 1, oW2) :: (162, tabObj p1) :: (169, tabObj p2) :: [] ∧ m = (fun z => if z = Str.ofString "left" then some (Value.int (left : Int) tl) else if z = Str.ofString "lines" then ul else if z = Str.ofString "ruler" then some (Value.ref R) else if z = Str.ofString "due" then some (Value.ref Du) else if z = Str.ofString "many" then some (Value.int (many : Int) tmn) else if z = Str.ofString "third" then some (Value.int a3 u3) else if z = Str.ofString "second" then some (Value.int a2 u2) else if z = Str.ofString "first" then some (Value.int a1 u1) else if z = Str.ofString "script" then some (Value.ref ls) else none))
      (by passes_own) F19 N19 hb8 ⟨many, tmn, none, ps, D, (lts ps).length, oG, oC, oS2, none, none, #[], #[], rfl, many_pos hmany, .inl rfl, .refl _, hLs, (.inl rfl), (.inl rfl), dG', dC', dS2, ⟨q1, q2, q3, q4, q5, q6⟩, rfl, rfl⟩ ?_
    rintro k m led' h tk g ⟨left, tl, ul, xs, dx, nx, bG, bC, bS, vG, vC, p1, p2, rfl, hl1, hinv, hpx, hLx, ot1, ot2, eG, eC, eS, ⟨n1, n2, n3', n4, n5, n6⟩, rfl, rfl⟩ hgb F N
    obtain ⟨d1, d2, d3, d4, d5, d6⟩ := hDu
    obtain ⟨e1, e2, e3, e4, e5, e6⟩ := hR
    clear F19 N19
    k_steps
    by_cases hk1 : (1 : Int) < (k : Int)
    · rw [show decide ((1 : Int) < (k : Int)) = true from decide_eq_true hk1]
      unfold WhlIf
      rw [if_pos rfl]
      k_steps
      unfold Halt
      rename_i h20 F20 N20
      revert hg hI X0 B0 CH1 codeHd l1 X' T' hwd hmany hz50 hps hLs hperm hsort hw hzz hne hen dW3 hinv hpx hLx ot1 ot2 eG eC eS hgb F N d1 d2 d3 d5 d6 e1 e2 e3 e5 e6 hk1 F20 N20
      exact @hS1 twd k h g tl ul xs dx nx bG bC bS vG vC p1 p2 tk h20
    · rw [show decide ((1 : Int) < (k : Int)) = false from decide_eq_false hk1]
      unfold WhlIf
      rw [if_neg Bool.false_ne_true]
      k_steps
      unfold Halt
      rename_i zz4 _
      revert hg zz4 hI X0 B0 l1 X' T' hwd hmany emany hz50 hps hLs hperm hsort hw hzz hne hen dW3 hl1 hinv hpx hLx eS hgb F N d3 e3 hk1
      exact @hS2 twd k h g tl ul xs dx nx bG bC bS p1 p2 tk
end K0.K2.K4.K6.K8
namespace K0.K2.K4.K6.K8.K10
def Z0 := K8.pt.z1
def twd := hx0 Z0
def k := hx1 Z0
def h := hx2 Z0
def g := hx3 Z0
def tl := hx4 Z0
def ul := hx5 Z0
def xs := hx6 Z0
def dx := hx7 Z0
def Z1 := ht Z0
def nx := hx0 Z1
def bG := hx1 Z1
def bC := hx2 Z1
def bS := hx3 Z1
def vG := hx4 Z1
def vC := hx5 Z1
def p1 := hx6 Z1
def p2 := hx7 Z1
def Z2 := ht Z1
def tk := hx0 Z2
def h20 := hx1 Z2
def pt : Part1 (aP.a.b.g.p.a.D.c) (K8.pt.Q1 twd k h g tl ul xs dx nx bG bC bS vG vC p1 p2 tk h20) := by
 apply Part1.mk
 case h =>
  intro hS1
  intro hg hI X0 B0 CH1 codeHd l1 X' T' hwd hmany hz50 hps hLs hperm hsort hw hzz hne hen dW3 hinv hpx hLx ot1 ot2 eG eC eS hgb F N d1 d2 d3 d5 d6 e1 e2 e3 e5 e6 hk1 F20 N20
  w_top off
  k_with "compareOp NotEq ref ref" => (k_here; (with_reducible rename NoEq => hNE'); (refine Halt.out ?_))
  have hne9 : NoEq := trivial
  have hw0 : 0 < wd := by (first | exact wd_pos hwd | exact wd_127 hwd | exact many_1000 hmany | exact many_pos hmany | exact dims50 hwd hmany)
  have hw127 : wd < 127 := by (first | exact wd_pos hwd | exact wd_127 hwd | exact many_1000 hmany | exact many_pos hmany | exact dims50 hwd hmany)
  have hxl : xs.length = wd * many := by
   have := hpx.length_eq
   simp only [List.length_map] at this
   rw [this, hps]
  refine' c_fro (.head _) (.tail _ (.head _)) (by rw [hxl]; exact hz50) hLx.low hw hw0 hw127 hzz hne (by rw [hxl]; exact hen) (gd := _) (cn := _) (a := _) (ccd := _) (cl := _) (E := _) (B := ?kB) (F := F20) (X := X') (N := N20) (T := T') (hk := ?kk) (hdp := ?kd) (hu := ?ku) (hg := hgb) (hret := ?_)
  case kB => k_asm
  case kk => rfl
  case kd => (first | assumption | ktr_room | ktr_units)
  case ku => (first | assumption | ktr_room | ktr_units)
  intro r ys ny h21 tk21 g21 hb21 F21 N21 lr21 hfro
  have m1 : Apt (s₁.heap.objs.size + 1 + 1 + 1 + 1) r := Nat.ne_of_lt (lr21 (_, bG) (by walk_at "d2"))
  have m2 : Apt (s₁.heap.objs.size + 1 + 1 + 1) r := Nat.ne_of_lt (lr21 (_, bC) (by walk_at "d2"))
  have m3 : Apt (s₁.heap.objs.size + 1 + 1) r := Nat.ne_of_lt (lr21 (_, bS) (by walk_at "d2"))
  have m4 : Apt (s₁.heap.objs.size + 1) r := Nat.ne_of_lt (lr21 (_, oW2) (by walk_at "d2"))
  have m5 : Apt 162 r := Nat.ne_of_lt (lr21 (162, tabObj p1) (by walk_at "d2"))
  have m6 : Apt 169 r := Nat.ne_of_lt (lr21 (169, tabObj p2) (by walk_at "d2"))
  have hfr := fro_fron hfro
  have hyp := fro_perm hfr
  have hyl : ys.length = wd * many := by
   have := hyp.length_eq
   simp only [List.length_map] at this
   rw [this, hxl]
  have hLy : Lets ys := fun p hp => by
   have : p.1 ∈ xs.map (·.1) := hyp.subset (List.mem_map.mpr ⟨p, hp, rfl⟩)
   obtain ⟨q, hq, e⟩ := List.mem_map.mp this
   rw [← e]
   exact hLx q hq
  clear F20 N20 lr21
  have N22 : News (ghostOf s₁.heap [(166, 162), (173, 169)]) s₁.heap.objs.size h21 ((r, listOf (lts ys).toArray ny) :: (R, listOf (intVs pre ++ .int z tz :: rest).toArray nr) :: (Du, listOf (lts qd).toArray ed) :: (s₁.heap.objs.size + 1 + 1 + 1 + 1, bG) :: (s₁.heap.objs.size + 1 + 1 + 1, bC) :: (s₁.heap.objs.size + 1 + 1, bS) :: (s₁.heap.objs.size + 1, oW2) :: (162, tabObj p1) :: (169, tabObj p2) :: []) := fun p hp => N21 p (by
   refine m_use ?_ p hp; walk_at "d2")
  clear N21
  k_steps
  unfold Halt
  rename_i h22 bS2 F23 N23 dS4
  refine sorted_lts F23 N23 (N23.isList (.head _)) (by rw [hyl]; exact Nat.lt_of_lt_of_le hz50 (by decide)) fun Ds h24 qs es lDs F24 N24 hp24 hs24 => ?_
  have hLd : Lets qd := fun p hp => by
   have : p.1 ∈ ps.map (·.1) := hperm.subset (List.mem_map.mpr ⟨p, hp, rfl⟩)
   obtain ⟨q, hq, e⟩ := List.mem_map.mp this
   rw [← e]
   exact hLs q hq
  have hLq : Lets qs := fun p hp => by
   have : p.1 ∈ ys.map (·.1) := hp24.subset (List.mem_map.mpr ⟨p, hp, rfl⟩)
   obtain ⟨q, hq, e⟩ := List.mem_map.mp this
   rw [← e]
   exact hLy q hq
  have hsq : qs.map (·.1) = qd.map (·.1) := sorted_unique (hp24.trans (hyp.trans (hpx.trans hperm.symm))) hs24 hsort
  k_steps
  unfold Halt
  refine ne_lts hLq.low hLd.low (N24.isList (.head _)) (N24.isList (.tail _ (.tail _ (.tail _ (.head _))))) (by (first | assumption | ktr_room | ktr_units)) ?_
  rw [decide_eq_true hsq, Bool.not_true]
  have N25 : News (ghostOf s₁.heap [(166, 162), (173, 169)]) s₁.heap.objs.size h24 ((r, listOf (lts ys).toArray ny) :: (R, listOf (intVs pre ++ .int z tz :: rest).toArray nr) :: (Du, listOf (lts qd).toArray ed) :: (s₁.heap.objs.size + 1 + 1 + 1 + 1, bG) :: (s₁.heap.objs.size + 1 + 1 + 1, bC) :: (s₁.heap.objs.size + 1 + 1, bS2) :: (s₁.heap.objs.size + 1, oW2) :: (162, tabObj p1) :: (169, tabObj p2) :: []) := fun p hp => N24 p (.tail _ hp)
  clear N24 F23 N23 lDs
  k_steps
  unfold Halt
  revert hg hI X0 B0 CH1 codeHd l1 X' T' hwd hmany hz50 hps hLs dW3 hinv hpx ot1 ot2 eG eC F N d1 d2 d3 d5 d6 e1 e2 e3 e5 e6 hk1 hNE' hw0 hw127 hb21 m1 m2 m5 m6 hfr hyp hyl hLy dS4 F24 N25
  exact @hS1 r ys ny g21 bS2 h24 tk
end K0.K2.K4.K6.K8.K10
namespace K0.K2.K4.K6.K8.K10.K12
def Z0 := K10.pt.z1
def r := hx0 Z0
def ys := hx1 Z0
def ny := hx2 Z0
def g21 := hx3 Z0
def bS2 := hx4 Z0
def h24 := hx5 Z0
def tk := hx6 Z0
def pt : Part1 (aP.p.a.b.y.y.K.c) (K10.pt.Q1 r ys ny g21 bS2 h24 tk) := by
 apply Part1.mk
 case h =>
  intro hS1
  intro hg hI X0 B0 CH1 codeHd l1 X' T' hwd hmany hz50 hps hLs dW3 hinv hpx ot1 ot2 eG eC F N d1 d2 d3 d5 d6 e1 e2 e3 e5 e6 hk1 hNE' hw0 hw127 hb21 m1 m2 m5 m6 hfr hyp hyl hLy dS4 F24 N25
  w_top off
  have hap0 : ∀ p ∈ (r, listOf (lts ys).toArray ny) :: (R, listOf (intVs pre ++ .int z tz :: rest).toArray nr) :: (Du, listOf (lts qd).toArray ed) :: (s₁.heap.objs.size + 1 + 1 + 1 + 1, bG) :: (s₁.heap.objs.size + 1 + 1 + 1, bC) :: (s₁.heap.objs.size + 1 + 1, bS2) :: (s₁.heap.objs.size + 1, oW2) :: [], p.1 ≠ 162 ∧ p.1 ≠ 169 := fun p hp => by
   refine m_el hp ?_; refine m_all ?_ (m_all ?_ (m_all ?_ (m_all ?_ (m_all ?_ (m_all ?_ (m_all ?_ m_nil))))))
   ·exact ⟨Ne.symm m5, Ne.symm m6⟩
   ·exact ⟨Ne.symm e5, Ne.symm e6⟩
   ·exact ⟨Ne.symm d5, Ne.symm d6⟩
   all_goals exact ⟨Nat.ne_of_gt (Nat.lt_of_lt_of_le l1.1 (by simp only [Nat.add_assoc]; exact Nat.le_add_right ..)), Nat.ne_of_gt (Nat.lt_of_lt_of_le l1.2 (by simp only [Nat.add_assoc]; exact Nat.le_add_right ..))⟩
  have N26 : News (ghostOf s₁.heap [(166, 162), (173, 169)]) s₁.heap.objs.size h24 ((162, tabObj p1) :: (169, tabObj p2) :: (r, listOf (lts ys).toArray ny) :: (R, listOf (intVs pre ++ .int z tz :: rest).toArray nr) :: (Du, listOf (lts qd).toArray ed) :: (s₁.heap.objs.size + 1 + 1 + 1 + 1, bG) :: (s₁.heap.objs.size + 1 + 1 + 1, bC) :: (s₁.heap.objs.size + 1 + 1, bS2) :: (s₁.heap.objs.size + 1, oW2) :: []) := fun p hp => N25 p (by
   refine m_use ?_ p hp; walk_at "d2")
  clear N25
  refine' c_cols (ls := r) (ps := ys) (n := ny) ot1 ot2 hap0 (.head _) hwd hmany hyl hLy.lets (gd := _) (cn := _) (a := _) (ccd := _) (cl := _) (E := _) (B := ?kB) (F := F24) (X := X') (N := N26) (T := T') (hk := ?kk) (hdp := ?kd) (hu := ?ku) (CH1 := CH1) (CH2 := codeHd) (hg := hb21) (hret := ?_)
  case kB => k_asm
  case kk => rfl
  case kd => (first | assumption | ktr_room | ktr_units)
  case ku => (first | assumption | ktr_room | ktr_units)
  intro Dc dc t1 t2 h27 tk27 g27 ot3 ot4 hb27 hdc hfd hfD hdD F27 N27
  clear F24 N26
  k_steps
  revert hI X0 B0 l1 X' T' hwd hmany hz50 hps hLs dW3 hinv hpx eG eC F N d1 d2 d3 e1 e2 e3 hk1 hNE' hw0 hw127 m1 m2 hfr hyp hyl hLy dS4 ot3 ot4 hb27 hdc hfd hfD F27 N27
  exact @hS1 Dc dc t1 t2 h27 tk27 g27
end K0.K2.K4.K6.K8.K10.K12
namespace K0.K2.K4.K6.K8.K10.K12.K14
def Z0 := K12.pt.z1
def Dc := hx0 Z0
def dc := hx1 Z0
def t1 := hx2 Z0
def t2 := hx3 Z0
def h27 := hx4 Z0
def tk27 := hx5 Z0
def g27 := hx6 Z0
def pt : Part2 (aP.K.d.f.a.b.c.g.c.g.c.a.b.a.b.a.g.b) (aP.a.b.c.K.b.a.b.a.g.b) (K12.pt.Q1 Dc dc t1 t2 h27 tk27 g27) := by
 apply Part2.mk
 case h =>
  intro hS1 hS2
  intro hI X0 B0 l1 X' T' hwd hmany hz50 hps hLs dW3 hinv hpx eG eC F N d1 d2 d3 e1 e2 e3 hk1 hNE' hw0 hw127 m1 m2 hfr hyp hyl hLy dS4 ot3 ot4 hb27 hdc hfd hfD F27 N27
  w_top off
  k_with "subscriptTail Name Slice ref ref" => (k_here; (refine Halt.out ?_))
  have N28 : News (ghostOf s₁.heap [(166, 162), (173, 169)]) s₁.heap.objs.size h27 ((s₁.heap.objs.size + 1 + 1 + 1 + 1, bG) :: (s₁.heap.objs.size + 1 + 1 + 1, bC) :: (s₁.heap.objs.size + 1 + 1, bS2) :: (s₁.heap.objs.size + 1, oW2) :: (162, tabObj t1) :: (169, tabObj t2) :: (r, listOf (lts ys).toArray ny) :: (R, listOf (intVs pre ++ .int z tz :: rest).toArray nr) :: (Du, listOf (lts qd).toArray ed) :: (Dc, listOf (dc.map fun d => Value.ref d.1).toArray (dc.map fun d => Value.ref d.1).length) :: colsLed dc) := fun p hp => N27 p (by
   refine m_use ?_ p hp; walk_at "d2")
  refine storeX_C F27 N28 rfl (.tail (Nat.ne_of_gt (Nat.lt_succ_self _)) (.head (fun p hp => ?_))) eC (fun h28 bC2 F28 N29 dC2 => ?_) rfl rfl
  ·refine m_el hp (m_all ?_ ?_)
   ·exact Nat.ne_of_lt (Nat.lt_succ_self _)
   refine m_all ?_ ?_
   ·exact Nat.ne_of_lt (Nat.lt_succ_of_lt (Nat.lt_succ_self _))
   refine m_all ?_ ?_
   ·exact Nat.ne_of_lt (Nat.lt_succ_of_lt (Nat.lt_succ_of_lt (Nat.lt_succ_of_lt l1.1)))
   refine m_all ?_ ?_
   ·exact Nat.ne_of_lt (Nat.lt_succ_of_lt (Nat.lt_succ_of_lt (Nat.lt_succ_of_lt l1.2)))
   refine m_all ?_ ?_
   ·exact Ne.symm m2
   refine m_all ?_ ?_
   ·exact Ne.symm e2
   refine m_all ?_ ?_
   ·exact Ne.symm d2
   refine m_all ?_ ?_
   ·exact Ne.symm (hfD (_, bC) (by walk_at "d2"))
   ·intro p hp; obtain ⟨d, hd, rfl⟩ := List.mem_map.mp hp
    exact Ne.symm (hfd d hd (_, bC) (by walk_at "d2"))
  clear F27 N27 N28
  k_steps
  unfold Halt
  refine LCg.ListComp_U (F₀ := F28) (by with_unfolding_all rfl) (by decide) (by rfl) (by decide) (by rfl) ?_
  k_steps
  unfold Halt
  rename_i hr31 F31 N31 kp31
  have hwd9 : wd < 1000 := Nat.lt_trans hw127 (by decide)
  refine LCg.CompSrc.range rfl F31 N31 hr31 (small_up hwd9) rangeSize_up (by rw [show sizeLine = 16777216 from rfl]; exact Nat.le_of_lt (Nat.lt_trans hw127 (by decide))) fun g9 => ?_
  refine comp_U (fun i vs9 led' => ∃ (ec : List (Addr × Row)), vs9 = ec.map (fun d => Value.ref d.1) ∧ ec.map (fun d => d.2.map (·.1)) = (List.range i).map (fun j => colRec wd j many (ys.map (·.1))) ∧
    led' = (s₁.heap.objs.size + 1 + 1 + 1 + 1, bG) :: (s₁.heap.objs.size + 1 + 1 + 1, bC2) :: (s₁.heap.objs.size + 1 + 1, bS2) :: (s₁.heap.objs.size + 1, oW2) :: (slcLed ec ++ ((162, tabObj t1) :: (169, tabObj t2) :: (r, listOf (lts ys).toArray ny) :: (R, listOf (intVs pre ++ .int z tz :: rest).toArray nr) :: (Du, listOf (lts qd).toArray ed) :: (Dc, listOf (dc.map fun d => Value.ref d.1).toArray (dc.map fun d => Value.ref d.1).length) :: colsLed dc))) ⟨[], rfl, rfl, rfl⟩ ?_ ?_
  ·rintro i v vs9 led' I oI Cc oCc Da m₂ h tk E' hi ⟨tp, rfl⟩ ⟨ec, rfl, hec, rfl⟩ hC hx2 F33 N33 off ne
   k_steps
   unfold Halt
   rename_i zz123 zz124 zz125 _ _ _
   revert X0 X' hwd hmany hz50 hNE' hyl hi hec F33 N33 off
   exact @hS1 h28 bC2 zz123 zz124 zz125 g9 i I oI Cc oCc Da h tk E' tp ec
  ·rintro vs9 led' ⟨ec, rfl, hec, rfl⟩ Da h32 tk32 F32 N32 off
   k_steps
   unfold Halt
   rename_i zz124 zz125 _ _ _
   revert hI X0 B0 l1 X' T' hwd hmany hz50 hps hLs hinv hpx eG F N d1 d2 d3 e1 e2 e3 hk1 hNE' hw0 hw127 m1 m2 hfr hyp hyl hLy dS4 ot3 ot4 hb27 hdc dC2 hec F32 N32 off
   exact @hS2 h28 bC2 tk zz124 zz125 g9 ec Da h32 tk32
end K0.K2.K4.K6.K8.K10.K12.K14
namespace K0.K2.K4.K6.K8.K10.K12.K14.K16
def Z0 := K14.pt.z1
def h28 := hx0 Z0
def bC2 := hx1 Z0
def zz123 := hx2 Z0
def zz124 := hx3 Z0
def zz125 := hx4 Z0
def g9 := hx5 Z0
def i := hx6 Z0
def I := hx7 Z0
def Z1 := ht Z0
def oI := hx0 Z1
def Cc := hx1 Z1
def oCc := hx2 Z1
def Da := hx3 Z1
def h := hx4 Z1
def tk := hx5 Z1
def E' := hx6 Z1
def tp := hx7 Z1
def Z2 := ht Z1
def ec := hx0 Z2
theorem eq_1 : K14.pt.Q1 h28 bC2 zz123 zz124 zz125 g9 i I oI Cc oCc Da h tk E' tp ec := by
 intro X0 X' hwd hmany hz50 hNE' hyl hi hec F33 N33 off
 w_top off
 refine kmk_slice3_lit (st := some (wd : Int)) (lo := some (i : Int)) (hi := none) F33 N33 (N33.isList (a := r) (items := (lts ys).toArray) (.tail _ (.tail _ (.tail _ (.tail _ (.tail _ (.tail _ (.tail _ (List.mem_append_right _ (.tail _ (.tail _ (.head _)))))))))))) ?ca .none (IsPart.int _ _) (wd_some0 hwd) (step_pick hwd hmany hi hyl) ?cc (by with_unfolding_all rfl) (by kmk_pure) (by rw [List.size_toArray, lts_length, hyl]; exact Nat.le_trans (Nat.le_of_lt hz50) (by decide))
 case ca => exact (Int.zero_add (i : Int)).symm ▸ IsPart.int _ _
 case cc =>
  intro Dn h40 F40 N40 lDn
  k_steps
  unfold CompEnd
  refine ⟨h40, _, (s₁.heap.objs.size + 1 + 1 + 1 + 1, bG) :: (s₁.heap.objs.size + 1 + 1 + 1, bC2) :: (s₁.heap.objs.size + 1 + 1, bS2) :: (s₁.heap.objs.size + 1, oW2) :: (slcLed (ec ++ [(Dn, colRow wd i many ys)]) ++ ((162, tabObj t1) :: (169, tabObj t2) :: (r, listOf (lts ys).toArray ny) :: (R, listOf (intVs pre ++ .int z tz :: rest).toArray nr) :: (Du, listOf (lts qd).toArray ed) :: (Dc, listOf (dc.map fun d => Value.ref d.1).toArray (dc.map fun d => Value.ref d.1).length) :: colsLed dc)), rfl, F40, fun p hp => N40 p ?_, LCg.Off3.of fun p hp => ?_, trivial, ec ++ [(Dn, colRow wd i many ys)], by simp, ?_, rfl⟩
  ·refine m_use ?_ p hp; walk_at "d2"
  ·have hp2 : p ∈ (Dn, listOf (lts (colRow wd i many ys)).toArray 0) :: ((s₁.heap.objs.size + 1 + 1 + 1 + 1, bG) :: (s₁.heap.objs.size + 1 + 1 + 1, bC2) :: (s₁.heap.objs.size + 1 + 1, bS2) :: (s₁.heap.objs.size + 1, oW2) :: (slcLed ec ++ ((162, tabObj t1) :: (169, tabObj t2) :: (r, listOf (lts ys).toArray ny) :: (R, listOf (intVs pre ++ .int z tz :: rest).toArray nr) :: (Du, listOf (lts qd).toArray ed) :: (Dc, listOf (dc.map fun d => Value.ref d.1).toArray (dc.map fun d => Value.ref d.1).length) :: colsLed dc))) := by
    refine m_use ?_ p hp; walk_at "d2"
   rcases (List.mem_cons.mp hp2).symm with hp2 | rfl
   ·exact off.mem p hp2
   ·exact ⟨Nat.ne_of_gt (lDn (I, oI) (.head _)), Nat.ne_of_gt (lDn (Cc, oCc) (.tail _ (.head _))), Nat.ne_of_gt (lDn (Da, _) (.tail _ (.tail _ (.head _))))⟩
  ·rw [List.map_append, hec, List.range_succ, List.map_append]
   simp only [List.map_cons, List.map_nil, colRow_map]
end K0.K2.K4.K6.K8.K10.K12.K14.K16
namespace K0.K2.K4.K6.K8.K10.K12.K14.K16
theorem eq_2 : K14.pt.U1 := hy @eq_1
end K0.K2.K4.K6.K8.K10.K12.K14.K16
namespace K0.K2.K4.K6.K8.K10.K12.K14.K17
def Z0 := K14.pt.z2
def h28 := hx0 Z0
def bC2 := hx1 Z0
def tk := hx2 Z0
def zz124 := hx3 Z0
def zz125 := hx4 Z0
def g9 := hx5 Z0
def ec := hx6 Z0
def Da := hx7 Z0
def Z1 := ht Z0
def h32 := hx0 Z1
def tk32 := hx1 Z1
def pt : Part1 (aP.a) (K14.pt.Q2 h28 bC2 tk zz124 zz125 g9 ec Da h32 tk32) := by
 apply Part1.mk
 case h =>
  intro hS1
  intro hI X0 B0 l1 X' T' hwd hmany hz50 hps hLs hinv hpx eG F N d1 d2 d3 e1 e2 e3 hk1 hNE' hw0 hw127 m1 m2 hfr hyp hyl hLy dS4 ot3 ot4 hb27 hdc dC2 hec F32 N32 off
  w_top off
  have hLc := cols_low hdc hLy
  refine ne_cols (ds := dc) (es := ec) (N32.isList (.tail _ (.tail _ (.tail _ (.tail _ (.tail _ (List.mem_append_right _ (.tail _ (.tail _ (.tail _ (.tail _ (.tail _ (.head _)))))))))))))
   (N32.isList (.head _)) (fun d hd => N32.isList (.tail _ (.tail _ (.tail _ (.tail _ (.tail _ (List.mem_append_right _ (.tail _ (.tail _ (.tail _ (.tail _ (.tail _ (.tail _ (List.mem_map.mpr ⟨d, hd, rfl⟩))))))))))))))
   (fun d hd => N32.isList (.tail _ (.tail _ (.tail _ (.tail _ (.tail _ (List.mem_append_left _ (List.mem_map.mpr ⟨d, hd, rfl⟩)))))))) (fun d hd => (hLc d hd).low) (hdc.trans hec.symm) (by (first | assumption | ktr_room | ktr_units)) ?_
  have N34 : News (ghostOf s₁.heap [(166, 162), (173, 169)]) s₁.heap.objs.size h32 ((s₁.heap.objs.size + 1 + 1 + 1 + 1, bG) :: (s₁.heap.objs.size + 1 + 1 + 1, bC2) :: (s₁.heap.objs.size + 1 + 1, bS2) :: (s₁.heap.objs.size + 1, oW2) :: (162, tabObj t1) :: (169, tabObj t2) :: (r, listOf (lts ys).toArray ny) :: (R, listOf (intVs pre ++ .int z tz :: rest).toArray nr) :: (Du, listOf (lts qd).toArray ed) :: (Dc, listOf (dc.map fun d => Value.ref d.1).toArray (dc.map fun d => Value.ref d.1).length) :: colsLed dc) := fun p hp => N32 p (by
   refine m_use ?_ p hp; walk_at "d2")
  have hroom : True := trivial
  clear N32
  k_steps
  unfold Halt
  revert hI X0 B0 l1 X' T' hwd hmany hz50 hps hLs hinv hpx eG F N d1 d2 d3 e1 e2 e3 hk1 hNE' hw0 hw127 m1 m2 hfr hyp hyl dS4 ot3 ot4 hb27 hdc dC2 F32 off hLc N34
  obtain ⟨dm, _⟩ : ∃ n, n = 0 := ⟨0, rfl⟩
  exact @hS1 dm
end K0.K2.K4.K6.K8.K10.K12.K14.K17
namespace K0.K2.K4.K6.K8.K10.K12.K14.K17.K18
def Z0 := K17.pt.z1
def dm := hx0 Z0
def pt : Part1 (aP.a.b.c.Q.b) (K17.pt.Q1 dm) := by
 apply Part1.mk
 case h =>
  intro hS1
  intro hI X0 B0 l1 X' T' hwd hmany hz50 hps hLs hinv hpx eG F N d1 d2 d3 e1 e2 e3 hk1 hNE' hw0 hw127 m1 m2 hfr hyp hyl dS4 ot3 ot4 hb27 hdc dC2 F32 off hLc N34
  w_top off
  have hlenc := cols_len hdc hyl
  refine LCg.ListComp_U (F₀ := F32) (by with_unfolding_all rfl) (by decide) (by rfl) (by decide) (by rfl) ?_
  k_steps
  unfold Halt
  have hdl : dc.length = wd := by
   have := congrArg List.length hdc
   simpa using this
  refine CompSrc.ledger rfl F32 N34 (ax := Dc) (its := (dc.map fun d => Value.ref d.1).toArray) (k := (dc.map fun d => Value.ref d.1).length) (.tail _ (.tail _ (.tail _ (.tail _ (.tail _ (.tail _ (.tail _ (.tail _ (.tail _ (.head _)))))))))) (by rw [List.size_toArray, List.length_map, hdl]; exact Nat.le_of_lt (Nat.lt_trans hw127 (by decide))) fun g => ?_
  refine comp_U (fun i vs9 led' => ∃ (oc : List (Addr × Row × Nat)), vs9 = oc.map (fun d => Value.ref d.1) ∧ oc.length = i ∧ Ordered dc oc ∧ (∀ d ∈ oc, ∀ p ∈ ([(s₁.heap.objs.size + 1 + 1 + 1 + 1, bG), (s₁.heap.objs.size + 1 + 1 + 1, bC2), (s₁.heap.objs.size + 1 + 1, bS2), (s₁.heap.objs.size + 1, oW2)] : List (Addr × Obj)), p.1 < d.1) ∧ led' = (s₁.heap.objs.size + 1 + 1 + 1 + 1, bG) :: (s₁.heap.objs.size + 1 + 1 + 1, bC2) :: (s₁.heap.objs.size + 1 + 1, bS2) :: (s₁.heap.objs.size + 1, oW2) :: (ordLed oc ++ ((162, tabObj t1) :: (169, tabObj t2) :: (r, listOf (lts ys).toArray ny) :: (R, listOf (intVs pre ++ .int z tz :: rest).toArray nr) :: (Du, listOf (lts qd).toArray ed) :: (Dc, listOf (dc.map fun d => Value.ref d.1).toArray (dc.map fun d => Value.ref d.1).length) :: colsLed dc))) ⟨[], rfl, rfl, Ordered.nil _, fun d hd => (List.not_mem_nil hd).elim, rfl⟩ ?_ ?_
  ·rintro i v vs9 led' I oI Cc oCc Da m₂ h tk E' hi hv ⟨oc, rfl, rfl, hoc, hof, rfl⟩ hC hx2 F33 N33 off ne
   obtain ⟨d, hd, rfl⟩ : ∃ d, dc[oc.length]? = some d ∧ v = .ref d.1 := by
    rw [List.getElem?_toArray, List.getElem?_map, Option.map_eq_some_iff] at hv
    obtain ⟨d, hd, e⟩ := hv
    exact ⟨d, hd, e.symm⟩
   have hdm := List.mem_of_getElem? hd
   k_steps
   unfold Halt
   refine' c_in_order (l := d.1) (ps := d.2) (n := (lts d.2).length) (.tail _ (.tail _ (.tail _ (.tail _ (.tail _ (.tail _ (.tail _ (List.mem_append_right _ (.tail _ (.tail _ (.tail _ (.tail _ (.tail _ (.tail _ (List.mem_map.mpr ⟨d, hdm, rfl⟩))))))))))))))) (by rw [hlenc d hdm]; rcases hmany with e | e | e | e <;> rw [e] <;> decide) (gd := _) (cn := _) (a := _) (ccd := _) (cl := _) (E := _) (B := ?kB) (F := F33) (X := X') (N := N33) (T := T') (hk := ?kk) (hd := ?kd) (hu := ?ku) (hret := ?_)
   case kB => k_asm
   case kk => rfl
   case kd => (first | assumption | ktr_room | ktr_units)
   case ku => (first | assumption | ktr_room | ktr_units)
   intro Dn qn nn h40 tk40 F40 N40 lDn hpn hsn
   k_steps
   unfold CompEnd
   refine ⟨h40, _, (s₁.heap.objs.size + 1 + 1 + 1 + 1, bG) :: (s₁.heap.objs.size + 1 + 1 + 1, bC2) :: (s₁.heap.objs.size + 1 + 1, bS2) :: (s₁.heap.objs.size + 1, oW2) :: (ordLed (oc ++ [(Dn, qn, nn)]) ++ ((162, tabObj t1) :: (169, tabObj t2) :: (r, listOf (lts ys).toArray ny) :: (R, listOf (intVs pre ++ .int z tz :: rest).toArray nr) :: (Du, listOf (lts qd).toArray ed) :: (Dc, listOf (dc.map fun d => Value.ref d.1).toArray (dc.map fun d => Value.ref d.1).length) :: colsLed dc)), rfl, F40, fun p hp => N40 p ?_, LCg.Off3.of fun p hp => ?_, .inr ⟨_, .tail _ (.tail _ (.tail _ (.tail _ (List.mem_append_right _ (.tail _ (.tail _ (.tail _ (.tail _ (.tail _ (.head _)))))))))), rfl, _, rfl⟩, oc ++ [(Dn, qn, nn)], by simp, by simp, hoc.snoc hd hpn hsn, fun x hx p hp => ?_, rfl⟩
   ·refine m_use ?_ p hp; walk_at "d2"
   ·have hp2 : p ∈ (Dn, listOf (lts qn).toArray nn) :: ((s₁.heap.objs.size + 1 + 1 + 1 + 1, bG) :: (s₁.heap.objs.size + 1 + 1 + 1, bC2) :: (s₁.heap.objs.size + 1 + 1, bS2) :: (s₁.heap.objs.size + 1, oW2) :: (ordLed oc ++ ((162, tabObj t1) :: (169, tabObj t2) :: (r, listOf (lts ys).toArray ny) :: (R, listOf (intVs pre ++ .int z tz :: rest).toArray nr) :: (Du, listOf (lts qd).toArray ed) :: (Dc, listOf (dc.map fun d => Value.ref d.1).toArray (dc.map fun d => Value.ref d.1).length) :: colsLed dc))) := by
     refine m_use ?_ p hp; walk_at "d2"
    rcases (List.mem_cons.mp hp2).symm with hp2 | rfl
    ·exact off.mem p hp2
    ·exact ⟨Nat.ne_of_gt (lDn (I, oI) (.head _)), Nat.ne_of_gt (lDn (Cc, oCc) (.tail _ (.head _))), Nat.ne_of_gt (lDn (Da, _) (.tail _ (.tail _ (.head _))))⟩
   ·rcases List.mem_append.mp hx with hx | hx
    ·exact hof x hx p hp
    ·rw [List.mem_singleton] at hx
     subst hx
     exact lDn p (.tail _ (.tail _ (.tail _ (show p ∈ [(s₁.heap.objs.size + 1 + 1 + 1 + 1, bG), (s₁.heap.objs.size + 1 + 1 + 1, bC2), (s₁.heap.objs.size + 1 + 1, bS2), (s₁.heap.objs.size + 1, oW2)] ++ (ordLed oc ++ ((162, tabObj t1) :: (169, tabObj t2) :: (r, listOf (lts ys).toArray ny) :: (R, listOf (intVs pre ++ .int z tz :: rest).toArray nr) :: (Du, listOf (lts qd).toArray ed) :: (Dc, listOf (dc.map fun d => Value.ref d.1).toArray (dc.map fun d => Value.ref d.1).length) :: colsLed dc)) from List.mem_append_left _ hp))))
  ·rintro vs9 led' ⟨oc, rfl, hol, hoc, hof, rfl⟩ Do h42 tk42 F42 N42 off42
   rw [List.size_toArray, List.length_map, hdl] at hol
   k_steps
   revert hI X0 l1 X' T' hwd hmany hz50 hps hLs hinv hpx eG F N d1 d2 d3 e1 e2 e3 hk1 hNE' hw0 hw127 m1 m2 hfr hyp hyl dS4 ot3 ot4 hb27 hdc dC2 hLc hlenc hol hoc hof F42 N42 off42
   exact @hS1 g oc Do h42 tk42
end K0.K2.K4.K6.K8.K10.K12.K14.K17.K18
namespace K0.K2.K4.K6.K8.K10.K12.K14.K17.K18.K20
def Z0 := K18.pt.z1
def g := hx0 Z0
def oc := hx1 Z0
def Do := hx2 Z0
def h42 := hx3 Z0
def tk42 := hx4 Z0
def pt : Part1 (aP.g.b) (K18.pt.Q1 g oc Do h42 tk42) := by
 apply Part1.mk
 case h =>
  intro hS1
  intro hI X0 l1 X' T' hwd hmany hz50 hps hLs hinv hpx eG F N d1 d2 d3 e1 e2 e3 hk1 hNE' hw0 hw127 m1 m2 hfr hyp hyl dS4 ot3 ot4 hb27 hdc dC2 hLc hlenc hol hoc hof F42 N42 off42
  w_top off
  have N43 : News (ghostOf s₁.heap [(166, 162), (173, 169)]) s₁.heap.objs.size h42 ((s₁.heap.objs.size + 1 + 1 + 1 + 1, bG) :: (s₁.heap.objs.size + 1 + 1 + 1, bC2) :: (s₁.heap.objs.size + 1 + 1, bS2) :: (s₁.heap.objs.size + 1, oW2) :: (162, tabObj t1) :: (169, tabObj t2) :: (r, listOf (lts ys).toArray ny) :: (R, listOf (intVs pre ++ .int z tz :: rest).toArray nr) :: (Du, listOf (lts qd).toArray ed) :: (Do, listOf (oc.map fun d => Value.ref d.1).toArray (oc.map fun d => Value.ref d.1).length) :: ordLed oc) := fun p hp => N42 p (by
   refine m_use ?_ p hp; walk_at "d2")
  refine storeX_C F42 N43 rfl (.tail (Nat.ne_of_gt (Nat.lt_succ_self _)) (.head (fun p hp => ?_))) dC2 (fun h44 bC3 F44 N44 dC3 => ?_) rfl rfl
  ·refine m_el hp (m_all ?_ ?_)
   ·exact Nat.ne_of_lt (Nat.lt_succ_self _)
   refine m_all ?_ ?_
   ·exact Nat.ne_of_lt (Nat.lt_succ_of_lt (Nat.lt_succ_self _))
   refine m_all ?_ ?_
   ·exact Nat.ne_of_lt (Nat.lt_succ_of_lt (Nat.lt_succ_of_lt (Nat.lt_succ_of_lt l1.1)))
   refine m_all ?_ ?_
   ·exact Nat.ne_of_lt (Nat.lt_succ_of_lt (Nat.lt_succ_of_lt (Nat.lt_succ_of_lt l1.2)))
   refine m_all ?_ ?_
   ·exact Ne.symm m2
   refine m_all ?_ ?_
   ·exact Ne.symm e2
   refine m_all ?_ ?_
   ·exact Ne.symm d2
   refine m_all ?_ ?_
   ·exact Ne.symm (off1_mem off42 (_, bC2) (.tail _ (.head _)))
   ·intro p hp; obtain ⟨d, hd, rfl⟩ := List.mem_map.mp hp
    exact Nat.ne_of_gt (hof d hd (_, bC2) (.tail _ (.head _)))
  clear F42 N42 N43
  k_steps
  revert hI X0 l1 X' T' hwd hmany hz50 hps hLs hinv hpx eG F N d1 d3 e1 e3 hk1 hNE' hw0 hw127 m1 hfr hyp hyl dS4 ot3 ot4 hb27 hdc hLc hlenc hol hoc hof off42 F44 N44 dC3
  exact @hS1 h44 bC3
end K0.K2.K4.K6.K8.K10.K12.K14.K17.K18.K20
namespace K0.K2.K4.K6.K8.K10.K12.K14.K17.K18.K20.K22
def Z0 := K20.pt.z1
def h44 := hx0 Z0
def bC3 := hx1 Z0
def pt : Part2 (aP.Q.a.b.c.g.c.g.c.g.c.d.b.a.b) (aP.Q.a.b.c) (K20.pt.Q1 h44 bC3) := by
 apply Part2.mk
 case h =>
  intro hS1 hS2
  intro hI X0 l1 X' T' hwd hmany hz50 hps hLs hinv hpx eG F N d1 d3 e1 e3 hk1 hNE' hw0 hw127 m1 hfr hyp hyl dS4 ot3 ot4 hb27 hdc hLc hlenc hol hoc hof off42 F44 N44 dC3
  w_top off
  have hmany9 : many < 1000 := by (first | exact wd_pos hwd | exact wd_127 hwd | exact many_1000 hmany | exact many_pos hmany | exact dims50 hwd hmany)
  refine assign_cells (hs := fun _ => rfl) (F₀ := F44) rfl (by with_unfolding_all rfl) (by with_unfolding_all rfl) (by rfl) (fun _ => rfl) (fun _ => rfl) (by decide) (fun _ _ => rfl) (by rfl) (by rfl) ?_
  k_steps
  rename_i hr45 F45 N45 kp45
  refine srcC rfl F45 N45 hr45 (small_up hmany9) rangeSize_up (by rw [show sizeLine = 16777216 from rfl]; exact Nat.le_of_lt (Nat.lt_trans hmany9 (by decide))) fun g45 => ?_
  refine ⟨fun i vs9 led' => ∃ (rw9 : List (Addr × Row × Nat)), vs9 = rw9.map (fun d => Value.ref d.1) ∧ rw9.length = i ∧ (∀ (k : Nat) (d : Addr × Row × Nat), rw9[k]? = some d → d.2.1.map (·.1) = oc.map fun e => (e.2.1.map (·.1)).getD k 0) ∧ (∀ d ∈ rw9, ∀ p ∈ ([(s₁.heap.objs.size + 1 + 1 + 1 + 1, bG), (s₁.heap.objs.size + 1 + 1 + 1, bC3), (s₁.heap.objs.size + 1 + 1, bS2), (s₁.heap.objs.size + 1, oW2)] : List (Addr × Obj)), p.1 ≠ d.1) ∧ led' = (s₁.heap.objs.size + 1 + 1 + 1 + 1, bG) :: (s₁.heap.objs.size + 1 + 1 + 1, bC3) :: (s₁.heap.objs.size + 1 + 1, bS2) :: (s₁.heap.objs.size + 1, oW2) :: (ordLed rw9 ++ ((162, tabObj t1) :: (169, tabObj t2) :: (r, listOf (lts ys).toArray ny) :: (R, listOf (intVs pre ++ .int z tz :: rest).toArray nr) :: (Du, listOf (lts qd).toArray ed) :: (Do, listOf (oc.map fun d => Value.ref d.1).toArray (oc.map fun d => Value.ref d.1).length) :: ordLed oc)), ⟨[], rfl, rfl, fun k d h => by simp at h, fun d hd => (List.not_mem_nil hd).elim, rfl⟩, ?_, ?_⟩
  ·rintro i tn vs9 led' I oI Cc oCc Kc oKc Da h tk E' hi ⟨rw9, rfl, rfl, hrw, hrf, rfl⟩ dKc F46 N46 off46 ⟨z1, z2, z3, z4, z5, z6⟩
   k_steps
   unfold Halt
   refine LCg.ListComp_U (F₀ := F46) (by with_unfolding_all rfl) (by decide) (by rfl) (by decide) (by rfl) ?_
   k_steps
   unfold Halt
   rename_i zz142 zz143 _ _ _
   revert X0 X' hNE' hw127 hlenc hol hoc hmany9 hi hrw hrf dKc F46 N46 off46
   exact @hS1 zz142 zz143 g45 tn I oI Cc oCc Kc oKc Da h tk rw9
  ·rintro vs9 led' Da h46 tk46 ⟨rw9, rfl, hrl, hrw, hrf, rfl⟩ F46 N46 off46
   k_steps
   revert hI X0 l1 X' T' hz50 hps hLs hinv hpx eG F N d1 d3 e1 e3 hk1 hNE' hw0 m1 hfr hyp hyl dS4 ot3 ot4 hb27 hdc hLc hol hoc hof off42 dC3 hmany9 hrl hrw hrf F46 N46 off46
   exact @hS2 Da h46 tk46 rw9
end K0.K2.K4.K6.K8.K10.K12.K14.K17.K18.K20.K22
namespace K0.K2.K4.K6.K8.K10.K12.K14.K17.K18.K20.K22.K24
def Z0 := K22.pt.z1
def zz142 := hx0 Z0
def zz143 := hx1 Z0
def g45 := hx2 Z0
def tn := hx3 Z0
def I := hx4 Z0
def oI := hx5 Z0
def Cc := hx6 Z0
def oCc := hx7 Z0
def Z1 := ht Z0
def Kc := hx0 Z1
def oKc := hx1 Z1
def Da := hx2 Z1
def h := hx3 Z1
def tk := hx4 Z1
def rw9 := hx5 Z1
theorem eq_1 : K22.pt.Q1 zz142 zz143 g45 tn I oI Cc oCc Kc oKc Da h tk rw9 := by
 intro X0 X' hNE' hw127 hlenc hol hoc hmany9 hi hrw hrf dKc F46 N46 off46
 w_top off
 have hol2 := ord_len hoc hlenc
 refine CompSrc.ledger rfl F46 N46 (ax := Do) (its := (oc.map fun d => Value.ref d.1).toArray) (k := (oc.map fun d => Value.ref d.1).length) (.tail _ (.tail _ (.tail _ (.tail _ (.tail _ (.tail _ (.tail _ (.tail _ (List.mem_append_right _ (.tail _ (.tail _ (.tail _ (.tail _ (.tail _ (.head _))))))))))))))) (by rw [List.size_toArray, List.length_map, hol]; exact Nat.le_of_lt (Nat.lt_trans hw127 (by decide))) fun g2 => ?_
 refine comp_U (fun j vs2 led2 => ∃ (rs : Row), vs2 = lts rs ∧ rs.length = j ∧ rs.map (·.1) = (oc.take j).map (fun e => (e.2.1.map (·.1)).getD rw9.length 0) ∧ led2 = (I, oI) :: (Cc, oCc) :: (Kc, oKc) :: (Da, lst (rw9.map fun d => Value.ref d.1)) :: (s₁.heap.objs.size + 1 + 1 + 1 + 1, bG) :: (s₁.heap.objs.size + 1 + 1 + 1, bC3) :: (s₁.heap.objs.size + 1 + 1, bS2) :: (s₁.heap.objs.size + 1, oW2) :: (ordLed rw9 ++ ((162, tabObj t1) :: (169, tabObj t2) :: (r, listOf (lts ys).toArray ny) :: (R, listOf (intVs pre ++ .int z tz :: rest).toArray nr) :: (Du, listOf (lts qd).toArray ed) :: (Do, listOf (oc.map fun d => Value.ref d.1).toArray (oc.map fun d => Value.ref d.1).length) :: ordLed oc))) ⟨[], rfl, rfl, rfl, rfl⟩ ?_ ?_
 ·rintro j v vs2 led2 I2 oI2 C2 oC2 D2 m2' h47 tk47 E2 hj hv ⟨rs, rfl, rfl, hrs, rfl⟩ hC2 hx2 F47 N47 off47 ne47
  obtain ⟨e, he, rfl⟩ : ∃ e, oc[rs.length]? = some e ∧ v = .ref e.1 := by
   rw [List.getElem?_toArray, List.getElem?_map, Option.map_eq_some_iff] at hv
   obtain ⟨e, he, q⟩ := hv
   exact ⟨e, he, q.symm⟩
  have hem := List.mem_of_getElem? he
  k_steps
  refine item_lts (ps := e.2.1) (k := ((rw9.length : Nat) : Int)) (N47.isList (.tail _ (.tail _ (.tail _ (.tail _ (.tail _ (.tail _ (.tail _ (.tail _ (.tail _ (.tail _ (.tail _ (List.mem_append_right _ (.tail _ (.tail _ (.tail _ (.tail _ (.tail _ (.tail _ (List.mem_map.mpr ⟨e, hem, rfl⟩)))))))))))))))))))) (Int.natCast_nonneg _) (by rw [hol2 e hem]; exact Int.ofNat_lt.mpr hi) (by rw [hol2 e hem]; exact hmany9) (fun p hp => ?_)
  rw [Int.toNat_natCast] at hp
  unfold CompEnd
  refine ⟨h47, _, (I, oI) :: (Cc, oCc) :: (Kc, oKc) :: (Da, lst (rw9.map fun d => Value.ref d.1)) :: (s₁.heap.objs.size + 1 + 1 + 1 + 1, bG) :: (s₁.heap.objs.size + 1 + 1 + 1, bC3) :: (s₁.heap.objs.size + 1 + 1, bS2) :: (s₁.heap.objs.size + 1, oW2) :: (ordLed rw9 ++ ((162, tabObj t1) :: (169, tabObj t2) :: (r, listOf (lts ys).toArray ny) :: (R, listOf (intVs pre ++ .int z tz :: rest).toArray nr) :: (Du, listOf (lts qd).toArray ed) :: (Do, listOf (oc.map fun d => Value.ref d.1).toArray (oc.map fun d => Value.ref d.1).length) :: ordLed oc)), rfl, F47, N47, off47, .inr ⟨_, (.tail _ (.tail _ (.tail _ (.tail _ (.tail _ (.tail _ (.tail _ (.tail _ (List.mem_append_right _ (.tail _ (.tail _ (.tail _ (.tail _ (.tail _ (.head _))))))))))))))), rfl, _, rfl⟩, rs ++ [p], by simp [lts], by simp, ?_, rfl⟩
  rw [List.map_append, hrs, List.take_add_one, he, List.map_append]
  simp [hp]
 ·rintro vs2 led2 ⟨rs, rfl, hrl2, hrs, rfl⟩ D2 h48 tk48 F48 N48 off48
  rw [List.size_toArray, List.length_map, List.take_length] at hrs
  k_steps
  unfold EndC
  refine ⟨h48, _, (s₁.heap.objs.size + 1 + 1 + 1 + 1, bG) :: (s₁.heap.objs.size + 1 + 1 + 1, bC3) :: (s₁.heap.objs.size + 1 + 1, bS2) :: (s₁.heap.objs.size + 1, oW2) :: (ordLed (rw9 ++ [(D2, rs, (lts rs).length)]) ++ ((162, tabObj t1) :: (169, tabObj t2) :: (r, listOf (lts ys).toArray ny) :: (R, listOf (intVs pre ++ .int z tz :: rest).toArray nr) :: (Du, listOf (lts qd).toArray ed) :: (Do, listOf (oc.map fun d => Value.ref d.1).toArray (oc.map fun d => Value.ref d.1).length) :: ordLed oc)), rfl, F48, fun p hp => N48 p ?_, fun p hp => ?_, rw9 ++ [(D2, rs, (lts rs).length)], by simp, by simp, fun k d hk => ?_, fun d hd p hp => ?_, rfl⟩
  ·refine m_use ?_ p hp; walk_at "d2"
  ·have hp2 : p ∈ (D2, listOf (lts rs).toArray (lts rs).length) :: ((s₁.heap.objs.size + 1 + 1 + 1 + 1, bG) :: (s₁.heap.objs.size + 1 + 1 + 1, bC3) :: (s₁.heap.objs.size + 1 + 1, bS2) :: (s₁.heap.objs.size + 1, oW2) :: (ordLed rw9 ++ ((162, tabObj t1) :: (169, tabObj t2) :: (r, listOf (lts ys).toArray ny) :: (R, listOf (intVs pre ++ .int z tz :: rest).toArray nr) :: (Du, listOf (lts qd).toArray ed) :: (Do, listOf (oc.map fun d => Value.ref d.1).toArray (oc.map fun d => Value.ref d.1).length) :: ordLed oc))) := by
    refine m_use ?_ p hp; walk_at "d2"
   rcases (List.mem_cons.mp hp2).symm with hp2 | rfl
   ·exact off46 p hp2
   ·exact ⟨Ne.symm (off1_mem off48 (I, oI) (.head _)), Ne.symm (off1_mem off48 (Cc, oCc) (.tail _ (.head _))), Ne.symm (off1_mem off48 (Kc, oKc) (.tail _ (.tail _ (.head _)))), Ne.symm (off1_mem off48 (Da, _) (.tail _ (.tail _ (.tail _ (.head _)))))⟩
  ·by_cases hlt : k < rw9.length
   ·rw [List.getElem?_append_left hlt] at hk
    exact hrw k d hk
   ·rw [List.getElem?_append_right (Nat.le_of_not_lt hlt)] at hk
    have hk0 : k - rw9.length = 0 := by
     refine Nat.le_antisymm (Nat.le_of_not_lt fun q => ?_) (Nat.zero_le _)
     rw [List.getElem?_eq_none (Nat.succ_le_of_lt q)] at hk
     cases hk
    rw [hk0] at hk
    simp only [List.getElem?_cons_zero, Option.some.injEq] at hk
    subst hk
    have : k = rw9.length := Nat.le_antisymm (Nat.sub_eq_zero_iff_le.mp hk0) (Nat.le_of_not_lt hlt)
    rw [this]
    exact hrs
  ·rcases List.mem_append.mp hd with hd | hd
   ·exact hrf d hd p hp
   ·rw [List.mem_singleton] at hd
    subst hd
    exact off1_mem off48 p (.tail _ (.tail _ (.tail _ (.tail _ (show p ∈ ([(s₁.heap.objs.size + 1 + 1 + 1 + 1, bG), (s₁.heap.objs.size + 1 + 1 + 1, bC3), (s₁.heap.objs.size + 1 + 1, bS2), (s₁.heap.objs.size + 1, oW2)] : List (Addr × Obj)) ++ (ordLed rw9 ++ ((162, tabObj t1) :: (169, tabObj t2) :: (r, listOf (lts ys).toArray ny) :: (R, listOf (intVs pre ++ .int z tz :: rest).toArray nr) :: (Du, listOf (lts qd).toArray ed) :: (Do, listOf (oc.map fun d => Value.ref d.1).toArray (oc.map fun d => Value.ref d.1).length) :: ordLed oc)) from List.mem_append_left _ hp)))))
end K0.K2.K4.K6.K8.K10.K12.K14.K17.K18.K20.K22.K24
namespace K0.K2.K4.K6.K8.K10.K12.K14.K17.K18.K20.K22.K24
theorem eq_2 : K22.pt.U1 := hy @eq_1
end K0.K2.K4.K6.K8.K10.K12.K14.K17.K18.K20.K22.K24
namespace K0.K2.K4.K6.K8.K10.K12.K14.K17.K18.K20.K22.K25
def Z0 := K22.pt.z2
def Da := hx0 Z0
def h46 := hx1 Z0
def tk46 := hx2 Z0
def rw9 := hx3 Z0
def pt : Part1 (aP.d) (K22.pt.Q2 Da h46 tk46 rw9) := by
 apply Part1.mk
 case h =>
  intro hS1
  intro hI X0 l1 X' T' hz50 hps hLs hinv hpx eG F N d1 d3 e1 e3 hk1 hNE' hw0 m1 hfr hyp hyl dS4 ot3 ot4 hb27 hdc hLc hol hoc hof off42 dC3 hmany9 hrl hrw hrf F46 N46 off46
  w_top off
  k_with "pyIter ref" => (k_here; (refine Halt.out ?_))
  rw [half] at F46
  generalize hmt : (_ : Tok) + 1 + 1 + 1 = tlf at F46
  clear hmt
  have F47 := Fr.same F46 (m' := (fun z => if z = Str.ofString "lines" then some (Value.ref Da) else if z = Str.ofString "left" then some (Value.int (((k + 1) / 2 : Nat) : Int) tlf) else if z = Str.ofString "ruler" then some (Value.ref R) else if z = Str.ofString "due" then some (Value.ref Du) else if z = Str.ofString "many" then some (Value.int (many : Int) tmn) else if z = Str.ofString "third" then some (Value.int a3 u3) else if z = Str.ofString "second" then some (Value.int a2 u2) else if z = Str.ofString "first" then some (Value.int a1 u1) else if z = Str.ofString "script" then some (Value.ref ls) else none)) (by
   intro z
   revert z; refine frk (ks := [Str.ofString "lines", Str.ofString "left", Str.ofString "ruler", Str.ofString "due", Str.ofString "many", Str.ofString "third", Str.ofString "second", Str.ofString "first", Str.ofString "script"]) ?_ ?_ ?_; (focus (repeat (first | with_reducible exact supp_none | with_reducible refine supp_ite (by kernel_rfl) ?_ | with_reducible exact supp_look (by kernel_rfl)))); (focus (repeat (first | with_reducible exact supp_none | with_reducible refine supp_ite (by kernel_rfl) ?_ | with_reducible exact supp_look (by kernel_rfl)))); kernel_rfl)
  clear F46
  have hLo := ord_lets hoc hLc
  have hRnd := page_round (hpx.length_eq ▸ (by rw [List.length_map, hps])) hfr (fun j hj => (colsOf_perm hdc hoc hol j hj).1) (fun j hj => (colsOf_perm hdc hoc hol j hj).2)
  have hInv : Inv wd many ((k + 1) / 2) (pageOf wd many (colsOf oc)) := by
   rcases hinv with e | hi
   ·rw [e]; exact hRnd.first hw0
   ·exact hRnd.next hw0 hi
  have hcl : ∀ j, j < wd → (colsOf oc j).length = many := fun j hj => by
   rw [(colsOf_perm hdc hoc hol j hj).1.length_eq, col_len hj many _ (by rw [List.length_map, hyl])]
  have hK4 : ∀ p ∈ ((s₁.heap.objs.size + 1 + 1 + 1), bC3) :: ((s₁.heap.objs.size + 1 + 1), bS2) :: ((s₁.heap.objs.size + 1), oW2) :: (Da, lst (rw9.map fun d => Value.ref d.1)) :: (ordLed rw9 ++ ((162, tabObj t1) :: (169, tabObj t2) :: (r, listOf (lts ys).toArray ny) :: (R, listOf (intVs pre ++ .int z tz :: rest).toArray nr) :: (Du, listOf (lts qd).toArray ed) :: (Do, listOf (oc.map fun d => Value.ref d.1).toArray (oc.map fun d => Value.ref d.1).length) :: ordLed oc)), p.1 ≠ (s₁.heap.objs.size + 1 + 1 + 1 + 1) := fun p hp => by
   refine m_el hp (m_all ?_ ?_)
   ·exact Nat.ne_of_lt (Nat.lt_succ_self _)
   refine m_all ?_ ?_
   ·exact Nat.ne_of_lt (Nat.lt_succ_of_lt (Nat.lt_succ_self _))
   refine m_all ?_ ?_
   ·exact Nat.ne_of_lt (Nat.lt_succ_of_lt (Nat.lt_succ_of_lt (Nat.lt_succ_self _)))
   refine m_all ?_ ?_
   ·exact Ne.symm (off46 (_, bG) (.head _))
   intro p hp
   rcases List.mem_append.mp hp with hp | hp
   ·obtain ⟨d, hd, rfl⟩ := List.mem_map.mp hp
    exact Ne.symm (hrf d hd (_, bG) (.head _))
   refine m_el hp (m_all ?_ ?_)
   ·exact Nat.ne_of_lt (Nat.lt_succ_of_lt (Nat.lt_succ_of_lt (Nat.lt_succ_of_lt (Nat.lt_succ_of_lt l1.1))))
   refine m_all ?_ ?_
   ·exact Nat.ne_of_lt (Nat.lt_succ_of_lt (Nat.lt_succ_of_lt (Nat.lt_succ_of_lt (Nat.lt_succ_of_lt l1.2))))
   refine m_all ?_ ?_
   ·exact Ne.symm m1
   refine m_all ?_ ?_
   ·exact Ne.symm e1
   refine m_all ?_ ?_
   ·exact Ne.symm d1
   refine m_all ?_ ?_
   ·exact Ne.symm (off1_mem off42 (_, bG) (.head _))
   ·intro p hp; obtain ⟨d, hd, rfl⟩ := List.mem_map.mp hp
    exact Nat.ne_of_gt (hof d hd (_, bG) (.head _))
  have N48 : News (ghostOf s₁.heap [(166, 162), (173, 169)]) s₁.heap.objs.size h46 (((s₁.heap.objs.size + 1 + 1 + 1 + 1), bG) :: ((s₁.heap.objs.size + 1 + 1 + 1), bC3) :: ((s₁.heap.objs.size + 1 + 1), bS2) :: ((s₁.heap.objs.size + 1), oW2) :: (Da, lst (rw9.map fun d => Value.ref d.1)) :: (ordLed rw9 ++ ((162, tabObj t1) :: (169, tabObj t2) :: (r, listOf (lts ys).toArray ny) :: (R, listOf (intVs pre ++ .int z tz :: rest).toArray nr) :: (Du, listOf (lts qd).toArray ed) :: (Do, listOf (oc.map fun d => Value.ref d.1).toArray (oc.map fun d => Value.ref d.1).length) :: ordLed oc))) := fun p hp => N46 p (by
   refine m_use ?_ p hp; walk_at "d2")
  clear N46
  refine frest_start ?_
  k_steps
  unfold Halt
  revert hI X0 l1 X' T' hz50 hps hLs hpx eG F N d3 e3 hk1 hNE' hw0 hyp hyl dS4 ot3 ot4 hb27 hdc hol hoc dC3 hmany9 hrl hrw F47 hInv hcl hK4 N48
  exact @hS1 tlf
end K0.K2.K4.K6.K8.K10.K12.K14.K17.K18.K20.K22.K25
namespace K0.K2.K4.K6.K8.K10.K12.K14.K17.K18.K20.K22.K25.K27
def Z0 := K25.pt.z1
def tlf := hx0 Z0
def pt : Part2 (aP.p.a.b.o.g) (aP.R.g.g.c.p.a.b) (K25.pt.Q1 tlf) := by
 apply Part2.mk
 case h =>
  intro hS1 hS2
  intro hI X0 l1 X' T' hz50 hps hLs hpx eG F N d3 e3 hk1 hNE' hw0 hyp hyl dS4 ot3 ot4 hb27 hdc hol hoc dC3 hmany9 hrl hrw F47 hInv hcl hK4 N48
  w_top off
  k_with "call builtin:min" => (k_here; (refine Halt.out ?_))
  k_with "call builtin:max" => (k_here; (refine Halt.out ?_))
  refine for_cell (K := (s₁.heap.objs.size + 1 + 1 + 1 + 1)) (items := (lts qd).toArray) (d := s₁.drawn) (os := s₁.os) AllBare (fun i m led' => led' = ((s₁.heap.objs.size + 1 + 1 + 1), bC3) :: ((s₁.heap.objs.size + 1 + 1), bS2) :: ((s₁.heap.objs.size + 1), oW2) :: (Da, lst (rw9.map fun d => Value.ref d.1)) :: (ordLed rw9 ++ ((162, tabObj t1) :: (169, tabObj t2) :: (r, listOf (lts ys).toArray ny) :: (R, listOf (intVs pre ++ .int z tz :: rest).toArray nr) :: (Du, listOf (lts qd).toArray ed) :: (Do, listOf (oc.map fun d => Value.ref d.1).toArray (oc.map fun d => Value.ref d.1).length) :: ordLed oc)) ∧ m = (fun z => if z = Str.ofString "lines" then some (Value.ref Da) else if z = Str.ofString "left" then some (Value.int (((k + 1) / 2 : Nat) : Int) tlf) else if z = Str.ofString "ruler" then some (Value.ref R) else if z = Str.ofString "due" then some (Value.ref Du) else if z = Str.ofString "many" then some (Value.int (many : Int) tmn) else if z = Str.ofString "third" then some (Value.int a3 u3) else if z = Str.ofString "second" then some (Value.int a2 u2) else if z = Str.ofString "first" then some (Value.int a1 u1) else if z = Str.ofString "script" then some (Value.ref ls) else none)) (by passes_own) rfl rfl (by rfl) (by rfl) F47 N48 eG hK4 hb27 ⟨rfl, rfl⟩ ?hl ?turn ?done
  case hl =>
   rintro i m led h ⟨rfl, rfl⟩ F N
   exact N.isList (.tail _ (.tail _ (.tail _ (.tail _ (List.mem_append_right _ (.tail _ (.tail _ (.tail _ (.tail _ (.head _))))))))))
  case done =>
   rintro m led oK vK h50 tk50 g50 ⟨rfl, rfl⟩ hKl hKd hgb50 F50 N50
   dsimp only
   k_steps
   unfold Halt
   revert X0 l1 X' hz50 hps hLs hpx d3 e3 hk1 hNE' hyp hyl dS4 ot3 ot4 hdc hol hoc dC3 hrl hrw hInv hKd hgb50 F50 N50
   exact @hS1 oK vK h50 tk50 g50
  case turn =>
   rintro i v m led h tk g I oI oK hv ⟨rfl, rfl⟩ hap hKI hKd hgb50 F N
   obtain ⟨p9, hp9, rfl⟩ := lts_get hv
   k_steps
   unfold Halt
   refine LCt.ListComp_T (F₀ := F) (by with_unfolding_all rfl) (by decide) (by rfl) (by decide) (by rfl) ?_
   k_steps
   revert hI X0 X' T' hNE' hw0 hol hmany9 hrl hrw hInv hcl hK4 hap hKI hgb50 F N hKd
   exact @hS2 h tk g I oI oK p9
end K0.K2.K4.K6.K8.K10.K12.K14.K17.K18.K20.K22.K25.K27
namespace K0.K2.K4.K6.K8.K10.K12.K14.K17.K18.K20.K22.K25.K27.K29
def Z0 := K27.pt.z1
def oK := hx0 Z0
def vK := hx1 Z0
def h50 := hx2 Z0
def tk50 := hx3 Z0
def g50 := hx4 Z0
theorem eq_1 : K27.pt.Q1 oK vK h50 tk50 g50 := by
 intro X0 l1 X' hz50 hps hLs hpx d3 e3 hk1 hNE' hyp hyl dS4 ot3 ot4 hdc hol hoc dC3 hrl hrw hInv hKd hgb50 F50 N50
 w_top off
 have hzf := rows_flat hol hrl hrw
 have hzp : ((rw9.flatMap fun d => d.2.1).map (·.1)).Perm (ps.map (·.1)) := by
  rw [hzf]
  exact (page_perm (by rw [List.length_map, hyl]) fun j hj => (colsOf_perm hdc hoc hol j hj).1).trans (hyp.trans hpx)
 have hzl : (rw9.flatMap fun d => d.2.1).length = wd * many := by
  have := hzp.length_eq
  rw [List.length_map, List.length_map, hps] at this
  exact this
 have hLz : Lets (rw9.flatMap fun d => d.2.1) := fun p hp => by
  have : p.1 ∈ ps.map (·.1) := hzp.subset (List.mem_map.mpr ⟨p, hp, rfl⟩)
  obtain ⟨q, hq, e⟩ := List.mem_map.mp this
  rw [← e]
  exact hLs q hq
 refine list_two (hs := fun _ => rfl) (cl := []) F50 (by with_unfolding_all rfl) (by rfl) (fun _ => rfl) (fun _ => rfl) (by decide) (fun _ => rfl) (fun _ => rfl) (by decide) (by decide) ?_
 k_steps
 refine ⟨Da, rw9.map fun d => (d.1, lts d.2.1), (rw9.map fun d => Value.ref d.1).length, _, rfl, rfl, F50, N50, ?_, fun x hx => ?_, ?_, fun Dz h60 tk60 F60 N60 hapz => ?_⟩
 ·rw [List.map_map]
  exact (.tail _ (.tail _ (.tail _ (.tail _ (.head _)))))
 ·obtain ⟨d, hd, rfl⟩ := List.mem_map.mp hx
  exact ⟨d.2.2, (.tail _ (.tail _ (.tail _ (.tail _ (.tail _ (List.mem_append_left _ (List.mem_map.mpr ⟨d, hd, rfl⟩)))))))⟩
 ·rw [rows_lts, lts_length, hzl]
  exact Nat.le_trans (Nat.le_of_lt hz50) (by decide)
 rw [rows_lts] at N60
 have z4 : Apt (s₁.heap.objs.size + 1 + 1 + 1 + 1) Dz := hapz (_, oK) (.head _)
 have z3 : Apt (s₁.heap.objs.size + 1 + 1 + 1) Dz := hapz (_, bC3) (.tail _ (.head _))
 have z2 : Apt (s₁.heap.objs.size + 1 + 1) Dz := hapz (_, bS2) (.tail _ (.tail _ (.head _)))
 have z1 : Apt (s₁.heap.objs.size + 1) Dz := hapz (_, oW2) (.tail _ (.tail _ (.tail _ (.head _))))
 have z5 : Apt 162 Dz := hapz (162, tabObj t1) (.tail _ (.tail _ (.tail _ (.tail _ (.tail _ (List.mem_append_right _ (.head _)))))))
 have z6 : Apt 169 Dz := hapz (169, tabObj t2) (.tail _ (.tail _ (.tail _ (.tail _ (.tail _ (List.mem_append_right _ (.tail _ (.head _))))))))
 have N61 : News (ghostOf s₁.heap [(166, 162), (173, 169)]) s₁.heap.objs.size h60 ((s₁.heap.objs.size + 1 + 1 + 1 + 1, oK) :: (s₁.heap.objs.size + 1 + 1 + 1, bC3) :: (s₁.heap.objs.size + 1 + 1, bS2) :: (s₁.heap.objs.size + 1, oW2) :: (162, tabObj t1) :: (169, tabObj t2) :: (R, listOf (intVs pre ++ .int z tz :: rest).toArray nr) :: (Du, listOf (lts qd).toArray ed) :: (Dz, lst (lts (rw9.flatMap fun d => d.2.1))) :: []) := fun p hp => N60 p (by
  refine m_use ?_ p hp; walk_at "d2")
 clear N60 N50
 k_steps
 rename_i h62 bS5 F62 N62 dS5
 have F63 := Fr.same F62 (m' := (fun z => if z = Str.ofString "left" then some (Value.int (((k + 1) / 2 : Nat) : Int) tlf) else if z = Str.ofString "lines" then some (Value.ref Da) else if z = Str.ofString "ruler" then some (Value.ref R) else if z = Str.ofString "due" then some (Value.ref Du) else if z = Str.ofString "many" then some (Value.int (many : Int) tmn) else if z = Str.ofString "third" then some (Value.int a3 u3) else if z = Str.ofString "second" then some (Value.int a2 u2) else if z = Str.ofString "first" then some (Value.int a1 u1) else if z = Str.ofString "script" then some (Value.ref ls) else none)) (by
  intro z
  revert z; refine frk (ks := [Str.ofString "lines", Str.ofString "left", Str.ofString "ruler", Str.ofString "due", Str.ofString "many", Str.ofString "third", Str.ofString "second", Str.ofString "first", Str.ofString "script"]) ?_ ?_ ?_; (focus (repeat (first | with_reducible exact supp_none | with_reducible refine supp_ite (by kernel_rfl) ?_ | with_reducible exact supp_look (by kernel_rfl)))); (focus (repeat (first | with_reducible exact supp_none | with_reducible refine supp_ite (by kernel_rfl) ?_ | with_reducible exact supp_look (by kernel_rfl)))); kernel_rfl)
 refine wpost_next (led' := (Dz, listOf (lts (rw9.flatMap fun d => d.2.1)).toArray (lts (rw9.flatMap fun d => d.2.1)).length) :: (R, listOf (intVs pre ++ .int z tz :: rest).toArray nr) :: (Du, listOf (lts qd).toArray ed) :: (s₁.heap.objs.size + 1 + 1 + 1 + 1, oK) :: (s₁.heap.objs.size + 1 + 1 + 1, bC3) :: (s₁.heap.objs.size + 1 + 1, bS5) :: (s₁.heap.objs.size + 1, oW2) :: (162, tabObj t1) :: (169, tabObj t2) :: []) ((k + 1) / 2) F63 (fun p hp => N62 p (by
  refine m_use ?_ p hp; walk_at "d2")) (half_lt hk1) hgb50
  ⟨(k + 1) / 2, tlf, some (Value.ref Da), rw9.flatMap fun d => d.2.1, Dz, _, oK, bC3, bS5, _, _, t1, t2, rfl, half_pos hk1, .inr (by rw [hzf]; exact hInv), hzp, hLz, ot3, ot4, hKd, dC3, dS5, ⟨z4, z3, z2, z1, z5, z6⟩, rfl, rfl⟩
end K0.K2.K4.K6.K8.K10.K12.K14.K17.K18.K20.K22.K25.K27.K29
namespace K0.K2.K4.K6.K8.K10.K12.K14.K17.K18.K20.K22.K25.K27.K29
theorem eq_2 : K27.pt.U1 := hy @eq_1
end K0.K2.K4.K6.K8.K10.K12.K14.K17.K18.K20.K22.K25.K27.K29
namespace K0.K2.K4.K6.K8.K10.K12.K14.K17.K18.K20.K22.K25.K27.K30
def Z0 := K27.pt.z2
def h := hx0 Z0
def tk := hx1 Z0
def g := hx2 Z0
def I := hx3 Z0
def oI := hx4 Z0
def oK := hx5 Z0
def p9 := hx6 Z0
theorem eq_1 : K27.pt.Q2 h tk g I oI oK p9 := by
 intro hI X0 X' T' hNE' hw0 hol hmany9 hrl hrw hInv hcl hK4 hap hKI hgb50 F N hKd
 w_top off
 refine CompSrcT.ledger rfl F N (ax := Da) (.tail _ (.tail _ (.tail _ (.tail _ (.tail _ (.head _)))))) (by rw [List.size_toArray, List.length_map, hrl]; exact Nat.le_of_lt (Nat.lt_trans hmany9 (by decide))) fun g2 => ?_
 refine comp_T (fun j ys2 led2 => ys2 = ((rw9.take j).filter fun d => mixB p9.1 (d.2.1.map (·.1))).map (fun d => Value.ref d.1) ∧ led2 = (I, oI) :: ((s₁.heap.objs.size + 1 + 1 + 1 + 1), oK) :: ((s₁.heap.objs.size + 1 + 1 + 1), bC3) :: ((s₁.heap.objs.size + 1 + 1), bS2) :: ((s₁.heap.objs.size + 1), oW2) :: (Da, lst (rw9.map fun d => Value.ref d.1)) :: (ordLed rw9 ++ ((162, tabObj t1) :: (169, tabObj t2) :: (r, listOf (lts ys).toArray ny) :: (R, listOf (intVs pre ++ .int z tz :: rest).toArray nr) :: (Du, listOf (lts qd).toArray ed) :: (Do, listOf (oc.map fun d => Value.ref d.1).toArray (oc.map fun d => Value.ref d.1).length) :: ordLed oc))) ⟨rfl, rfl⟩ ?_ ?_
 ·rintro j v ys2 led2 I2 oI2 C2 oC2 D2 m2' h2' tk2 E2 hj hv2 ⟨rfl, rfl⟩ hC2 hx2 F51 N51 off51 ne51
  obtain ⟨d, hd, rfl⟩ : ∃ d, rw9[j]? = some d ∧ v = .ref d.1 := by
   rw [List.getElem?_toArray, List.getElem?_map, Option.map_eq_some_iff] at hv2
   obtain ⟨d, hd, q⟩ := hv2
   exact ⟨d, hd, q.symm⟩
  have hdm := List.mem_of_getElem? hd
  have hdn : d.2.1 ≠ [] := fun q => by
   have h1 := congrArg List.length (hrw j d hd)
   rw [List.length_map, List.length_map, hol, q] at h1
   exact absurd h1 (Nat.ne_of_lt hw0)
  k_steps
  unfold Halt
  refine min_lts rfl F51 N51 (N51.isList (.tail _ (.tail _ (.tail _ (.tail _ (.tail _ (.tail _ (.tail _ (.tail _ (.tail _ (List.mem_append_left _ (List.mem_map.mpr ⟨d, hdm, rfl⟩)))))))))))) hdn fun h52 c1 t1' tk52 F52 N52 hc1 hm1 => ?_
  clear F51 N51
  k_steps
  ·rename_i hlt9
   have hlt9' : p9.1 < c1 := (one_lt _ _).mp hlt9
   have hmx : mixB p9.1 (d.2.1.map (·.1)) = false := by
    unfold mixB
    rw [mixB_min hc1 hm1, decide_eq_false (Nat.not_le_of_lt hlt9')]
    rfl
   unfold CompEnd
   refine ⟨h52, _, (I, oI) :: ((s₁.heap.objs.size + 1 + 1 + 1 + 1), oK) :: ((s₁.heap.objs.size + 1 + 1 + 1), bC3) :: ((s₁.heap.objs.size + 1 + 1), bS2) :: ((s₁.heap.objs.size + 1), oW2) :: (Da, lst (rw9.map fun d => Value.ref d.1)) :: (ordLed rw9 ++ ((162, tabObj t1) :: (169, tabObj t2) :: (r, listOf (lts ys).toArray ny) :: (R, listOf (intVs pre ++ .int z tz :: rest).toArray nr) :: (Du, listOf (lts qd).toArray ed) :: (Do, listOf (oc.map fun d => Value.ref d.1).toArray (oc.map fun d => Value.ref d.1).length) :: ordLed oc)), rfl, F52, N52, off51, .inr ⟨_, (.tail _ (.tail _ (.tail _ (.tail _ (.tail _ (.head _)))))), rfl, _, rfl⟩, ?_, rfl⟩
   rw [List.take_add_one, hd, Option.toList_some, List.filter_append]
   simp [hmx]
  ·rename_i hge9
   have hge9' : c1 ≤ p9.1 := Nat.le_of_not_lt fun q => hge9 ((one_lt _ _).mpr q)
   unfold Halt
   refine max_lts rfl F52 N52 (N52.isList (.tail _ (.tail _ (.tail _ (.tail _ (.tail _ (.tail _ (.tail _ (.tail _ (.tail _ (List.mem_append_left _ (List.mem_map.mpr ⟨d, hdm, rfl⟩)))))))))))) hdn fun h54 c2 t2' tk54 F54 N54 hc2 hm2 => ?_
   clear F52 N52
   k_steps
   ·rename_i hlt8
    have hlt8' : p9.1 < c2 := (one_lt _ _).mp hlt8
    have hmx : mixB p9.1 (d.2.1.map (·.1)) = true := by
     unfold mixB
     rw [mixB_min hc1 hm1, mixB_max hc2 hm2, decide_eq_true hge9', decide_eq_true hlt8']
     rfl
    unfold CompEnd
    refine ⟨h54, _, (I, oI) :: ((s₁.heap.objs.size + 1 + 1 + 1 + 1), oK) :: ((s₁.heap.objs.size + 1 + 1 + 1), bC3) :: ((s₁.heap.objs.size + 1 + 1), bS2) :: ((s₁.heap.objs.size + 1), oW2) :: (Da, lst (rw9.map fun d => Value.ref d.1)) :: (ordLed rw9 ++ ((162, tabObj t1) :: (169, tabObj t2) :: (r, listOf (lts ys).toArray ny) :: (R, listOf (intVs pre ++ .int z tz :: rest).toArray nr) :: (Du, listOf (lts qd).toArray ed) :: (Do, listOf (oc.map fun d => Value.ref d.1).toArray (oc.map fun d => Value.ref d.1).length) :: ordLed oc)), rfl, F54, N54, off51, .inr ⟨_, (.tail _ (.tail _ (.tail _ (.tail _ (.tail _ (.head _)))))), rfl, _, rfl⟩, ?_, rfl⟩
    rw [List.take_add_one, hd, Option.toList_some, List.filter_append]
    simp [hmx]
   ·rename_i hge8
    have hge8' : ¬ p9.1 < c2 := fun q => hge8 ((one_lt _ _).mpr q)
    have hmx : mixB p9.1 (d.2.1.map (·.1)) = false := by
     unfold mixB
     rw [mixB_min hc1 hm1, mixB_max hc2 hm2, decide_eq_false hge8', Bool.and_false]
    unfold CompEnd
    refine ⟨h54, _, (I, oI) :: ((s₁.heap.objs.size + 1 + 1 + 1 + 1), oK) :: ((s₁.heap.objs.size + 1 + 1 + 1), bC3) :: ((s₁.heap.objs.size + 1 + 1), bS2) :: ((s₁.heap.objs.size + 1), oW2) :: (Da, lst (rw9.map fun d => Value.ref d.1)) :: (ordLed rw9 ++ ((162, tabObj t1) :: (169, tabObj t2) :: (r, listOf (lts ys).toArray ny) :: (R, listOf (intVs pre ++ .int z tz :: rest).toArray nr) :: (Du, listOf (lts qd).toArray ed) :: (Do, listOf (oc.map fun d => Value.ref d.1).toArray (oc.map fun d => Value.ref d.1).length) :: ordLed oc)), rfl, F54, N54, off51, .inr ⟨_, (.tail _ (.tail _ (.tail _ (.tail _ (.tail _ (.head _)))))), rfl, _, rfl⟩, ?_, rfl⟩
    rw [List.take_add_one, hd, Option.toList_some, List.filter_append]
    simp [hmx]
 ·rintro ys2 led2 ⟨rfl, rfl⟩ D2 h53 tk53 F53 N53 off53
  rw [show ((rw9.map fun d => Value.ref d.1).toArray.size) = rw9.length by simp, List.take_length] at N53
  have hcnt : (rw9.filter fun d => mixB p9.1 (d.2.1.map (·.1))).length ≤ (k + 1) / 2 := by
   rw [rows_count hol hrl hrw]
   exact page_mixed hcl hInv p9.1
  have hcz : (rw9.filter fun d => mixB p9.1 (d.2.1.map (·.1))).length < 1000 := by
   refine Nat.lt_of_le_of_lt (List.length_filter_le _ _) ?_
   rw [hrl]
   exact hmany9
  k_steps
  refine len_any (n := (rw9.filter fun d => mixB p9.1 (d.2.1.map (·.1))).length) (N53.isList (.head _)) (by simp) hcz ?_
  k_with "ite" => (refine ite_neg (by k_dec) ?_)
  k_steps
  refine tpost_next F53 (fun p hp => N53 p (.tail _ hp)) hgb50 (fun p hp => ?_) (by exact ⟨oK, _, _, rfl, hKd, hK4, rfl, rfl⟩)
  refine m_el hp (m_all ?_ ?_)
  ·exact hKI
  ·intro p hp; exact (hap p hp).1
end K0.K2.K4.K6.K8.K10.K12.K14.K17.K18.K20.K22.K25.K27.K30
namespace K0.K2.K4.K6.K8.K10.K12.K14.K17.K18.K20.K22.K25.K27.K30
theorem eq_2 : K27.pt.U2 := hy @eq_1
end K0.K2.K4.K6.K8.K10.K12.K14.K17.K18.K20.K22.K25.K27.K30
namespace K0.K2.K4.K6.K8.K10.K12.K14.K17.K18.K20.K22.K25.K27
theorem eq_2 : K25.pt.U1 := hy (pt.h K29.eq_2 K30.eq_2)
end K0.K2.K4.K6.K8.K10.K12.K14.K17.K18.K20.K22.K25.K27
namespace K0.K2.K4.K6.K8.K10.K12.K14.K17.K18.K20.K22.K25
theorem eq_2 : K22.pt.U2 := hy (pt.h K27.eq_2)
end K0.K2.K4.K6.K8.K10.K12.K14.K17.K18.K20.K22.K25
namespace K0.K2.K4.K6.K8.K10.K12.K14.K17.K18.K20.K22
theorem eq_2 : K20.pt.U1 := hy (pt.h K24.eq_2 K25.eq_2)
end K0.K2.K4.K6.K8.K10.K12.K14.K17.K18.K20.K22
namespace K0.K2.K4.K6.K8.K10.K12.K14.K17.K18.K20
theorem eq_2 : K18.pt.U1 := hy (pt.h K22.eq_2)
end K0.K2.K4.K6.K8.K10.K12.K14.K17.K18.K20
namespace K0.K2.K4.K6.K8.K10.K12.K14.K17.K18
theorem eq_2 : K17.pt.U1 := hy (pt.h K20.eq_2)
end K0.K2.K4.K6.K8.K10.K12.K14.K17.K18
namespace K0.K2.K4.K6.K8.K10.K12.K14.K17
theorem eq_2 : K14.pt.U2 := hy (pt.h K18.eq_2)
end K0.K2.K4.K6.K8.K10.K12.K14.K17
namespace K0.K2.K4.K6.K8.K10.K12.K14
theorem eq_2 : K12.pt.U1 := hy (pt.h K16.eq_2 K17.eq_2)
end K0.K2.K4.K6.K8.K10.K12.K14
namespace K0.K2.K4.K6.K8.K10.K12
theorem eq_2 : K10.pt.U1 := hy (pt.h K14.eq_2)
end K0.K2.K4.K6.K8.K10.K12
namespace K0.K2.K4.K6.K8.K10
theorem eq_2 : K8.pt.U1 := hy (pt.h K12.eq_2)
end K0.K2.K4.K6.K8.K10
namespace K0.K2.K4.K6.K8.K11
def Z0 := K8.pt.z2
def twd := hx0 Z0
def k := hx1 Z0
def h := hx2 Z0
def g := hx3 Z0
def tl := hx4 Z0
def ul := hx5 Z0
def xs := hx6 Z0
def dx := hx7 Z0
def Z1 := ht Z0
def nx := hx0 Z1
def bG := hx1 Z1
def bC := hx2 Z1
def bS := hx3 Z1
def p1 := hx4 Z1
def p2 := hx5 Z1
def tk := hx6 Z1
def pt : Part1 (aP.a.b.c.g.p.a.D.c) (K8.pt.Q2 twd k h g tl ul xs dx nx bG bC bS p1 p2 tk) := by
 apply Part1.mk
 case h =>
  intro hS1
  intro hg _ hI X0 B0 l1 X' T' hwd hmany emany hz50 hps hLs hperm hsort hw hzz hne hen dW3 hl1 hinv hpx hLx eS hgb F N d3 e3 hk1
  w_top off
  k_with_none
  k_with "ne" => (refine neN ?_; (try dsimp only); first | with_reducible (first | assumption | (refine Ne.symm ?_; assumption) | exact ne_1 | exact ne_1.symm | exact ne_2 | exact ne_2.symm | exact ne_3 | exact ne_3.symm | exact ne_4 | exact ne_4.symm) | exact (by with_reducible assumption : Apt _ _) | exact Ne.symm (by with_reducible assumption : Apt _ _) | omega)
  k_with "d2" => (repeat' (first | with_reducible (first | exact m_id | exact m_nil | exact m_lid | exact m_mapl | exact m_mapl2 | refine m_cons ?_ ?_ | refine m_app ?_ ?_ | refine m_map ?_ ?_ | refine m_map1 ?_ | exact m_hd | refine m_tl ?_ | exact m_mapr rfl | refine m_tail ?_ | refine m_right ?_ | refine m_inr ?_) | exact m_hd | refine m_tl ?_))
  k_with "d3" => (first | assumption | omega | ktr_room | ktr_units | (simp only [] at *; omega))
  k_with "call ref" => (k_here; (with_reducible show wpAny _ _ (call (Value.ref 380) _) _ _ _); (refine Halt.out ?_))
  k_with "call ref" => (k_here; (with_reducible show wpAny _ _ (call (Value.ref 387) _) _ _ _); (refine Halt.out ?_))
  k_with "call ref" => (k_here; (with_reducible show wpAny _ _ (call (Value.ref 394) _) _ _ _); (refine Halt.out ?_))
  k_with "call ref" => (k_here; (with_reducible show wpAny _ _ (call (Value.ref 401) _) _ _ _); (refine Halt.out ?_))
  k_with "call ref" => (k_here; (with_reducible show wpAny _ _ (call (Value.ref 408) _) _ _ _); (refine Halt.out ?_))
  k_with "call ref" => (k_here; (with_reducible show wpAny _ _ (call (Value.ref 413) _) _ _ _); (refine Halt.out ?_))
  k_with "call ref" => (k_here; (with_reducible show wpAny _ _ (call (Value.ref 211) _) _ _ _); (refine Halt.out ?_))
  k_with "eval ListComp" => (k_here; (refine Halt.out ?_))
  k_with "exec While" => (k_here; (refine Halt.out ?_))
  k_with "exec While Compare" => (k_here; (refine Halt.out ?_))
  k_with "exec For Name Call cons nil" => (k_here; (refine Halt.out ?_))
  k_with "CompSrc" => ((refine Halt.out ?_))
  k_with "call builtin:sorted" => (k_here; (refine Halt.out ?_))
  k_with "exec Assign" => (k_here; (with_reducible show wpAny _ _ (exec (Stmt.Assign [Expr.Name _ _] (Expr.Subscript (Expr.List _ _) _ _) _) _) _ _ _); (refine Halt.out ?_))
  k_with "compareOp NotEq ref ref" => (k_here; (with_reducible rename NoEq => hNE'); (refine Halt.out ?_))
  k_with "subscriptTail Name Slice ref ref" => (k_here; (refine Halt.out ?_))
  k_with "pyIter ref" => (k_here; (refine Halt.out ?_))
  k_with "call builtin:min" => (k_here; (refine Halt.out ?_))
  k_with "call builtin:max" => (k_here; (refine Halt.out ?_))
  have hne9 : NoEq := trivial
  have hw0 : 0 < wd := by (first | exact wd_pos hwd | exact wd_127 hwd | exact many_1000 hmany | exact many_pos hmany | exact dims50 hwd hmany)
  have hw127 : wd < 127 := by (first | exact wd_pos hwd | exact wd_127 hwd | exact many_1000 hmany | exact many_pos hmany | exact dims50 hwd hmany)
  have hk1' := one_of hl1 hk1
  have hI1 : Inv wd many 1 (xs.map (·.1)) := by
   rcases hinv with q | q
   ·rw [hk1'] at q
    exact absurd q (many_ne1 hmany)
   ·rw [hk1'] at q
    exact q
  have hxl : xs.length = wd * many := by
   have := hpx.length_eq
   simp only [List.length_map] at this
   rw [this, hps]
  refine' c_fro (.head _) (.tail _ (.head _)) (by rw [hxl]; exact hz50) hLx.low hw hw0 hw127 hzz hne (by rw [hxl]; exact hen) (gd := _) (cn := _) (a := _) (ccd := _) (cl := _) (E := _) (B := ?kB) (F := F) (X := X') (N := N) (T := T') (hk := ?kk) (hdp := ?kd) (hu := ?ku) (hg := hgb) (hret := ?_)
  case kB => k_asm
  case kk => rfl
  case kd => (first | assumption | ktr_room | ktr_units)
  case ku => (first | assumption | ktr_room | ktr_units)
  intro r ys ny h21 tk21 g21 hb21 F21 N21 lr21 hfro
  have m1 : Apt (s₁.heap.objs.size + 1 + 1 + 1 + 1) r := Nat.ne_of_lt (lr21 (_, bG) (by walk_at "d2"))
  have m2 : Apt (s₁.heap.objs.size + 1 + 1 + 1) r := Nat.ne_of_lt (lr21 (_, bC) (by walk_at "d2"))
  have m3 : Apt (s₁.heap.objs.size + 1 + 1) r := Nat.ne_of_lt (lr21 (_, bS) (by walk_at "d2"))
  have m4 : Apt (s₁.heap.objs.size + 1) r := Nat.ne_of_lt (lr21 (_, oW2) (by walk_at "d2"))
  have m5 : Apt 162 r := Nat.ne_of_lt (lr21 (162, tabObj p1) (by walk_at "d2"))
  have m6 : Apt 169 r := Nat.ne_of_lt (lr21 (169, tabObj p2) (by walk_at "d2"))
  have hfr := fro_fron hfro
  have hyp := fro_perm hfr
  have hyl : ys.length = wd * many := by
   have := hyp.length_eq
   simp only [List.length_map] at this
   rw [this, hxl]
  have hLy : Lets ys := fun p hp => by
   have : p.1 ∈ xs.map (·.1) := hyp.subset (List.mem_map.mpr ⟨p, hp, rfl⟩)
   obtain ⟨q, hq, e⟩ := List.mem_map.mp this
   rw [← e]
   exact hLx q hq
  have N22 : News (ghostOf s₁.heap [(166, 162), (173, 169)]) s₁.heap.objs.size h21 ((r, listOf (lts ys).toArray ny) :: (R, listOf (intVs pre ++ .int z tz :: rest).toArray nr) :: (Du, listOf (lts qd).toArray ed) :: (s₁.heap.objs.size + 1 + 1 + 1 + 1, bG) :: (s₁.heap.objs.size + 1 + 1 + 1, bC) :: (s₁.heap.objs.size + 1 + 1, bS) :: (s₁.heap.objs.size + 1, oW2) :: (162, tabObj p1) :: (169, tabObj p2) :: []) := fun p hp => N21 p (by
   refine m_use ?_ p hp; walk_at "d2")
  clear N21 lr21
  k_steps
  unfold Halt
  rename_i _ bS2 dS4 _ Dr _ lDr h24 F24 N24
  rename_i zz4 _ _ _
  revert zz4 hI X0 B0 l1 X' T' hwd hmany emany hz50 hLs hperm hsort dW3 hl1 hpx F N hne9 hw0 hw127 hI1 hxl hb21 hfr hyp hyl hLy dS4 F24 N24
  exact @hS1 r ys ny g21 bS2 Dr h24 tk
end K0.K2.K4.K6.K8.K11
namespace K0.K2.K4.K6.K8.K11.K40
def Z0 := K11.pt.z1
def r := hx0 Z0
def ys := hx1 Z0
def ny := hx2 Z0
def g21 := hx3 Z0
def bS2 := hx4 Z0
def Dr := hx5 Z0
def h24 := hx6 Z0
def tk := hx7 Z0
def pt : Part2 (aP.o.o.a.c.D.p.a.b) (aP.o.a.c.D.g.c.p.a.b.d.a) (K11.pt.Q1 r ys ny g21 bS2 Dr h24 tk) := by
 apply Part2.mk
 case h =>
  intro hS1 hS2
  intro _ hI X0 B0 l1 X' T' hwd hmany emany hz50 hLs hperm hsort dW3 hl1 hpx F N hne9 hw0 hw127 hI1 hxl hb21 hfr hyp hyl hLy dS4 F24 N24
  w_top off
  have hmany9 : many < 1000 := by (first | exact wd_pos hwd | exact wd_127 hwd | exact many_1000 hmany | exact many_pos hmany | exact dims50 hwd hmany)
  refine frest_start ?_
  k_steps
  unfold Halt
  rename_i hr25 F25 N25 _
  have F26 := Fr.same F25 (m' := (fun z => if z = Str.ofString "number" then none else if z = Str.ofString "line" then none else if z = Str.ofString "read" then some (Value.ref Dr) else if z = Str.ofString "left" then some (Value.int (k : Int) tl) else if z = Str.ofString "lines" then ul else if z = Str.ofString "ruler" then some (Value.ref R) else if z = Str.ofString "due" then some (Value.ref Du) else if z = Str.ofString "many" then some (Value.int (many : Int) tmn) else if z = Str.ofString "third" then some (Value.int a3 u3) else if z = Str.ofString "second" then some (Value.int a2 u2) else if z = Str.ofString "first" then some (Value.int a1 u1) else if z = Str.ofString "script" then some (Value.ref ls) else none)) (by
   intro z
   revert z; refine frk (ks := [Str.ofString "read", Str.ofString "left", Str.ofString "lines", Str.ofString "ruler", Str.ofString "due", Str.ofString "many", Str.ofString "third", Str.ofString "second", Str.ofString "first", Str.ofString "script", Str.ofString "number", Str.ofString "line"]) ?_ ?_ ?_; (focus (repeat (first | with_reducible exact supp_none | with_reducible refine supp_ite (by kernel_rfl) ?_ | with_reducible exact supp_look (by kernel_rfl)))); (focus (repeat (first | with_reducible exact supp_none | with_reducible refine supp_ite (by kernel_rfl) ?_ | with_reducible exact supp_look (by kernel_rfl)))); kernel_rfl)
  refine for_range (n := many) (d := s₁.drawn) (os := s₁.os) AllBare (fun i m led' => ∃ (zs : Row) (dz : Addr) (nz : Nat) (w1 w2 : Option Value), zs.map (·.1) = readP wd (ys.map (·.1)) i ∧ Lets zs ∧ zs.length ≤ i * wd ∧
    led' = (dz, listOf (lts zs).toArray nz) :: (r, listOf (lts ys).toArray ny) :: (Du, listOf (lts qd).toArray ed) :: (s₁.heap.objs.size + 1 + 1 + 1 + 1, bG) :: (s₁.heap.objs.size + 1 + 1 + 1, bC) :: (s₁.heap.objs.size + 1 + 1, bS2) :: (s₁.heap.objs.size + 1, oW2) :: (162, tabObj p1) :: (169, tabObj p2) :: [] ∧ m = (fun z => if z = Str.ofString "number" then w1 else if z = Str.ofString "line" then w2 else if z = Str.ofString "read" then some (Value.ref dz) else if z = Str.ofString "left" then some (Value.int (k : Int) tl) else if z = Str.ofString "lines" then ul else if z = Str.ofString "ruler" then some (Value.ref R) else if z = Str.ofString "due" then some (Value.ref Du) else if z = Str.ofString "many" then some (Value.int (many : Int) tmn) else if z = Str.ofString "third" then some (Value.int a3 u3) else if z = Str.ofString "second" then some (Value.int a2 u2) else if z = Str.ofString "first" then some (Value.int a1 u1) else if z = Str.ofString "script" then some (Value.ref ls) else none)) (by passes_own) rfl rfl rfl (small_up hmany9) rangeSize_up F26 (led := (Dr, listOf (lts []).toArray 0) :: (r, listOf (lts ys).toArray ny) :: (Du, listOf (lts qd).toArray ed) :: (s₁.heap.objs.size + 1 + 1 + 1 + 1, bG) :: (s₁.heap.objs.size + 1 + 1 + 1, bC) :: (s₁.heap.objs.size + 1 + 1, bS2) :: (s₁.heap.objs.size + 1, oW2) :: (162, tabObj p1) :: (169, tabObj p2) :: []) (fun p hp => N25 p (by
   refine m_use ?_ p hp; refine m_cons (.head _) ?_; walk_at "d2")) hr25 hb21 ⟨[], Dr, 0, none, none, rfl, (fun p hp => (List.not_mem_nil hp).elim), Nat.zero_le _, rfl, rfl⟩ ?turn ?done
  case done =>
   rintro m led h50 tk50 g50 ⟨zs, dz, nz, w1, w2, hz1, hz2, hz3, rfl, rfl⟩ hgb50 F50 N50
   dsimp only
   k_steps
   unfold Halt
   revert hI X0 B0 l1 X' T' hz50 hLs hperm hsort hl1 hpx F N hNE' hw0 hI1 hxl hfr hyp hyl hz1 hz2 hz3 hgb50 F50 N50
   exact @hS1 h50 tk50 g50 zs dz nz w1 w2
  case turn =>
   rintro i t m led h tk g I oI hi ⟨zs, dz, nz, w1, w2, hz1, hz2, hz3, rfl, rfl⟩ hap hgb50 F N
   have F27 := Fr.same F (m' := (fun z => if z = Str.ofString "number" then some (Value.int (0 + (i : Int) * 1) t) else if z = Str.ofString "line" then w2 else if z = Str.ofString "read" then some (Value.ref dz) else if z = Str.ofString "left" then some (Value.int (k : Int) tl) else if z = Str.ofString "lines" then ul else if z = Str.ofString "ruler" then some (Value.ref R) else if z = Str.ofString "due" then some (Value.ref Du) else if z = Str.ofString "many" then some (Value.int (many : Int) tmn) else if z = Str.ofString "third" then some (Value.int a3 u3) else if z = Str.ofString "second" then some (Value.int a2 u2) else if z = Str.ofString "first" then some (Value.int a1 u1) else if z = Str.ofString "script" then some (Value.ref ls) else none)) (by
    intro z
    revert z; refine frk (ks := [Str.ofString "number", Str.ofString "line", Str.ofString "read", Str.ofString "left", Str.ofString "lines", Str.ofString "ruler", Str.ofString "due", Str.ofString "many", Str.ofString "third", Str.ofString "second", Str.ofString "first", Str.ofString "script"]) ?_ ?_ ?_; (focus (repeat (first | with_reducible exact supp_none | with_reducible refine supp_ite (by kernel_rfl) ?_ | with_reducible exact supp_look (by kernel_rfl)))); (focus (repeat (first | with_reducible exact supp_none | with_reducible refine supp_ite (by kernel_rfl) ?_ | with_reducible exact supp_look (by kernel_rfl)))); kernel_rfl)
   rw [show (0 : Int) + (i : Int) * 1 = (i : Int) by simp] at F27
   clear F
   k_steps
   unfold Halt
   revert X0 X' hz50 hne9 hw127 hyl hLy hi hz1 hz2 hz3 hap hgb50 N F27
   exact @hS2 i t h tk g I oI zs dz nz w2
end K0.K2.K4.K6.K8.K11.K40
namespace K0.K2.K4.K6.K8.K11.K40.K42
def Z0 := K40.pt.z1
def h50 := hx0 Z0
def tk50 := hx1 Z0
def g50 := hx2 Z0
def zs := hx3 Z0
def dz := hx4 Z0
def nz := hx5 Z0
def w1 := hx6 Z0
def w2 := hx7 Z0
def pt : Part1 (aP.a) (K40.pt.Q1 h50 tk50 g50 zs dz nz w1 w2) := by
 apply Part1.mk
 case h =>
  intro hS1
  intro hI X0 B0 l1 X' T' hz50 hLs hperm hsort hl1 hpx F N hNE' hw0 hI1 hxl hfr hyp hyl hz1 hz2 hz3 hgb50 F50 N50
  w_top off
  k_with_none
  k_with "ne" => (refine neN ?_; (try dsimp only); first | with_reducible (first | assumption | (refine Ne.symm ?_; assumption) | exact ne_1 | exact ne_1.symm | exact ne_2 | exact ne_2.symm | exact ne_3 | exact ne_3.symm | exact ne_4 | exact ne_4.symm) | exact (by with_reducible assumption : Apt _ _) | exact Ne.symm (by with_reducible assumption : Apt _ _) | omega)
  k_with "d2" => (repeat' (first | with_reducible (first | exact m_id | exact m_nil | exact m_lid | exact m_mapl | exact m_mapl2 | refine m_cons ?_ ?_ | refine m_app ?_ ?_ | refine m_map ?_ ?_ | refine m_map1 ?_ | exact m_hd | refine m_tl ?_ | exact m_mapr rfl | refine m_tail ?_ | refine m_right ?_ | refine m_inr ?_) | exact m_hd | refine m_tl ?_))
  k_with "d3" => (first | assumption | omega | ktr_room | ktr_units | (simp only [] at *; omega))
  k_with "call ref" => (k_here; (with_reducible show wpAny _ _ (call (Value.ref 380) _) _ _ _); (refine Halt.out ?_))
  k_with "call ref" => (k_here; (with_reducible show wpAny _ _ (call (Value.ref 387) _) _ _ _); (refine Halt.out ?_))
  k_with "call ref" => (k_here; (with_reducible show wpAny _ _ (call (Value.ref 394) _) _ _ _); (refine Halt.out ?_))
  k_with "call ref" => (k_here; (with_reducible show wpAny _ _ (call (Value.ref 401) _) _ _ _); (refine Halt.out ?_))
  k_with "call ref" => (k_here; (with_reducible show wpAny _ _ (call (Value.ref 408) _) _ _ _); (refine Halt.out ?_))
  k_with "call ref" => (k_here; (with_reducible show wpAny _ _ (call (Value.ref 413) _) _ _ _); (refine Halt.out ?_))
  k_with "call ref" => (k_here; (with_reducible show wpAny _ _ (call (Value.ref 211) _) _ _ _); (refine Halt.out ?_))
  k_with "eval ListComp" => (k_here; (refine Halt.out ?_))
  k_with "exec While" => (k_here; (refine Halt.out ?_))
  k_with "exec While Compare" => (k_here; (refine Halt.out ?_))
  k_with "exec For Name Call cons nil" => (k_here; (refine Halt.out ?_))
  k_with "CompSrc" => ((refine Halt.out ?_))
  k_with "call builtin:sorted" => (k_here; (refine Halt.out ?_))
  k_with "exec Assign" => (k_here; (with_reducible show wpAny _ _ (exec (Stmt.Assign [Expr.Name _ _] (Expr.Subscript (Expr.List _ _) _ _) _) _) _ _ _); (refine Halt.out ?_))
  k_with "compareOp NotEq ref ref" => (k_here; (with_reducible rename NoEq => hNE'); (refine Halt.out ?_))
  k_with "subscriptTail Name Slice ref ref" => (k_here; (refine Halt.out ?_))
  k_with "pyIter ref" => (k_here; (refine Halt.out ?_))
  k_with "exec For Tuple Call" => (k_here; (refine Halt.out ?_))
  k_with "call type:zip" => (k_here; (refine Halt.out ?_))
  k_with "call builtin:min" => (k_here; (refine Halt.out ?_))
  k_with "call builtin:max" => (k_here; (refine Halt.out ?_))
  have hyq : (ys.map (·.1)).Perm (qd.map (·.1)) := hyp.trans (hpx.trans hperm.symm)
  obtain ⟨hzd, hzs⟩ := read_done hI1 hw0 (by rw [List.length_map]; exact hxl) hfr hz1 hyl hyq hsort
  have hLd : Lets qd := fun p hp => by
   have : p.1 ∈ ps.map (·.1) := hperm.subset (List.mem_map.mpr ⟨p, hp, rfl⟩)
   obtain ⟨q, hq, e⟩ := List.mem_map.mp this
   rw [← e]
   exact hLs q hq
  refine ne_lts hz2.low hLd.low (N50.isList (.head _)) (N50.isList (.tail _ (.tail _ (.head _)))) (by (first | assumption | ktr_room | ktr_units)) ?_
  rw [decide_eq_true hzd, Bool.not_true]
  k_steps
  unfold Halt
  refine frest_start ?_
  k_steps
  unfold Halt
  revert hI X0 B0 l1 X' T' hz50 hl1 F N hNE' hz3 hgb50 F50 N50 hzs
  obtain ⟨dm, _⟩ : ∃ n, n = 0 := ⟨0, rfl⟩
  exact @hS1 dm
end K0.K2.K4.K6.K8.K11.K40.K42
namespace K0.K2.K4.K6.K8.K11.K40.K42.K45
def Z0 := K42.pt.z1
def dm := hx0 Z0
def pt : Part1 (aP.b.g.g.c.c.c.c.c.b.c) (K42.pt.Q1 dm) := by
 apply Part1.mk
 case h =>
  intro hS1
  intro hI X0 B0 l1 X' T' hz50 hl1 F N hNE' hz3 hgb50 F50 N50 hzs
  w_top off
  refine from_lts F50 N50 (ps := zs) (.head _) (IsPart.int _ _) .none (Nat.lt_of_le_of_lt hz3 (by rw [Nat.mul_comm]; exact Nat.lt_trans hz50 (by decide))) ?_ (by with_unfolding_all rfl) (by kmk_pure)
  intro Dr2 h52 F52 N52 lDr2
  k_steps
  unfold Halt
  refine zip_lists F52 N52 (l1 := dz) (l2 := Dr2) (xs := (lts zs).toArray) (ys := (lts (zs.drop 1)).toArray) (N52.isList (.tail _ (.head _))) (N52.isList (.head _)) fun zz zTI zTO zI1 zI2 zo1 zo2 h53 zap ho1 ho2 F53 N53 hapZ => ?_
  k_steps
  unfold Halt
  revert hI X0 B0 l1 X' T' hl1 F N hNE' hgb50 hzs zap ho1 ho2 F53 N53 hapZ
  exact @hS1 Dr2 h52 zz zTI zTO zI1 zI2 zo1 zo2 h53
end K0.K2.K4.K6.K8.K11.K40.K42.K45
namespace K0.K2.K4.K6.K8.K11.K40.K42.K45.K46
def Z0 := K45.pt.z1
def Dr2 := hx0 Z0
def h52 := hx1 Z0
def zz := hx2 Z0
def zTI := hx3 Z0
def zTO := hx4 Z0
def zI1 := hx5 Z0
def zI2 := hx6 Z0
def zo1 := hx7 Z0
def Z1 := ht Z0
def zo2 := hx0 Z1
def h53 := hx1 Z1
def pt : Part2 (aP.o.o.o.p.a.b) (aP.a.d.d.R.R.o.q.p.b.a) (K45.pt.Q1 Dr2 h52 zz zTI zTO zI1 zI2 zo1 zo2 h53) := by
  apply Part2.mk
  case h =>
    intro hS1 hS2
    intro hI X0 B0 l1 X' T' hl1 F N hNE' hgb50 hzs zap ho1 ho2 F53 N53 hapZ
    w_top off
    refine wpAny_pyIter_zip (N53 (zz, zipO .none zTI zTO) (by simp)).1 ?_
    have F54 := Fr.same F53 (m' := (fun z => if z = Str.ofString "told" then none else if z = Str.ofString "other" then none else if z = Str.ofString "one" then none else if z = Str.ofString "number" then w1 else if z = Str.ofString "line" then w2 else if z = Str.ofString "read" then some (Value.ref dz) else if z = Str.ofString "left" then some (Value.int (k : Int) tl) else if z = Str.ofString "lines" then ul else if z = Str.ofString "ruler" then some (Value.ref R) else if z = Str.ofString "due" then some (Value.ref Du) else if z = Str.ofString "many" then some (Value.int (many : Int) tmn) else if z = Str.ofString "third" then some (Value.int a3 u3) else if z = Str.ofString "second" then some (Value.int a2 u2) else if z = Str.ofString "first" then some (Value.int a1 u1) else if z = Str.ofString "script" then some (Value.ref ls) else none)) (by
      intro z
      revert z; refine frk (ks := [Str.ofString "read", Str.ofString "left", Str.ofString "lines", Str.ofString "ruler", Str.ofString "due", Str.ofString "many", Str.ofString "third", Str.ofString "second", Str.ofString "first", Str.ofString "script", Str.ofString "number", Str.ofString "line", Str.ofString "one", Str.ofString "other", Str.ofString "told"]) ?_ ?_ ?_; (focus (repeat (first | with_reducible exact supp_none | with_reducible refine supp_ite (by kernel_rfl) ?_ | with_reducible exact supp_look (by kernel_rfl)))); (focus (repeat (first | with_reducible exact supp_none | with_reducible refine supp_ite (by kernel_rfl) ?_ | with_reducible exact supp_look (by kernel_rfl)))); kernel_rfl)
    refine for_zipL (n := (zs.drop 1).length) (l1 := dz) (l2 := Dr2) (xs := (lts zs).toArray) (ys := (lts (zs.drop 1)).toArray) (d := s₁.drawn) (os := s₁.os) AllBare (fun i m led' => ∃ (w3 w4 w5 : Option Value),
        led' = (Dr2, listOf (lts (zs.drop 1)).toArray 0) :: (dz, listOf (lts zs).toArray nz) :: (r, listOf (lts ys).toArray ny) :: (Du, listOf (lts qd).toArray ed) :: (s₁.heap.objs.size + 1 + 1 + 1 + 1, bG) :: (s₁.heap.objs.size + 1 + 1 + 1, bC) :: (s₁.heap.objs.size + 1 + 1, bS2) :: (s₁.heap.objs.size + 1, oW2) :: (162, tabObj p1) :: (169, tabObj p2) :: [] ∧ m = (fun z => if z = Str.ofString "told" then w5 else if z = Str.ofString "other" then w4 else if z = Str.ofString "one" then w3 else if z = Str.ofString "number" then w1 else if z = Str.ofString "line" then w2 else if z = Str.ofString "read" then some (Value.ref dz) else if z = Str.ofString "left" then some (Value.int (k : Int) tl) else if z = Str.ofString "lines" then ul else if z = Str.ofString "ruler" then some (Value.ref R) else if z = Str.ofString "due" then some (Value.ref Du) else if z = Str.ofString "many" then some (Value.int (many : Int) tmn) else if z = Str.ofString "third" then some (Value.int a3 u3) else if z = Str.ofString "second" then some (Value.int a2 u2) else if z = Str.ofString "first" then some (Value.int a1 u1) else if z = Str.ofString "script" then some (Value.ref ls) else none)) (by passes_own) rfl rfl rfl rfl zap (by rw [List.size_toArray, lts_length, List.length_drop]; exact Nat.sub_le _ _) (by rw [List.size_toArray, lts_length]) F54 N53 ho1 ho2 hapZ hgb50 ⟨none, none, none, rfl, rfl⟩ ?hl1 ?hl2 ?turn ?done
    case hl1 =>
      rintro i m led h ⟨w3, w4, w5, rfl, rfl⟩ F N
      exact N.isList (.tail _ (.head _))
    case hl2 =>
      rintro i m led h ⟨w3, w4, w5, rfl, rfl⟩ F N
      exact N.isList (.head _)
    case done =>
      rintro m led h60 tk60 g60 ⟨w3, w4, w5, rfl, rfl⟩ hgb60 F60 N60
      dsimp only
      k_steps
      revert X0 X' hNE' hgb60 F60
      exact @hS1 h60 tk60 g60 w3 w4 w5
    case turn =>
      rintro i va vb m led h tk g zl hi hva hvb ⟨w3, w4, w5, rfl, rfl⟩ hap hgb60 F N
      obtain ⟨p8, q8, rfl, rfl, hpm, hqm, hle⟩ := pair_le hzs hva hvb
      have F61 := Fr.same F (m' := (fun z => if z = Str.ofString "told" then w5 else if z = Str.ofString "other" then some (Value.str ⟨#[q8.1]⟩ q8.2) else if z = Str.ofString "one" then some (Value.str ⟨#[p8.1]⟩ p8.2) else if z = Str.ofString "number" then w1 else if z = Str.ofString "line" then w2 else if z = Str.ofString "read" then some (Value.ref dz) else if z = Str.ofString "left" then some (Value.int (k : Int) tl) else if z = Str.ofString "lines" then ul else if z = Str.ofString "ruler" then some (Value.ref R) else if z = Str.ofString "due" then some (Value.ref Du) else if z = Str.ofString "many" then some (Value.int (many : Int) tmn) else if z = Str.ofString "third" then some (Value.int a3 u3) else if z = Str.ofString "second" then some (Value.int a2 u2) else if z = Str.ofString "first" then some (Value.int a1 u1) else if z = Str.ofString "script" then some (Value.ref ls) else none)) (by
        intro z
        revert z; refine frk (ks := [Str.ofString "one", Str.ofString "other", Str.ofString "told", Str.ofString "number", Str.ofString "line", Str.ofString "read", Str.ofString "left", Str.ofString "lines", Str.ofString "ruler", Str.ofString "due", Str.ofString "many", Str.ofString "third", Str.ofString "second", Str.ofString "first", Str.ofString "script"]) ?_ ?_ ?_; (focus (repeat (first | with_reducible exact supp_none | with_reducible refine supp_ite (by kernel_rfl) ?_ | with_reducible exact supp_look (by kernel_rfl)))); (focus (repeat (first | with_reducible exact supp_none | with_reducible refine supp_ite (by kernel_rfl) ?_ | with_reducible exact supp_look (by kernel_rfl)))); kernel_rfl)
      clear F
      k_steps
      rename_i zz156 _ _ zz159 zz160 _
      revert hI X0 B0 X' T' hNE' hi hap hgb60 N hle F61
      exact @hS2 i h g zl w5 p8 q8 zz156 zz159 zz160
end K0.K2.K4.K6.K8.K11.K40.K42.K45.K46
namespace K0.K2.K4.K6.K8.K11.K40.K42.K45.K46.K47
def Z0 := K46.pt.z1
def h60 := hx0 Z0
def tk60 := hx1 Z0
def g60 := hx2 Z0
def w3 := hx3 Z0
def w4 := hx4 Z0
def w5 := hx5 Z0
theorem eq_1 : K46.pt.Q1 h60 tk60 g60 w3 w4 w5 := by
 intro X0 X' hNE' hgb60 F60
 w_top off
 exact ⟨rfl, fun b o e => F60.keep b o e, rfl, hgb60⟩
end K0.K2.K4.K6.K8.K11.K40.K42.K45.K46.K47
namespace K0.K2.K4.K6.K8.K11.K40.K42.K45.K46.K47
theorem eq_2 : K46.pt.U1 := hy @eq_1
end K0.K2.K4.K6.K8.K11.K40.K42.K45.K46.K47
namespace K0.K2.K4.K6.K8.K11.K40.K42.K45.K46.K48
def Z0 := K46.pt.z2
def i := hx0 Z0
def h := hx1 Z0
def g := hx2 Z0
def zl := hx3 Z0
def w5 := hx4 Z0
def p8 := hx5 Z0
def q8 := hx6 Z0
def zz156 := hx7 Z0
def Z1 := ht Z0
def zz159 := hx0 Z1
def zz160 := hx1 Z1
def pt : Part2 (aP.a.b.c.d.d.d) (aP.a.b.c.d.d.d) (K46.pt.Q2 i h g zl w5 p8 q8 zz156 zz159 zz160) := by
 apply Part2.mk
 case h =>
  intro hS1 hS2
  intro hI X0 B0 X' T' hNE' hi hap hgb60 N hle F61
  w_top off
  rcases Nat.eq_or_lt_of_le hle with heq8 | hlt8
  ·skip
   unfold Halt
   refine' c_strcoll _ _ _ _ _ _ _ _ _ _ _ _ _ _ _ _ _ ?kB F61 X' N T' ?kk ?kd ?ku ?_
   case kB => k_asm
   case kk => rfl
   case kd => (first | assumption | ktr_room | ktr_units)
   case ku => (first | assumption | ktr_room | ktr_units)
   intro t62 h62 tk62 F62 N62
   rw [coll_same heq8]
   clear F61 N
   k_steps
   unfold Halt
   refine' c_strcoll _ _ _ _ _ _ _ _ _ _ _ _ _ _ _ _ _ ?kB F62 X' N62 T' ?kk ?kd ?ku ?_
   case kB => k_asm
   case kk => rfl
   case kd => (first | assumption | ktr_room | ktr_units)
   case ku => (first | assumption | ktr_room | ktr_units)
   intro t63 h63 tk63 F63 N63
   rw [coll_same heq8.symm]
   clear F62 N62
   k_steps
   unfold Halt
   refine' c_strcoll _ _ _ _ _ _ _ _ _ _ _ _ _ _ _ _ _ ?kB F63 X' N63 T' ?kk ?kd ?ku ?_
   case kB => k_asm
   case kk => rfl
   case kd => (first | assumption | ktr_room | ktr_units)
   case ku => (first | assumption | ktr_room | ktr_units)
   intro t64 h64 tk64 F64 N64
   rw [coll_begin]
   clear F63 N63
   k_steps
   unfold Halt
   rename_i lT hT1 lT1 hT2 FT NT
   revert X0 X' T' hNE' hi hap hgb60 heq8 FT NT
   exact @hS1 t62 t63 t64 lT hT2 tk
  ·skip
   unfold Halt
   refine' c_strcoll _ _ _ _ _ _ _ _ _ _ _ _ _ _ _ _ _ ?kB F61 X' N T' ?kk ?kd ?ku ?_
   case kB => k_asm
   case kk => rfl
   case kd => (first | assumption | ktr_room | ktr_units)
   case ku => (first | assumption | ktr_room | ktr_units)
   intro t62 h62 tk62 F62 N62
   rw [coll_up hlt8]
   clear F61 N
   k_steps
   unfold Halt
   refine' c_strcoll _ _ _ _ _ _ _ _ _ _ _ _ _ _ _ _ _ ?kB F62 X' N62 T' ?kk ?kd ?ku ?_
   case kB => k_asm
   case kk => rfl
   case kd => (first | assumption | ktr_room | ktr_units)
   case ku => (first | assumption | ktr_room | ktr_units)
   intro t63 h63 tk63 F63 N63
   rw [coll_down hlt8]
   clear F62 N62
   k_steps
   unfold Halt
   refine' c_strcoll _ _ _ _ _ _ _ _ _ _ _ _ _ _ _ _ _ ?kB F63 X' N63 T' ?kk ?kd ?ku ?_
   case kB => k_asm
   case kk => rfl
   case kd => (first | assumption | ktr_room | ktr_units)
   case ku => (first | assumption | ktr_room | ktr_units)
   intro t64 h64 tk64 F64 N64
   rw [coll_begin]
   clear F63 N63
   k_steps
   unfold Halt
   rename_i lT hT1 lT1 hT2 FT NT
   revert X0 X' T' hNE' hi hap hgb60 hlt8 FT NT
   exact @hS2 t62 t63 t64 lT hT2 tk
end K0.K2.K4.K6.K8.K11.K40.K42.K45.K46.K48
namespace K0.K2.K4.K6.K8.K11.K40.K42.K45.K46.K48.K50a
def Z0 := K48.pt.z1
def t62 := hx0 Z0
def t63 := hx1 Z0
def t64 := hx2 Z0
def lT := hx3 Z0
def hT2 := hx4 Z0
def tk := hx5 Z0
theorem eq_1 : K48.pt.Q1 t62 t63 t64 lT hT2 tk := by
 intro X0 X' T' hNE' hi hap hgb60 heq8 FT NT
 w_top off
 refine LCg.ListComp_U (F₀ := FT) (by with_unfolding_all rfl) (by decide) (by rfl) (by decide) (by rfl) ?_
 k_steps
 refine CompSrc.ledger rfl FT NT (ax := lT) (its := #[Value.int 0 t62, Value.int 0 t63, Value.int (-1) t64]) (k := 0) (.head _) (by show 3 ≤ sizeLine; decide) fun g => ?_
 refine comp_U (fun i vs9 led' => ∃ (rs : List (Str × Tok)), vs9 = strValues rs ∧ rs.map (·.1) = ([0, 0, -1].take i).map (fun n : Int => Str.ofString (toString n)) ∧ led' = (lT, listOf #[Value.int 0 t62, Value.int 0 t63, Value.int (-1) t64] 0) :: (zl ++ ((Dr2, listOf (lts (zs.drop 1)).toArray 0) :: (dz, listOf (lts zs).toArray nz) :: (r, listOf (lts ys).toArray ny) :: (Du, listOf (lts qd).toArray ed) :: (s₁.heap.objs.size + 1 + 1 + 1 + 1, bG) :: (s₁.heap.objs.size + 1 + 1 + 1, bC) :: (s₁.heap.objs.size + 1 + 1, bS2) :: (s₁.heap.objs.size + 1, oW2) :: (162, tabObj p1) :: (169, tabObj p2) :: []))) ⟨[], rfl, rfl, rfl⟩ ?_ ?_
 ·rintro i v vs9 led' I oI Cc oCc Da m₂ h tk E' hi hv ⟨rs, rfl, hrs, rfl⟩ hC hx2 F65 N65 off ne
  obtain ⟨x, tx, hx, rfl⟩ : ∃ x tx, ([0, 0, -1] : List Int)[i]? = some x ∧ v = .int x tx := by
   match i, hv with
   | 0, hv => exact ⟨_, _, rfl, (Option.some.inj hv).symm⟩
   | 1, hv => exact ⟨_, _, rfl, (Option.some.inj hv).symm⟩
   | 2, hv => exact ⟨_, _, rfl, (Option.some.inj hv).symm⟩
  have hxs : x.natAbs.log2 < 1920 := by
   match i, hx with
   | 0, hx => cases hx; decide
   | 1, hx => cases hx; decide
   | 2, hx => cases hx; decide
  k_steps
  refine P.repr_of_int hxs ?_
  k_steps
  unfold CompEnd
  refine ⟨h, _, (lT, listOf #[Value.int 0 t62, Value.int 0 t63, Value.int (-1) t64] 0) :: (zl ++ ((Dr2, listOf (lts (zs.drop 1)).toArray 0) :: (dz, listOf (lts zs).toArray nz) :: (r, listOf (lts ys).toArray ny) :: (Du, listOf (lts qd).toArray ed) :: (s₁.heap.objs.size + 1 + 1 + 1 + 1, bG) :: (s₁.heap.objs.size + 1 + 1 + 1, bC) :: (s₁.heap.objs.size + 1 + 1, bS2) :: (s₁.heap.objs.size + 1, oW2) :: (162, tabObj p1) :: (169, tabObj p2) :: [])), rfl, F65, N65, off, .inr ⟨_, .head _, rfl, _, rfl⟩, rs ++ [(Str.ofString (toString x), _)], by rw [strValues, strValues, List.map_append]; rfl, shown_snoc hrs hx, rfl⟩
 ·rintro ys2 led2 ⟨rs, rfl, hrs, rfl⟩ D2 h66 tk66 F66 N66 off66
  k_steps
  ·rename_i lP h67 F67 N67 _
   unfold Halt
   refine ne_vals (ss := [(Str.ofString "0", tk66), (Str.ofString "0", tk66 + 1), (Str.ofString "-1", tk66 + 1 + 1)]) hrs (fun x hx => by simp only [List.map_cons, List.map_nil, List.mem_cons, List.not_mem_nil, or_false] at hx; rcases hx with rfl | rfl | rfl <;> first | exact ok_0 | exact ok_1 | exact ok_m1) (N67.isList (.tail _ (.head _))) (N67.isList (.head _)) (by (first | assumption | ktr_room | ktr_units)) ?_
   k_steps
   have F68 := Fr.same F67 (m' := (fun z => if z = Str.ofString "told" then some (Value.ref lT) else if z = Str.ofString "other" then some (Value.str ⟨#[q8.1]⟩ q8.2) else if z = Str.ofString "one" then some (Value.str ⟨#[p8.1]⟩ p8.2) else if z = Str.ofString "number" then w1 else if z = Str.ofString "line" then w2 else if z = Str.ofString "read" then some (Value.ref dz) else if z = Str.ofString "left" then some (Value.int (k : Int) tl) else if z = Str.ofString "lines" then ul else if z = Str.ofString "ruler" then some (Value.ref R) else if z = Str.ofString "due" then some (Value.ref Du) else if z = Str.ofString "many" then some (Value.int (many : Int) tmn) else if z = Str.ofString "third" then some (Value.int a3 u3) else if z = Str.ofString "second" then some (Value.int a2 u2) else if z = Str.ofString "first" then some (Value.int a1 u1) else if z = Str.ofString "script" then some (Value.ref ls) else none)) (by
    intro z
    revert z; refine frk (ks := [Str.ofString "told", Str.ofString "other", Str.ofString "one", Str.ofString "number", Str.ofString "line", Str.ofString "read", Str.ofString "left", Str.ofString "lines", Str.ofString "ruler", Str.ofString "due", Str.ofString "many", Str.ofString "third", Str.ofString "second", Str.ofString "first", Str.ofString "script"]) ?_ ?_ ?_; (focus (repeat (first | with_reducible exact supp_none | with_reducible refine supp_ite (by kernel_rfl) ?_ | with_reducible exact supp_look (by kernel_rfl)))); (focus (repeat (first | with_reducible exact supp_none | with_reducible refine supp_ite (by kernel_rfl) ?_ | with_reducible exact supp_look (by kernel_rfl)))); kernel_rfl)
   exact zpost_next F68 (fun p hp => N67 p (.tail _ (.tail _ (.tail _ hp)))) hgb60 hap ⟨some (Value.str ⟨#[p8.1]⟩ p8.2), some (Value.str ⟨#[q8.1]⟩ q8.2), some (Value.ref lT), rfl, rfl⟩
  ·rename_i hab9 _ _ _ _ _
   exact absurd hab9 (by simp [heq8])
end K0.K2.K4.K6.K8.K11.K40.K42.K45.K46.K48.K50a
namespace K0.K2.K4.K6.K8.K11.K40.K42.K45.K46.K48.K50a
theorem eq_2 : K48.pt.U1 := hy @eq_1
end K0.K2.K4.K6.K8.K11.K40.K42.K45.K46.K48.K50a
namespace K0.K2.K4.K6.K8.K11.K40.K42.K45.K46.K48.K50b
def Z0 := K48.pt.z2
def t62 := hx0 Z0
def t63 := hx1 Z0
def t64 := hx2 Z0
def lT := hx3 Z0
def hT2 := hx4 Z0
def tk := hx5 Z0
theorem eq_1 : K48.pt.Q2 t62 t63 t64 lT hT2 tk := by
 intro X0 X' T' hNE' hi hap hgb60 hlt8 FT NT
 w_top off
 refine LCg.ListComp_U (F₀ := FT) (by with_unfolding_all rfl) (by decide) (by rfl) (by decide) (by rfl) ?_
 k_steps
 refine CompSrc.ledger rfl FT NT (ax := lT) (its := #[Value.int (-1) t62, Value.int 1 t63, Value.int (-1) t64]) (k := 0) (.head _) (by show 3 ≤ sizeLine; decide) fun g => ?_
 refine comp_U (fun i vs9 led' => ∃ (rs : List (Str × Tok)), vs9 = strValues rs ∧ rs.map (·.1) = ([(-1), 1, -1].take i).map (fun n : Int => Str.ofString (toString n)) ∧ led' = (lT, listOf #[Value.int (-1) t62, Value.int 1 t63, Value.int (-1) t64] 0) :: (zl ++ ((Dr2, listOf (lts (zs.drop 1)).toArray 0) :: (dz, listOf (lts zs).toArray nz) :: (r, listOf (lts ys).toArray ny) :: (Du, listOf (lts qd).toArray ed) :: (s₁.heap.objs.size + 1 + 1 + 1 + 1, bG) :: (s₁.heap.objs.size + 1 + 1 + 1, bC) :: (s₁.heap.objs.size + 1 + 1, bS2) :: (s₁.heap.objs.size + 1, oW2) :: (162, tabObj p1) :: (169, tabObj p2) :: []))) ⟨[], rfl, rfl, rfl⟩ ?_ ?_
 ·rintro i v vs9 led' I oI Cc oCc Da m₂ h tk E' hi hv ⟨rs, rfl, hrs, rfl⟩ hC hx2 F65 N65 off ne
  obtain ⟨x, tx, hx, rfl⟩ : ∃ x tx, ([(-1), 1, -1] : List Int)[i]? = some x ∧ v = .int x tx := by
   match i, hv with
   | 0, hv => exact ⟨_, _, rfl, (Option.some.inj hv).symm⟩
   | 1, hv => exact ⟨_, _, rfl, (Option.some.inj hv).symm⟩
   | 2, hv => exact ⟨_, _, rfl, (Option.some.inj hv).symm⟩
  have hxs : x.natAbs.log2 < 1920 := by
   match i, hx with
   | 0, hx => cases hx; decide
   | 1, hx => cases hx; decide
   | 2, hx => cases hx; decide
  k_steps
  refine P.repr_of_int hxs ?_
  k_steps
  unfold CompEnd
  refine ⟨h, _, (lT, listOf #[Value.int (-1) t62, Value.int 1 t63, Value.int (-1) t64] 0) :: (zl ++ ((Dr2, listOf (lts (zs.drop 1)).toArray 0) :: (dz, listOf (lts zs).toArray nz) :: (r, listOf (lts ys).toArray ny) :: (Du, listOf (lts qd).toArray ed) :: (s₁.heap.objs.size + 1 + 1 + 1 + 1, bG) :: (s₁.heap.objs.size + 1 + 1 + 1, bC) :: (s₁.heap.objs.size + 1 + 1, bS2) :: (s₁.heap.objs.size + 1, oW2) :: (162, tabObj p1) :: (169, tabObj p2) :: [])), rfl, F65, N65, off, .inr ⟨_, .head _, rfl, _, rfl⟩, rs ++ [(Str.ofString (toString x), _)], by rw [strValues, strValues, List.map_append]; rfl, shown_snoc hrs hx, rfl⟩
 ·rintro ys2 led2 ⟨rs, rfl, hrs, rfl⟩ D2 h66 tk66 F66 N66 off66
  k_steps
  ·rename_i hab9 _ _ _ _ _
   exact absurd hab9 (by simp [Nat.ne_of_lt hlt8])
  ·rename_i lP h67 F67 N67 _
   unfold Halt
   refine ne_vals (ss := [(Str.ofString "-1", tk66), (Str.ofString "1", tk66 + 1), (Str.ofString "-1", tk66 + 1 + 1)]) hrs (fun x hx => by simp only [List.map_cons, List.map_nil, List.mem_cons, List.not_mem_nil, or_false] at hx; rcases hx with rfl | rfl | rfl <;> first | exact ok_0 | exact ok_1 | exact ok_m1) (N67.isList (.tail _ (.head _))) (N67.isList (.head _)) (by (first | assumption | ktr_room | ktr_units)) ?_
   k_steps
   have F68 := Fr.same F67 (m' := (fun z => if z = Str.ofString "told" then some (Value.ref lT) else if z = Str.ofString "other" then some (Value.str ⟨#[q8.1]⟩ q8.2) else if z = Str.ofString "one" then some (Value.str ⟨#[p8.1]⟩ p8.2) else if z = Str.ofString "number" then w1 else if z = Str.ofString "line" then w2 else if z = Str.ofString "read" then some (Value.ref dz) else if z = Str.ofString "left" then some (Value.int (k : Int) tl) else if z = Str.ofString "lines" then ul else if z = Str.ofString "ruler" then some (Value.ref R) else if z = Str.ofString "due" then some (Value.ref Du) else if z = Str.ofString "many" then some (Value.int (many : Int) tmn) else if z = Str.ofString "third" then some (Value.int a3 u3) else if z = Str.ofString "second" then some (Value.int a2 u2) else if z = Str.ofString "first" then some (Value.int a1 u1) else if z = Str.ofString "script" then some (Value.ref ls) else none)) (by
    intro z
    revert z; refine frk (ks := [Str.ofString "told", Str.ofString "other", Str.ofString "one", Str.ofString "number", Str.ofString "line", Str.ofString "read", Str.ofString "left", Str.ofString "lines", Str.ofString "ruler", Str.ofString "due", Str.ofString "many", Str.ofString "third", Str.ofString "second", Str.ofString "first", Str.ofString "script"]) ?_ ?_ ?_; (focus (repeat (first | with_reducible exact supp_none | with_reducible refine supp_ite (by kernel_rfl) ?_ | with_reducible exact supp_look (by kernel_rfl)))); (focus (repeat (first | with_reducible exact supp_none | with_reducible refine supp_ite (by kernel_rfl) ?_ | with_reducible exact supp_look (by kernel_rfl)))); kernel_rfl)
   exact zpost_next F68 (fun p hp => N67 p (.tail _ (.tail _ (.tail _ hp)))) hgb60 hap ⟨some (Value.str ⟨#[p8.1]⟩ p8.2), some (Value.str ⟨#[q8.1]⟩ q8.2), some (Value.ref lT), rfl, rfl⟩
end K0.K2.K4.K6.K8.K11.K40.K42.K45.K46.K48.K50b
namespace K0.K2.K4.K6.K8.K11.K40.K42.K45.K46.K48.K50b
theorem eq_2 : K48.pt.U2 := hy @eq_1
end K0.K2.K4.K6.K8.K11.K40.K42.K45.K46.K48.K50b
namespace K0.K2.K4.K6.K8.K11.K40.K42.K45.K46.K48
theorem eq_2 : K46.pt.U2 := hy (pt.h K50a.eq_2 K50b.eq_2)
end K0.K2.K4.K6.K8.K11.K40.K42.K45.K46.K48
namespace K0.K2.K4.K6.K8.K11.K40.K42.K45.K46
theorem eq_2 : K45.pt.U1 := hy (pt.h K47.eq_2 K48.eq_2)
end K0.K2.K4.K6.K8.K11.K40.K42.K45.K46
namespace K0.K2.K4.K6.K8.K11.K40.K42.K45
theorem eq_2 : K42.pt.U1 := hy (pt.h K46.eq_2)
end K0.K2.K4.K6.K8.K11.K40.K42.K45
namespace K0.K2.K4.K6.K8.K11.K40.K42
theorem eq_2 : K40.pt.U1 := hy (pt.h K45.eq_2)
end K0.K2.K4.K6.K8.K11.K40.K42
namespace K0.K2.K4.K6.K8.K11.K40.K43
def Z0 := K40.pt.z2
def i := hx0 Z0
def t := hx1 Z0
def h := hx2 Z0
def tk := hx3 Z0
def g := hx4 Z0
def I := hx5 Z0
def oI := hx6 Z0
def zs := hx7 Z0
def Z1 := ht Z0
def dz := hx0 Z1
def nz := hx1 Z1
def w2 := hx2 Z1
theorem eq_1 : K40.pt.Q2 i t h tk g I oI zs dz nz w2 := by
 intro X0 X' hz50 hne9 hw127 hyl hLy hi hz1 hz2 hz3 hap hgb50 N F27
 w_top off
 k_with_none
 k_with "ne" => (refine neN ?_; (try dsimp only); first | with_reducible (first | assumption | (refine Ne.symm ?_; assumption) | exact ne_1 | exact ne_1.symm | exact ne_2 | exact ne_2.symm | exact ne_3 | exact ne_3.symm | exact ne_4 | exact ne_4.symm) | exact (by with_reducible assumption : Apt _ _) | exact Ne.symm (by with_reducible assumption : Apt _ _) | omega)
 k_with "d2" => (repeat' (first | with_reducible (first | exact m_id | exact m_nil | exact m_lid | exact m_mapl | exact m_mapl2 | refine m_cons ?_ ?_ | refine m_app ?_ ?_ | refine m_map ?_ ?_ | refine m_map1 ?_ | exact m_hd | refine m_tl ?_ | exact m_mapr rfl | refine m_tail ?_ | refine m_right ?_ | refine m_inr ?_) | exact m_hd | refine m_tl ?_))
 k_with "d3" => (first | assumption | omega | ktr_room | ktr_units | (simp only [] at *; omega))
 k_with "call ref" => (k_here; (with_reducible show wpAny _ _ (call (Value.ref 380) _) _ _ _); (refine Halt.out ?_))
 k_with "call ref" => (k_here; (with_reducible show wpAny _ _ (call (Value.ref 387) _) _ _ _); (refine Halt.out ?_))
 k_with "call ref" => (k_here; (with_reducible show wpAny _ _ (call (Value.ref 394) _) _ _ _); (refine Halt.out ?_))
 k_with "call ref" => (k_here; (with_reducible show wpAny _ _ (call (Value.ref 401) _) _ _ _); (refine Halt.out ?_))
 k_with "call ref" => (k_here; (with_reducible show wpAny _ _ (call (Value.ref 408) _) _ _ _); (refine Halt.out ?_))
 k_with "call ref" => (k_here; (with_reducible show wpAny _ _ (call (Value.ref 413) _) _ _ _); (refine Halt.out ?_))
 k_with "call ref" => (k_here; (with_reducible show wpAny _ _ (call (Value.ref 211) _) _ _ _); (refine Halt.out ?_))
 k_with "eval ListComp" => (k_here; (refine Halt.out ?_))
 k_with "exec While" => (k_here; (refine Halt.out ?_))
 k_with "exec While Compare" => (k_here; (refine Halt.out ?_))
 k_with "exec For Name Call cons nil" => (k_here; (refine Halt.out ?_))
 k_with "CompSrc" => ((refine Halt.out ?_))
 k_with "call builtin:sorted" => (k_here; (refine Halt.out ?_))
 k_with "exec Assign" => (k_here; (with_reducible show wpAny _ _ (exec (Stmt.Assign [Expr.Name _ _] (Expr.Subscript (Expr.List _ _) _ _) _) _) _ _ _); (refine Halt.out ?_))
 k_with "compareOp NotEq ref ref" => (k_here; (with_reducible rename NoEq => hNE'); (refine Halt.out ?_))
 k_with "subscriptTail Name Slice ref ref" => (k_here; (refine Halt.out ?_))
 k_with "pyIter ref" => (k_here; (refine Halt.out ?_))
 k_with "call builtin:min" => (k_here; (refine Halt.out ?_))
 k_with "call builtin:max" => (k_here; (refine Halt.out ?_))
 have ea : ((i * wd : Nat) : Int) = (i : Int) * (wd : Int) := Int.natCast_mul i wd
 have eb : (((i + 1) * wd : Nat) : Int) = ((i : Int) + 1) * (wd : Int) := by rw [Int.natCast_mul]; rfl
 refine run_lts (a := i * wd) (b := (i + 1) * wd) F27 N (.tail _ (.tail _ (.head _))) ?ca ?cb (by rw [hyl]; exact Nat.lt_trans hz50 (by decide)) ?_ (by with_unfolding_all rfl) (by kmk_pure)
 case ca => rw [ea]; exact IsPart.int _ _
 case cb => rw [eb]; exact IsPart.int _ _
 intro Dl h2' F28 N28 lDl
 rw [pick_sub] at N28
 have hpl : ((ys.drop (i * wd)).take wd).length ≤ wd := by rw [List.length_take]; exact Nat.min_le_left _ _
 clear F27
 k_steps
 ·rename_i h29 F29 N29 hodd
  unfold Halt
  refine rev_lts F29 N29 (ps := ((ys.drop (i * wd)).take wd)) (.head _) (IsPart.int _ _) (Nat.lt_of_le_of_lt hpl (Nat.lt_trans hw127 (by decide))) ?_ (by with_unfolding_all rfl) (by kmk_pure)
  intro Dv h30 F30 N30 lDv
  k_steps
  refine add_lts F30 N30 (ps := zs) (qs := ((ys.drop (i * wd)).take wd).reverse) (.tail _ (.tail _ (.tail _ (.head _)))) (.head _) (room_pick hz3 hi hz50 (by rw [List.length_reverse]; exact hpl) hw127) fun De h31 F31 N31 lDe => ?_
  k_steps
  rename_i h32 F32 N32
  have F33 := Fr.same F32 (m' := (fun z => if z = Str.ofString "number" then some (Value.int (i : Int) t) else if z = Str.ofString "line" then some (Value.ref Dl) else if z = Str.ofString "read" then some (Value.ref De) else if z = Str.ofString "left" then some (Value.int (k : Int) tl) else if z = Str.ofString "lines" then ul else if z = Str.ofString "ruler" then some (Value.ref R) else if z = Str.ofString "due" then some (Value.ref Du) else if z = Str.ofString "many" then some (Value.int (many : Int) tmn) else if z = Str.ofString "third" then some (Value.int a3 u3) else if z = Str.ofString "second" then some (Value.int a2 u2) else if z = Str.ofString "first" then some (Value.int a1 u1) else if z = Str.ofString "script" then some (Value.ref ls) else none)) (by
   intro z
   revert z; refine frk (ks := [Str.ofString "number", Str.ofString "line", Str.ofString "read", Str.ofString "left", Str.ofString "lines", Str.ofString "ruler", Str.ofString "due", Str.ofString "many", Str.ofString "third", Str.ofString "second", Str.ofString "first", Str.ofString "script"]) ?_ ?_ ?_; (focus (repeat (first | with_reducible exact supp_none | with_reducible refine supp_ite (by kernel_rfl) ?_ | with_reducible exact supp_look (by kernel_rfl)))); (focus (repeat (first | with_reducible exact supp_none | with_reducible refine supp_ite (by kernel_rfl) ?_ | with_reducible exact supp_look (by kernel_rfl)))); kernel_rfl)
  refine tpost_next (led' := (De, listOf (lts (zs ++ ((ys.drop (i * wd)).take wd).reverse)).toArray 0) :: (r, listOf (lts ys).toArray ny) :: (Du, listOf (lts qd).toArray ed) :: (s₁.heap.objs.size + 1 + 1 + 1 + 1, bG) :: (s₁.heap.objs.size + 1 + 1 + 1, bC) :: (s₁.heap.objs.size + 1 + 1, bS2) :: (s₁.heap.objs.size + 1, oW2) :: (162, tabObj p1) :: (169, tabObj p2) :: []) F33 (fun p hp => N32 p (by
   refine m_use ?_ p hp; refine m_cons ?_ (m_cons (.head _) ?_) <;> walk_at "d2")) hgb50 (fun p hp => ?_) ⟨zs ++ ((ys.drop (i * wd)).take wd).reverse, De, 0, some (Value.int (i : Int) t), some (Value.ref Dl), read_odd hz1 ((odd_iff i).mp hodd), lets_pick (a := i * wd) (b := wd) hLy hz2 (fun p hp => List.mem_reverse.mp hp), len_pick (ys := ys) (b := 0) hz3 (by simp), rfl, rfl⟩
  refine m_el hp (m_all ?_ ?_)
  ·exact Nat.ne_of_gt (lDe (I, oI) (.tail _ (.tail _ (.head _))))
  ·intro p hp; exact hap p (.tail _ hp)
 ·rename_i h29 F29 N29 hodd
  refine add_lts F29 N29 (ps := zs) (qs := ((ys.drop (i * wd)).take wd)) (.tail _ (.tail _ (.head _))) (.head _) (room_pick hz3 hi hz50 hpl hw127) fun De h31 F31 N31 lDe => ?_
  k_steps
  rename_i h32 F32 N32
  have F33 := Fr.same F32 (m' := (fun z => if z = Str.ofString "number" then some (Value.int (i : Int) t) else if z = Str.ofString "line" then some (Value.ref Dl) else if z = Str.ofString "read" then some (Value.ref De) else if z = Str.ofString "left" then some (Value.int (k : Int) tl) else if z = Str.ofString "lines" then ul else if z = Str.ofString "ruler" then some (Value.ref R) else if z = Str.ofString "due" then some (Value.ref Du) else if z = Str.ofString "many" then some (Value.int (many : Int) tmn) else if z = Str.ofString "third" then some (Value.int a3 u3) else if z = Str.ofString "second" then some (Value.int a2 u2) else if z = Str.ofString "first" then some (Value.int a1 u1) else if z = Str.ofString "script" then some (Value.ref ls) else none)) (by
   intro z
   revert z; refine frk (ks := [Str.ofString "number", Str.ofString "line", Str.ofString "read", Str.ofString "left", Str.ofString "lines", Str.ofString "ruler", Str.ofString "due", Str.ofString "many", Str.ofString "third", Str.ofString "second", Str.ofString "first", Str.ofString "script"]) ?_ ?_ ?_; (focus (repeat (first | with_reducible exact supp_none | with_reducible refine supp_ite (by kernel_rfl) ?_ | with_reducible exact supp_look (by kernel_rfl)))); (focus (repeat (first | with_reducible exact supp_none | with_reducible refine supp_ite (by kernel_rfl) ?_ | with_reducible exact supp_look (by kernel_rfl)))); kernel_rfl)
  refine tpost_next (led' := (De, listOf (lts (zs ++ ((ys.drop (i * wd)).take wd))).toArray 0) :: (r, listOf (lts ys).toArray ny) :: (Du, listOf (lts qd).toArray ed) :: (s₁.heap.objs.size + 1 + 1 + 1 + 1, bG) :: (s₁.heap.objs.size + 1 + 1 + 1, bC) :: (s₁.heap.objs.size + 1 + 1, bS2) :: (s₁.heap.objs.size + 1, oW2) :: (162, tabObj p1) :: (169, tabObj p2) :: []) F33 (fun p hp => N32 p (by
   refine m_use ?_ p hp; refine m_cons ?_ (m_cons (.head _) ?_) <;> walk_at "d2")) hgb50 (fun p hp => ?_) ⟨zs ++ ((ys.drop (i * wd)).take wd), De, 0, some (Value.int (i : Int) t), some (Value.ref Dl), read_even hz1 (fun q => hodd ((odd_iff i).mpr q)), lets_pick (a := i * wd) (b := wd) hLy hz2 (fun p hp => hp), len_pick (ys := ys) (b := 0) hz3 (by simp), rfl, rfl⟩
  refine m_el hp (m_all ?_ ?_)
  ·exact Nat.ne_of_gt (lDe (I, oI) (.tail _ (.head _)))
  ·intro p hp; exact hap p (.tail _ hp)
end K0.K2.K4.K6.K8.K11.K40.K43
namespace K0.K2.K4.K6.K8.K11.K40.K43
theorem eq_2 : K40.pt.U2 := hy @eq_1
end K0.K2.K4.K6.K8.K11.K40.K43
namespace K0.K2.K4.K6.K8.K11.K40
theorem eq_2 : K11.pt.U1 := hy (pt.h K42.eq_2 K43.eq_2)
end K0.K2.K4.K6.K8.K11.K40
namespace K0.K2.K4.K6.K8.K11
theorem eq_2 : K8.pt.U2 := hy (pt.h K40.eq_2)
end K0.K2.K4.K6.K8.K11
namespace K0.K2.K4.K6.K8
theorem eq_2 : K6.pt.U1 := hy (pt.h K10.eq_2 K11.eq_2)
end K0.K2.K4.K6.K8
namespace K0.K2.K4.K6
theorem eq_2 : K4.pt.U1 := hy (pt.h K8.eq_2)
end K0.K2.K4.K6
namespace K0.K2.K4
theorem eq_2 : K2.pt.U1 := hy (pt.h K6.eq_2)
end K0.K2.K4
namespace K0.K2
theorem eq_2 : K0.pt.U1 := hy (pt.h K4.eq_2)
end K0.K2
namespace K0
theorem eq_2 : rt.U1 := hy (pt.h K2.eq_2)
end K0
theorem the_law : PySem.Challenge.rw_yj0030_01.Holds := (rt.h K0.eq_2)
end
end
end Mine
theorem PySem.Challenge.cw_yj0030_01_holds : PySem.Challenge.rw_yj0030_01.Holds :=
 Mine.the_law
