import PyProof.Rows.All
import Wide.All
import OpenK.AllK
import Wide.FinOn
import PySem.Challenge.RW_ny0222_01
set_option Elab.async false
set_option linter.all false
section
open PySem PySem.W PyProof.Rows
set_option maxRecDepth 100000
set_option maxHeartbeats 0
namespace Mine
theorem q0 : (PySem.Challenge.pw_ny0222_01.main.body.isEmpty == false) = true := by k_qdec
noncomputable abbrev pQ : Program := PySem.W.Fast.tw10326974983829330616
noncomputable abbrev tQ : String → Option Builtin := PySem.W.Fast.tw14364793385576792824
noncomputable abbrev dQ : (String → Option Builtin) → Code → Sem Fin := PySem.W.Fast.tw11892475500146522536
noncomputable abbrev eQ : List Stmt → Env → Sem Flow := PySem.W.Fast.tw12563942051412417395
noncomputable abbrev goQ := PySem.W.Fast.tw10295753902157049106
noncomputable abbrev runQ := PySem.W.Fast.tw10110043849684766642
noncomputable abbrev topGoQ := PySem.W.Fast.tw15667345088766844465
noncomputable def envM : Env := { scope := pQ.main.scope, locals := mainNs, globals := mainNs, cells := [], code := .ref 13, frame := some 14 }
noncomputable def cM : Code := .body (behindTheImports pQ) envM
noncomputable def row1 : String := "comprehension-iter-twice"
noncomputable def row2 : String := "special-get-raises"
noncomputable def wOf (P : Params) : World := ((⟨fun _ _ => 0, P⟩ : World).withFollow row2 true).withFollow row1 true
noncomputable def p00 : Pos := ⟨0, 0, 0, 0⟩
noncomputable def fM : List Frame := [topFrame p00]
noncomputable def piece (l : List Stmt) (pos : Pos) : Thread := ⟨(eQ l envM).wrap doneF deadEnd id id, cM, pos, fM⟩
noncomputable def at0 (x : SharedT) (os : OsState) : SharedT := ⟨x.tree, x.n, x.life, x.gens, x.drawn, x.toks, os⟩
noncomputable def annM : Option Value := some (.ref 6)
noncomputable def sts (i k : Nat) : List Stmt := ((behindTheImports pQ).drop i).take k
noncomputable def mkT : List Obj → BT × Nat → BT × Nat
  | [], x => x
  | o :: r, (t, n) => mkT r (t.ins n o, n + 1)
noncomputable def x0 : SharedT := ⟨.nil, 0, {}, #[], {}, 0, {}⟩
noncomputable def boot (P : Params) (os : OsState) : Shared := ⟨boot_heap P, #[], boot_drawn, boot_toks, os⟩
noncomputable def S0 (P : Params) : SharedT := match topGoQ tQ pQ (wOf P) 11 annM 12 (boot P {}) (topStub pQ) with
  | some (s, _) => ⟨(mkT s.heap.objs.toList (.nil, 0)).1, s.heap.objs.size, s.heap.life, s.gens, s.drawn, s.toks, s.os⟩
  | none => x0
/-- the state behind a run of statements -/
noncomputable def ran (P : Params) (n : Nat) (s : SharedT) (th : Thread) : SharedT := match runQ tQ pQ (wOf P) 11 annM 1 n s th with
  | some (_, s', _, _) => s'
  | none => x0
/-- state and thread after so many steps -/
noncomputable def went (P : Params) (n : Nat) (s : SharedT) (th : Thread) : SharedT × Thread := match goQ tQ pQ (wOf P) 11 annM 1 n s th with
  | some x => x
  | none => (x0, ⟨.unsupported "", .call .none {}, p00, []⟩)
noncomputable def again (t : Thread) (p : Pos) : Thread := ⟨dQ tQ t.code, t.code, p, t.stack⟩
noncomputable def pos1 : Pos := ⟨2, 0, 2, 2⟩
noncomputable def S1 (P : Params) : SharedT := ran P 100 (S0 P) (piece (sts 0 2) p00)
-- the comprehension of 256 texts
noncomputable def hx (d : Nat) : Nat := if d < 10 then 48 + d else 55 + d
noncomputable def qv (i : Nat) : Value := .str ⟨#[61, hx (i / 16), hx (i % 16)]⟩ (197 + 4 * i)
noncomputable def tab : Nat → Nat → List Value
  | _, 0 => []
  | i, n + 1 => qv i :: tab (i + 1) n
noncomputable def cEn (P : Params) (t : Nat) (v : Value) : DictEntry := ⟨PyData.keyHash P ⟨#[99]⟩, .str ⟨#[99]⟩ t, v⟩
noncomputable def o18 (P : Params) (k : Nat) : Obj := match k with
  | 0 => ⟨.type "dict", none, .dict #[] 0, #[]⟩
  | k + 1 => ⟨.type "dict", none, .dict #[cEn P 195 (.int (k : Nat) (194 + 4 * k))] 1, #[]⟩
noncomputable def T2 (P : Params) (k : Nat) : SharedT :=
  ⟨((((S1 P).tree.ins 15 ⟨.type "range", none, .fields #[.int 0 192, .int 256 191, .int 1 193], #[]⟩).ins 16 ⟨.type "range_iterator", none, .fields #[.int (k : Nat) 0, .int (256 - k : Nat) 0, .int 1 0], #[]⟩).ins 17
    ⟨.type "list", none, .seq (tab 0 k).toArray k, #[]⟩).ins 18 (o18 P k), 19, {}, #[], {}, 194 + 4 * k, {}⟩
noncomputable def th2 (P : Params) (p : Pos) : Thread := again (went P 42 (S1 P) (piece (sts 2 1) pos1)).2 p
noncomputable def posA2 : Pos := ⟨3, 36, 3, 46⟩
noncomputable def posB2 : Pos := ⟨3, 15, 3, 26⟩
noncomputable def S2 (P : Params) : SharedT := ran P 50 (T2 P 256) (th2 P posB2)
noncomputable def pos2 : Pos := ⟨3, 0, 3, 11⟩
noncomputable def S10 (P : Params) : SharedT := ran P 300 (S2 P) (piece (sts 3 8) pos2)
noncomputable def pos10 : Pos := ⟨11, 0, 11, 8⟩
-- the two loops over bytes
noncomputable def upto (a : Nat) : Nat → List Nat
  | 0 => []
  | n + 1 => a :: upto (a + 1) n
noncomputable def by11 : List Nat := [45, 33, 42, 43, 47] ++ upto 97 26 ++ upto 65 26 ++ upto 48 10
noncomputable def by13 : List Nat := upto 32 29 ++ upto 62 65 ++ [9]
noncomputable def setAll : List Nat → Nat → List Value → List Value
  | [], _, l => l
  | b :: r, t, l => setAll r (t + 3) (l.set b (.str ⟨#[b]⟩ t))
noncomputable def iter (k : Nat) : Obj → Obj
  | ⟨c, d, .fields vs, s⟩ => ⟨c, d, .fields #[vs.getD 0 .none, .int (k : Nat) 0], s⟩
  | o => o
noncomputable def lst (bs : List Nat) (t k : Nat) (l : List Value) : Obj := ⟨.type "list", none, .seq (setAll (bs.take k) t l).toArray 0, #[]⟩
noncomputable def M11 (P : Params) : SharedT × Thread := went P 44 (S10 P) (piece (sts 11 1) pos10)
noncomputable def ns11 (P : Params) : Nat → Obj → Obj
  | 0, o => o
  | k + 1, ⟨c, d, .dict es n, s⟩ => ⟨c, d, .dict (es.push (cEn P 1244 (.int (by11.getD k 0 : Nat) (1243 + 3 * k)))) (n + 1), s⟩
  | _, o => o
noncomputable def T11 (P : Params) (k : Nat) : SharedT :=
  ⟨(((M11 P).1.tree.set 3 (ns11 P k)).set 22 (fun _ => lst by11 1245 k (tab 0 256))).set 25 (iter k), 26, {}, #[], {}, 1243 + 3 * k, {}⟩
noncomputable def th11 (P : Params) (p : Pos) : Thread := again (M11 P).2 p
noncomputable def posA11 : Pos := ⟨12, 9, 12, 74⟩
noncomputable def posB11 : Pos := ⟨13, 4, 13, 25⟩
noncomputable def S11 (P : Params) : SharedT := ran P 50 (T11 P 67) (th11 P posB11)
noncomputable def S12 (P : Params) : SharedT := ran P 100 (S11 P) (piece (sts 12 1) posA11)
noncomputable def pos12 : Pos := ⟨14, 0, 14, 28⟩
noncomputable def M13 (P : Params) : SharedT × Thread := went P 10 (S12 P) (piece (sts 13 1) pos12)
noncomputable def ns13 : Nat → Obj → Obj
  | 0, o => o
  | k + 1, ⟨c, d, .dict es n, s⟩ => ⟨c, d, .dict (es.modify 19 fun e => ⟨e.hash, e.key, .int (by13.getD k 0 : Nat) (1448 + 3 * k)⟩) n, s⟩
  | _, o => o
noncomputable def T13 (P : Params) (k : Nat) : SharedT :=
  ⟨(((M13 P).1.tree.set 3 (ns13 k)).set 24 (fun _ => lst by13 1450 k (tab 0 256))).set 28 (iter k), 29, {}, #[], {}, 1448 + 3 * k, {}⟩
noncomputable def th13 (P : Params) (p : Pos) : Thread := again (M13 P).2 p
noncomputable def posA13 : Pos := ⟨15, 9, 15, 110⟩
noncomputable def posB13 : Pos := ⟨16, 4, 16, 23⟩
noncomputable def S13 (P : Params) : SharedT := ran P 50 (T13 P 95) (th13 P posB13)
noncomputable def S46 (P : Params) : SharedT := ran P 3000 (S13 P) (piece (sts 14 33) posA13)
noncomputable def pos46 : Pos := ⟨142, 0, 187, 49⟩
theorem l0 (w : World) (os : OsState) : topGo tQ pQ w 11 annM 12 (boot w.params os) (topStub pQ) = some ((at0 (S0 w.params) os).abs, ⟨dQ tQ (.body (behindTheImports pQ) envM), cM, p00, [topFrame p00]⟩) := by
  rw [PySem.W.Fast.te15667345088766844465]; kernel_rfl
theorem l1 (w : World) (os : OsState) : segRunT tQ pQ w 11 annM 1 100 (at0 (S0 w.params) os) (piece (sts 0 2) p00) = some (.next, at0 (S1 w.params) os, cM, pos1) := by
  rw [PySem.W.Fast.te10110043849684766642]; kernel_rfl
theorem l2 (n : Nat) (b c : Bool) (hn : n = if c then 42 else 52) (w : World) (os : OsState) : segGoT tQ pQ ((w.withFollow row1 c).withFollow row2 b) 11 annM 1 n (at0 (S1 ((w.withFollow row1 c).withFollow row2 b).params) os) (piece (sts 2 1) pos1) = some (at0 (T2 ((w.withFollow row1 c).withFollow row2 b).params 0) os, th2 ((w.withFollow row1 c).withFollow row2 b).params posA2) := by
  rw [PySem.W.Fast.te10295753902157049106]; subst hn
  cases b <;> cases c <;> kernel_rfl
theorem c2_0 (w : World) (os : OsState) : segGoT tQ pQ w 11 annM 1 592 (at0 (T2 w.params 0) os) (th2 w.params posA2) = some (at0 (T2 w.params 16) os, th2 w.params posB2) := by
  rw [PySem.W.Fast.te10295753902157049106]; kernel_rfl
theorem c2_16 (w : World) (os : OsState) : segGoT tQ pQ w 11 annM 1 592 (at0 (T2 w.params 16) os) (th2 w.params posB2) = some (at0 (T2 w.params 32) os, th2 w.params posB2) := by
  rw [PySem.W.Fast.te10295753902157049106]; kernel_rfl
theorem c2_32 (w : World) (os : OsState) : segGoT tQ pQ w 11 annM 1 592 (at0 (T2 w.params 32) os) (th2 w.params posB2) = some (at0 (T2 w.params 48) os, th2 w.params posB2) := by
  rw [PySem.W.Fast.te10295753902157049106]; kernel_rfl
theorem c2_48 (w : World) (os : OsState) : segGoT tQ pQ w 11 annM 1 592 (at0 (T2 w.params 48) os) (th2 w.params posB2) = some (at0 (T2 w.params 64) os, th2 w.params posB2) := by
  rw [PySem.W.Fast.te10295753902157049106]; kernel_rfl
theorem c2_64 (w : World) (os : OsState) : segGoT tQ pQ w 11 annM 1 592 (at0 (T2 w.params 64) os) (th2 w.params posB2) = some (at0 (T2 w.params 80) os, th2 w.params posB2) := by
  rw [PySem.W.Fast.te10295753902157049106]; kernel_rfl
theorem c2_80 (w : World) (os : OsState) : segGoT tQ pQ w 11 annM 1 592 (at0 (T2 w.params 80) os) (th2 w.params posB2) = some (at0 (T2 w.params 96) os, th2 w.params posB2) := by
  rw [PySem.W.Fast.te10295753902157049106]; kernel_rfl
theorem c2_96 (w : World) (os : OsState) : segGoT tQ pQ w 11 annM 1 592 (at0 (T2 w.params 96) os) (th2 w.params posB2) = some (at0 (T2 w.params 112) os, th2 w.params posB2) := by
  rw [PySem.W.Fast.te10295753902157049106]; kernel_rfl
theorem c2_112 (w : World) (os : OsState) : segGoT tQ pQ w 11 annM 1 592 (at0 (T2 w.params 112) os) (th2 w.params posB2) = some (at0 (T2 w.params 128) os, th2 w.params posB2) := by
  rw [PySem.W.Fast.te10295753902157049106]; kernel_rfl
theorem c2_128 (w : World) (os : OsState) : segGoT tQ pQ w 11 annM 1 592 (at0 (T2 w.params 128) os) (th2 w.params posB2) = some (at0 (T2 w.params 144) os, th2 w.params posB2) := by
  rw [PySem.W.Fast.te10295753902157049106]; kernel_rfl
theorem c2_144 (w : World) (os : OsState) : segGoT tQ pQ w 11 annM 1 592 (at0 (T2 w.params 144) os) (th2 w.params posB2) = some (at0 (T2 w.params 160) os, th2 w.params posB2) := by
  rw [PySem.W.Fast.te10295753902157049106]; kernel_rfl
theorem c2_160 (w : World) (os : OsState) : segGoT tQ pQ w 11 annM 1 592 (at0 (T2 w.params 160) os) (th2 w.params posB2) = some (at0 (T2 w.params 176) os, th2 w.params posB2) := by
  rw [PySem.W.Fast.te10295753902157049106]; kernel_rfl
theorem c2_176 (w : World) (os : OsState) : segGoT tQ pQ w 11 annM 1 592 (at0 (T2 w.params 176) os) (th2 w.params posB2) = some (at0 (T2 w.params 192) os, th2 w.params posB2) := by
  rw [PySem.W.Fast.te10295753902157049106]; kernel_rfl
theorem c2_192 (w : World) (os : OsState) : segGoT tQ pQ w 11 annM 1 592 (at0 (T2 w.params 192) os) (th2 w.params posB2) = some (at0 (T2 w.params 208) os, th2 w.params posB2) := by
  rw [PySem.W.Fast.te10295753902157049106]; kernel_rfl
theorem c2_208 (w : World) (os : OsState) : segGoT tQ pQ w 11 annM 1 592 (at0 (T2 w.params 208) os) (th2 w.params posB2) = some (at0 (T2 w.params 224) os, th2 w.params posB2) := by
  rw [PySem.W.Fast.te10295753902157049106]; kernel_rfl
theorem c2_224 (w : World) (os : OsState) : segGoT tQ pQ w 11 annM 1 592 (at0 (T2 w.params 224) os) (th2 w.params posB2) = some (at0 (T2 w.params 240) os, th2 w.params posB2) := by
  rw [PySem.W.Fast.te10295753902157049106]; kernel_rfl
theorem c2_240 (w : World) (os : OsState) : segGoT tQ pQ w 11 annM 1 592 (at0 (T2 w.params 240) os) (th2 w.params posB2) = some (at0 (T2 w.params 256) os, th2 w.params posB2) := by
  rw [PySem.W.Fast.te10295753902157049106]; kernel_rfl
theorem e2 (n : Nat) (hn : n = 28 ∨ n = 38) (w : World) (os : OsState) : segRunT tQ pQ w 11 annM 1 n (at0 (T2 w.params 256) os) (th2 w.params posB2) = some (.next, at0 (S2 w.params) os, cM, pos2) := by
  rw [PySem.W.Fast.te10110043849684766642]; rcases hn with rfl | rfl <;> kernel_rfl
theorem l10 (w : World) (os : OsState) : segRunT tQ pQ w 11 annM 1 300 (at0 (S2 w.params) os) (piece (sts 3 8) pos2) = some (.next, at0 (S10 w.params) os, cM, pos10) := by
  rw [PySem.W.Fast.te10110043849684766642]; kernel_rfl
theorem l11 (b : Bool) (w : World) (os : OsState) : segGoT tQ pQ (w.withFollow row2 b) 11 annM 1 44 (at0 (S10 (w.withFollow row2 b).params) os) (piece (sts 11 1) pos10) = some (at0 (T11 (w.withFollow row2 b).params 0) os, th11 (w.withFollow row2 b).params posA11) := by
  rw [PySem.W.Fast.te10295753902157049106]; cases b <;> kernel_rfl
theorem c11_0 (w : World) (os : OsState) : segGoT tQ pQ w 11 annM 1 765 (at0 (T11 w.params 0) os) (th11 w.params posA11) = some (at0 (T11 w.params 17) os, th11 w.params posB11) := by
  rw [PySem.W.Fast.te10295753902157049106]; kernel_rfl
theorem c11_17 (w : World) (os : OsState) : segGoT tQ pQ w 11 annM 1 765 (at0 (T11 w.params 17) os) (th11 w.params posB11) = some (at0 (T11 w.params 34) os, th11 w.params posB11) := by
  rw [PySem.W.Fast.te10295753902157049106]; kernel_rfl
theorem c11_34 (w : World) (os : OsState) : segGoT tQ pQ w 11 annM 1 765 (at0 (T11 w.params 34) os) (th11 w.params posB11) = some (at0 (T11 w.params 51) os, th11 w.params posB11) := by
  rw [PySem.W.Fast.te10295753902157049106]; kernel_rfl
theorem c11_51 (w : World) (os : OsState) : segGoT tQ pQ w 11 annM 1 720 (at0 (T11 w.params 51) os) (th11 w.params posB11) = some (at0 (T11 w.params 67) os, th11 w.params posB11) := by
  rw [PySem.W.Fast.te10295753902157049106]; kernel_rfl
theorem e11 (w : World) (os : OsState) : segRunT tQ pQ w 11 annM 1 50 (at0 (T11 w.params 67) os) (th11 w.params posB11) = some (.next, at0 (S11 w.params) os, cM, posA11) := by
  rw [PySem.W.Fast.te10110043849684766642]; kernel_rfl
theorem l12 (w : World) (os : OsState) : segRunT tQ pQ w 11 annM 1 100 (at0 (S11 w.params) os) (piece (sts 12 1) posA11) = some (.next, at0 (S12 w.params) os, cM, pos12) := by
  rw [PySem.W.Fast.te10110043849684766642]; kernel_rfl
theorem l13 (b : Bool) (w : World) (os : OsState) : segGoT tQ pQ (w.withFollow row2 b) 11 annM 1 10 (at0 (S12 (w.withFollow row2 b).params) os) (piece (sts 13 1) pos12) = some (at0 (T13 (w.withFollow row2 b).params 0) os, th13 (w.withFollow row2 b).params posA13) := by
  rw [PySem.W.Fast.te10295753902157049106]; cases b <;> kernel_rfl
theorem c13_0 (w : World) (os : OsState) : segGoT tQ pQ w 11 annM 1 855 (at0 (T13 w.params 0) os) (th13 w.params posA13) = some (at0 (T13 w.params 19) os, th13 w.params posB13) := by
  rw [PySem.W.Fast.te10295753902157049106]; kernel_rfl
theorem c13_19 (w : World) (os : OsState) : segGoT tQ pQ w 11 annM 1 855 (at0 (T13 w.params 19) os) (th13 w.params posB13) = some (at0 (T13 w.params 38) os, th13 w.params posB13) := by
  rw [PySem.W.Fast.te10295753902157049106]; kernel_rfl
theorem c13_38 (w : World) (os : OsState) : segGoT tQ pQ w 11 annM 1 855 (at0 (T13 w.params 38) os) (th13 w.params posB13) = some (at0 (T13 w.params 57) os, th13 w.params posB13) := by
  rw [PySem.W.Fast.te10295753902157049106]; kernel_rfl
theorem c13_57 (w : World) (os : OsState) : segGoT tQ pQ w 11 annM 1 855 (at0 (T13 w.params 57) os) (th13 w.params posB13) = some (at0 (T13 w.params 76) os, th13 w.params posB13) := by
  rw [PySem.W.Fast.te10295753902157049106]; kernel_rfl
theorem c13_76 (w : World) (os : OsState) : segGoT tQ pQ w 11 annM 1 855 (at0 (T13 w.params 76) os) (th13 w.params posB13) = some (at0 (T13 w.params 95) os, th13 w.params posB13) := by
  rw [PySem.W.Fast.te10295753902157049106]; kernel_rfl
theorem e13 (w : World) (os : OsState) : segRunT tQ pQ w 11 annM 1 50 (at0 (T13 w.params 95) os) (th13 w.params posB13) = some (.next, at0 (S13 w.params) os, cM, posA13) := by
  rw [PySem.W.Fast.te10110043849684766642]; kernel_rfl
theorem l46 (b : Bool) (w : World) (os : OsState) : segRunT tQ pQ (w.withFollow row2 b) 11 annM 1 3000 (at0 (S13 (w.withFollow row2 b).params) os) (piece (sts 14 33) posA13) = some (.next, at0 (S46 (w.withFollow row2 b).params) os, cM, pos46) := by
  rw [PySem.W.Fast.te10110043849684766642]; cases b <;> kernel_rfl
end Mine
end
section
open PySem PySem.W PyProof.Rows
set_option maxRecDepth 100000
set_option maxHeartbeats 0
namespace Mine
theorem jc2 (w : World) (os : OsState) {r : Flow × Shared × Code × Pos} {N : Nat} (h : segRun tQ pQ w 11 annM 1 N (at0 (T2 w.params 256) os).abs (th2 w.params posB2) = some r) : segRun tQ pQ w 11 annM 1 (592 + (592 + (592 + (592 + (592 + (592 + (592 + (592 + (592 + (592 + (592 + (592 + (592 + (592 + (592 + (592 + N)))))))))))))))) (at0 (T2 w.params 0) os).abs (th2 w.params posA2) = some r := by
  exact seg_go (segGo_of (c2_0 w os)) (seg_go (segGo_of (c2_16 w os)) (seg_go (segGo_of (c2_32 w os)) (seg_go (segGo_of (c2_48 w os)) (seg_go (segGo_of (c2_64 w os)) (seg_go (segGo_of (c2_80 w os)) (seg_go (segGo_of (c2_96 w os)) (seg_go (segGo_of (c2_112 w os)) (seg_go (segGo_of (c2_128 w os)) (seg_go (segGo_of (c2_144 w os)) (seg_go (segGo_of (c2_160 w os)) (seg_go (segGo_of (c2_176 w os)) (seg_go (segGo_of (c2_192 w os)) (seg_go (segGo_of (c2_208 w os)) (seg_go (segGo_of (c2_224 w os)) (seg_go (segGo_of (c2_240 w os)) h)))))))))))))))
theorem jc11 (w : World) (os : OsState) {r : Flow × Shared × Code × Pos} {N : Nat} (h : segRun tQ pQ w 11 annM 1 N (at0 (T11 w.params 67) os).abs (th11 w.params posB11) = some r) : segRun tQ pQ w 11 annM 1 (765 + (765 + (765 + (720 + N)))) (at0 (T11 w.params 0) os).abs (th11 w.params posA11) = some r := by
  exact seg_go (segGo_of (c11_0 w os)) (seg_go (segGo_of (c11_17 w os)) (seg_go (segGo_of (c11_34 w os)) (seg_go (segGo_of (c11_51 w os)) h)))
theorem jc13 (w : World) (os : OsState) {r : Flow × Shared × Code × Pos} {N : Nat} (h : segRun tQ pQ w 11 annM 1 N (at0 (T13 w.params 95) os).abs (th13 w.params posB13) = some r) : segRun tQ pQ w 11 annM 1 (855 + (855 + (855 + (855 + (855 + N))))) (at0 (T13 w.params 0) os).abs (th13 w.params posA13) = some r := by
  exact seg_go (segGo_of (c13_0 w os)) (seg_go (segGo_of (c13_19 w os)) (seg_go (segGo_of (c13_38 w os)) (seg_go (segGo_of (c13_57 w os)) (seg_go (segGo_of (c13_76 w os)) h))))
theorem piece_eq (l : List Stmt) (pos : Pos) : piece l pos = piecesOf l envM cM pos [topFrame p00] := by
  show (⟨(eQ l envM).wrap doneF deadEnd id id, cM, pos, [topFrame p00]⟩ : Thread) = ⟨(execs l envM).wrap doneF deadEnd id id, cM, pos, [topFrame p00]⟩
  rw [PySem.W.Fast.te12563942051412417395]
/-- what a group's run gives, in the form of the joints -/
def Ran (a b : Params → SharedT) (l : List Stmt) (p q : Pos) (w : World) : Prop :=
  ∃ n, n ≤ 10000 ∧ ∀ os : OsState, segRun tQ pQ w 11 annM 1 n (at0 (a w.params) os).abs (piecesOf l envM cM p [topFrame p00]) = some (.next, (at0 (b w.params) os).abs, cM, q)
theorem Ran.of {a b : Params → SharedT} {l : List Stmt} {p q : Pos} {w : World} (n : Nat) (hn : n ≤ 10000) (h : ∀ os : OsState, segRun tQ pQ w 11 annM 1 n (at0 (a w.params) os).abs (piece l p) = some (.next, (at0 (b w.params) os).abs, cM, q)) : Ran a b l p q w :=
  ⟨n, hn, fun os => (piece_eq l p) ▸ h os⟩
theorem r1 (w : World) : Ran S0 S1 (sts 0 2) p00 pos1 w := .of 100 (by decide) fun os => segRun_of (l1 w os)
theorem r2a (b c : Bool) (w : World) : Ran S1 S2 (sts 2 1) pos1 pos2 ((w.withFollow row1 c).withFollow row2 b) := by
  cases c
  · exact .of _ (by decide) fun os => seg_go (segGo_of (l2 52 b false rfl w os)) (jc2 ((w.withFollow row1 false).withFollow row2 b) os (segRun_of (e2 28 (.inl rfl) ((w.withFollow row1 false).withFollow row2 b) os)))
  · exact .of _ (by decide) fun os => seg_go (segGo_of (l2 42 b true rfl w os)) (jc2 ((w.withFollow row1 true).withFollow row2 b) os (segRun_of (e2 28 (.inl rfl) ((w.withFollow row1 true).withFollow row2 b) os)))
theorem r2 (w : World) : Ran S1 S2 (sts 2 1) pos1 pos2 w :=
  byRow2 row2 (P := Ran S1 S2 (sts 2 1) pos1 pos2)
    (fun w => byRow2 row1 (P := fun w => Ran S1 S2 (sts 2 1) pos1 pos2 (w.withFollow row2 false)) (r2a false false) (r2a false true) w)
    (fun w => byRow2 row1 (P := fun w => Ran S1 S2 (sts 2 1) pos1 pos2 (w.withFollow row2 true)) (r2a true false) (r2a true true) w) w
theorem r10 (w : World) : Ran S2 S10 (sts 3 8) pos2 pos10 w := .of 300 (by decide) fun os => segRun_of (l10 w os)
theorem r11a (b : Bool) (w : World) : Ran S10 S11 (sts 11 1) pos10 posA11 (w.withFollow row2 b) :=
  .of _ (by decide) fun os => seg_go (segGo_of (l11 b w os)) (jc11 (w.withFollow row2 b) os (segRun_of (e11 (w.withFollow row2 b) os)))
theorem r11 (w : World) : Ran S10 S11 (sts 11 1) pos10 posA11 w := byRow2 row2 (P := Ran S10 S11 (sts 11 1) pos10 posA11) (r11a false) (r11a true) w
theorem r12 (w : World) : Ran S11 S12 (sts 12 1) posA11 pos12 w := .of 100 (by decide) fun os => segRun_of (l12 w os)
theorem r13a (b : Bool) (w : World) : Ran S12 S13 (sts 13 1) pos12 posA13 (w.withFollow row2 b) :=
  .of _ (by decide) fun os => seg_go (segGo_of (l13 b w os)) (jc13 (w.withFollow row2 b) os (segRun_of (e13 (w.withFollow row2 b) os)))
theorem r13 (w : World) : Ran S12 S13 (sts 13 1) pos12 posA13 w := byRow2 row2 (P := Ran S12 S13 (sts 13 1) pos12 posA13) (r13a false) (r13a true) w
theorem r46a (b : Bool) (w : World) : Ran S13 S46 (sts 14 33) posA13 pos46 (w.withFollow row2 b) := .of 3000 (by decide) fun os => segRun_of (l46 b w os)
theorem r46 (w : World) : Ran S13 S46 (sts 14 33) posA13 pos46 w := byRow2 row2 (P := Ran S13 S46 (sts 14 33) posA13 pos46) (r46a false) (r46a true) w
theorem blk (w : World) (os : OsState) : segRun tQ pQ w 11 annM 1 1 (at0 (S0 w.params) os).abs (blockOf (behindTheImports pQ) envM cM p00 [topFrame p00]) = some (.next, (at0 (S0 w.params) os).abs, cM, p00) := by
  kernel_rfl
theorem split : behindTheImports pQ = sts 0 2 ++ (sts 2 1 ++ (sts 3 8 ++ (sts 11 1 ++ (sts 12 1 ++ (sts 13 1 ++ (sts 14 33 ++ [])))))) := by kernel_rfl
noncomputable def H1 (P : Params) : Heap := absHeap (S46 P).tree 125 {}
theorem fin0 (w : World) (os : OsState) : (at0 (S46 w.params) os).abs = ⟨H1 w.params, #[], {}, 1892, os⟩ := by kernel_rfl
theorem fin1 (w : World) (os : OsState) : topRun tQ pQ w 11 annM 2 ⟨H1 w.params, #[], {}, 1892, os⟩ ⟨doneF .next, cM, pos46, [topFrame p00]⟩ = some ⟨H1 w.params, #[], {}, 1892, os⟩ := by kernel_rfl
theorem run_join {tb : String → Option Builtin} {p : Program} {w : World} {m : Nat} {ann : Option Value} {env : Env} {q : Pos} {c : Code} {b l1 l2 l3 l4 l5 l6 l7 : List Stmt} {t : Thread} {sb s0 s1 s2 s3 s4 s5 s6 s7 r : Shared} {p0 p1 p2 p3 p4 p5 p6 p7 : Pos} {n1 n2 n3 n4 n5 n6 n7 : Nat}
    (hb : b = l1 ++ (l2 ++ (l3 ++ (l4 ++ (l5 ++ (l6 ++ (l7 ++ [])))))))
    (h0 : topGo tb p w m ann 12 sb t = some (s0, ⟨denote tb (.body b env), c, p0, [topFrame q]⟩))
    (hk : segRun tb p w m ann 1 1 s0 (blockOf b env c p0 [topFrame q]) = some (.next, s0, c, p0))
    (b1 : n1 ≤ 10000) (h1 : segRun tb p w m ann 1 n1 s0 (piecesOf l1 env c p0 [topFrame q]) = some (.next, s1, c, p1))
    (b2 : n2 ≤ 10000) (h2 : segRun tb p w m ann 1 n2 s1 (piecesOf l2 env c p1 [topFrame q]) = some (.next, s2, c, p2))
    (b3 : n3 ≤ 10000) (h3 : segRun tb p w m ann 1 n3 s2 (piecesOf l3 env c p2 [topFrame q]) = some (.next, s3, c, p3))
    (b4 : n4 ≤ 10000) (h4 : segRun tb p w m ann 1 n4 s3 (piecesOf l4 env c p3 [topFrame q]) = some (.next, s4, c, p4))
    (b5 : n5 ≤ 10000) (h5 : segRun tb p w m ann 1 n5 s4 (piecesOf l5 env c p4 [topFrame q]) = some (.next, s5, c, p5))
    (b6 : n6 ≤ 10000) (h6 : segRun tb p w m ann 1 n6 s5 (piecesOf l6 env c p5 [topFrame q]) = some (.next, s6, c, p6))
    (b7 : n7 ≤ 10000) (h7 : segRun tb p w m ann 1 n7 s6 (piecesOf l7 env c p6 [topFrame q]) = some (.next, s7, c, p7))
    (hf : topRun tb p w m ann 2 s7 ⟨doneF .next, c, p7, [topFrame q]⟩ = some r) : topRun tb p w m ann 80000 sb t = some r := by
  have h := piece_app h1 (piece_app h2 (piece_app h3 (piece_app h4 (piece_app h5 (piece_app h6 (piece_app h7 (piece_nil (env := env) hf)))))))
  rw [← hb] at h
  have h := go_top h0 (piece_block hk h)
  have h := topRun_mono (80000 - (12 + (1 + (n1 + (n2 + (n3 + (n4 + (n5 + (n6 + (n7 + 2)))))))))) _ _ _ _ h
  rwa [show 12 + (1 + (n1 + (n2 + (n3 + (n4 + (n5 + (n6 + (n7 + 2)))))))) + (80000 - (12 + (1 + (n1 + (n2 + (n3 + (n4 + (n5 + (n6 + (n7 + 2)))))))))) = 80000 by omega] at h
end Mine
end
section
open PySem PySem.W PyProof.Rows
set_option maxRecDepth 100000
set_option maxHeartbeats 0
namespace Mine
theorem h0D (w : World) (os : OsState) : topGo tQ pQ w 11 annM 12 (boot w.params os) (topStub pQ) = some ((at0 (S0 w.params) os).abs, ⟨denote tQ (.body (behindTheImports pQ) envM), cM, p00, [topFrame p00]⟩) := by
  rw [PySem.W.Fast.te11892475500146522536]; with_reducible exact l0 w os
theorem hfD (w : World) (os : OsState) : topRun tQ pQ w 11 annM 2 (at0 (S46 w.params) os).abs ⟨doneF .next, cM, pos46, [topFrame p00]⟩ = some ⟨H1 w.params, #[], {}, 1892, os⟩ := by
  rw [fin0]; with_reducible exact fin1 w os
theorem run (w : World) (os : OsState) : topRun tQ pQ w 11 annM 80000 (boot w.params os) (topStub pQ) = some ⟨H1 w.params, #[], {}, 1892, os⟩ := by
  obtain ⟨n1, b1, h1⟩ := r1 w
  obtain ⟨n2, b2, h2⟩ := r2 w
  obtain ⟨n3, b3, h3⟩ := r10 w
  obtain ⟨n4, b4, h4⟩ := r11 w
  obtain ⟨n5, b5, h5⟩ := r12 w
  obtain ⟨n6, b6, h6⟩ := r13 w
  obtain ⟨n7, b7, h7⟩ := r46 w
  exact run_join split (h0D w os) (blk w os) b1 (h1 os) b2 (h2 os) b3 (h3 os) b4 (h4 os) b5 (h5 os) b6 (h6 os) b7 (h7 os) (hfD w os)
end Mine
end
section
open PySem PySem.W PyProof.Rows
set_option maxRecDepth 100000
set_option maxHeartbeats 0
namespace Mine
-- the part of the heap that the walk knows
abbrev tp (xs : Array Value) : Obj := ⟨.type "tuple", none, .seq xs 0, #[]⟩
abbrev cd (xs : Array Value) : Obj := ⟨.type "code", none, .fields xs, #[]⟩
abbrev en (P : Params) (s : Array Nat) (t : Nat) (v : Value) : DictEntry := ⟨PyData.keyHash P ⟨s⟩, .str ⟨s⟩ t, v⟩
def fdOf (i : Nat) : Option (Arguments × List Stmt × Scope) := match PySem.Challenge.pw_ny0222_01.main.body[i]? with
  | some (.FunctionDef _ a b _ _ _ sc _ _ _) => some (a, b, sc)
  | _ => none
abbrev fn (name : Str) (d : Arguments × List Stmt × Scope) (dV pm : Value) (c : Addr) : Obj := ⟨.type "function", none, .func (fnOf name name d.1 d.2.1 d.2.2 dV .none .none pm none (.ref c) .none), #[]⟩
abbrev d57 : {x : Arguments × List Stmt × Scope // fdOf 19 = some x} := ⟨(_, _, _), rfl⟩
abbrev d65 : {x : Arguments × List Stmt × Scope // fdOf 20 = some x} := ⟨(_, _, _), rfl⟩
abbrev d72 : {x : Arguments × List Stmt × Scope // fdOf 22 = some x} := ⟨(_, _, _), rfl⟩
abbrev d112 : {x : Arguments × List Stmt × Scope // fdOf 43 = some x} := ⟨(_, _, _), rfl⟩
abbrev d119 : {x : Arguments × List Stmt × Scope // fdOf 45 = some x} := ⟨(_, _, _), rfl⟩
noncomputable def o46 : Obj := ⟨.type "list", none, .seq (((setAll by13 1450 (tab 0 256)).set 13 (.str ⟨#[13]⟩ 1751)).set 10 (.str ⟨#[10]⟩ 1754)).toArray 0, #[]⟩
def o3 (P : Params) : Obj := ⟨.type "dict", none, .dict #[en P #[95, 95, 110, 97, 109, 101, 95, 95] 165 (.str ⟨#[108, 97, 119, 95, 110, 121, 48, 50, 50, 50, 95, 48, 49]⟩ 1873),
    en P #[95, 95, 100, 111, 99, 95, 95] 166 (.none),
    en P #[95, 95, 112, 97, 99, 107, 97, 103, 101, 95, 95] 167 (.none),
    en P #[95, 95, 108, 111, 97, 100, 101, 114, 95, 95] 168 (.builtin "__main__.__loader__#opaque"),
    en P #[95, 95, 115, 112, 101, 99, 95, 95] 169 (.none),
    en P #[95, 95, 97, 110, 110, 111, 116, 97, 116, 105, 111, 110, 115, 95, 95] 170 (.ref 6),
    en P #[95, 95, 98, 117, 105, 108, 116, 105, 110, 115, 95, 95] 171 (.ref 4),
    en P #[95, 95, 102, 105, 108, 101, 95, 95] 173 (.str ⟨#[47, 99, 108, 97, 105, 109, 47, 99, 117, 116, 46, 112, 121]⟩ 172),
    en P #[95, 95, 99, 97, 99, 104, 101, 100, 95, 95] 174 (.none),
    en P #[67, 82, 76, 70] 188 (.str ⟨#[13, 10]⟩ 187),
    en P #[78, 76] 190 (.str ⟨#[10]⟩ 189),
    en P #[95, 81, 85, 79, 80, 82, 73, 95, 77, 65, 80] 1218 (.ref 17),
    en P #[95, 81, 85, 79, 80, 82, 73, 95, 72, 69, 65, 68, 69, 82, 95, 77, 65, 80] 1219 (.ref 22),
    en P #[95, 81, 85, 79, 80, 82, 73, 95, 66, 79, 68, 89, 95, 77, 65, 80] 1220 (.ref 24),
    en P #[97, 115, 99, 105, 105, 95, 108, 111, 119, 101, 114, 99, 97, 115, 101] 1222 (.str ⟨#[97, 98, 99, 100, 101, 102, 103, 104, 105, 106, 107, 108, 109, 110, 111, 112, 113, 114, 115, 116, 117, 118, 119, 120, 121, 122]⟩ 1221),
    en P #[97, 115, 99, 105, 105, 95, 117, 112, 112, 101, 114, 99, 97, 115, 101] 1224 (.str ⟨#[65, 66, 67, 68, 69, 70, 71, 72, 73, 74, 75, 76, 77, 78, 79, 80, 81, 82, 83, 84, 85, 86, 87, 88, 89, 90]⟩ 1223),
    en P #[97, 115, 99, 105, 105, 95, 108, 101, 116, 116, 101, 114, 115] 1226 (.str ⟨#[97, 98, 99, 100, 101, 102, 103, 104, 105, 106, 107, 108, 109, 110, 111, 112, 113, 114, 115, 116, 117, 118, 119, 120, 121, 122, 65, 66, 67, 68, 69, 70, 71, 72, 73, 74, 75, 76, 77, 78, 79, 80, 81, 82, 83, 84, 85, 86, 87, 88, 89, 90]⟩ 1225),
    en P #[100, 105, 103, 105, 116, 115] 1228 (.str ⟨#[48, 49, 50, 51, 52, 53, 54, 55, 56, 57]⟩ 1227),
    en P #[104, 101, 120, 100, 105, 103, 105, 116, 115] 1233 (.str ⟨#[48, 49, 50, 51, 52, 53, 54, 55, 56, 57, 97, 98, 99, 100, 101, 102, 65, 66, 67, 68, 69, 70]⟩ 1232),
    en P #[117, 110, 113, 117, 111, 116, 101] 1739 (.ref 37),
    en P #[113, 117, 111, 116, 101] 1746 (.ref 44),
    en P #[95, 81, 85, 79, 80, 82, 73, 95, 66, 79, 68, 89, 95, 69, 78, 67, 79, 68, 69, 95, 77, 65, 80] 1747 (.ref 46),
    en P #[98, 111, 100, 121, 95, 101, 110, 99, 111, 100, 101] 1774 (.ref 57),
    en P #[100, 101, 99, 111, 100, 101] 1787 (.ref 65),
    en P #[83, 95, 73, 70, 77, 84] 1796 (.ref 72),
    en P #[83, 95, 73, 70, 68, 73, 82] 1798 (.int 16384 1797),
    en P #[83, 95, 73, 70, 67, 72, 82] 1800 (.int 8192 1799),
    en P #[83, 95, 73, 70, 66, 76, 75] 1802 (.int 24576 1801),
    en P #[83, 95, 73, 70, 82, 69, 71] 1804 (.int 32768 1803),
    en P #[83, 95, 73, 70, 73, 70, 79] 1806 (.int 4096 1805),
    en P #[83, 95, 73, 70, 76, 78, 75] 1808 (.int 40960 1807),
    en P #[83, 95, 73, 70, 83, 79, 67, 75] 1810 (.int 49152 1809),
    en P #[83, 95, 73, 83, 85, 73, 68] 1812 (.int 2048 1811),
    en P #[83, 95, 73, 83, 71, 73, 68] 1814 (.int 1024 1813),
    en P #[83, 95, 73, 83, 86, 84, 88] 1816 (.int 512 1815),
    en P #[83, 95, 73, 82, 85, 83, 82] 1818 (.int 256 1817),
    en P #[83, 95, 73, 87, 85, 83, 82] 1820 (.int 128 1819),
    en P #[83, 95, 73, 88, 85, 83, 82] 1822 (.int 64 1821),
    en P #[83, 95, 73, 82, 71, 82, 80] 1824 (.int 32 1823),
    en P #[83, 95, 73, 87, 71, 82, 80] 1826 (.int 16 1825),
    en P #[83, 95, 73, 88, 71, 82, 80] 1828 (.int 8 1827),
    en P #[83, 95, 73, 82, 79, 84, 72] 1830 (.int 4 1829),
    en P #[83, 95, 73, 87, 79, 84, 72] 1832 (.int 2 1831),
    en P #[83, 95, 73, 88, 79, 84, 72] 1834 (.int 1 1833),
    en P #[95, 102, 105, 108, 101, 109, 111, 100, 101, 95, 116, 97, 98, 108, 101] 1860 (.ref 105),
    en P #[102, 105, 108, 101, 109, 111, 100, 101] 1872 (.ref 112),
    en P #[95, 108, 97, 119, 95, 115, 105, 103, 110, 115] 1885 (.ref 119),
    en P #[108, 97, 119] 1891 (.ref 124)] 50, #[]⟩
noncomputable def KK : Params → Frag := fun P =>
  (nat_lit 3, o3 P) ::
  (nat_lit 46, o46) ::
  (nat_lit 50, tp #[.int 76 1755, .str ⟨#[10]⟩ 189]) ::
  (nat_lit 56, cd #[.str ⟨#[98, 111, 100, 121, 95, 101, 110, 99, 111, 100, 101]⟩ 1756, .str ⟨#[98, 111, 100, 121, 95, 101, 110, 99, 111, 100, 101]⟩ 1757, .str ⟨#[47, 99, 108, 97, 105, 109, 47, 99, 117, 116, 46, 112, 121]⟩ 1758, .int 25 0, .int 3 0, .int 0 0, .int 0 0, .int 3 0, .ref 51, .bool true, .int 181 0, .ref 52, .none, .ref 53, .ref 54, .ref 55, .int 1772 0, .int 25 0, .str ⟨#[47, 99, 108, 97, 105, 109, 47, 99, 117, 116, 46, 112, 121]⟩ 1773]) ::
  (nat_lit 57, fn (Str.ofString "body_encode") d57.1 (.ref 50) (.str ⟨#[99, 112, 121, 51, 49, 51, 46, 101, 109, 97, 105, 108, 46, 113, 117, 111, 112, 114, 105, 109, 105, 109, 101]⟩ 1234) 56) ::
  (nat_lit 58, tp #[.str ⟨#[10]⟩ 189]) ::
  (nat_lit 64, cd #[.str ⟨#[100, 101, 99, 111, 100, 101]⟩ 1775, .str ⟨#[100, 101, 99, 111, 100, 101]⟩ 1776, .str ⟨#[47, 99, 108, 97, 105, 109, 47, 99, 117, 116, 46, 112, 121]⟩ 1777, .int 63 0, .int 2 0, .int 0 0, .int 0 0, .int 3 0, .ref 59, .bool true, .int 181 0, .ref 60, .none, .ref 61, .ref 62, .ref 63, .int 1785 0, .int 63 0, .str ⟨#[47, 99, 108, 97, 105, 109, 47, 99, 117, 116, 46, 112, 121]⟩ 1786]) ::
  (nat_lit 65, fn (Str.ofString "decode") d65.1 (.ref 58) (.str ⟨#[99, 112, 121, 51, 49, 51, 46, 101, 109, 97, 105, 108, 46, 113, 117, 111, 112, 114, 105, 109, 105, 109, 101]⟩ 1234) 64) ::
  (nat_lit 71, cd #[.str ⟨#[83, 95, 73, 70, 77, 84]⟩ 1790, .str ⟨#[83, 95, 73, 70, 77, 84]⟩ 1791, .str ⟨#[47, 99, 108, 97, 105, 109, 47, 99, 117, 116, 46, 112, 121]⟩ 1792, .int 94 0, .int 1 0, .int 0 0, .int 0 0, .int 3 0, .ref 66, .bool true, .int 181 0, .ref 67, .none, .ref 68, .ref 69, .ref 70, .int 1794 0, .int 94 0, .str ⟨#[47, 99, 108, 97, 105, 109, 47, 99, 117, 116, 46, 112, 121]⟩ 1795]) ::
  (nat_lit 72, fn (Str.ofString "S_IFMT") d72.1 (.none) (.str ⟨#[99, 112, 121, 51, 49, 51, 46, 115, 116, 97, 116]⟩ 1788) 71) ::
  (nat_lit 73, tp #[.int 40960 1807, .str ⟨#[108]⟩ 1835]) ::
  (nat_lit 74, tp #[.int 49152 1809, .str ⟨#[115]⟩ 1836]) ::
  (nat_lit 75, tp #[.int 32768 1803, .str ⟨#[45]⟩ 1837]) ::
  (nat_lit 76, tp #[.int 24576 1801, .str ⟨#[98]⟩ 1838]) ::
  (nat_lit 77, tp #[.int 16384 1797, .str ⟨#[100]⟩ 1839]) ::
  (nat_lit 78, tp #[.int 8192 1799, .str ⟨#[99]⟩ 1840]) ::
  (nat_lit 79, tp #[.int 4096 1805, .str ⟨#[112]⟩ 1841]) ::
  (nat_lit 80, tp #[.ref 73, .ref 74, .ref 75, .ref 76, .ref 77, .ref 78, .ref 79]) ::
  (nat_lit 81, tp #[.int 256 1817, .str ⟨#[114]⟩ 1842]) ::
  (nat_lit 82, tp #[.ref 81]) ::
  (nat_lit 83, tp #[.int 128 1819, .str ⟨#[119]⟩ 1843]) ::
  (nat_lit 84, tp #[.ref 83]) ::
  (nat_lit 85, tp #[.int 2112 1844, .str ⟨#[115]⟩ 1845]) ::
  (nat_lit 86, tp #[.int 2048 1811, .str ⟨#[83]⟩ 1846]) ::
  (nat_lit 87, tp #[.int 64 1821, .str ⟨#[120]⟩ 1847]) ::
  (nat_lit 88, tp #[.ref 85, .ref 86, .ref 87]) ::
  (nat_lit 89, tp #[.int 32 1823, .str ⟨#[114]⟩ 1848]) ::
  (nat_lit 90, tp #[.ref 89]) ::
  (nat_lit 91, tp #[.int 16 1825, .str ⟨#[119]⟩ 1849]) ::
  (nat_lit 92, tp #[.ref 91]) ::
  (nat_lit 93, tp #[.int 1032 1850, .str ⟨#[115]⟩ 1851]) ::
  (nat_lit 94, tp #[.int 1024 1813, .str ⟨#[83]⟩ 1852]) ::
  (nat_lit 95, tp #[.int 8 1827, .str ⟨#[120]⟩ 1853]) ::
  (nat_lit 96, tp #[.ref 93, .ref 94, .ref 95]) ::
  (nat_lit 97, tp #[.int 4 1829, .str ⟨#[114]⟩ 1854]) ::
  (nat_lit 98, tp #[.ref 97]) ::
  (nat_lit 99, tp #[.int 2 1831, .str ⟨#[119]⟩ 1855]) ::
  (nat_lit 100, tp #[.ref 99]) ::
  (nat_lit 101, tp #[.int 513 1856, .str ⟨#[116]⟩ 1857]) ::
  (nat_lit 102, tp #[.int 512 1815, .str ⟨#[84]⟩ 1858]) ::
  (nat_lit 103, tp #[.int 1 1833, .str ⟨#[120]⟩ 1859]) ::
  (nat_lit 104, tp #[.ref 101, .ref 102, .ref 103]) ::
  (nat_lit 105, tp #[.ref 80, .ref 82, .ref 84, .ref 88, .ref 90, .ref 92, .ref 96, .ref 98, .ref 100, .ref 104]) ::
  (nat_lit 111, cd #[.str ⟨#[102, 105, 108, 101, 109, 111, 100, 101]⟩ 1861, .str ⟨#[102, 105, 108, 101, 109, 111, 100, 101]⟩ 1862, .str ⟨#[47, 99, 108, 97, 105, 109, 47, 99, 117, 116, 46, 112, 121]⟩ 1863, .int 116 0, .int 1 0, .int 0 0, .int 0 0, .int 3 0, .ref 106, .bool true, .int 181 0, .ref 107, .none, .ref 108, .ref 109, .ref 110, .int 1870 0, .int 116 0, .str ⟨#[47, 99, 108, 97, 105, 109, 47, 99, 117, 116, 46, 112, 121]⟩ 1871]) ::
  (nat_lit 112, fn (Str.ofString "filemode") d112.1 (.none) (.str ⟨#[99, 112, 121, 51, 49, 51, 46, 115, 116, 97, 116]⟩ 1788) 111) ::
  (nat_lit 118, cd #[.str ⟨#[95, 108, 97, 119, 95, 115, 105, 103, 110, 115]⟩ 1875, .str ⟨#[95, 108, 97, 119, 95, 115, 105, 103, 110, 115]⟩ 1876, .str ⟨#[47, 99, 108, 97, 105, 109, 47, 99, 117, 116, 46, 112, 121]⟩ 1877, .int 134 0, .int 1 0, .int 0 0, .int 0 0, .int 3 0, .ref 113, .bool true, .int 181 0, .ref 114, .none, .ref 115, .ref 116, .ref 117, .int 1883 0, .int 134 0, .str ⟨#[47, 99, 108, 97, 105, 109, 47, 99, 117, 116, 46, 112, 121]⟩ 1884]) ::
  (nat_lit 119, fn (Str.ofString "_law_signs") d119.1 (.none) (.str ⟨#[108, 97, 119, 95, 110, 121, 48, 50, 50, 50, 95, 48, 49]⟩ 1873) 118) :: []
def asM : List Addr := [3, 46, 50, 56, 57, 58, 64, 65, 71, 72, 73, 74, 75, 76, 77, 78, 79, 80, 81, 82, 83, 84, 85, 86, 87, 88, 89, 90, 91, 92, 93, 94, 95, 96, 97, 98, 99, 100, 101, 102, 103, 104, 105, 111, 112, 118, 119]
theorem asM_eq (P : Params) : asM = (KK P).map (·.1) := by kernel_rfl
def looseM : List PySem.Str := [Str.ofString "CRLF", Str.ofString "NL", Str.ofString "_QUOPRI_MAP", Str.ofString "_QUOPRI_HEADER_MAP", Str.ofString "_QUOPRI_BODY_MAP", Str.ofString "ascii_lowercase", Str.ofString "ascii_uppercase", Str.ofString "ascii_letters", Str.ofString "digits", Str.ofString "hexdigits", Str.ofString "unquote", Str.ofString "quote", Str.ofString "_QUOPRI_BODY_ENCODE_MAP", Str.ofString "body_encode", Str.ofString "decode", Str.ofString "S_IFMT", Str.ofString "S_IFDIR", Str.ofString "S_IFCHR", Str.ofString "S_IFBLK", Str.ofString "S_IFREG", Str.ofString "S_IFIFO", Str.ofString "S_IFLNK", Str.ofString "S_IFSOCK", Str.ofString "S_ISUID", Str.ofString "S_ISGID", Str.ofString "S_ISVTX", Str.ofString "S_IRUSR", Str.ofString "S_IWUSR", Str.ofString "S_IXUSR", Str.ofString "S_IRGRP", Str.ofString "S_IWGRP", Str.ofString "S_IXGRP", Str.ofString "S_IROTH", Str.ofString "S_IWOTH", Str.ofString "S_IXOTH", Str.ofString "_filemode_table", Str.ofString "filemode", Str.ofString "_law_signs"]
abbrev lawSt : {s : Stmt // PySem.Challenge.pw_ny0222_01.main.body[46]? = some s} := ⟨_, rfl⟩
def qM : Program := { PySem.Challenge.pw_ny0222_01 with main := { PySem.Challenge.pw_ny0222_01.main with body := [lawSt.1] } }
noncomputable def hookM : Hook := kHook KK asM asM_eq
theorem keptM (w : World) : asM.map (H1 w.params).get? = (KK w.params).map fun p => some p.2 := by kernel_rfl
end Mine
end
section
open PySem PySem.W PyProof.Rows
set_option maxRecDepth 100000
set_option maxHeartbeats 0
namespace Mine
theorem te_p : PySem.Challenge.pw_ny0222_01 = pQ := PySem.W.Fast.te10326974983829330616
theorem te_t : treeTable = tQ := PySem.W.Fast.te14364793385576792824
theorem sizeM (w : World) : ((boot_heap w.params).isNs mainGlobals && (#[] : Array GenState).size == 0, (boot_heap w.params).objs.size, (boot_heap w.params).nsMap mainGlobals "__annotations__") = (true, 11, annM) := by kernel_rfl
theorem bootM (w : World) : (importEnds treeTable (opening PySem.Challenge.pw_ny0222_01) w 600 (start (opening PySem.Challenge.pw_ny0222_01)).1 (start (opening PySem.Challenge.pw_ny0222_01)).2).map (fun s => (s.heap, s.gens, s.drawn, s.toks)) = some (boot_heap w.params, #[], boot_drawn, boot_toks) := by
  rw [te_p, te_t]; kernel_rfl
theorem fenceM (s : Shared) : fenceModules? PySem.Challenge.pw_ny0222_01 s = some s := by kernel_rfl
theorem openM (w : World) : (fencedOpening treeTable PySem.Challenge.pw_ny0222_01 w 90000).map (fun s => (s.heap, s.gens, s.drawn, s.toks)) = some (boot_heap w.params, #[], boot_drawn, boot_toks) := by
  obtain ⟨s, hs, hv⟩ := Option.map_eq_some_iff.mp (bootM w)
  have m := importEnds_mono (90000 - 600) _ _ _ _ hs
  unfold fencedOpening
  rw [m]
  show ((fenceModules? PySem.Challenge.pw_ny0222_01 s)).map _ = _
  rw [fenceM s]
  exact congrArg some hv
theorem look0 (w : World) (os : OsState) : (staticsOk (importedModules PySem.Challenge.pw_ny0222_01.main.body) (boot_heap w.params) (H1 w.params) && namesBound PySem.Challenge.pw_ny0222_01 (H1 w.params) && gensDone ⟨H1 w.params, #[], {}, 1892, os⟩ && laidKept (boot_heap w.params) (H1 w.params)) = true := by
  rw [te_p]; kernel_rfl
end Mine
end
section
open PySem PySem.W PyProof.Rows
set_option maxRecDepth 100000
set_option maxHeartbeats 0
namespace Mine
abbrev rM : RowW := PySem.Challenge.rw_ny0222_01.row.toRowW
noncomputable def XtM : Shared → Bool := fun s => xlAt qM [] s && recOk (RowW.records rM) s
theorem look1 (w : World) (os : OsState) : openSeen qM looseM (importedModules PySem.Challenge.pw_ny0222_01.main.body) XtM true ⟨H1 w.params, #[], {}, 1892, os⟩ = openGood qM looseM := by
  rw [PySem.W.Fast.te4187177175401517315, te_p]; kernel_rfl
end Mine
end
section
open PySem PySem.W PyProof.Rows
set_option maxRecDepth 100000
set_option maxHeartbeats 0
namespace Mine
abbrev pN : Program := PySem.Challenge.rw_ny0222_01.row.prog
/-- all that stood stands -/
def Grow (h h' : Heap) : Prop := ∀ b o, h.get? b = some o → h'.get? b = some o
theorem Grow.refl (h : Heap) : Grow h h := fun _ _ e => e
theorem Grow.trans {a b c : Heap} (x : Grow a b) (y : Grow b c) : Grow a c := fun _ _ e => y _ _ (x _ _ e)
theorem Fr.grow {h₀ h h' : Heap} {L : Addr} {m : Str → Option Value} (F : Fr h₀ L h m) (g : Grow h h') : Fr h₀ L h' m :=
  ⟨F.ns.at' fun o e => g _ _ e, fun b o e => g _ _ (F.keep b o e), F.above⟩
theorem News.grow {h₀ h h' : Heap} {L : Addr} {O : List (Addr × Obj)} (N : News h₀ L h O) (g : Grow h h') : News h₀ L h' O :=
  fun p hp => ⟨g _ _ (N p hp).1, (N p hp).2⟩
abbrev No : Value → Shared → Prop := fun _ _ => False
section
variable {prog : Program} {w : World} {A : Around} {s : Shared} {K : Frag}
/-- a call of a def of the text: its body is walked over the whole heap; what stood stands behind it -/
theorem fcall {name qual : Str} {params : Arguments} {body : List Stmt} {scope : Scope} {dV kV doc pm cdv ct oc : Value} {an od : Option Addr} {osl : Array (Option Value)} {f : Addr} {args : List Value} {binds : List (Str × Value)}
    {E : Value → Shared → Prop} {Q : Value → Shared → Prop} (X : K.In s.heap) (hlim : s.heap.NoLimit)
    (ho : K.lookup f = some ⟨oc, od, .func (fnOf name qual params body scope dV kV doc pm an cdv ct), osl⟩) (hcd : codeIn K cdv qual = true) (hroom : A.depth < recursionLimit)
    (hbind : BindsTo s (fnOf name qual params body scope dV kV doc pm an cdv ct) ⟨args, []⟩ binds) (hloc : ∀ y ∈ binds, scope.names.lookup y.1 = some .local)
    (h : ∀ h₁, Fr s.heap s.heap.objs.size h₁ (fun y => binds.reverse.lookup y) →
      wpAny (model prog w) (A.deeper (envOf qual scope s.heap.objs.size f cdv)) (execs body (envOf qual scope s.heap.objs.size f cdv))
        (fun fl s' => ∃ v, fl = .ret v ∧ Q v s') No { s with heap := h₁, toks := s.toks + binds.length })
    (hco : scope.isCoroutine = false := by rfl) (hgen : scope.isGenerator = false := by rfl) (hk : scope.kind = .function := by rfl)
    (hcell : ∀ x ∈ scope.names, x.2 ≠ .cell := by decide) : wpAny (model prog w) A (call (.ref f) args) Q E s := by
  refine wpAny_call (codeAny_call_def (fd := fnOf name qual params body scope dV kV doc pm an cdv ct) (body := body) (binds := binds) hroom (X _ _ ho) rfl hlim (codeRec_of X hcd) rfl hbind hcell hloc (fun h₁ hns hk₁ => ?_) hco hgen hk)
  refine wpAny_mono (h h₁ ⟨hns, hk₁, Nat.le_refl _⟩) (fun fl s' hq => ?_) (fun _ _ x => x.elim)
  obtain ⟨v, rfl, hq⟩ := hq
  exact hq
end
section
variable {prog : Program} {w : World} {A : Around} {s : Shared} {env : Env} {h₀ : Heap} {Q : Flow → Shared → Prop}
/-- a turn's end -/
def TEnd (h₀ : Heap) (L I : Addr) (it : Obj) (J : (Str → Option Value) → List (Addr × Obj) → Prop) (s : Shared) (Q : Flow → Shared → Prop) (f : Flow) (s₃ : Shared) : Prop := match f with
  | .ret v => Q (.ret v) s₃
  | .brk => Q .next s₃
  | _ => ∃ h' tk m' O', s₃ = { s with heap := h', toks := tk } ∧ Fr h₀ L h' m' ∧ News h₀ L h' ((I, it) :: O') ∧ (∀ p ∈ O', p.1 ≠ I) ∧ J m' O'
theorem for_W {target : PySem.Expr} {body orelse : List Stmt} {I : Addr} {fp : List Addr} {n : Nat} {P : Nat → Value → Prop} {St : Nat → Heap → Prop} {m : Str → Option Value} {O : List (Addr × Obj)} {E : Value → Shared → Prop} (stay : List (Addr × Obj))
    (W : Walks prog w A I fp [I] n P St) (J : Nat → (Str → Option Value) → List (Addr × Obj) → Prop)
    (hst : St 0 s.heap) (hI : h₀.get? I = none) (hIL : I ≠ env.locals) (hIs : ∀ i h, St i h → ∃ o, h.get? I = some o) (hOI : ∀ p ∈ O, p.1 ≠ I)
    (hfp : ∀ b ∈ fp, b = I ∨ (∃ o, h₀.get? b = some o) ∨ ∃ o, (b, o) ∈ stay) (hstay : ∀ i m O, J i m O → ∀ p ∈ stay, p ∈ O)
    (F : Fr h₀ env.locals s.heap m) (N : News h₀ env.locals s.heap O) (h0 : J 0 m O)
    (hgo : ∀ i (s' : Shared) v (Q' : Unit → Shared → Prop) E', St i s'.heap → Q' () s' → wpAny (model prog w) A (letOwnedTupleGo target (.ref I) v) Q' E' s')
    (turn : ∀ i v m₁ O₁ h tk it, i < n → P i v → J i m₁ O₁ → (∀ p ∈ O₁, p.1 ≠ I) → Fr h₀ env.locals h m₁ → News h₀ env.locals h ((I, it) :: O₁) →
      wpAny (model prog w) A (assign target env v) (fun _ s₂ => wpAny (model prog w) A (execs body env) (TEnd h₀ env.locals I it (J (i + 1)) s Q) No s₂) No { s with heap := h, toks := tk })
    (done : ∀ m₁ O₁ h tk, J n m₁ O₁ → Fr h₀ env.locals h m₁ → News h₀ env.locals h O₁ → wpAny (model prog w) A (execs orelse env) Q No { s with heap := h, toks := tk }) :
    codeAny (model prog w) A (.forLoop target (.ref I) body orelse env) (fun r s' => match r with | .ok f => Q f s' | .error e => cameBackBy (model prog w) A env E e s') s := by
  refine codeAny_forLoop_any (fun k s' => ∃ h' tk m' O' i, s' = { s with heap := h', toks := tk } ∧ St i h' ∧ Fr h₀ env.locals h' m' ∧ News h₀ env.locals h' O' ∧ (∀ p ∈ O', p.1 ≠ I) ∧ J i m' O' ∧ i ≤ n ∧ k = n + 1 - i) ?_ (n + 1)
    ⟨s.heap, s.toks, m, O, 0, rfl, hst, F, N, hOI, h0, Nat.zero_le _, rfl⟩
  rintro k s' ⟨h', tk, m', O', i, rfl, hst', F', N', hO', hJ, hi, rfl⟩
  have next : ∀ h₁ : Heap, (∀ b o, b ∉ [I] → h'.get? b = some o → h₁.get? b = some o) → Fr h₀ env.locals h₁ m' ∧ News h₀ env.locals h₁ O' := fun h₁ hk =>
    ⟨⟨F'.ns.at' fun o e => hk _ o (fun q => hIL (List.mem_singleton.mp q).symm) e, fun b o e => hk b o (fun q => by rw [List.mem_singleton.mp q, hI] at e; cases e) (F'.keep b o e), F'.above⟩,
      fun p hp => ⟨hk _ _ (fun q => hO' p hp (List.mem_singleton.mp q)) (N' p hp).1, (N' p hp).2⟩⟩
  by_cases hlt : i < n
  · refine W.item i _ _ _ hlt hst' fun v h₁ tk₁ hP hst₁ hk₁ => ?_
    obtain ⟨F₁, N₁⟩ := next h₁ hk₁
    obtain ⟨it, hit⟩ := hIs _ _ hst₁
    have N₂ : News h₀ env.locals h₁ ((I, it) :: O') := fun p hp => (List.mem_cons.mp hp).elim (fun e => e ▸ ⟨hit, hIL, hI⟩) (N₁ p)
    refine hgo (i + 1) _ v _ _ hst₁ ?_
    refine wpAny_mono (turn i v m' O' h₁ tk₁ it hlt hP hJ hO' F₁ N₂) (fun _ s₂ h₂ => wpAny_mono h₂ (fun f s₃ h₃ => ?_) fun _ _ x => x.elim) fun _ _ x => x.elim
    have fin : (∃ h' tk m' O', s₃ = { s with heap := h', toks := tk } ∧ Fr h₀ env.locals h' m' ∧ News h₀ env.locals h' ((I, it) :: O') ∧ (∀ p ∈ O', p.1 ≠ I) ∧ J (i + 1) m' O') →
        ∃ k, k < n + 1 - i ∧ ∃ h' tk m' O' j, s₃ = { s with heap := h', toks := tk } ∧ St j h' ∧ Fr h₀ env.locals h' m' ∧ News h₀ env.locals h' O' ∧ (∀ p ∈ O', p.1 ≠ I) ∧ J j m' O' ∧ j ≤ n ∧ k = n + 1 - j := by
      rintro ⟨g₃, tk₃, m₃, O₃, rfl, F₃, N₃, hO₃, hJ₃⟩
      refine ⟨n + 1 - (i + 1), by omega, g₃, tk₃, m₃, O₃, i + 1, rfl, ?_, F₃, fun p hp => N₃ p (List.mem_cons_of_mem _ hp), hO₃, hJ₃, hlt, rfl⟩
      refine W.frame _ _ _ hst₁ fun b hb o e => ?_
      rcases hfp b hb with rfl | ⟨q, hq⟩ | ⟨q, hq⟩
      · rw [hit] at e
        exact (Option.some.inj e) ▸ (N₃ (b, it) (List.mem_cons_self ..)).1
      · have e1 := F₁.keep b q hq
        rw [e] at e1
        exact (Option.some.inj e1) ▸ F₃.keep b q hq
      · have e1 := (N₁ _ (hstay _ _ _ hJ _ hq)).1
        have e2 := (N₃ _ (List.mem_cons_of_mem _ (hstay _ _ _ hJ₃ _ hq))).1
        rw [e] at e1
        exact (Option.some.inj e1) ▸ e2
    cases f with
    | ret v => exact h₃
    | brk => exact h₃
    | next => exact fin h₃
    | cont => exact fin h₃
  · have hin : i = n := by omega
    subst hin
    refine W.done _ _ _ hst' fun h₁ tk₁ hk₁ => ?_
    obtain ⟨F₁, N₁⟩ := next h₁ hk₁
    exact wpAny_mono (done m' O' h₁ tk₁ hJ F₁ N₁) (fun _ _ x => x) fun _ _ x => x.elim
theorem go_name {x : Str} {p : Pos} {I : Addr} {St : Nat → Heap → Prop} : ∀ i (s' : Shared) v (Q' : Unit → Shared → Prop) E', St i s'.heap → Q' () s' → wpAny (model prog w) A (letOwnedTupleGo (.Name x p) (.ref I) v) Q' E' s' :=
  fun _ _ _ _ _ _ h => wpAny_pure h
/-- a for over a list that the ledger holds -/
theorem for_list {x : Str} {px pos : Pos} {iter : PySem.Expr} {body orelse : List Stmt} {l : Addr} {lo : Obj} {vs : Array Value} {m : Str → Option Value} {O : List (Addr × Obj)} {E : Value → Shared → Prop}
    (J : Nat → (Str → Option Value) → List (Addr × Obj) → Prop) (hh : A.handled = none)
    (hlo : lo.cls = .type "list" ∧ ∃ k, lo.data = .seq vs k) (hstay : ∀ i m O, J i m O → (l, lo) ∈ O)
    (F : Fr h₀ env.locals s.heap m) (N : News h₀ env.locals s.heap O) (h0 : J 0 m O)
    (turn : ∀ i v m₁ O₁ h tk I it, vs[i]? = some v → J i m₁ O₁ → (∀ p ∈ O₁, p.1 ≠ I) → Fr h₀ env.locals h m₁ → News h₀ env.locals h ((I, it) :: O₁) →
      wpAny (model prog w) A (assign (.Name x px) env v) (fun _ s₂ => wpAny (model prog w) A (execs body env) (TEnd h₀ env.locals I it (J (i + 1)) s Q) No s₂) No { s with heap := h, toks := tk })
    (done : ∀ m₁ O₁ h tk, J vs.size m₁ O₁ → Fr h₀ env.locals h m₁ → News h₀ env.locals h O₁ → wpAny (model prog w) A (execs orelse env) Q No { s with heap := h, toks := tk }) :
    wpAny (model prog w) A (pyIter (.ref l)) (fun it s₂ => codeAny (model prog w) A (.forLoop (.Name x px) it body orelse env) (fun r s' => match r with | .ok f => Q f s' | .error e => cameBackBy (model prog w) A env E e s') s₂) E s := by
  have hm := N _ (hstay _ _ _ h0)
  have hl : s.heap.IsList l vs := ⟨lo, hm.1, hlo.1, hlo.2⟩
  have hlt : l < s.heap.objs.size := Heap.lt_size hm.1
  refine wpAny_pyIter_list hl ?_
  have W := Walks.list (prog := prog) (w := w) hh s.heap.objs.size l (Nat.ne_of_lt hlt) vs
  refine for_W [(l, lo)] W J ⟨⟨_, Heap.get?_push_size _ rfl, rfl, rfl⟩, hl.at fun o e => Heap.get?_push_of_some _ e⟩ (next_is_new F) (Nat.ne_of_gt F.ns.lt) (fun i h st => let ⟨o, ho, _⟩ := st.1; ⟨o, ho⟩)
    (fun p hp => Nat.ne_of_lt (Heap.lt_size (N p hp).1)) (fun b hb => ?_) (fun i m O hJ p hp => by rw [List.mem_singleton.mp hp]; exact hstay _ _ _ hJ) (F.push _) (fun p hp => ⟨Heap.get?_push_of_some _ (N p hp).1, (N p hp).2⟩) h0 (fun _ _ _ _ _ _ h => wpAny_pure h) ?_ done
  · rcases List.mem_cons.mp hb with rfl | hb
    · exact .inl rfl
    · exact .inr (.inr ⟨lo, by rw [List.mem_singleton.mp hb]; exact List.mem_singleton.mpr rfl⟩)
  · intro i v m₁ O₁ h tk it hi hP hJ hO F₁ N₁
    exact turn i v m₁ O₁ h tk _ it hP hJ hO F₁ N₁
/-- a for over a range of ones -/
theorem for_range {x : Str} {px : Pos} {body orelse : List Stmt} {r : Addr} {a₀ b₀ : Int} {t₀ u₀ v₀ : Tok} {n : Nat} {m : Str → Option Value} {O : List (Addr × Obj)} {E : Value → Shared → Prop}
    (J : Nat → (Str → Option Value) → List (Addr × Obj) → Prop) (hh : A.handled = none) (hr : IsRange s.heap r a₀ b₀ 1 t₀ u₀ v₀) (hsmall : Builtin.Range.small a₀ b₀ 1 = true) (hn : Builtin.Range.rangeSize a₀ b₀ 1 = (n : Int))
    (F : Fr h₀ env.locals s.heap m) (N : News h₀ env.locals s.heap O) (h0 : J 0 m O)
    (turn : ∀ i t m₁ O₁ h tk I it, i < n → J i m₁ O₁ → (∀ p ∈ O₁, p.1 ≠ I) → Fr h₀ env.locals h m₁ → News h₀ env.locals h ((I, it) :: O₁) →
      wpAny (model prog w) A (assign (.Name x px) env (.int (a₀ + (i : Nat)) t)) (fun _ s₂ => wpAny (model prog w) A (execs body env) (TEnd h₀ env.locals I it (J (i + 1)) s Q) No s₂) No { s with heap := h, toks := tk })
    (done : ∀ m₁ O₁ h tk, J n m₁ O₁ → Fr h₀ env.locals h m₁ → News h₀ env.locals h O₁ → wpAny (model prog w) A (execs orelse env) Q No { s with heap := h, toks := tk }) :
    wpAny (model prog w) A (pyIter (.ref r)) (fun it s₂ => codeAny (model prog w) A (.forLoop (.Name x px) it body orelse env) (fun r s' => match r with | .ok f => Q f s' | .error e => cameBackBy (model prog w) A env E e s') s₂) E s := by
  refine wpAny_pyIter_range hr hsmall ?_
  have W := Walks.range (prog := prog) (w := w) hh s.heap.objs.size a₀ 1 n
  refine for_W [] W J (by show IsRangeIter _ _ _ _ _; rw [hn]; simpa using Heap.get?_push_size _ rfl) (next_is_new F) (Nat.ne_of_gt F.ns.lt) (fun i h st => ⟨_, st⟩)
    (fun p hp => Nat.ne_of_lt (Heap.lt_size (N p hp).1)) (fun b hb => .inl (List.mem_singleton.mp hb)) (fun i m O hJ p hp => nomatch hp) (F.push _) (fun p hp => ⟨Heap.get?_push_of_some _ (N p hp).1, (N p hp).2⟩) h0 (fun _ _ _ _ _ _ h => wpAny_pure h) ?_ done
  intro i v m₁ O₁ h tk it hi hP hJ hO F₁ N₁
  obtain ⟨t, rfl⟩ := hP
  rw [Int.mul_one]
  exact turn i t m₁ O₁ h tk _ it hi hJ hO F₁ N₁
end
end Mine
end
section
open PySem PySem.W PyProof.Rows
set_option maxRecDepth 100000
set_option maxHeartbeats 0
namespace Mine
theorem Grow.push (h : Heap) (o : Obj) : Grow h (h.push o) := fun _ _ e => Heap.get?_push_of_some _ e
theorem keptGrow (h : Heap) : KeptH (Grow h) := fun _ o g => g.trans (Grow.push _ o)
abbrev IsI (n : Int) (v : Value) : Prop := ∃ t, v = .int n t
abbrev IsS (x : Str) (v : Value) : Prop := ∃ t, v = .str x t
section
variable (prog : Program) (w : World) (A : Around) (env : Env) (h : Heap)
/-- from any heap that bears h: the expression gives such a value, all that stood stands -/
def Ev (e : PySem.Expr) (V : Value → Prop) : Prop :=
  ∀ (s : Shared) (Q : Value → Shared → Prop) (E : Value → Shared → Prop), Grow h s.heap → (∀ v h' tk, V v → Grow s.heap h' → Q v { s with heap := h', toks := tk }) → wpAny (model prog w) A (eval e env) Q E s
def Te (e : PySem.Expr) (b : Bool) : Prop :=
  ∀ (s : Shared) (Q : Bool → Shared → Prop) (E : Value → Shared → Prop), Grow h s.heap → (∀ h' tk, Grow s.heap h' → Q b { s with heap := h', toks := tk }) → wpAny (model prog w) A (PySem.isTrue e env (eval e env)) Q E s
inductive All2 : List (Value → Prop) → List Value → Prop
  | nil : All2 [] []
  | cons {V Vs v vs} : V v → All2 Vs vs → All2 (V :: Vs) (v :: vs)
def Evs (es : List PySem.Expr) (Vs : List (Value → Prop)) : Prop :=
  ∀ (pos : Pos) (s : Shared) (Q : List Value → Shared → Prop) (E : Value → Shared → Prop), Grow h s.heap → (∀ vs h' tk, All2 Vs vs → Grow s.heap h' → Q vs { s with heap := h', toks := tk }) → wpAny (model prog w) A (spliced (backTo pos (starEach es env))) Q E s
end
section
variable {prog : Program} {w : World} {A : Around} {env : Env} {h : Heap} {l r e : PySem.Expr} {pos : Pos} {a b : Int} {x y : Str}
theorem Ev.int {i : Int} {k : Nat} : Ev prog w A env h (.Constant (.int i) k pos) (IsI i) := fun s Q E g k => wpAny_Constant_int (k _ s.heap _ ⟨_, rfl⟩ (Grow.refl _))
theorem Ev.str {k : Nat} : Ev prog w A env h (.Constant (.str x) k pos) (IsS x) := fun s Q E g k => Calls.Constant_str (k _ s.heap _ ⟨_, rfl⟩ (Grow.refl _))
theorem Ev.mono {V V' : Value → Prop} (H : Ev prog w A env h e V) (hv : ∀ v, V v → V' v) : Ev prog w A env h e V' := fun s Q E g k => H s Q E g fun v h' tk hV g' => k v h' tk (hv v hV) g'
theorem Ev.bin {V : Value → Prop} {op : Operator} {Va Vb : Value → Prop} (hl : Ev prog w A env h l Va) (hr : Ev prog w A env h r Vb)
    (hop : ∀ (s : Shared) u v (Q : Value → Shared → Prop) (E : Value → Shared → Prop), Va u → Vb v → (∀ v h' tk, V v → Grow s.heap h' → Q v { s with heap := h', toks := tk }) → wpAny (model prog w) A (binaryOp op u v) Q E s) :
    Ev prog w A env h (.BinOp l op r pos) V :=
  fun s Q E g k => wpAny_BinOp (hl s _ _ g fun u h1 t1 hu g1 => hr _ _ _ (g.trans g1) fun v h2 t2 hv g2 => hop _ u v _ _ hu hv fun z h3 t3 hz g3 => k z h3 t3 hz ((g1.trans g2).trans g3))
theorem Ev.add (hl : Ev prog w A env h l (IsI a)) (hr : Ev prog w A env h r (IsI b)) : Ev prog w A env h (.BinOp l .Add r pos) (IsI (a + b)) :=
  hl.bin hr fun s u v Q E ⟨t, hu⟩ ⟨t', hv⟩ k => by subst hu hv; exact add_int (k _ s.heap _ ⟨_, rfl⟩ (Grow.refl _))
theorem Ev.sub (hl : Ev prog w A env h l (IsI a)) (hr : Ev prog w A env h r (IsI b)) : Ev prog w A env h (.BinOp l .Sub r pos) (IsI (a - b)) :=
  hl.bin hr fun s u v Q E ⟨t, hu⟩ ⟨t', hv⟩ k => by subst hu hv; exact sub_int (k _ s.heap _ ⟨_, rfl⟩ (Grow.refl _))
theorem Ev.mul (hl : Ev prog w A env h l (IsI a)) (hr : Ev prog w A env h r (IsI b)) (ok : IntMulOk a b) : Ev prog w A env h (.BinOp l .Mult r pos) (IsI (a * b)) :=
  hl.bin hr fun s u v Q E ⟨t, hu⟩ ⟨t', hv⟩ k => by subst hu hv; exact mul_int (k _ s.heap _ ⟨_, rfl⟩ (Grow.refl _)) ok
theorem Ev.fdiv (hl : Ev prog w A env h l (IsI a)) (hr : Ev prog w A env h r (IsI b)) (hb : b ≠ 0) (ok : Builtin.divisionGoesByPylong a b = false) : Ev prog w A env h (.BinOp l .FloorDiv r pos) (IsI (Int.fdiv a b)) :=
  hl.bin hr fun s u v Q E ⟨t, hu⟩ ⟨t', hv⟩ k => by subst hu hv; exact floordiv_int hb (k _ s.heap _ ⟨_, rfl⟩ (Grow.refl _)) (.inl ok)
theorem Ev.mod (hl : Ev prog w A env h l (IsI a)) (hr : Ev prog w A env h r (IsI b)) (hb : b ≠ 0) : Ev prog w A env h (.BinOp l .Mod r pos) (IsI (Int.fmod a b)) :=
  hl.bin hr fun s u v Q E ⟨t, hu⟩ ⟨t', hv⟩ k => by subst hu hv; exact mod_int' hb (k _ s.heap _ ⟨_, rfl⟩ (Grow.refl _))
theorem Ev.band (hl : Ev prog w A env h l (IsI a)) (hr : Ev prog w A env h r (IsI b)) : Ev prog w A env h (.BinOp l .BitAnd r pos) (IsI (Builtin.bitAnd a b)) :=
  hl.bin hr fun s u v Q E ⟨t, hu⟩ ⟨t', hv⟩ k => by subst hu hv; exact and_int (k _ s.heap _ ⟨_, rfl⟩ (Grow.refl _))
theorem Ev.cat (hl : Ev prog w A env h l (IsS x)) (hr : Ev prog w A env h r (IsS y)) (hz : x.length + y.length ≤ sizeLine) : Ev prog w A env h (.BinOp l .Add r pos) (IsS (x ++ y)) :=
  hl.bin hr fun s u v Q E ⟨t, hu⟩ ⟨t', hv⟩ k => by subst hu hv; exact add_str (fun t tk => k _ s.heap _ ⟨_, rfl⟩ (Grow.refl _)) hz
theorem Ev.neg (he : Ev prog w A env h e (IsI a)) : Ev prog w A env h (.UnaryOp .USub e pos) (IsI (-a)) :=
  fun s Q E g k => UnaryOp_ (he s _ _ g fun u h1 t1 hu g1 => by obtain ⟨t, rfl⟩ := hu; exact neg_int (k _ h1 _ ⟨_, rfl⟩ g1))
theorem Te.cmp {op : CmpOp} {Va Vb : Value → Prop} {c : Bool} (hl : Ev prog w A env h l Va) (hr : Ev prog w A env h r Vb)
    (hop : ∀ (s : Shared) u v (Q : Value → Shared → Prop) (E : Value → Shared → Prop), Va u → Vb v → Q (.bool c) s → wpAny (model prog w) A (compareOp op u v) Q E s) (hb : behindInMarks op r = false := by rfl) :
    Te prog w A env h (.Compare l [op] [r] pos) c :=
  fun s Q E g k => wpAny_isTrue_Compare1 (hl s _ _ g fun u h1 t1 hu g1 => hr _ _ _ (g.trans g1) fun v h2 t2 hv g2 => hop _ u v _ _ hu hv (wpAny_truthy_bool (k h2 t2 (g1.trans g2)))) hb
theorem Te.eqI (hl : Ev prog w A env h l (IsI a)) (hr : Ev prog w A env h r (IsI b)) (hb : behindInMarks .Eq r = false := by rfl) : Te prog w A env h (.Compare l [.Eq] [r] pos) (a == b) :=
  .cmp hl hr (fun s u v Q E ⟨t, hu⟩ ⟨t', hv⟩ k => by subst hu hv; exact eq_int k) hb
theorem Te.ltI (hl : Ev prog w A env h l (IsI a)) (hr : Ev prog w A env h r (IsI b)) (hb : behindInMarks .Lt r = false := by rfl) : Te prog w A env h (.Compare l [.Lt] [r] pos) (decide (a < b)) :=
  .cmp hl hr (fun s u v Q E ⟨t, hu⟩ ⟨t', hv⟩ k => by subst hu hv; exact lt_int k) hb
theorem Te.leI (hl : Ev prog w A env h l (IsI a)) (hr : Ev prog w A env h r (IsI b)) (hb : behindInMarks .LtE r = false := by rfl) : Te prog w A env h (.Compare l [.LtE] [r] pos) (decide (a ≤ b)) :=
  .cmp hl hr (fun s u v Q E ⟨t, hu⟩ ⟨t', hv⟩ k => by subst hu hv; exact le_int k) hb
theorem Te.gtI (hl : Ev prog w A env h l (IsI a)) (hr : Ev prog w A env h r (IsI b)) (hb : behindInMarks .Gt r = false := by rfl) : Te prog w A env h (.Compare l [.Gt] [r] pos) (decide (a > b)) :=
  .cmp hl hr (fun s u v Q E ⟨t, hu⟩ ⟨t', hv⟩ k => by subst hu hv; exact gt_int k) hb
theorem Te.neI (hl : Ev prog w A env h l (IsI a)) (hr : Ev prog w A env h r (IsI b)) (hb : behindInMarks .NotEq r = false := by rfl) : Te prog w A env h (.Compare l [.NotEq] [r] pos) (a != b) :=
  .cmp hl hr (fun s u v Q E ⟨t, hu⟩ ⟨t', hv⟩ k => by subst hu hv; exact ne_int k) hb
theorem Te.eqS (hl : Ev prog w A env h l (IsS x)) (hr : Ev prog w A env h r (IsS y)) (hb : behindInMarks .Eq r = false := by rfl) : Te prog w A env h (.Compare l [.Eq] [r] pos) (x == y) :=
  .cmp hl hr (fun s u v Q E ⟨t, hu⟩ ⟨t', hv⟩ k => by subst hu hv; exact eq_str k) hb
theorem Te.neS (hl : Ev prog w A env h l (IsS x)) (hr : Ev prog w A env h r (IsS y)) (hb : behindInMarks .NotEq r = false := by rfl) : Te prog w A env h (.Compare l [.NotEq] [r] pos) (x != y) :=
  .cmp hl hr (fun s u v Q E ⟨t, hu⟩ ⟨t', hv⟩ k => by subst hu hv; exact ne_str k) hb
theorem Te.inS (hl : Ev prog w A env h l (IsS y)) (hr : Ev prog w A env h r (IsS x)) (hb : behindInMarks .In r = false := by rfl) : Te prog w A env h (.Compare l [.In] [r] pos) (!(Builtin.Str.occurrences x y 0 x.length 1).isEmpty) :=
  .cmp hl hr (fun s u v Q E ⟨t, hu⟩ ⟨t', hv⟩ k => by subst hu hv; exact in_str k) hb
theorem Te.notInS (hl : Ev prog w A env h l (IsS y)) (hr : Ev prog w A env h r (IsS x)) (hb : behindInMarks .NotIn r = false := by rfl) : Te prog w A env h (.Compare l [.NotIn] [r] pos) (!!(Builtin.Str.occurrences x y 0 x.length 1).isEmpty) :=
  .cmp hl hr (fun s u v Q E ⟨t, hu⟩ ⟨t', hv⟩ k => by subst hu hv; exact notIn_str k) hb
theorem Te.strE (he : Ev prog w A env h e (IsS x)) (hx : (x.length : Int) < 9223372036854775808) (hp : PySem.isTrue e env (eval e env) = (do let v ← eval e env; standAt e.pos; holding [v] (truthy v)) := by rfl) : Te prog w A env h e ((x.length : Int) != 0) :=
  fun s Q E g k => isTrue_plain (he s _ _ g fun u h1 t1 hu g1 => by obtain ⟨t, rfl⟩ := hu; exact SBL.truthy hx (k h1 _ g1)) hp
theorem Te.not {c : Bool} (he : Te prog w A env h e c) : Te prog w A env h (.UnaryOp .Not e pos) (!c) := fun s Q E g k => isTrue_not (he s _ _ g k)
theorem Ev.ite {t : PySem.Expr} {c : Bool} {V : Value → Prop} (ht : Te prog w A env h t c) (h1 : c = true → Ev prog w A env h l V) (h2 : c = false → Ev prog w A env h r V) : Ev prog w A env h (.IfExp t l r pos) V :=
  fun s Q E g k => IfExp_ (ht s _ _ g fun h' tk g' => by
    cases c with
    | true => exact h1 rfl _ _ _ (g.trans g') fun v h2 t2 hv g2 => k v h2 t2 hv (g'.trans g2)
    | false => exact h2 rfl _ _ _ (g.trans g') fun v h2 t2 hv g2 => k v h2 t2 hv (g'.trans g2))
theorem Ev.iteS {t : PySem.Expr} {c : Bool} (ht : Te prog w A env h t c) (h1 : Ev prog w A env h l (IsS x)) (h2 : Ev prog w A env h r (IsS y)) : Ev prog w A env h (.IfExp t l r pos) (IsS (if c then x else y)) :=
  .ite ht (fun e => by subst e; exact h1) (fun e => by subst e; exact h2)
theorem Ev.iteI {t : PySem.Expr} {c : Bool} (ht : Te prog w A env h t c) (h1 : Ev prog w A env h l (IsI a)) (h2 : Ev prog w A env h r (IsI b)) : Ev prog w A env h (.IfExp t l r pos) (IsI (if c then a else b)) :=
  .ite ht (fun e => by subst e; exact h1) (fun e => by subst e; exact h2)
theorem Evs.nil : Evs prog w A env h [] [] := fun pos s Q E g k => spliced_none (k _ s.heap s.toks .nil (Grow.refl _))
theorem Evs.cons {es : List PySem.Expr} {V : Value → Prop} {Vs : List (Value → Prop)} (he : Ev prog w A env h e V) (hes : Evs prog w A env h es Vs) (hst : starEach (e :: es) env = (false, eval e env) :: starEach es env := by rfl) : Evs prog w A env h (e :: es) (V :: Vs) :=
  fun pos s Q E g k => spliced_more (he s _ _ g fun v h1 t1 hv g1 => hes pos _ _ _ (g.trans g1) fun vs h2 t2 hvs g2 => k _ h2 t2 (.cons hv hvs) (g1.trans g2)) hst
/-- a list display -/
theorem Ev.list {es : List PySem.Expr} {Vs : List (Value → Prop)} (hes : Evs prog w A env h es Vs) (s : Shared) (Q : Value → Shared → Prop) (E : Value → Shared → Prop) (g : Grow h s.heap)
    (k : ∀ vs a h' tk, All2 Vs vs → Grow s.heap h' → s.heap.get? a = none → h'.get? a = some { cls := .type "list", data := .seq vs.toArray } → Q (.ref a) { s with heap := h', toks := tk }) (hsz : ∀ vs, All2 Vs vs → vs.length ≤ sizeLine) :
    wpAny (model prog w) A (eval (.List es pos) env) Q E s :=
  List_ (hes pos s _ _ g fun vs h1 t1 hvs g1 => wpAny_newObj_type (k vs _ _ _ hvs (g1.trans (Grow.push _ _)) (by
    cases hq : s.heap.get? h1.objs.size with
    | none => rfl
    | some o => exact absurd (Heap.lt_size (g1 _ _ hq)) (Nat.lt_irrefl _)) (Heap.get?_push_size _ rfl)) (by show vs.toArray.size ≤ sizeLine; rw [List.size_toArray]; exact hsz vs hvs))
theorem All2.get {Vs : List (Value → Prop)} {vs : List Value} (H : All2 Vs vs) : ∀ {i : Nat} {V : Value → Prop}, Vs[i]? = some V → ∃ v, vs[i]? = some v ∧ V v := by
  induction H with
  | nil => intro i V e; simp at e
  | cons hv _ ih =>
    intro i V e
    cases i with
    | zero => simp at e; subst e; exact ⟨_, rfl, hv⟩
    | succ i => simpa using ih (by simpa using e)
theorem All2.len {Vs : List (Value → Prop)} {vs : List Value} (H : All2 Vs vs) : vs.length = Vs.length := by
  induction H with
  | nil => rfl
  | cons _ _ ih => simp [ih]
end
end Mine
end
section
open PySem PySem.W PyProof.Rows
set_option maxRecDepth 100000
set_option maxHeartbeats 0
namespace Mine
/-- what the top left, at a heap -/
structure Wd (w : World) (mg mb : Str → Option Value) (h : Heap) : Prop where
  X : (KK w.params).In h
  T : TopRead qM (looseW qM looseM) mg mb h
theorem Wd.grow {w : World} {mg mb : Str → Option Value} {h h' : Heap} (W : Wd w mg mb h) (g : Grow h h') : Wd w mg mb h' := ⟨W.X.keeps g, W.T.keeps g⟩
section
variable {prog : Program} {w : World} {A : Around} {env : Env} {h : Heap} {l r e : PySem.Expr} {pos p : Pos} {a b : Int} {x y n : Str} {mg mb m : Str → Option Value}
theorem Ev.loc {v : Value} (ns : h.Ns env.locals m) (hx : m n = some v) (hk : env.scope.kind = .function := by rfl) (hl : env.kindOf n = some .local := by rfl) (hd : (n == ("__debug__" : Str)) = false := by decide) : Ev prog w A env h (.Name n pos) (· = v) :=
  fun s Q E g k => wpAny_Name (wpAny_loadName_local hk hl (ns.at' fun o e => g _ _ e) hx (k v s.heap s.toks rfl (Grow.refl _))) hd
theorem Ev.locI {t : Tok} (ns : h.Ns env.locals m) (hx : m n = some (.int a t)) (hk : env.scope.kind = .function := by rfl) (hl : env.kindOf n = some .local := by rfl) (hd : (n == ("__debug__" : Str)) = false := by decide) : Ev prog w A env h (.Name n pos) (IsI a) :=
  (Ev.loc ns hx hk hl hd).mono fun _ e => ⟨_, e⟩
theorem Ev.locS {t : Tok} (ns : h.Ns env.locals m) (hx : m n = some (.str x t)) (hk : env.scope.kind = .function := by rfl) (hl : env.kindOf n = some .local := by rfl) (hd : (n == ("__debug__" : Str)) = false := by decide) : Ev prog w A env h (.Name n pos) (IsS x) :=
  (Ev.loc ns hx hk hl hd).mono fun _ e => ⟨_, e⟩
theorem Ev.glob {v : Value} (W : Wd w mg mb h) (e : nsIn (KK w.params) mainGlobals n = some (some v)) (hg : env.globals = mainGlobals := by rfl) (hk : env.scope.kind = .function := by rfl) (hl : env.kindOf n = some .globalImplicit := by rfl) (hd : (n == ("__debug__" : Str)) = false := by decide) : Ev prog w A env h (.Name n pos) (· = v) :=
  fun s Q E g k => Calls.Name_function_global hk hl (Calls.loadGlobal_global (by rw [hg]; exact (W.grow g).T.g) (mg_of (W.grow g).X (W.grow g).T.g e) (k v s.heap s.toks rfl (Grow.refl _))) hd
theorem Ev.blt {v : Value} (W : Wd w mg mb h) (e : nsIn (KK w.params) mainGlobals n = some none) (hv : bootBuiltins n = some v) (hn : n ≠ "__name__") (hg : env.globals = mainGlobals := by rfl) (hb : env.builtins = builtinsNs := by rfl) (hk : env.scope.kind = .function := by rfl) (hl : env.kindOf n = some .globalImplicit := by rfl) (hd : (n == ("__debug__" : Str)) = false := by decide) : Ev prog w A env h (.Name n pos) (· = v) :=
  fun s Q E g k => Calls.Name_function_global hk hl (Calls.loadGlobal_builtin (mb := mb) (by rw [hg]; exact (W.grow g).T.g) (mg_none_of (W.grow g).X (W.grow g).T.g e) (by rw [hb]; exact (W.grow g).T.b) ((W.T.builtins n hn).trans hv) (k v s.heap s.toks rfl (Grow.refl _))) hd
/-- a call of a built-in by its name -/
theorem Ev.callB {id : String} {es : List PySem.Expr} {Vs : List (Value → Prop)} {V : Value → Prop} (hf : Ev prog w A env h (.Name n p) (· = .builtin id)) (hes : Evs prog w A env h (e :: es) Vs)
    (hc : ∀ (s : Shared) vs (Q : Value → Shared → Prop) (E : Value → Shared → Prop), All2 Vs vs → Grow h s.heap → (∀ v h' tk, V v → Grow s.heap h' → Q v { s with heap := h', toks := tk }) → wpAny (model prog w) A (call (.builtin id) vs) Q E s)
    (hs : starEach (e :: es) env = (false, eval e env) :: starEach es env := by rfl) (hp : ((backTo pos (starEach es env)).any fun x => x.1) = false := by rfl)
    (he : eval (.Call (.Name n p) (e :: es) [] pos) env = (do let f ← eval (.Name n p) env; callWith pos f [] (backTo pos (starEach (e :: es) env)) (backToKw pos (keywordEach [] env))) := by rfl) : Ev prog w A env h (.Call (.Name n p) (e :: es) [] pos) V :=
  fun s Q E g k => Call_ (hf s _ _ g fun f h1 t1 hf g1 => by subst hf; exact PyProof.Rows.callWith_builtin1 (hes pos _ _ _ (g.trans g1) fun vs h2 t2 hvs g2 => hc _ vs _ _ hvs ((g.trans g1).trans g2) fun v h3 t3 hv g3 => k v h3 t3 hv ((g1.trans g2).trans g3)) hs hp) he
theorem all1 {V : Value → Prop} {vs : List Value} (H : All2 [V] vs) : ∃ v, vs = [v] ∧ V v := by
  cases H with
  | cons hv hn => cases hn; exact ⟨_, rfl, hv⟩
theorem all2 {V V' : Value → Prop} {vs : List Value} (H : All2 [V, V'] vs) : ∃ v v', vs = [v, v'] ∧ V v ∧ V' v' := by
  cases H with
  | cons hv hn =>
    obtain ⟨v', rfl, hv'⟩ := all1 hn
    exact ⟨_, _, rfl, hv, hv'⟩
/-- an item of a text -/
theorem Ev.strAt (hs : Ev prog w A env h l (IsS x)) (hi : Ev prog w A env h r (IsI a)) (hr : fitsSsize a = true) (h1 : -(x.length : Int) ≤ a) (h2 : a < x.length)
    (hp : ∀ t u, subscripted r false (.str x t) (.int a u) = operate [.str x t, .int a u] (getItem (.str x t) (.int a u)) := by intro _ _; rfl) (ht : ∀ t z, letTemporaryGo l (.str x t) z = pure () := by intro _ _; rfl) : Ev prog w A env h (.Subscript l r pos) (IsS (Txt.item x a)) :=
  fun s Q E g k => Subscript_ (hs s _ _ g fun u h1' t1 hu g1 => hi _ _ _ (g.trans g1) fun v h2' t2 hv g2 => by
    obtain ⟨t, rfl⟩ := hu; obtain ⟨t', rfl⟩ := hv
    exact item_str hr h1 h2 (fun _ => k _ h2' _ ⟨_, rfl⟩ (g1.trans g2)) (hp _ _) (ht _))
/-- an item of a list display -/
theorem Ev.listAt {es : List PySem.Expr} {Vs : List (Value → Prop)} {V : Value → Prop} (hes : Evs prog w A env h es Vs) (hi : Ev prog w A env h r (IsI a)) (h0 : 0 ≤ a) (hlt : a < 2 ^ 63) (hV : Vs[a.toNat]? = some V) (hn : Vs.length ≤ 1000)
    (hp : ∀ b u, subscripted r false (.ref b) (.int a u) = operate [.ref b, .int a u] (getItem (.ref b) (.int a u)) := by intro _ _; rfl) : Ev prog w A env h (.Subscript (.List es p) r pos) V :=
  fun s Q E g k => Subscript_ (Ev.list hes s _ _ g (fun vs c h1 t1 hvs g1 _ hc => hi _ _ _ (g.trans g1) fun v h2 t2 hv g2 => by
    obtain ⟨t', rfl⟩ := hv
    obtain ⟨z, hz, hVz⟩ := hvs.get hV
    have hl : h2.IsList c vs.toArray := ⟨_, g2 _ _ hc, rfl, _, rfl⟩
    exact tail_any (s := { s with heap := h2, toks := t2 }) (hl.typeIs) F.slot_list_getitem.lookup (wpAny_getItem_list hl h0 hlt (by simpa using hz) (k z h2 t2 hVz (g1.trans g2))) (hp _ _))
    (fun vs hvs => by rw [hvs.len]; exact Nat.le_trans hn (by decide)))
/-- a slice of a text -/
theorem Ev.slice2 {l2 : PySem.Expr} {p2 : Pos} (hs : Ev prog w A env h e (IsS x)) (hi : Ev prog w A env h l (IsI a)) (hj : Ev prog w A env h r (IsI b)) (hz : x.length ≤ sizeLine)
    (hp : ∀ t c, subscripted (.Slice (some l) (some r) none p2) false (.str x t) (.ref c) = operate [.ref c, .str x t] (getItem (.str x t) (.ref c)) := by intro _ _; rfl) (ht : ∀ t z, letTemporaryGo e (.str x t) z = pure () := by intro _ _; rfl) : Ev prog w A env h (.Subscript e (.Slice (some l) (some r) none p2) pos) (IsS (Txt.slice x (some a) (some b))) :=
  fun s Q E g k => Subscript_ (hs s _ _ g fun u h1 t1 hu g1 => wpAny_Slice (evalPart_some_step (hi _ _ _ (g.trans g1) fun v h2 t2 hv g2 => evalPart_some_step (hj _ _ _ ((g.trans g1).trans g2) fun v' h3 t3 hv' g3 => by
    obtain ⟨t, rfl⟩ := hu; obtain ⟨t', rfl⟩ := hv; obtain ⟨t'', rfl⟩ := hv'
    refine wpAny_pure ?_
    exact tail_of_ItemOn (SBH.sliceItem_ss (s := { s with heap := h3, toks := t3 }) (keptGrow s.heap) ((g1.trans g2).trans g3) (fun h' t' k' hg => k _ h' k' ⟨_, rfl⟩ hg) hz) (hp _ _) (ht _)))))
theorem Ev.slice1 {p2 : Pos} (hs : Ev prog w A env h e (IsS x)) (hi : Ev prog w A env h l (IsI a)) (hz : x.length ≤ sizeLine)
    (hp : ∀ t c, subscripted (.Slice (some l) none none p2) false (.str x t) (.ref c) = operate [.ref c, .str x t] (getItem (.str x t) (.ref c)) := by intro _ _; rfl) (ht : ∀ t z, letTemporaryGo e (.str x t) z = pure () := by intro _ _; rfl) : Ev prog w A env h (.Subscript e (.Slice (some l) none none p2) pos) (IsS (Txt.slice x (some a) none)) :=
  fun s Q E g k => Subscript_ (hs s _ _ g fun u h1 t1 hu g1 => wpAny_Slice (evalPart_some_step (hi _ _ _ (g.trans g1) fun v h2 t2 hv g2 => by
    obtain ⟨t, rfl⟩ := hu; obtain ⟨t', rfl⟩ := hv
    refine wpAny_pure (wpAny_pure ?_)
    exact tail_of_ItemOn (SBH.sliceItem_sn (s := { s with heap := h2, toks := t2 }) (keptGrow s.heap) (g1.trans g2) (fun h' t' k' hg => k _ h' k' ⟨_, rfl⟩ hg) hz) (hp _ _) (ht _))))
theorem Ev.slice0 {p2 : Pos} (hs : Ev prog w A env h e (IsS x)) (hi : Ev prog w A env h r (IsI b)) (hz : x.length ≤ sizeLine)
    (hp : ∀ t c, subscripted (.Slice none (some r) none p2) false (.str x t) (.ref c) = operate [.ref c, .str x t] (getItem (.str x t) (.ref c)) := by intro _ _; rfl) (ht : ∀ t z, letTemporaryGo e (.str x t) z = pure () := by intro _ _; rfl) : Ev prog w A env h (.Subscript e (.Slice none (some r) none p2) pos) (IsS (Txt.slice x none (some b))) :=
  fun s Q E g k => Subscript_ (hs s _ _ g fun u h1 t1 hu g1 => wpAny_Slice (wpAny_pure (evalPart_some_step (hi _ _ _ (g.trans g1) fun v h2 t2 hv g2 => by
    obtain ⟨t, rfl⟩ := hu; obtain ⟨t', rfl⟩ := hv
    refine wpAny_pure ?_
    exact tail_of_ItemOn (SBH.sliceItem_ns (s := { s with heap := h2, toks := t2 }) (keptGrow s.heap) (g1.trans g2) (fun h' t' k' hg => k _ h' k' ⟨_, rfl⟩ hg) hz) (hp _ _) (ht _)))))
/-- len of a text, abs, min -/
theorem Ev.lenS (hf : Ev prog w A env h (.Name n p) (· = .builtin "len")) (he : Ev prog w A env h e (IsS x)) (hx : (x.length : Int) < 9223372036854775808) (hst : starEach [e] env = (false, eval e env) :: starEach [] env := by rfl)
    (hc : eval (.Call (.Name n p) [e] [] pos) env = (do let f ← eval (.Name n p) env; callWith pos f [] (backTo pos (starEach [e] env)) (backToKw pos (keywordEach [] env))) := by rfl) : Ev prog w A env h (.Call (.Name n p) [e] [] pos) (IsI x.length) :=
  Ev.callB hf (Evs.cons he Evs.nil hst) (fun s vs Q E hvs g k => by obtain ⟨_, rfl, ⟨t, rfl⟩⟩ := all1 hvs; exact SBL.len hx (k _ s.heap _ ⟨_, rfl⟩ (Grow.refl _))) hst rfl hc
theorem Ev.absI (hf : Ev prog w A env h (.Name n p) (· = .builtin "abs")) (he : Ev prog w A env h e (IsI a)) (hst : starEach [e] env = (false, eval e env) :: starEach [] env := by rfl)
    (hc : eval (.Call (.Name n p) [e] [] pos) env = (do let f ← eval (.Name n p) env; callWith pos f [] (backTo pos (starEach [e] env)) (backToKw pos (keywordEach [] env))) := by rfl) : Ev prog w A env h (.Call (.Name n p) [e] [] pos) (IsI (if a < 0 then -a else a)) :=
  Ev.callB hf (Evs.cons he Evs.nil hst) (fun s vs Q E hvs g k => by obtain ⟨_, rfl, ⟨t, rfl⟩⟩ := all1 hvs; exact call_abs_int fun u tk => k _ s.heap _ ⟨_, rfl⟩ (Grow.refl _)) hst rfl hc
theorem Ev.minI (hh : A.handled = none) (hf : Ev prog w A env h (.Name n p) (· = .builtin "min")) (hl : Ev prog w A env h l (IsI a)) (hr : Ev prog w A env h r (IsI b)) (hst : starEach [l, r] env = (false, eval l env) :: starEach [r] env := by rfl) (hst2 : starEach [r] env = (false, eval r env) :: starEach [] env := by rfl)
    (hc : eval (.Call (.Name n p) [l, r] [] pos) env = (do let f ← eval (.Name n p) env; callWith pos f [] (backTo pos (starEach [l, r] env)) (backToKw pos (keywordEach [] env))) := by rfl) (hq : ((backTo pos (starEach [r] env)).any fun x => x.1) = false := by rfl) : Ev prog w A env h (.Call (.Name n p) [l, r] [] pos) (IsI (if b < a then b else a)) :=
  Ev.callB hf (Evs.cons hl (Evs.cons hr Evs.nil hst2) hst) (fun s vs Q E hvs g k => by
    obtain ⟨_, _, rfl, ⟨t, rfl⟩, ⟨u, rfl⟩⟩ := all2 hvs
    refine min_two_ints hh fun h' tk hk => ?_
    by_cases c : b < a
    · rw [if_pos c]; exact k _ h' _ ⟨u, by rw [if_pos c]⟩ hk
    · rw [if_neg c]; exact k _ h' _ ⟨t, by rw [if_neg c]⟩ hk) hst hq hc
end
end Mine
end
section
open PySem PySem.W PyProof.Rows
set_option maxRecDepth 100000
set_option maxHeartbeats 0
namespace Mine
/-- a frame's locals by place -/
def mv : List Str → List (Option Value) → Str → Option Value
  | n :: ns, v :: vs, y => if y = n then v else mv ns vs y
  | _, _, _ => none
theorem mv_none : ∀ (ns : List Str) (k : Nat) (y : Str), mv ns (List.replicate k none) y = none
  | [], _, _ => by cases ‹Nat› <;> rfl
  | n :: ns, 0, _ => rfl
  | n :: ns, k + 1, y => by
    show (if y = n then none else mv ns (List.replicate k none) y) = none
    rw [mv_none ns k y]; split <;> rfl
theorem mv_get : ∀ {ns : List Str} {vs : List (Option Value)} {i : Nat} {x : Str} {v : Value}, ns.Nodup → ns[i]? = some x → vs[i]? = some (some v) → mv ns vs x = some v
  | [], _, i, _, _, _, h, _ => by simp at h
  | n :: ns, [], i, _, _, _, _, h => by simp at h
  | n :: ns, u :: vs, 0, x, v, _, h1, h2 => by
    simp at h1 h2; subst h1 h2
    show (if n = n then some v else _) = _
    rw [if_pos rfl]
  | n :: ns, u :: vs, i + 1, x, v, hn, h1, h2 => by
    have hm : x ∈ ns := List.mem_of_getElem? (by simpa using h1)
    have hne : x ≠ n := fun e => (List.nodup_cons.mp hn).1 (e ▸ hm)
    show (if x = n then u else mv ns vs x) = _
    rw [if_neg hne]
    exact mv_get (List.nodup_cons.mp hn).2 (by simpa using h1) (by simpa using h2)
theorem mv_set : ∀ {ns : List Str} {vs : List (Option Value)} {i : Nat} {x : Str} {v : Value}, ns.Nodup → ns[i]? = some x → i < vs.length → (fun y => if y = x then some v else mv ns vs y) = mv ns (vs.set i (some v))
  | [], _, i, _, _, _, h, _ => by simp at h
  | n :: ns, [], i, _, _, _, _, h => by simp at h
  | n :: ns, u :: vs, 0, x, v, _, h1, _ => by
    simp at h1; subst h1
    funext y
    show (if y = n then some v else if y = n then u else mv ns vs y) = if y = n then some v else mv ns vs y
    by_cases e : y = n
    · rw [if_pos e, if_pos e]
    · rw [if_neg e, if_neg e, if_neg e]
  | n :: ns, u :: vs, i + 1, x, v, hn, h1, h2 => by
    have hm : x ∈ ns := List.mem_of_getElem? (by simpa using h1)
    have hne : x ≠ n := fun e => (List.nodup_cons.mp hn).1 (e ▸ hm)
    have ih := mv_set (v := v) (List.nodup_cons.mp hn).2 (by simpa using h1) (show i < vs.length by simpa using h2)
    funext y
    show (if y = x then some v else if y = n then u else mv ns vs y) = if y = n then u else mv ns (vs.set i (some v)) y
    rw [← ih]
    by_cases e : y = n
    · rw [if_pos e, if_pos e, if_neg (fun q : y = x => hne (q.symm.trans e))]
    · rw [if_neg e, if_neg e]
theorem mv_arg1 (n : Str) (v : Value) (ns : List Str) (k : Nat) : (fun y => List.lookup y [(n, v)]) = mv (n :: ns) (some v :: List.replicate k none) := by
  funext y
  show (match y == n with | true => some v | false => none) = if y = n then some v else mv ns (List.replicate k none) y
  rw [mv_none]
  by_cases e : y = n
  · rw [if_pos e, beq_iff_eq.mpr e]
  · rw [if_neg e, beq_eq_false_iff_ne.mpr e]
section
variable {prog : Program} {w : World} {A : Around} {s : Shared} {h₀ : Heap} {L f : Addr} {cd : Value} {fname : Str} {scope : Scope} {ns : List Str} {vs : List (Option Value)} {O : List (Addr × Obj)} {Q : Flow → Shared → Prop} {x n : Str} {pos p : Pos} {e : PySem.Expr} {rest : List Stmt}
theorem Ev.var {h : Heap} {v : Value} (F : Fr h₀ L h (mv ns vs)) (hn : ns.Nodup) (i : Nat) (hi : ns[i]? = some n := by rfl) (hv : vs[i]? = some (some v) := by rfl) (hk : scope.kind = .function := by rfl) (hl : (envOf fname scope L f cd).kindOf n = some .local := by rfl) (hd : (n == ("__debug__" : Str)) = false := by decide) : Ev prog w A (envOf fname scope L f cd) h (.Name n pos) (· = v) :=
  Ev.loc F.ns (mv_get hn hi hv) hk hl hd
theorem Ev.varI {h : Heap} {a : Int} {t : Tok} (F : Fr h₀ L h (mv ns vs)) (hn : ns.Nodup) (i : Nat) (hi : ns[i]? = some n := by rfl) (hv : vs[i]? = some (some (.int a t)) := by rfl) (hk : scope.kind = .function := by rfl) (hl : (envOf fname scope L f cd).kindOf n = some .local := by rfl) (hd : (n == ("__debug__" : Str)) = false := by decide) : Ev prog w A (envOf fname scope L f cd) h (.Name n pos) (IsI a) :=
  Ev.locI F.ns (mv_get hn hi hv) hk hl hd
theorem Ev.varS {h : Heap} {t : Tok} (F : Fr h₀ L h (mv ns vs)) (hn : ns.Nodup) (i : Nat) (hi : ns[i]? = some n := by rfl) (hv : vs[i]? = some (some (.str x t)) := by rfl) (hk : scope.kind = .function := by rfl) (hl : (envOf fname scope L f cd).kindOf n = some .local := by rfl) (hd : (n == ("__debug__" : Str)) = false := by decide) : Ev prog w A (envOf fname scope L f cd) h (.Name n pos) (IsS x) :=
  Ev.locS F.ns (mv_get hn hi hv) hk hl hd
/-- x = e -/
theorem s_assign {V : Value → Prop} (F : Fr h₀ L s.heap (mv ns vs)) (N : News h₀ L s.heap O) (hn : ns.Nodup) (i : Nat) (hev : Ev prog w A (envOf fname scope L f cd) s.heap e V)
    (k : ∀ v h' tk, V v → Fr h₀ L h' (mv ns (vs.set i (some v))) → News h₀ L h' O → wpAny (model prog w) A (execs rest (envOf fname scope L f cd)) Q No { s with heap := h', toks := tk })
    (hi : ns[i]? = some x := by rfl) (hlen : i < vs.length := by exact Nat.le_of_ble_eq_true rfl) (hsw : swapsWith e (some (.Name x p)) pos.line (envOf fname scope L f cd) = pure false := by rfl) (hk : scope.kind = .function := by rfl) (hl : (envOf fname scope L f cd).kindOf x = some .local := by rfl) :
    wpAny (model prog w) A (execs (.Assign [.Name x p] e pos :: rest) (envOf fname scope L f cd)) Q No s :=
  wpAny_execs_cons (wpAny_Assign_Name (hev s _ _ (Grow.refl _) fun v h1 t1 hv g => stN (Fr.grow F g) (News.grow N g) (fun h' F' N' => k v h' _ hv (mv_set hn hi hlen ▸ F') N') hk hl) hsw)
/-- a target's store -/
theorem s_store {v : Value} {Q : Unit → Shared → Prop} (F : Fr h₀ L s.heap (mv ns vs)) (N : News h₀ L s.heap O) (hn : ns.Nodup) (i : Nat)
    (k : ∀ h' tk, Fr h₀ L h' (mv ns (vs.set i (some v))) → News h₀ L h' O → Q () { s with heap := h', toks := tk })
    (hi : ns[i]? = some x := by rfl) (hlen : i < vs.length := by exact Nat.le_of_ble_eq_true rfl) (hk : scope.kind = .function := by rfl) (hl : (envOf fname scope L f cd).kindOf x = some .local := by rfl) :
    wpAny (model prog w) A (assign (.Name x p) (envOf fname scope L f cd) v) Q No s :=
  wpAny_assign_Name (stN F N (fun h' F' N' => k h' _ (mv_set hn hi hlen ▸ F') N') hk hl)
/-- return e -/
theorem s_ret {V : Value → Prop} {Q : Flow → Shared → Prop} (hev : Ev prog w A (envOf fname scope L f cd) s.heap e V) (k : ∀ v h' tk, V v → Grow s.heap h' → Q (.ret v) { s with heap := h', toks := tk }) :
    wpAny (model prog w) A (execs (.Return (some e) pos :: rest) (envOf fname scope L f cd)) Q No s :=
  wpAny_execs_cons (wpAny_Return_some (hev s _ _ (Grow.refl _) fun v h' tk hv g => k v h' tk hv g))
end
theorem mulOk {a b : Int} (h : b.natAbs < 2 ^ 60) : IntMulOk a b := .of_right (by
  unfold Builtin.Int.intBits
  split
  · exact Nat.zero_le _
  · rename_i hb
    have h0 : b.natAbs ≠ 0 := fun q => hb (by simp [Int.natAbs_eq_zero.mp q])
    have := (Nat.log2_lt h0 (k := 60)).mpr h
    omega)
end Mine
end
section
open PySem PySem.W PyProof.Rows
set_option maxRecDepth 100000
set_option maxHeartbeats 0
namespace Mine
section
variable {prog : Program} {w : World} {A : Around} {s : Shared} {h₀ : Heap} {L f : Addr} {cd : Value} {fname : Str} {scope : Scope} {ns : List Str} {vs : List (Option Value)} {O : List (Addr × Obj)} {Q : Flow → Shared → Prop} {x n : Str} {pos p px rp rpos : Pos} {e : PySem.Expr} {rest body orelse : List Stmt}
/-- a turn's end over places -/
def TV (ns : List Str) (h₀ : Heap) (L I : Addr) (it : Obj) (J : List (Option Value) → List (Addr × Obj) → Prop) (s : Shared) (Q : Flow → Shared → Prop) : Flow → Shared → Prop :=
  TEnd h₀ L I it (fun m O => ∃ vs, m = mv ns vs ∧ J vs O) s Q
theorem TV.next {I : Addr} {it : Obj} {J : List (Option Value) → List (Addr × Obj) → Prop} {h' : Heap} {tk : Nat} (F : Fr h₀ L h' (mv ns vs)) (N : News h₀ L h' ((I, it) :: O)) (hI : ∀ p ∈ O, p.1 ≠ I) (hJ : J vs O) :
    TV ns h₀ L I it J s Q .next { s with heap := h', toks := tk } := ⟨h', tk, _, O, rfl, F, N, hI, vs, rfl, hJ⟩
theorem TV.cont {I : Addr} {it : Obj} {J : List (Option Value) → List (Addr × Obj) → Prop} {h' : Heap} {tk : Nat} (F : Fr h₀ L h' (mv ns vs)) (N : News h₀ L h' ((I, it) :: O)) (hI : ∀ p ∈ O, p.1 ≠ I) (hJ : J vs O) :
    TV ns h₀ L I it J s Q .cont { s with heap := h', toks := tk } := ⟨h', tk, _, O, rfl, F, N, hI, vs, rfl, hJ⟩
/-- for x in range(e) -/
theorem s_for_range {k : Nat} (hh : A.handled = none) (F : Fr h₀ L s.heap (mv ns vs)) (N : News h₀ L s.heap O) (hn : ns.Nodup) (ix : Nat) (J : Nat → List (Option Value) → List (Addr × Obj) → Prop)
    (hr : Ev prog w A (envOf fname scope L f cd) s.heap (.Name n rp) (· = .type "range")) (he : Ev prog w A (envOf fname scope L f cd) s.heap e (IsI (k : Int))) (hk : k < 2 ^ 62) (h0 : J 0 vs O) (hlen : ∀ i vs O, J i vs O → ix < vs.length)
    (turn : ∀ i t vs₁ O₁ h tk I it, i < k → J i vs₁ O₁ → (∀ p ∈ O₁, p.1 ≠ I) → Fr h₀ L h (mv ns (vs₁.set ix (some (.int (i : Nat) t)))) → News h₀ L h ((I, it) :: O₁) →
      wpAny (model prog w) A (execs body (envOf fname scope L f cd)) (TV ns h₀ L I it (J (i + 1)) s (fun fl s' => match fl with | .next => wpAny (model prog w) A (execs rest (envOf fname scope L f cd)) Q No s' | fl => Q fl s')) No { s with heap := h, toks := tk })
    (done : ∀ vs₁ h tk O₁, J k vs₁ O₁ → Fr h₀ L h (mv ns vs₁) → News h₀ L h O₁ → wpAny (model prog w) A (execs rest (envOf fname scope L f cd)) Q No { s with heap := h, toks := tk })
    (hi : ns[ix]? = some x := by rfl) (hkind : scope.kind = .function := by rfl) (hl : (envOf fname scope L f cd).kindOf x = some .local := by rfl)
    (hst : starEach [e] (envOf fname scope L f cd) = (false, eval e (envOf fname scope L f cd)) :: starEach [] (envOf fname scope L f cd) := by rfl)
    (hc : eval (.Call (.Name n rp) [e] [] rpos) (envOf fname scope L f cd) = (do let fv ← eval (.Name n rp) (envOf fname scope L f cd); callWith rpos fv [] (backTo rpos (starEach [e] (envOf fname scope L f cd))) (backToKw rpos (keywordEach [] (envOf fname scope L f cd)))) := by rfl)
    (hs : ∀ x, foldedSetIterable (.Call (.Name n rp) [e] [] rpos) (envOf fname scope L f cd) x = pure x := by intro _; rfl) :
    wpAny (model prog w) A (execs (.For (.Name x px) (.Call (.Name n rp) [e] [] rpos) body [] pos :: rest) (envOf fname scope L f cd)) Q No s := by
  refine wpAny_execs_cons (wpAny_For ?_ hs)
  refine Call_ (hr s _ _ (Grow.refl _) fun fv h1 t1 hf g1 => ?_) hc
  subst hf
  refine callWith_type1 (Evs.cons he Evs.nil hst rpos _ _ _ g1 fun vs' h2 t2 hvs g2 => ?_) hst rfl
  obtain ⟨_, rfl, ⟨t, rfl⟩⟩ := all1 hvs
  refine call_range_1 ?_
  have F2 := Fr.grow F (g1.trans g2)
  have N2 := News.grow N (g1.trans g2)
  refine for_range (h₀ := h₀) (env := envOf fname scope L f cd) (n := k) (fun i m O => ∃ vs, m = mv ns vs ∧ J i vs O) hh (IsRange.new _ 0 _ 1 _ _ _) (small_one (by decide) (by decide) (by omega) (by omega)) (by rw [rangeSize_one]; split <;> omega)
    (F2.push _) (fun p hp => ⟨Heap.get?_push_of_some _ (N2 p hp).1, (N2 p hp).2⟩) ⟨vs, rfl, h0⟩ ?_ ?_
  · rintro i t m₁ O₁ h tk I it hi' ⟨vs₁, rfl, hJ⟩ hO F₁ N₁
    rw [Int.zero_add]
    exact s_store F₁ N₁ hn ix (fun h' tk' F' N' => turn i t vs₁ O₁ h' tk' I it hi' hJ hO F' N') hi (hlen _ _ _ hJ) hkind hl
  · rintro m₁ O₁ h tk ⟨vs₁, rfl, hJ⟩ F₁ N₁
    exact wpAny_execs_nil (done vs₁ h tk O₁ hJ F₁ N₁)
end
end Mine
end
section
open PySem PySem.W PyProof.Rows
set_option maxRecDepth 100000
set_option maxHeartbeats 0
namespace Mine
abbrev S (x : String) : Str := Str.ofString x
def kindS : Str := S "?pc?d?b?-?l?s???"
def fig (m : Int) (i : Nat) : Int := Int.fmod (Int.fdiv m ([64, 8, 1].getD i 1)) 8
def abv (m : Int) (i : Nat) : Int := Int.fmod (Int.fdiv m ([2048, 1024, 512].getD i 1)) 2
def tblS (k : Nat) : Str := [S "-x", S "Ss", S "-x", S "Ss", S "-x", S "Tt"].getD k (S "")
def turnA (m : Int) (i : Nat) (x : Str) : Str := (x ++ (if decide (fig m i > 3) then S "r" else S "-")) ++ (if decide (Int.fmod (fig m i) 4 > 1) then S "w" else S "-")
def turnS (m : Int) (i : Nat) (x : Str) : Str := turnA m i x ++ Txt.item (tblS (2 * (i : Int) + abv m i).toNat) (Int.fmod (fig m i) 2)
def sig0 (m : Int) : Str := Txt.item kindS (Int.fmod (Int.fdiv m 4096) 16)
def sigs (m : Int) : Nat → Str
  | 0 => sig0 m
  | i + 1 => turnS m i (sigs m i)
theorem len_app (x y : Str) : (x ++ y).length = x.length + y.length := Str.length_append x y
theorem S_len1 : (S "r").length = 1 ∧ (S "-").length = 1 ∧ (S "w").length = 1 := by decide +kernel
theorem ite_len (c : Bool) {x y : Str} (hx : x.length = 1) (hy : y.length = 1) : (if c then x else y).length = 1 := by cases c <;> assumption
theorem turnS_len (m : Int) (i : Nat) (x : Str) : (turnS m i x).length = x.length + 3 := by
  unfold turnS turnA
  rw [len_app, len_app, len_app, ite_len _ S_len1.1 S_len1.2.1, ite_len _ S_len1.2.2 S_len1.2.1, len_item]
theorem sigs_len (m : Int) : ∀ i, (sigs m i).length = 1 + 3 * i
  | 0 => len_item _ _
  | i + 1 => by rw [sigs, turnS_len, sigs_len m i]; omega
theorem fmod_bounds (a : Int) {b : Int} (hb : 0 < b) : 0 ≤ Int.fmod a b ∧ Int.fmod a b < b := ⟨Int.fmod_nonneg_of_pos a hb, Int.fmod_lt_of_pos a hb⟩
abbrev ns119 : List Str := [S "mode", S "signs", S "place", S "figure", S "above"]
theorem nd119 : ns119.Nodup := by decide +kernel
theorem glob_range (w : World) : nsIn (KK w.params) mainGlobals (S "range") = some none := by kernel_rfl
theorem boot_range : bootBuiltins (S "range") = some (.type "range") := by kernel_rfl
section
variable {w : World} {A : Around} {s : Shared} {mg mb : Str → Option Value} {E Q : Value → Shared → Prop}
theorem fits_small {a : Int} (h0 : -1000 ≤ a) (h1 : a ≤ 1000) : fitsSsize a = true := by
  unfold fitsSsize; simp; omega
theorem len_kind : kindS.length = 16 := by decide +kernel
theorem len_tbl (k : Nat) (hk : k < 6) : (tblS k).length = 2 := by
  have : ∀ k, k < 6 → (tblS k).length = 2 := by decide +kernel
  exact this k hk
theorem tblV (k : Nat) (hk : k < 6) : [IsS (S "-x"), IsS (S "Ss"), IsS (S "-x"), IsS (S "Ss"), IsS (S "-x"), IsS (S "Tt")][k]? = some (IsS (tblS k)) := by
  match k, hk with
  | 0, _ => rfl
  | 1, _ => rfl
  | 2, _ => rfl
  | 3, _ => rfl
  | 4, _ => rfl
  | 5, _ => rfl
theorem K119 (w : World) : (KK w.params).lookup 119 = some (fn (S "_law_signs") d119.1 .none (.str ⟨#[108, 97, 119, 95, 110, 121, 48, 50, 50, 50, 95, 48, 49]⟩ 1873) 118) := by kernel_rfl
theorem C118 (w : World) : codeIn (KK w.params) (.ref 118) (S "_law_signs") = true := by kernel_rfl
theorem signs_call (W : Wd w mg mb s.heap) (hh : A.handled = none) (hroom : A.depth < recursionLimit) (m : Int) (t : Tok) (k : ∀ t' h' tk, Grow s.heap h' → Q (.str (sigs m 3) t') { s with heap := h', toks := tk }) :
    wpAny (model pN w) A (call (.ref 119) [.int m t]) Q E s := by
  refine fcall (K := KK w.params) W.X W.T.nolimit (K119 w) (C118 w) hroom (binds := [(S "mode", .int m t)]) (BindsTo.of_eq (by rfl)) (locs rfl) fun h₁ F₁ => ?_
  rw [show (fun y => List.lookup y ([(S "mode", Value.int m t)].reverse)) = mv ns119 [some (.int m t), none, none, none, none] from mv_arg1 _ _ _ 4] at F₁
  have hb := fmod_bounds (Int.fdiv m 4096) (b := 16) (by decide)
  have W₁ : Wd w mg mb h₁ := W.grow F₁.keep
  refine s_assign (i := 1) F₁ News.nil nd119 (Ev.strAt (x := kindS) Ev.str ((Ev.fdiv (Ev.varI F₁ nd119 0) Ev.int (by decide) (PyProof.noPylong_small (by decide))).mod Ev.int (by decide)) (fits_small (by omega) (by omega)) (by rw [len_kind]; omega) (by rw [len_kind]; omega)) ?_
  rintro v h tk ⟨t1, rfl⟩ F N
  have W₂ : Wd w mg mb h := W.grow F.keep
  refine s_for_range (k := 3) (ix := 2) hh F N nd119 (fun i vs O => O = [] ∧ ∃ t t' a b c, vs = [some (.int m t), some (.str (sigs m i) t'), a, b, c]) (Ev.blt W₂ (glob_range w) boot_range (by decide +kernel)) Ev.int (by decide) ⟨rfl, _, _, _, _, _, rfl⟩ (by rintro _ _ _ ⟨_, _, _, _, _, _, rfl⟩; exact Nat.le_of_ble_eq_true rfl) ?_ ?_
  · rintro i ti vs₁ O₁ h tk I it hi ⟨rfl, t, t', a, b, c, rfl⟩ hO F N
    have hlen := sigs_len m i
    have hd : ([64, 8, 1].getD i 1 : Int) ≠ 0 ∧ ([64, 8, 1].getD i 1 : Int).natAbs < 1073741824 ∧ ([2048, 1024, 512].getD i 1 : Int) ≠ 0 ∧ ([2048, 1024, 512].getD i 1 : Int).natAbs < 1073741824 := by
      rcases (by omega : i = 0 ∨ i = 1 ∨ i = 2) with rfl | rfl | rfl <;> decide
    have hv1 : [IsI 64, IsI 8, IsI 1][((i : Nat) : Int).toNat]? = some (IsI ([64, 8, 1].getD i 1)) := by
      rcases (by omega : i = 0 ∨ i = 1 ∨ i = 2) with rfl | rfl | rfl <;> rfl
    have hv2 : [IsI 2048, IsI 1024, IsI 512][((i : Nat) : Int).toNat]? = some (IsI ([2048, 1024, 512].getD i 1)) := by
      rcases (by omega : i = 0 ∨ i = 1 ∨ i = 2) with rfl | rfl | rfl <;> rfl
    refine s_assign (i := 3) F N nd119 ((Ev.fdiv (Ev.varI F nd119 0) (Ev.listAt (Evs.cons Ev.int (Evs.cons Ev.int (Evs.cons Ev.int Evs.nil))) (Ev.varI F nd119 2) (by omega) (by omega) hv1 (by decide)) hd.1 (PyProof.noPylong_small hd.2.1)).mod Ev.int (by decide)) ?_
    rintro v h tk ⟨t3, rfl⟩ F N
    refine s_assign (i := 4) F N nd119 ((Ev.fdiv (Ev.varI F nd119 0) (Ev.listAt (Evs.cons Ev.int (Evs.cons Ev.int (Evs.cons Ev.int Evs.nil))) (Ev.varI F nd119 2) (by omega) (by omega) hv2 (by decide)) hd.2.2.1 (PyProof.noPylong_small hd.2.2.2)).mod Ev.int (by decide)) ?_
    rintro v h tk ⟨t4, rfl⟩ F N
    have hf := fmod_bounds (Int.fdiv m ([64, 8, 1].getD i 1)) (b := 8) (by decide)
    have ha := fmod_bounds (Int.fdiv m ([2048, 1024, 512].getD i 1)) (b := 2) (by decide)
    have hf2 := fmod_bounds (Int.fmod (Int.fdiv m ([64, 8, 1].getD i 1)) 8) (b := 2) (by decide)
    have hsl := sizeLine_eq
    refine s_assign (i := 1) F N nd119 (Ev.cat (Ev.cat (Ev.varS F nd119 1) (Ev.iteS (Te.gtI (Ev.varI F nd119 3) Ev.int) Ev.str Ev.str) (by rw [ite_len _ S_len1.1 S_len1.2.1]; omega)) (Ev.iteS (Te.gtI ((Ev.varI F nd119 3).mod Ev.int (by decide)) Ev.int) Ev.str Ev.str) (by rw [len_app, ite_len _ S_len1.1 S_len1.2.1, ite_len _ S_len1.2.2 S_len1.2.1]; omega)) ?_
    rintro v h tk ⟨t5, rfl⟩ F N
    have ha' : 0 ≤ abv m i ∧ abv m i < 2 := ha
    have hk6 : (2 * (i : Int) + abv m i).toNat < 6 := by omega
    refine s_assign (i := 1) F N nd119 (Ev.cat (Ev.varS F nd119 1) (Ev.strAt (Ev.listAt (Evs.cons Ev.str (Evs.cons Ev.str (Evs.cons Ev.str (Evs.cons Ev.str (Evs.cons Ev.str (Evs.cons Ev.str Evs.nil)))))) ((Ev.mul Ev.int (Ev.varI F nd119 2) (mulOk (by omega))).add (Ev.varI F nd119 4)) (by omega) (by omega) (tblV _ hk6) (by decide)) ((Ev.varI F nd119 3).mod Ev.int (by decide)) (fits_small (by omega) (by omega)) (by rw [len_tbl _ hk6]; omega) (by rw [len_tbl _ hk6]; omega)) (by rw [len_item, len_app, len_app, ite_len _ S_len1.1 S_len1.2.1, ite_len _ S_len1.2.2 S_len1.2.1]; omega)) ?_
    rintro v h tk ⟨t6, rfl⟩ F N
    exact wpAny_execs_nil (TV.next F N hO ⟨rfl, _, _, _, _, _, rfl⟩)
  · rintro vs₁ h tk O₁ ⟨rfl, t, t', a, b, c, rfl⟩ F N
    refine s_ret (Ev.varS F nd119 1) ?_
    rintro v h' tk' ⟨t, rfl⟩ g
    exact ⟨_, rfl, k _ _ _ (Grow.trans F.keep g)⟩
end
end Mine
end
section
open PySem PySem.W PyProof.Rows
set_option maxRecDepth 100000
set_option maxHeartbeats 0
namespace Mine
open PySem.AutoSeq1 (wpAny_loadPart') in
theorem meets_enumT (l : Addr) (items : Array Value) (n : Nat) (dct : Option Addr) (sl : Array (Option Value)) :
    Meets (Builtin.«enumerate.__new__» ⟨[.type "enumerate", .ref l], []⟩) (fun _ R s => s.heap.get? l = some { cls := .type "tuple", dict := dct, data := .seq items n, slots := sl } ∧
      R (.ok (.ret (.ref (s.heap.push { cls := .type "tuple_iterator", data := .fields #[.ref l, .int 0 0] }).objs.size)))
        { s with heap := (s.heap.push { cls := .type "tuple_iterator", data := .fields #[.ref l, .int 0 0] }).push { cls := .type "enumerate", data := .fields #[.none, .bool false, .ref s.heap.objs.size, rawInt 0, .none, .none] } }) :=
  .of_wp fun prog w A R s h => by
    obtain ⟨hp, g, d, tk, os⟩ := s; obtain ⟨hl, h⟩ := h
    have hsub := sub_enumerate
    have hL : Heap.IsTuple (Shared.heap ⟨hp, g, d, tk, os⟩) l items := ⟨_, hl, rfl, n, rfl⟩
    wp_walk using wpAny_loadPart' hl
    refine wpAny_stack_any fun st => wpAny_pure ?_
    split
    · rename_i c _ _ _ _ _
      cases (c == Value.type "enumerate")
      · wp_walk using wpAny_loadPart' hl, wpAny_pyIter_tuple hL
        exact ⟨_, rfl, h⟩
      · wp_walk using wpAny_loadPart' hl, wpAny_pyIter_tuple hL
        exact ⟨_, rfl, h⟩
    · wp_walk using wpAny_loadPart' hl, wpAny_pyIter_tuple hL
      exact ⟨_, rfl, h⟩
section
variable {prog : Program} {w : World} {A : Around} {E : Value → Shared → Prop} {s : Shared}
theorem call_enumT {l : Addr} {items : Array Value} {Q : Value → Shared → Prop} (hL : s.heap.IsTuple l items)
    (h : ∀ h', IsEnum h' (s.heap.objs.size + 1) s.heap.objs.size 0 .none → h'.IsTupleIter s.heap.objs.size l 0 → h'.objs.size = s.heap.objs.size + 2 →
      (∀ b o, s.heap.get? b = some o → h'.get? b = some o) → Q (.ref (s.heap.objs.size + 1)) { s with heap := h' }) :
    wpAny (model prog w) A (call (.type "enumerate") [.ref l]) Q E s := by
  obtain ⟨⟨c, dct, dt, sl⟩, hl, hc, n, hd⟩ := hL
  replace hc : c = .type "tuple" := hc
  replace hd : dt = .seq items n := hd
  subst hc hd
  refine PySem.callType_new F.called_enumerate (by decide) (F.typeCall_enumerate_1 _) (F.newCall_enumerate_1 _) (fun obj => F.args_object_init_2 obj _) F.entry_enumerate_new
    (meets_enumT l items n dct sl) ⟨hl, ?_⟩
  have hz : (s.heap.push { cls := .type "tuple_iterator", data := .fields #[.ref l, .int 0 0] }).objs.size = s.heap.objs.size + 1 := Heap.size_push ..
  show _ ∧ _
  rw [hz]
  have he : IsEnum ((s.heap.push { cls := .type "tuple_iterator", data := .fields #[.ref l, .int 0 0] }).push
      { cls := .type "enumerate", data := .fields #[.none, .bool false, .ref s.heap.objs.size, rawInt 0, .none, .none] }) (s.heap.objs.size + 1) s.heap.objs.size 0 .none := by
    have := Heap.get?_push_size (s.heap.push { cls := .type "tuple_iterator", data := .fields #[.ref l, .int 0 0] })
      (o := { cls := .type "enumerate", data := .fields #[.none, .bool false, .ref s.heap.objs.size, rawInt 0, .none, .none] }) rfl
    rw [hz] at this; exact this
  refine ⟨⟨_, he, rfl⟩, h _ he ⟨_, Heap.get?_push_of_some _ (Heap.get?_push_size _ rfl), rfl, rfl⟩ (by rw [Heap.size_push, hz]) fun b o x => Heap.get?_push_of_some _ (Heap.get?_push_of_some _ x)⟩
theorem nextOf_tuple_item {it t : Addr} {i : Nat} {items} {x : Value} {Q : Value → Shared → Prop} (hit : s.heap.IsTupleIter it t i)
    (ht : s.heap.IsTuple t items) (hx : items[i]? = some x)
    (hQ : ∀ h', h'.IsTupleIter it t (i + 1) → Heap.SameBut it s.heap h' → Q x { s with heap := h' }) :
    wpAny (model prog w) A (Builtin.SmallTypes.nextOf (.ref it)) Q E s := by
  obtain ⟨o, ho, hc, hd⟩ := id hit
  obtain ⟨ol, hol, _, nl, hdl⟩ := ht
  unfold Builtin.SmallTypes.nextOf
  refine wpAny_bind (wpAny_callSpecial?_slot (name := Str.ofString "__next__") hit.typeIs F.slot_tuple_iterator_next
    (wpAny_call_entry F.slot_tuple_iterator_next hit.typeIs F.entry_tuple_iterator_next ?_ (F.args_tuple_iterator_next_1 _)))
  show wpAny _ _ (field (.ref it) 0 >>= _) _ _ s
  refine wpAny_bind (wpAny_field ho hd (x := .ref t) rfl ?_)
  show wpAny _ _ (if (Value.ref t == Value.none) = true then _ else _) _ _ s
  rw [if_neg (show ¬ ((Value.ref t == Value.none) = true) from Bool.false_ne_true)]
  show wpAny _ _ (field (.ref it) 1 >>= _) _ _ s
  refine wpAny_bind (wpAny_field ho hd (x := .int i 0) rfl ?_)
  show wpAny _ _ (seqItems? (.ref t) >>= _) _ _ s
  refine wpAny_bind (wpAny_seqItems hol hdl ?_)
  simp only [Int.toNat_natCast, hx]
  refine wpAny_bind (wpAny_setField ho hd (by simp) (wpAny_pure ⟨x, rfl, wpAny_pure (hQ _ ?_ (Heap.SameBut.update ..))⟩))
  exact ⟨_, Heap.get?_update_self _ ho (Obj.isFreed_of_fields (Obj.data_mapFields hd _)), (Obj.cls_mapFields ..).trans hc, by
    rw [Obj.data_mapFields hd]; simp [rawInt]⟩
theorem nextOf_tuple_end {it t : Addr} {i : Nat} {items} {Q : Value → Shared → Prop} (hh : A.handled = none)
    (hit : s.heap.IsTupleIter it t i) (ht : s.heap.IsTuple t items) (hx : items[i]? = none)
    (hE : ∀ h' e, Heap.ExtBut it s.heap h' → (∃ o, h'.get? e = some o ∧ o.cls = .type "StopIteration") → E (.ref e) { s with heap := h' }) :
    wpAny (model prog w) A (Builtin.SmallTypes.nextOf (.ref it)) Q E s := by
  obtain ⟨o, ho, hc, hd⟩ := id hit
  obtain ⟨ol, hol, _, nl, hdl⟩ := ht
  unfold Builtin.SmallTypes.nextOf
  refine wpAny_bind (wpAny_callSpecial?_slot (name := Str.ofString "__next__") hit.typeIs F.slot_tuple_iterator_next
    (wpAny_call_entry F.slot_tuple_iterator_next hit.typeIs F.entry_tuple_iterator_next ?_ (F.args_tuple_iterator_next_1 _)))
  show wpAny _ _ (field (.ref it) 0 >>= _) _ _ s
  refine wpAny_bind (wpAny_field ho hd (x := .ref t) rfl ?_)
  show wpAny _ _ (if (Value.ref t == Value.none) = true then _ else _) _ _ s
  rw [if_neg (show ¬ ((Value.ref t == Value.none) = true) from Bool.false_ne_true)]
  show wpAny _ _ (field (.ref it) 1 >>= _) _ _ s
  refine wpAny_bind (wpAny_field ho hd (x := .int i 0) rfl ?_)
  show wpAny _ _ (seqItems? (.ref t) >>= _) _ _ s
  refine wpAny_bind (wpAny_seqItems hol hdl ?_)
  simp only [Int.toNat_natCast, hx]
  refine wpAny_bind (wpAny_rule (wpAny_bind (wpAny_setField ho hd (by simp) ?_)))
  show wpAny _ _ (newExc (.type "StopIteration") [] >>= _) _ _ _
  refine wpAny_bind ?_
  simp only [newExc, newTuple]
  refine wpAny_bind (wpAny_newObj_type ?_ (by size_fits))
  refine wpAny_bind (m := firstArgMember _ _) (wpAny_of_eq (a := Value.none) (by first | rfl | (simp only [firstArgMember]; rfl)) ?_)
  refine wpAny_newObj_type ?_ (by size_fits)
  simp only [raiseNew]
  refine wpAny_bind (wpAny_handled ?_)
  first | rw [show A.in1.handled = none from hh] | rw [hh]
  refine wpAny_bind (wpAny_pure (wpAny_throw ?_))
  exact hE _ _ (((Heap.SameBut.update ..).extBut.push _).push _) ⟨_, Heap.get?_push_size _ rfl, rfl⟩
theorem drawsT (hh : A.handled = none) (it l : Addr) (hne : l ≠ it) (items : Array Value) :
    Draws prog w A it [it, l] items.size (fun i v => items[i]? = some v) (fun i h => h.IsTupleIter it l i ∧ h.IsTuple l items) where
  live := fun _ _ st => let ⟨o, ho, _⟩ := st.1; ⟨o, ho⟩
  frame := fun _ _ _ st hk => ⟨st.1.at fun o e => hk it (by simp) o e, st.2.at fun o e => hk l (by simp) o e⟩
  item := fun i s Q E hi st hQ => by
    refine nextOf_tuple_item st.1 st.2 (x := items[i]) (by simp [hi]) fun h' hit' hs' => ?_
    exact hQ _ h' s.toks (by simp [hi]) ⟨hit', st.2.extBut hs'.extBut hne⟩ hs'
  done := fun s Q E st hE => nextOf_tuple_end hh st.1 st.2 (by simp) hE
theorem go_tupleiter {elts : List PySem.Expr} {x1} {pos : Pos} {I l : Addr} {i : Nat} {v : Value} {Q : Unit → Shared → Prop} (hit : s.heap.IsTupleIter I l i) (hQ : Q () s) :
    wpAny (model prog w) A (letOwnedTupleGo (.Tuple elts x1 pos) (.ref I) v) Q E s := by
  obtain ⟨o, ho, hc, hd⟩ := hit
  cases v <;> first
    | exact wpAny_pure hQ
    | (unfold letOwnedTupleGo
       refine wpAny_bind (wpAny_load ho ?_)
       rw [hc, hd]
       exact wpAny_pure hQ)
end
end Mine
end
section
open PySem PySem.W PyProof.Rows
set_option maxRecDepth 100000
set_option maxHeartbeats 0
namespace Mine
section
variable {prog : Program} {w : World} {A : Around} {s : Shared} {h₀ : Heap} {L f : Addr} {cd : Value} {fname : Str} {scope : Scope} {ns : List Str} {vs : List (Option Value)} {O : List (Addr × Obj)} {Q : Flow → Shared → Prop} {x xa xb n : Str} {pos p px pa pb pt rp rpos : Pos} {x1 : Nat} {e : PySem.Expr} {rest body orelse : List Stmt}
/-- what stands behind a statement -/
def Aft (prog : Program) (w : World) (A : Around) (env : Env) (rest : List Stmt) (Q : Flow → Shared → Prop) : Flow → Shared → Prop := fun fl s' => match fl with
  | .next => wpAny (model prog w) A (execs rest env) Q No s'
  | fl => Q fl s'
theorem IsTuple.up {h h' : Heap} {a : Addr} {xs : Array Value} (x : h.IsTuple a xs) (g : Grow h h') : h'.IsTuple a xs := x.at fun o e => g _ _ e
/-- two names take a pair -/
theorem s_store2 {T : Addr} {v0 v1 : Value} {Q : Unit → Shared → Prop} (hh : A.handled = none) (hT : s.heap.IsTuple T #[v0, v1]) (F : Fr h₀ L s.heap (mv ns vs)) (N : News h₀ L s.heap O) (hn : ns.Nodup) (ia ib : Nat)
    (k : ∀ h' tk, Fr h₀ L h' (mv ns ((vs.set ia (some v0)).set ib (some v1))) → News h₀ L h' O → Q () { s with heap := h', toks := tk })
    (hia : ns[ia]? = some xa := by rfl) (hib : ns[ib]? = some xb := by rfl) (hla : ia < vs.length := by exact Nat.le_of_ble_eq_true rfl) (hlb : ib < vs.length := by exact Nat.le_of_ble_eq_true rfl) (hk : scope.kind = .function := by rfl)
    (hl : (envOf fname scope L f cd).kindOf xa = some .local := by rfl) (hl' : (envOf fname scope L f cd).kindOf xb = some .local := by rfl) :
    wpAny (model prog w) A (assign (.Tuple [.Name xa pa, .Name xb pb] x1 pt) (envOf fname scope L f cd) (.ref T)) Q No s := by
  refine wpAny_assign_Tuple hh hT rfl rfl fun h₃ hx₃ => ?_
  have up : Grow s.heap h₃ := fun b o x => hx₃ b o (Nat.ne_of_lt (Heap.lt_size x)) x
  show wpAny _ A (do holding [v1] (assign (.Name xa pa) (envOf fname scope L f cd) v0); do holding [] (assign (.Name xb pb) (envOf fname scope L f cd) v1); pure ()) _ _ _
  refine wpAny_bind (wpAny_holding (s_store (Fr.grow F up) (News.grow N up) hn ia (fun h' tk F' N' => ?_) hia hla hk hl))
  refine wpAny_bind (wpAny_holding (s_store F' N' hn ib (fun h' tk F' N' => wpAny_pure (k h' tk F' N')) hib (by rw [List.length_set]; exact hlb) hk hl'))
/-- for a, b in t: a tuple of pairs of the old heap -/
theorem s_for_tup {ta : Addr} {items : Array Value} (hh : A.handled = none) (F : Fr h₀ L s.heap (mv ns vs)) (N : News h₀ L s.heap O) (hn : ns.Nodup) (ia ib : Nat) (J : Nat → List (Option Value) → List (Addr × Obj) → Prop)
    (pr : Nat → Value × Value) (ht : h₀.IsTuple ta items) (hp : ∀ i v, items[i]? = some v → ∃ q, v = .ref q ∧ h₀.IsTuple q #[(pr i).1, (pr i).2])
    (he : Ev prog w A (envOf fname scope L f cd) s.heap e (· = .ref ta)) (h0 : J 0 vs O) (hlen : ∀ i vs O, J i vs O → ia < vs.length ∧ ib < vs.length)
    (turn : ∀ i vs₁ O₁ h tk I it, i < items.size → J i vs₁ O₁ → (∀ p ∈ O₁, p.1 ≠ I) → Fr h₀ L h (mv ns ((vs₁.set ia (some (pr i).1)).set ib (some (pr i).2))) → News h₀ L h ((I, it) :: O₁) →
      wpAny (model prog w) A (execs body (envOf fname scope L f cd)) (TV ns h₀ L I it (J (i + 1)) s (Aft prog w A (envOf fname scope L f cd) rest Q)) No { s with heap := h, toks := tk })
    (done : ∀ vs₁ h tk O₁, J items.size vs₁ O₁ → Fr h₀ L h (mv ns vs₁) → News h₀ L h O₁ → wpAny (model prog w) A (execs orelse (envOf fname scope L f cd)) (Aft prog w A (envOf fname scope L f cd) rest Q) No { s with heap := h, toks := tk })
    (hia : ns[ia]? = some xa := by rfl) (hib : ns[ib]? = some xb := by rfl) (hkind : scope.kind = .function := by rfl) (hl : (envOf fname scope L f cd).kindOf xa = some .local := by rfl) (hl' : (envOf fname scope L f cd).kindOf xb = some .local := by rfl)
    (hs : ∀ x, foldedSetIterable e (envOf fname scope L f cd) x = pure x := by intro _; rfl) :
    wpAny (model prog w) A (execs (.For (.Tuple [.Name xa pa, .Name xb pb] x1 pt) e body orelse pos :: rest) (envOf fname scope L f cd)) Q No s := by
  refine wpAny_execs_cons (wpAny_For ?_ hs)
  refine he s _ _ (Grow.refl _) fun v h1 t1 hv g1 => ?_
  subst hv
  have F1 := Fr.grow F g1
  have N1 := News.grow N g1
  have ht1 : h1.IsTuple ta items := IsTuple.up ht F1.keep
  have hlt : ta < h1.objs.size := by obtain ⟨o, ho, _⟩ := ht1; exact Heap.lt_size ho
  refine wpAny_pyIter_tuple (s := { s with heap := h1, toks := t1 }) ht1 ?_
  have W := Walks.tuple (prog := prog) (w := w) hh h1.objs.size ta (Nat.ne_of_lt hlt) items
  refine for_W (h₀ := h₀) (env := envOf fname scope L f cd) [] W (fun i m O => ∃ vs, m = mv ns vs ∧ J i vs O) ⟨⟨_, Heap.get?_push_size _ rfl, rfl, rfl⟩, ht1.at fun o e => Heap.get?_push_of_some _ e⟩ (next_is_new F1) (Nat.ne_of_gt F1.ns.lt) (fun i h st => let ⟨o, ho, _⟩ := st.1; ⟨o, ho⟩)
    (fun p hp => Nat.ne_of_lt (Heap.lt_size (N1 p hp).1)) (fun b hb => ?_) (fun i m O hJ p hp => nomatch hp) (F1.push _) (fun p hp => ⟨Heap.get?_push_of_some _ (N1 p hp).1, (N1 p hp).2⟩) ⟨vs, rfl, h0⟩ (fun i s' v Q' E' st h => go_tupleiter st.1 h) ?_ ?_
  · rcases List.mem_cons.mp hb with rfl | hb
    · exact .inl rfl
    · obtain ⟨o, ho, _⟩ := ht
      exact .inr (.inl ⟨o, by rw [List.mem_singleton.mp hb]; exact ho⟩)
  · rintro i v m₁ O₁ h tk it hi hP ⟨vs₁, rfl, hJ⟩ hO F₁ N₁
    obtain ⟨q, rfl, hq⟩ := hp i v hP
    obtain ⟨l1, l2⟩ := hlen _ _ _ hJ
    exact s_store2 hh (IsTuple.up hq F₁.keep) F₁ N₁ hn ia ib (fun h' tk' F' N' => turn i vs₁ O₁ h' tk' _ it hi hJ hO F' N') hia hib l1 l2 hkind hl hl'
  · rintro m₁ O₁ h tk ⟨vs₁, rfl, hJ⟩ F₁ N₁
    exact done vs₁ h tk O₁ hJ F₁ N₁
/-- for i, t in enumerate(tuple of the old heap) -/
theorem s_for_enumT {ta : Addr} {items : Array Value} (hh : A.handled = none) (F : Fr h₀ L s.heap (mv ns vs)) (N : News h₀ L s.heap O) (hn : ns.Nodup) (ia ib : Nat) (J : Nat → List (Option Value) → List (Addr × Obj) → Prop)
    (ht : h₀.IsTuple ta items) (hL : h₀.get? L = none)
    (hr : Ev prog w A (envOf fname scope L f cd) s.heap (.Name n rp) (· = .type "enumerate")) (he : Ev prog w A (envOf fname scope L f cd) s.heap e (· = .ref ta)) (h0 : J 0 vs O) (hlen : ∀ i vs O, J i vs O → ia < vs.length ∧ ib < vs.length)
    (turn : ∀ i t v own vs₁ O₁ h tk, items[i]? = some v → J i vs₁ O₁ → (∀ p ∈ own, ∀ q ∈ O₁, p.1 ≠ q.1) → Fr h₀ L h (mv ns ((vs₁.set ia (some (.int (i : Nat) t))).set ib (some v))) → News h₀ L h (own ++ O₁) →
      wpAny (model prog w) A (execs body (envOf fname scope L f cd)) (fun fl s₂ => fl = .next ∧ ∃ h' tk' vs₂ O₂, s₂ = { s with heap := h', toks := tk' } ∧ Fr h₀ L h' (mv ns vs₂) ∧ News h₀ L h' (own ++ O₂) ∧ O₂.map (·.1) = O₁.map (·.1) ∧ J (i + 1) vs₂ O₂) No { s with heap := h, toks := tk })
    (done : ∀ vs₁ h tk O₁, J items.size vs₁ O₁ → Fr h₀ L h (mv ns vs₁) → News h₀ L h O₁ → wpAny (model prog w) A (execs rest (envOf fname scope L f cd)) Q No { s with heap := h, toks := tk })
    (hia : ns[ia]? = some xa := by rfl) (hib : ns[ib]? = some xb := by rfl) (hkind : scope.kind = .function := by rfl) (hl : (envOf fname scope L f cd).kindOf xa = some .local := by rfl) (hl' : (envOf fname scope L f cd).kindOf xb = some .local := by rfl)
    (hst : starEach [e] (envOf fname scope L f cd) = (false, eval e (envOf fname scope L f cd)) :: starEach [] (envOf fname scope L f cd) := by rfl)
    (hc : eval (.Call (.Name n rp) [e] [] rpos) (envOf fname scope L f cd) = (do let fv ← eval (.Name n rp) (envOf fname scope L f cd); callWith rpos fv [] (backTo rpos (starEach [e] (envOf fname scope L f cd))) (backToKw rpos (keywordEach [] (envOf fname scope L f cd)))) := by rfl)
    (hs : ∀ x, foldedSetIterable (.Call (.Name n rp) [e] [] rpos) (envOf fname scope L f cd) x = pure x := by intro _; rfl) :
    wpAny (model prog w) A (execs (.For (.Tuple [.Name xa pa, .Name xb pb] x1 pt) (.Call (.Name n rp) [e] [] rpos) body [] pos :: rest) (envOf fname scope L f cd)) Q No s := by
  refine wpAny_execs_cons (wpAny_For ?_ hs)
  refine Call_ (hr s _ _ (Grow.refl _) fun fv h1 t1 hf g1 => ?_) hc
  subst hf
  refine callWith_type1 (Evs.cons he Evs.nil hst rpos _ _ _ g1 fun vs' h2 t2 hvs g2 => ?_) hst rfl
  obtain ⟨_, rfl, rfl⟩ := all1 hvs
  have F2 := Fr.grow F (g1.trans g2)
  have N2 := News.grow N (g1.trans g2)
  have ht2 : h2.IsTuple ta items := IsTuple.up ht F2.keep
  have hlt : ta < h2.objs.size := by obtain ⟨o, ho, _⟩ := ht2; exact Heap.lt_size ho
  refine call_enumT (s := { s with heap := h2, toks := t2 }) ht2 fun h3 he3 hi3 hz3 hk3 => ?_
  replace he3 : IsEnum h3 (h2.objs.size + 1) h2.objs.size 0 .none := he3
  replace hi3 : h3.IsTupleIter h2.objs.size ta 0 := hi3
  replace hk3 : Grow h2 h3 := hk3
  have F3 := Fr.grow F2 hk3
  have N3 := News.grow N2 hk3
  refine wpAny_pyIter_enum (s := { s with heap := h3, toks := t2 }) he3 ?_
  have hLlt : L < h2.objs.size := F2.ns.lt
  have hnone : ∀ b, h2.objs.size ≤ b → h₀.get? b = none := fun b hb => by
    cases hq : h₀.get? b with
    | none => rfl
    | some o => exact absurd (Heap.lt_size (F2.keep _ _ hq)) (Nat.not_lt.mpr hb)
  have hLta : ta ≠ L := fun q => by obtain ⟨o, ho, _⟩ := ht; rw [q, hL] at ho; cases ho
  have hge : ∀ b, b ∈ [h2.objs.size + 1, h2.objs.size] → h2.objs.size ≤ b := fun b hb => by
    rcases List.mem_cons.mp hb with rfl | hb
    · exact Nat.le_succ _
    · exact Nat.le_of_eq (List.mem_singleton.mp hb).symm
  have hLf : L ∉ [h2.objs.size + 1, h2.objs.size, ta] := fun hb => by
    rcases List.mem_cons.mp hb with q | hb
    · exact absurd hLlt (Nat.not_lt.mpr (q ▸ Nat.le_succ _))
    · rcases List.mem_cons.mp hb with q | hb
      · exact absurd hLlt (Nat.not_lt.mpr (q ▸ Nat.le_refl _))
      · exact hLta (List.mem_singleton.mp hb).symm
  have W := WalksT.enumerateD (drawsT (prog := prog) (w := w) (A := A.in1) hh h2.objs.size ta (Nat.ne_of_lt hlt) items) (h2.objs.size + 1) (Nat.succ_ne_self _) (fun q => by rcases List.mem_cons.mp q with q | q; exact Nat.succ_ne_self _ q; exact Nat.ne_of_lt (Nat.lt_succ_of_lt hlt) (List.mem_singleton.mp q).symm) (by simp)
  refine codeAny_forLoop_frT (h₀ := h₀) (env := envOf fname scope L f cd) (P2 := fun i v0 v1 => (∃ t, v0 = .int (i : Nat) t) ∧ items[i]? = some v1) hh W (fun i vals ⟨t, x, hP, e⟩ => ⟨_, _, e, ⟨t, rfl⟩, hP⟩) hl hl' (by show (scope.kind == .class || _) = false; rw [show (envOf fname scope L f cd).scope.kind = .function from hkind, hkind]; rfl)
    hLf (fun b hb => hnone b (hge b hb)) (fun p hp hb => absurd (Heap.lt_size (N2 p hp).1) (Nat.not_lt.mpr (hge _ hb)))
    ⟨⟨_, he3⟩, hi3, IsTuple.up ht F3.keep⟩ F3 N3 (fun i m O' => ∃ vs, m = mv ns vs ∧ J i vs O') ⟨vs, rfl, h0⟩ ?_ ?_
  · rintro i v0 v1 m₁ O₁ s₁ own ⟨h, tk, rfl⟩ hi ⟨⟨t, rfl⟩, hv1⟩ ⟨vs₁, rfl, hJ⟩ hmap hown F₁ N₁
    obtain ⟨l1, l2⟩ := hlen _ _ _ hJ
    replace F₁ : Fr h₀ L h (mv ns ((vs₁.set ia (some (.int (i : Nat) t))).set ib (some v1))) := by
      rw [← mv_set (v := v1) hn hib (by rw [List.length_set]; exact l2), ← mv_set hn hia l1]; exact F₁
    refine wpAny_mono (turn i t v1 own vs₁ O₁ h tk hv1 hJ (fun p hp q hq e => ?_) F₁ N₁) (fun fl s₂ hfl => ?_) fun _ _ x => x.elim
    · have h1 := hown p hp
      have hmem : q.1 ∈ O.map (·.1) := hmap ▸ List.mem_map.mpr ⟨q, hq, rfl⟩
      obtain ⟨q', hq', e'⟩ := List.mem_map.mp hmem
      have h2' := Heap.lt_size (N2 q' hq').1
      have h3' := (N₁ q (List.mem_append_right _ hq)).2.2
      rw [← e'] at e
      rcases List.mem_cons.mp h1 with h1 | h1
      · exact absurd h2' (Nat.not_lt.mpr (by rw [← e, h1]; exact Nat.le_succ _))
      rcases List.mem_cons.mp h1 with h1 | h1
      · exact absurd h2' (Nat.not_lt.mpr (by rw [← e, h1]; exact Nat.le_refl _))
      · replace h1 := List.mem_singleton.mp h1
        rw [e'] at e
        obtain ⟨o, ho, _⟩ := ht
        rw [← e, h1, ho] at h3'; cases h3'
    · obtain ⟨rfl, h', tk', vs₂, O₂, rfl, F₂, N₂, hm, hJ₂⟩ := hfl
      exact ⟨rfl, h', tk', _, O₂, rfl, F₂, N₂, hm, vs₂, rfl, hJ₂⟩
  · rintro h' tk m' O' F' N' hm ⟨vs₁, rfl, hJ⟩
    exact done vs₁ h' tk O' hJ F' N'
end
end Mine
end
section
open PySem PySem.W PyProof.Rows
set_option maxRecDepth 100000
set_option maxHeartbeats 0
namespace Mine
section
variable (prog : Program) (w : World) (A : Around) (env : Env) (h : Heap)
/-- as Ev; of the value something is said at the heap behind -/
def EvH (e : PySem.Expr) (V : Value → Heap → Prop) : Prop :=
  ∀ (s : Shared) (Q : Value → Shared → Prop) (E : Value → Shared → Prop), Grow h s.heap → (∀ v h' tk, V v h' → Grow s.heap h' → Q v { s with heap := h', toks := tk }) → wpAny (model prog w) A (eval e env) Q E s
end
abbrev IsStrs (ys : List Str) (v : Value) (h : Heap) : Prop := ∃ D items, v = .ref D ∧ h.IsList D items ∧ StrsAre items.toList ys
section
variable {prog : Program} {w : World} {A : Around} {env : Env} {h : Heap} {l r e o : PySem.Expr} {pos p ap : Pos} {a b : Int} {x y n : Str}
theorem Ev.toH {V : Value → Prop} {W : Value → Heap → Prop} (H : Ev prog w A env h e V) (hv : ∀ v h', V v → Grow h h' → W v h') : EvH prog w A env h e W :=
  fun s Q E g k => H s Q E g fun v h' tk hV g' => k v h' tk (hv v h' hV (g.trans g')) g'
/-- sep.join(list of texts) -/
theorem Ev.join {ys : List Str} (ho : Ev prog w A env h o (IsS x)) (he : EvH prog w A env h e (IsStrs ys)) (hsep : x.length ≤ 64) (hok : (ys.map (·.length)).sum + ys.length * 64 ≤ 16777216)
    (hst : starEach [e] env = (false, eval e env) :: starEach [] env := by rfl) {pl : Sem Bool}
    (hm : eval (.Call (.Attribute o (Str.ofString "join") ap) [e] [] pos) env = (do
      let ov ← eval o env
      standAt ap.atName
      let (f, first) ← holding [ov] (getMethod ov (Str.ofString "join") pl)
      callWith pos f first (backTo pos (starEach [e] env)) []) := by rfl) : Ev prog w A env h (.Call (.Attribute o (Str.ofString "join") ap) [e] [] pos) (IsS (Txt.join x ys)) :=
  fun s Q E g k => MethodCall_ (ho s _ _ g fun u h1 t1 hu g1 => by
    obtain ⟨t, rfl⟩ := hu
    refine GM.join ?_
    refine callWith_method1 (spliced_more (he _ _ _ (g.trans g1) fun v h2 t2 hv g2 => spliced_none ?_) hst) hst rfl
    obtain ⟨D, items, rfl, hl, hi⟩ := hv
    exact join_listC (s := { s with heap := h2, toks := t2 }) hl hi hsep hok fun t' k' => k _ h2 k' ⟨_, rfl⟩ (g1.trans g2)) hm
end
section
variable {prog : Program} {w : World} {A : Around} {s : Shared} {h₀ : Heap} {L f : Addr} {cd : Value} {fname : Str} {scope : Scope} {ns : List Str} {vs : List (Option Value)} {O : List (Addr × Obj)} {Q : Flow → Shared → Prop} {n : Str} {pos p ap : Pos} {e o : PySem.Expr} {rest : List Stmt}
/-- o.append(e), for a list of the ledger -/
theorem s_append {D : Addr} {its : Array Value} {k : Nat} {O' : Value → List (Addr × Obj)} {V : Value → Prop} {m : Str → Option Value} (F : Fr h₀ L s.heap m) (N : News h₀ L s.heap O)
    (ho : Ev prog w A (envOf fname scope L f cd) s.heap o (· = .ref D)) (hev : Ev prog w A (envOf fname scope L f cd) s.heap e V) (U : ∀ v, V v → Upd D (listOf its k) (listOf (its.push v) (k + 1)) O (O' v)) (hm : (D, listOf its k) ∈ O)
    (kk : ∀ v h' tk, V v → Fr h₀ L h' m → News h₀ L h' (O' v) → wpAny (model prog w) A (execs rest (envOf fname scope L f cd)) Q No { s with heap := h', toks := tk })
    (hsz : its.size ≤ sizeLine)
    (hst : starEach [e] (envOf fname scope L f cd) = (false, eval e (envOf fname scope L f cd)) :: starEach [] (envOf fname scope L f cd) := by rfl) {pl : Sem Bool}
    (hmc : eval (.Call (.Attribute o (Str.ofString "append") ap) [e] [] p) (envOf fname scope L f cd) = (do
      let ov ← eval o (envOf fname scope L f cd)
      standAt ap.atName
      let (f', first) ← holding [ov] (getMethod ov (Str.ofString "append") pl)
      callWith p f' first (backTo p (starEach [e] (envOf fname scope L f cd))) []) := by rfl)
    (hin : interactive (envOf fname scope L f cd) = false := by rfl) (hsw : swapsWith (.Call (.Attribute o (Str.ofString "append") ap) [e] [] p) none pos.line (envOf fname scope L f cd) = pure false := by rfl) :
    wpAny (model prog w) A (execs (.Expr (.Call (.Attribute o (Str.ofString "append") ap) [e] [] p) pos :: rest) (envOf fname scope L f cd)) Q No s := by
  refine wpAny_execs_cons (wpAny_Expr_any (MethodCall_ ?_ hmc) hin hsw)
  refine ho s _ _ (Grow.refl _) fun u h1 t1 hu g1 => ?_
  subst hu
  refine getMethod_append_N (s := { s with heap := h1, toks := t1 }) (News.grow N g1) hm ?_
  refine callWith_method1 (spliced_more (hev _ _ _ g1 fun v h2 t2 hv g2 => spliced_none ?_) hst) hst rfl
  exact append_K (s := { s with heap := h2, toks := t2 }) (Fr.grow F (g1.trans g2)) (News.grow N (g1.trans g2)) (U v hv) (fun h' F' N' => kk v h' t2 hv F' N') hsz
end
end Mine
end
section
open PySem PySem.W PyProof.Rows
set_option maxRecDepth 100000
set_option maxHeartbeats 0
namespace Mine
section
variable {prog : Program} {w : World} {A : Around} {env : Env} {h : Heap} {l r e o : PySem.Expr} {pos p ap : Pos} {a b : Int} {x y n : Str}
/-- a call of a def of the text by its global name -/
theorem Ev.callD {K : Frag} {fa : Addr} {oc : Value} {od : Option Addr} {fd : FuncData} {osl : Array (Option Value)} {es : List PySem.Expr} {Vs : List (Value → Prop)} {V : Value → Prop} (X : K.In h) (ho : K.lookup fa = some ⟨oc, od, .func fd, osl⟩) (hf : Ev prog w A env h (.Name n p) (· = .ref fa)) (hes : Evs prog w A env h (e :: es) Vs)
    (hc : ∀ (s : Shared) vs (Q : Value → Shared → Prop) (E : Value → Shared → Prop), All2 Vs vs → Grow h s.heap → (∀ v h' tk, V v → Grow s.heap h' → Q v { s with heap := h', toks := tk }) → wpAny (model prog w) A (call (.ref fa) vs) Q E s)
    (hs : starEach (e :: es) env = (false, eval e env) :: starEach es env := by rfl)
    (he : eval (.Call (.Name n p) (e :: es) [] pos) env = (do let f ← eval (.Name n p) env; callWith pos f [] (backTo pos (starEach (e :: es) env)) (backToKw pos (keywordEach [] env))) := by rfl) : Ev prog w A env h (.Call (.Name n p) (e :: es) [] pos) V :=
  fun s Q E g k => Call_ (hf s _ _ g fun f h1 t1 hf g1 => by
    subst hf
    exact callWith_def (o := ⟨oc, od, .func fd, osl⟩) rfl (hes pos _ _ _ (g.trans g1) fun vs h2 t2 hvs g2 => ⟨(g.trans g1).trans g2 _ _ (X _ _ ho), hc _ vs _ _ hvs ((g.trans g1).trans g2) fun v h3 t3 hv g3 => k v h3 t3 hv ((g1.trans g2).trans g3)⟩) hs) he
end
section
variable {prog : Program} {w : World} {A : Around} {s : Shared} {h₀ : Heap} {L f : Addr} {cd : Value} {fname : Str} {scope : Scope} {ns : List Str} {vs : List (Option Value)} {O : List (Addr × Obj)} {Q : Flow → Shared → Prop} {x n : Str} {pos p ap : Pos} {e o t : PySem.Expr} {rest body orelse : List Stmt}
theorem s_if {c : Bool} {env : Env} {m : Str → Option Value} (F : Fr h₀ L s.heap m) (N : News h₀ L s.heap O) (ht : Te prog w A env s.heap t c)
    (k : ∀ h' tk, Fr h₀ L h' m → News h₀ L h' O → if c then wpAny (model prog w) A (execs body env) (Aft prog w A env rest Q) No { s with heap := h', toks := tk } else wpAny (model prog w) A (execs orelse env) (Aft prog w A env rest Q) No { s with heap := h', toks := tk }) :
    wpAny (model prog w) A (execs (.If t body orelse pos :: rest) env) Q No s :=
  wpAny_execs_cons (wpAny_If (ht s _ _ (Grow.refl _) fun h' tk g => k h' tk (Fr.grow F g) (News.grow N g)))
theorem new_ne {h' : Heap} {m : Str → Option Value} {a : Addr} (F : Fr h₀ L s.heap m) (ha : s.heap.get? a = none) : a ≠ L ∧ h₀.get? a = none :=
  ⟨fun q => (by subst q; obtain ⟨_, _, _, ho, _⟩ := F.ns; rw [ha] at ho; cases ho), by
    cases hq : h₀.get? a with
    | none => rfl
    | some o => rw [F.keep _ _ hq] at ha; cases ha⟩
/-- x = [..] -/
theorem s_assignL {es : List PySem.Expr} {Vs : List (Value → Prop)} {lp : Pos} (F : Fr h₀ L s.heap (mv ns vs)) (N : News h₀ L s.heap O) (hn : ns.Nodup) (i : Nat) (hes : Evs prog w A (envOf fname scope L f cd) s.heap es Vs) (hsz : Vs.length ≤ 1000)
    (k : ∀ us a h' tk, All2 Vs us → Fr h₀ L h' (mv ns (vs.set i (some (.ref a)))) → News h₀ L h' ((a, listOf us.toArray 0) :: O) → (∀ p ∈ O, p.1 ≠ a) → wpAny (model prog w) A (execs rest (envOf fname scope L f cd)) Q No { s with heap := h', toks := tk })
    (hi : ns[i]? = some x := by rfl) (hlen : i < vs.length := by exact Nat.le_of_ble_eq_true rfl) (hsw : swapsWith (.List es lp) (some (.Name x p)) pos.line (envOf fname scope L f cd) = pure false := by rfl) (hk : scope.kind = .function := by rfl) (hl : (envOf fname scope L f cd).kindOf x = some .local := by rfl) :
    wpAny (model prog w) A (execs (.Assign [.Name x p] (.List es lp) pos :: rest) (envOf fname scope L f cd)) Q No s :=
  wpAny_execs_cons (wpAny_Assign_Name (Ev.list hes s _ _ (Grow.refl _) (fun us a h1 t1 hus g ha ho => by
    have hne := new_ne (h' := h1) F ha
    have N1 : News h₀ L h1 ((a, listOf us.toArray 0) :: O) := fun p hp => (List.mem_cons.mp hp).elim (fun e => e ▸ ⟨ho, hne⟩) (News.grow N g p)
    exact stN (Fr.grow F g) N1 (fun h' F' N' => k us a h' _ hus (mv_set hn hi hlen ▸ F') N' fun p hp q => by have := (N p hp).1; rw [q, ha] at this; cases this) hk hl) (fun us hus => by rw [hus.len]; exact Nat.le_trans hsz (by decide))) hsw)
end
end Mine
end
section
open PySem PySem.W PyProof.Rows
set_option maxRecDepth 100000
set_option maxHeartbeats 0
namespace Mine
structure Pr where
  a : Addr
  b : Int
  tb : Tok
  c : Str
  tc : Tok
abbrev Row := Addr × List Pr
def TB : List Row := [
  (80, [⟨73, 40960, 1807, ⟨#[108]⟩, 1835⟩, ⟨74, 49152, 1809, ⟨#[115]⟩, 1836⟩, ⟨75, 32768, 1803, ⟨#[45]⟩, 1837⟩, ⟨76, 24576, 1801, ⟨#[98]⟩, 1838⟩, ⟨77, 16384, 1797, ⟨#[100]⟩, 1839⟩, ⟨78, 8192, 1799, ⟨#[99]⟩, 1840⟩, ⟨79, 4096, 1805, ⟨#[112]⟩, 1841⟩]),
  (82, [⟨81, 256, 1817, ⟨#[114]⟩, 1842⟩]),
  (84, [⟨83, 128, 1819, ⟨#[119]⟩, 1843⟩]),
  (88, [⟨85, 2112, 1844, ⟨#[115]⟩, 1845⟩, ⟨86, 2048, 1811, ⟨#[83]⟩, 1846⟩, ⟨87, 64, 1821, ⟨#[120]⟩, 1847⟩]),
  (90, [⟨89, 32, 1823, ⟨#[114]⟩, 1848⟩]),
  (92, [⟨91, 16, 1825, ⟨#[119]⟩, 1849⟩]),
  (96, [⟨93, 1032, 1850, ⟨#[115]⟩, 1851⟩, ⟨94, 1024, 1813, ⟨#[83]⟩, 1852⟩, ⟨95, 8, 1827, ⟨#[120]⟩, 1853⟩]),
  (98, [⟨97, 4, 1829, ⟨#[114]⟩, 1854⟩]),
  (100, [⟨99, 2, 1831, ⟨#[119]⟩, 1855⟩]),
  (104, [⟨101, 513, 1856, ⟨#[116]⟩, 1857⟩, ⟨102, 512, 1815, ⟨#[84]⟩, 1858⟩, ⟨103, 1, 1833, ⟨#[120]⟩, 1859⟩])]
def OkPairs (K : Frag) : List Pr → Prop
  | [] => True
  | p :: r => K.lookup p.a = some (tp #[.int p.b p.tb, .str p.c p.tc]) ∧ OkPairs K r
def OkRows (K : Frag) : List Row → Prop
  | [] => True
  | x :: r => (K.lookup x.1 = some (tp (x.2.map fun p => Value.ref p.a).toArray) ∧ OkPairs K x.2) ∧ OkRows K r
theorem okTB (w : World) : OkRows (KK w.params) TB := by
  repeat' first | exact True.intro | apply And.intro | kernel_rfl
theorem ok105 (w : World) : (KK w.params).lookup 105 = some (tp (TB.map fun x => Value.ref x.1).toArray) := by kernel_rfl
theorem OkPairs.at {K : Frag} : ∀ {ps : List Pr}, OkPairs K ps → ∀ {i : Nat} {p : Pr}, ps[i]? = some p → K.lookup p.a = some (tp #[.int p.b p.tb, .str p.c p.tc])
  | [], _, i, p, e => by simp at e
  | q :: r, h, 0, p, e => by simp at e; subst e; exact h.1
  | q :: r, h, i + 1, p, e => OkPairs.at h.2 (by simpa using e)
theorem OkRows.at {K : Frag} : ∀ {ps : List Row}, OkRows K ps → ∀ {i : Nat} {x : Row}, ps[i]? = some x → K.lookup x.1 = some (tp (x.2.map fun p => Value.ref p.a).toArray) ∧ OkPairs K x.2
  | [], _, i, p, e => by simp at e
  | q :: r, h, 0, p, e => by simp at e; subst e; exact h.1
  | q :: r, h, i + 1, p, e => OkRows.at h.2 (by simpa using e)
def tst (j : Nat) (m b : Int) : Bool := if j = 0 then Builtin.bitAnd m 61440 == b else Builtin.bitAnd m b == b
def pick (j : Nat) (m : Int) : List Pr → Str
  | [] => if j = 0 then S "?" else S "-"
  | p :: r => if tst j m p.b then p.c else pick j m r
def rowAt (j : Nat) : Row := TB.getD j (0, [])
def picks (m : Int) : Nat → List Str
  | 0 => []
  | j + 1 => picks m j ++ [pick j m (rowAt j).2]
theorem pick_len (j : Nat) (m : Int) : ∀ (ps : List Pr), (∀ p ∈ ps, p.c.length = 1) → (pick j m ps).length = 1
  | [], _ => by unfold pick; split <;> decide +kernel
  | p :: r, h => by
    unfold pick; split
    · exact h p (by simp)
    · exact pick_len j m r fun q hq => h q (by simp [hq])
theorem K72 (w : World) : (KK w.params).lookup 72 = some (fn (S "S_IFMT") d72.1 .none (.str ⟨#[99, 112, 121, 51, 49, 51, 46, 115, 116, 97, 116]⟩ 1788) 71) := by kernel_rfl
theorem C71 (w : World) : codeIn (KK w.params) (.ref 71) (S "S_IFMT") = true := by kernel_rfl
theorem K112 (w : World) : (KK w.params).lookup 112 = some (fn (S "filemode") d112.1 .none (.str ⟨#[99, 112, 121, 51, 49, 51, 46, 115, 116, 97, 116]⟩ 1788) 111) := by kernel_rfl
theorem C111 (w : World) : codeIn (KK w.params) (.ref 111) (S "filemode") = true := by kernel_rfl
theorem glob_ifmt (w : World) : nsIn (KK w.params) mainGlobals (S "S_IFMT") = some (some (.ref 72)) := by kernel_rfl
theorem glob_tab (w : World) : nsIn (KK w.params) mainGlobals (S "_filemode_table") = some (some (.ref 105)) := by kernel_rfl
theorem glob_enum (w : World) : nsIn (KK w.params) mainGlobals (S "enumerate") = some none := by kernel_rfl
theorem boot_enum : bootBuiltins (S "enumerate") = some (.type "enumerate") := by kernel_rfl
abbrev ns72 : List Str := [S "mode"]
theorem nd72 : ns72.Nodup := by decide +kernel
abbrev ns112 : List Str := [S "mode", S "perm", S "index", S "table", S "bit", S "char"]
theorem nd112 : ns112.Nodup := by decide +kernel
section
variable {w : World} {A : Around} {s : Shared} {mg mb : Str → Option Value} {E Q : Value → Shared → Prop}
theorem ifmt_call (W : Wd w mg mb s.heap) (hroom : A.depth < recursionLimit) (m : Int) (t : Tok) (k : ∀ t' h' tk, Grow s.heap h' → Q (.int (Builtin.bitAnd m 61440) t') { s with heap := h', toks := tk }) :
    wpAny (model pN w) A (call (.ref 72) [.int m t]) Q E s := by
  refine fcall (K := KK w.params) W.X W.T.nolimit (K72 w) (C71 w) hroom (binds := [(S "mode", .int m t)]) (BindsTo.of_eq (by rfl)) (locs rfl) fun h₁ F₁ => ?_
  rw [show (fun y => List.lookup y ([(S "mode", Value.int m t)].reverse)) = mv ns72 [some (.int m t)] from mv_arg1 _ _ _ 0] at F₁
  refine s_ret ((Ev.varI F₁ nd72 0).band Ev.int) ?_
  rintro v h' tk' ⟨t, rfl⟩ g
  exact ⟨_, rfl, k _ _ _ (Grow.trans F₁.keep g)⟩
end
end Mine
end
section
open PySem PySem.W PyProof.Rows
set_option maxRecDepth 100000
set_option maxHeartbeats 0
namespace Mine
theorem rowAt_eq {j : Nat} {x : Row} (h : TB[j]? = some x) : rowAt j = x := by
  unfold rowAt; rw [List.getD_eq_getElem?_getD, h]; rfl
theorem upd_in {own : List (Addr × Obj)} {D : Addr} {o o' : Obj} (h : ∀ p ∈ own, p.1 ≠ D) : Upd D o o' (own ++ [(D, o)]) (own ++ [(D, o')]) := by
  induction own with
  | nil => exact .head fun p hp => nomatch hp
  | cons p r ih => exact .tail (h p (by simp)) (ih fun q hq => h q (by simp [hq]))
theorem tpIs {K : Frag} {h : Heap} {a : Addr} {xs : Array Value} (X : K.In h) (e : K.lookup a = some (tp xs)) : h.IsTuple a xs := ⟨_, X _ _ e, rfl, _, rfl⟩
theorem picks_size (m : Int) : ∀ j, (picks m j).length = j
  | 0 => rfl
  | j + 1 => by simp [picks, picks_size m j]
theorem rows1 : ∀ x ∈ TB, ∀ p ∈ x.2, p.c.length = 1 := by
  intro x hx p hp
  have : TB.all (fun x => x.2.all fun p => p.c.length == 1) = true := by decide +kernel
  have := List.all_eq_true.mp (List.all_eq_true.mp this x hx) p hp
  exact beq_iff_eq.mp this
theorem pick1 (j : Nat) (m : Int) : (pick j m (rowAt j).2).length = 1 := pick_len j m _ fun p hp => by
  cases hq : TB[j]? with
  | none => unfold rowAt at hp; rw [List.getD_eq_getElem?_getD, hq] at hp; exact nomatch hp
  | some x => rw [rowAt_eq hq] at hp; exact rows1 x (List.mem_of_getElem? hq) p hp
theorem picks_sum (m : Int) : ∀ j, ((picks m j).map (·.length)).sum = j
  | 0 => rfl
  | j + 1 => by rw [picks, List.map_append, List.sum_append, picks_sum m j]; simp [pick1]
section
variable {w : World} {A : Around} {s : Shared} {mg mb : Str → Option Value} {E Q : Value → Shared → Prop}
theorem mode_call (W : Wd w mg mb s.heap) (hh : A.handled = none) (hroom : A.depth + 1 < recursionLimit) (m : Int) (t : Tok) (k : ∀ t' h' tk, Grow s.heap h' → Q (.str (Txt.join (S "") (picks m 10)) t') { s with heap := h', toks := tk }) :
    wpAny (model pN w) A (call (.ref 112) [.int m t]) Q E s := by
  refine fcall (K := KK w.params) W.X W.T.nolimit (K112 w) (C111 w) (Nat.lt_of_succ_lt hroom) (binds := [(S "mode", .int m t)]) (BindsTo.of_eq (by rfl)) (locs rfl) fun h₁ F₁ => ?_
  rw [show (fun y => List.lookup y ([(S "mode", Value.int m t)].reverse)) = mv ns112 [some (.int m t), none, none, none, none, none] from mv_arg1 _ _ _ 5] at F₁
  have hsl := sizeLine_eq
  refine s_assignL (i := 1) F₁ News.nil nd112 Evs.nil (by decide) ?_
  rintro us D h tk hus F N hO
  cases hus
  have W₂ : Wd w mg mb h := W.grow F.keep
  refine s_for_enumT (ta := 105) (items := (TB.map fun x => Value.ref x.1).toArray) (ia := 2) (ib := 3) hh F N nd112
    (fun j vs O => ∃ D its k t a b c d, O = [(D, listOf its k)] ∧ vs = [some (.int m t), some (.ref D), a, b, c, d] ∧ StrsAre its.toList (picks m j))
    (tpIs W.X (ok105 w)) (by
      cases hq : s.heap.get? s.heap.objs.size with
      | none => rfl
      | some o => exact absurd (Heap.lt_size hq) (Nat.lt_irrefl _)) (Ev.blt W₂ (glob_enum w) boot_enum (by decide +kernel)) (Ev.glob W₂ (glob_tab w)) ⟨D, _, _, _, _, _, _, _, rfl, rfl, .nil⟩ (by rintro _ _ _ ⟨D, its, k, t, a, b, c, d, rfl, rfl, hs⟩; exact ⟨Nat.le_of_ble_eq_true rfl, Nat.le_of_ble_eq_true rfl⟩) ?_ ?_
  · rintro j tj v own vs₁ O₁ h tk hv ⟨D, its, k', t, a, b, c, d, rfl, rfl, hs⟩ hown F N
    obtain ⟨x, hx, rfl⟩ : ∃ x, TB[j]? = some x ∧ v = .ref x.1 := by
      rw [List.getElem?_toArray, List.getElem?_map] at hv
      cases hq : TB[j]? with
      | none => rw [hq] at hv; cases hv
      | some x => rw [hq] at hv; exact ⟨x, rfl, (Option.some.inj hv).symm⟩
    have hrow := (okTB w).at hx
    have hD : ∀ p ∈ own, p.1 ≠ D := fun p hp => hown p hp (D, listOf its k') (List.mem_singleton.mpr rfl)
    have hj : j < 10 := by
      have := (List.getElem?_eq_some_iff.mp hx).1
      exact this
    have hsz : its.size ≤ sizeLine := by
      have := strsAre_size hs; rw [picks_size] at this; omega
    have fin : ∀ {y : Str} {v : Value} {h' : Heap} {tk' : Nat} {a b c d : Option Value}, y = pick j m x.2 → IsS y v → Fr s.heap s.heap.objs.size h' (mv ns112 [some (.int m t), some (.ref D), a, b, c, d]) → News s.heap s.heap.objs.size h' (own ++ [(D, listOf (its.push v) (k' + 1))]) →
        ∃ h'' tk'' vs₂ O₂, ({ s with heap := h', toks := tk' } : Shared) = { s with heap := h'', toks := tk'' } ∧ Fr s.heap s.heap.objs.size h'' (mv ns112 vs₂) ∧ News s.heap s.heap.objs.size h'' (own ++ O₂) ∧ O₂.map (·.1) = [(D, listOf its k')].map (·.1) ∧
          ∃ D its k t a b c d, O₂ = [(D, listOf its k)] ∧ vs₂ = [some (.int m t), some (.ref D), a, b, c, d] ∧ StrsAre its.toList (picks m (j + 1)) := by
      rintro y v h' tk' a b c d rfl ⟨ty, rfl⟩ F N
      refine ⟨h', tk', _, _, rfl, F, N, rfl, D, _, _, _, _, _, _, _, rfl, rfl, ?_⟩
      show StrsAre _ (picks m j ++ [pick j m (rowAt j).2])
      rw [rowAt_eq hx]
      exact strsAre_push hs
    refine s_for_tup (ta := x.1) (items := (x.2.map fun p => Value.ref p.a).toArray) (ia := 4) (ib := 5) hh F N nd112
      (fun i vs O => ∃ a b, O = own ++ [(D, listOf its k')] ∧ vs = [some (.int m t), some (.ref D), some (.int (j : Nat) tj), some (.ref x.1), a, b] ∧ pick j m x.2 = pick j m (x.2.drop i))
      (fun i => match x.2[i]? with | some p => (.int p.b p.tb, .str p.c p.tc) | none => (.none, .none)) (tpIs W.X hrow.1) (fun i v hv => by
        rw [List.getElem?_toArray, List.getElem?_map] at hv
        cases hq : x.2[i]? with
        | none => rw [hq] at hv; cases hv
        | some p => rw [hq] at hv; exact ⟨p.a, (Option.some.inj hv).symm, tpIs W.X (hrow.2.at hq)⟩) (Ev.var F nd112 3) ⟨_, _, rfl, rfl, rfl⟩ (by rintro _ _ _ ⟨a, b, rfl, rfl, _⟩; exact ⟨Nat.le_of_ble_eq_true rfl, Nat.le_of_ble_eq_true rfl⟩) ?_ ?_
    · rintro i vs₁ O₁ h tk I it hi ⟨a, b, rfl, rfl, hp⟩ hI F N
      rw [List.size_toArray, List.length_map] at hi
      have hq : x.2[i]? = some x.2[i] := List.getElem?_eq_getElem hi
      rw [List.drop_eq_getElem_cons hi] at hp
      revert F
      rw [hq]
      intro F
      have hI' : I ≠ D := fun q => hI (D, listOf its k') (by simp) q.symm
      have UU : ∀ v, Upd D (listOf its k') (listOf (its.push v) (k' + 1)) ((I, it) :: (own ++ [(D, listOf its k')])) ((I, it) :: (own ++ [(D, listOf (its.push v) (k' + 1))])) := fun v => .tail hI' (upd_in hD)
      have hmem : (D, listOf its k') ∈ (I, it) :: (own ++ [(D, listOf its k')]) := by simp
      refine s_if F N (Te.eqI (Ev.varI F nd112 2) Ev.int) fun h tk F N => ?_
      have Wn : Wd w mg mb h := W.grow F.keep
      by_cases j0 : j = 0
      · subst j0
        show wpAny _ _ _ _ _ _
        refine s_if F N (Te.eqI (a := Builtin.bitAnd m 61440) (b := x.2[i].b) (Ev.callD Wn.X (K72 w) (Ev.glob Wn (glob_ifmt w)) (Evs.cons (Ev.varI F nd112 0) Evs.nil) fun s vs Q E hvs g kq => by
            obtain ⟨_, rfl, ⟨t, rfl⟩⟩ := all1 hvs
            exact ifmt_call (W.grow (Grow.trans F.keep g)) hroom m t fun t' h' tk g' => kq _ h' tk ⟨_, rfl⟩ g') (Ev.varI F nd112 4)) fun h tk F N => ?_
        cases hc : (Builtin.bitAnd m 61440 == x.2[i].b)
        · refine wpAny_execs_nil (wpAny_execs_nil (wpAny_execs_nil ?_))
          refine TV.next F N hI ⟨_, _, rfl, rfl, ?_⟩
          rw [hp]; conv => lhs; unfold pick
          rw [show tst 0 m x.2[i].b = false from hc]; rfl
        · refine s_append F N (Ev.var F nd112 1) (Ev.varS F nd112 5) (fun v _ => UU v) hmem (fun v h tk hv F N => ?_) hsz
          refine wpAny_execs_cons (wpAny_Break ?_)
          refine wpAny_execs_nil ⟨rfl, fin ?_ hv F (fun p hp => N p (List.mem_cons_of_mem _ hp))⟩
          rw [hp]; unfold pick
          rw [show tst 0 m x.2[i].b = true from hc]; rfl
      · have jb : (((j : Nat) : Int) == 0) = false := by simp; omega
        rw [jb]
        show wpAny _ _ _ _ _ _
        refine s_if F N (Te.eqI (a := Builtin.bitAnd m x.2[i].b) (b := x.2[i].b) ((Ev.varI F nd112 0).band (Ev.varI F nd112 4)) (Ev.varI F nd112 4)) fun h tk F N => ?_
        have ht : tst j m x.2[i].b = (Builtin.bitAnd m x.2[i].b == x.2[i].b) := by unfold tst; rw [if_neg j0]
        cases hc : (Builtin.bitAnd m x.2[i].b == x.2[i].b)
        · refine wpAny_execs_nil (wpAny_execs_nil (wpAny_execs_nil ?_))
          refine TV.next F N hI ⟨_, _, rfl, rfl, ?_⟩
          rw [hp]; conv => lhs; unfold pick
          rw [ht, hc]; rfl
        · refine s_append F N (Ev.var F nd112 1) (Ev.varS F nd112 5) (fun v _ => UU v) hmem (fun v h tk hv F N => ?_) hsz
          refine wpAny_execs_cons (wpAny_Break ?_)
          refine wpAny_execs_nil ⟨rfl, fin ?_ hv F (fun p hp => N p (List.mem_cons_of_mem _ hp))⟩
          rw [hp]; conv => rhs; unfold pick
          rw [ht, hc]; rfl
    · rintro vs₁ h tk O₁ ⟨a, b, rfl, rfl, hp⟩ F N
      rw [List.size_toArray, List.length_map, List.drop_length] at hp
      have hmem : (D, listOf its k') ∈ own ++ [(D, listOf its k')] := by simp
      refine s_if F N (Te.eqI (Ev.varI F nd112 2) Ev.int) fun h tk F N => ?_
      by_cases j0 : j = 0
      · subst j0
        show wpAny _ _ _ _ _ _
        refine s_append F N (Ev.var F nd112 1) (Ev.str (x := S "?")) (fun v _ => upd_in hD) hmem (fun v h tk hv F N => ?_) hsz
        exact wpAny_execs_nil (wpAny_execs_nil (wpAny_execs_nil ⟨rfl, fin hp.symm hv F N⟩))
      · have jb : (((j : Nat) : Int) == 0) = false := by simp; omega
        rw [jb]
        show wpAny _ _ _ _ _ _
        refine s_append F N (Ev.var F nd112 1) (Ev.str (x := S "-")) (fun v _ => upd_in hD) hmem (fun v h tk hv F N => ?_) hsz
        exact wpAny_execs_nil (wpAny_execs_nil (wpAny_execs_nil ⟨rfl, fin (by rw [hp]; unfold pick; rw [if_neg j0]) hv F N⟩))
  · rintro vs₁ h tk O₁ ⟨D, its, k', t, a, b, c, d, rfl, rfl, hs⟩ F N
    have hs' : StrsAre its.toList (picks m 10) := hs
    refine s_ret (Ev.join Ev.str ((Ev.var F nd112 1).toH (fun v h' e g => ⟨D, its, e, ⟨_, g _ _ (N (D, listOf its k') (by simp)).1, rfl, _, rfl⟩, hs'⟩)) (by decide +kernel) ?_) ?_
    · rw [picks_sum, picks_size]; decide
    · rintro v h' tk' ⟨t, rfl⟩ g
      exact ⟨_, rfl, k _ _ _ (Grow.trans F.keep g)⟩
end
end Mine
end
section
open PySem PySem.W PyProof.Rows
set_option maxRecDepth 100000
set_option maxHeartbeats 0
namespace Mine
def rS (m : Int) (i : Nat) : Str := if decide (fig m i > 3) then S "r" else S "-"
def wS (m : Int) (i : Nat) : Str := if decide (Int.fmod (fig m i) 4 > 1) then S "w" else S "-"
def xS (m : Int) (i : Nat) : Str := Txt.item (tblS (2 * (i : Int) + abv m i).toNat) (Int.fmod (fig m i) 2)
theorem sigs3 (m : Int) : sigs m 3 = sig0 m ++ rS m 0 ++ wS m 0 ++ xS m 0 ++ rS m 1 ++ wS m 1 ++ xS m 1 ++ rS m 2 ++ wS m 2 ++ xS m 2 := rfl
def dD (i : Nat) : Nat := [64, 8, 1].getD i 1
def dE (i : Nat) : Nat := [2048, 1024, 512].getD i 1
def dM (i : Nat) : Nat := [2496, 1080, 519].getD i 0
/-- the four bits of a mode that place i reads -/
def rep (i n : Nat) : Nat := n / dD i % 8 * dD i + n / dE i % 2 * dE i
def okR (i r : Nat) : Bool := (pick (3 * i + 1) (r : Int) (rowAt (3 * i + 1)).2 == rS r i) && (pick (3 * i + 2) (r : Int) (rowAt (3 * i + 2)).2 == wS r i) && (pick (3 * i + 3) (r : Int) (rowAt (3 * i + 3)).2 == xS r i)
theorem okAll : (List.range 3).all (fun i => (List.range 8).all fun a => (List.range 2).all fun c => okR i (a * dD i + c * dE i)) = true := by decide +kernel
theorem okM : (List.range 4096).all (fun n => Nat.beq (n &&& 2496) (n / 64 % 8 * 64 + n / 2048 % 2 * 2048) && Nat.beq (n &&& 1080) (n / 8 % 8 * 8 + n / 1024 % 2 * 1024) && Nat.beq (n &&& 519) (n / 1 % 8 * 1 + n / 512 % 2 * 512)) = true := by decide +kernel
def okK (k : Nat) : Bool := pick 0 ((k * 4096 : Nat) : Int) (rowAt 0).2 == sig0 ((k * 4096 : Nat) : Int)
theorem okAllK : (List.range 16).all okK = true := by decide +kernel
end Mine
end
section
open PySem PySem.W PyProof.Rows
set_option maxRecDepth 100000
set_option maxHeartbeats 0
namespace Mine
theorem and_low (n b : Nat) (hb : b < 2 ^ 12) : n &&& b = (n % 2 ^ 12) &&& b := by
  apply Nat.eq_of_testBit_eq
  intro i
  rw [Nat.testBit_and, Nat.testBit_and, Nat.testBit_mod_two_pow]
  by_cases hi : i < 12
  · simp [hi]
  · have : b.testBit i = false := Nat.testBit_lt_two_pow (Nat.lt_of_lt_of_le hb (Nat.pow_le_pow_right (by decide) (by omega)))
    simp [this]
theorem and_high (n : Nat) : n &&& 61440 = (n / 4096 % 16 * 4096) &&& 61440 := by
  apply Nat.eq_of_testBit_eq
  intro i
  rw [Nat.testBit_and, Nat.testBit_and]
  have h1 : (61440 : Nat) = (2 ^ 4 - 1) * 2 ^ 12 := by decide
  rw [h1, show n / 4096 % 16 * 4096 = n / 2 ^ 12 % 2 ^ 4 * 2 ^ 12 from rfl, Nat.testBit_mul_two_pow, Nat.testBit_mul_two_pow, Nat.testBit_two_pow_sub_one, Nat.testBit_mod_two_pow, Nat.testBit_div_two_pow]
  by_cases hi : 12 ≤ i
  · by_cases h4 : i - 12 < 4
    · rw [show i - 12 + 12 = i by omega]; simp [hi, h4]
    · simp [h4]
  · simp [hi]
theorem bitAnd_low (n b : Nat) (hb : b < 4096) : Builtin.bitAnd (n : Int) b = Builtin.bitAnd ((n % 4096 : Nat) : Int) b := by
  rw [bitAnd_pp (by omega) (by omega), bitAnd_pp (by omega) (by omega)]
  simp only [Int.toNat_natCast]
  rw [and_low n b hb]
theorem pick_low (n j : Nat) (hj : j ≠ 0) : ∀ ps : List Pr, (∀ p ∈ ps, 0 ≤ p.b ∧ p.b < 4096) → pick j (n : Int) ps = pick j ((n % 4096 : Nat) : Int) ps
  | [], _ => rfl
  | p :: r, h => by
    have hp := h p (by simp)
    have e : tst j (n : Int) p.b = tst j ((n % 4096 : Nat) : Int) p.b := by
      unfold tst
      rw [if_neg hj, if_neg hj]
      obtain ⟨b, hb⟩ := Int.eq_ofNat_of_zero_le hp.1
      rw [hb] at hp ⊢
      rw [bitAnd_low n b (by omega)]
    unfold pick
    rw [e, pick_low n j hj r fun q hq => h q (by simp [hq])]
theorem pick_high (n : Nat) : ∀ ps : List Pr, pick 0 (n : Int) ps = pick 0 ((n / 4096 % 16 * 4096 : Nat) : Int) ps
  | [] => rfl
  | p :: r => by
    have e : Builtin.bitAnd (n : Int) 61440 = Builtin.bitAnd ((n / 4096 % 16 * 4096 : Nat) : Int) 61440 := by
      rw [show (61440 : Int) = ((61440 : Nat) : Int) from rfl, bitAnd_pp (by omega) (by omega), bitAnd_pp (by omega) (by omega)]
      simp only [Int.toNat_natCast]
      rw [and_high n]
    unfold pick tst
    rw [if_pos rfl, if_pos rfl, e, pick_high n r]
theorem rows4096 : ∀ j, j ≠ 0 → ∀ p ∈ (rowAt j).2, 0 ≤ p.b ∧ p.b < 4096 := by
  intro j hj p hp
  by_cases h : j < 10
  · have all : (List.range 10).all (fun j => j == 0 || (rowAt j).2.all fun p => decide (0 ≤ p.b) && decide (p.b < 4096)) = true := by decide +kernel
    have := List.all_eq_true.mp all j (List.mem_range.mpr h)
    rw [Bool.or_eq_true] at this
    rcases this with h | h
    · exact absurd (beq_iff_eq.mp h) hj
    · have := List.all_eq_true.mp h p hp
      rw [Bool.and_eq_true] at this
      exact ⟨of_decide_eq_true this.1, of_decide_eq_true this.2⟩
  · have : TB[j]? = none := List.getElem?_eq_none (by show 10 ≤ j; omega)
    unfold rowAt at hp
    rw [List.getD_eq_getElem?_getD, this] at hp
    exact nomatch hp
theorem fig_low (n i : Nat) (hi : i < 3) : fig (n : Int) i = fig ((n % 4096 : Nat) : Int) i ∧ abv (n : Int) i = abv ((n % 4096 : Nat) : Int) i := by
  rcases (by omega : i = 0 ∨ i = 1 ∨ i = 2) with rfl | rfl | rfl <;> unfold fig abv <;> simp only [List.getD_cons_zero, List.getD_cons_succ] <;>
    rw [Int.fdiv_eq_ediv_of_nonneg _ (by decide), Int.fdiv_eq_ediv_of_nonneg _ (by decide), Int.fdiv_eq_ediv_of_nonneg _ (by decide), Int.fdiv_eq_ediv_of_nonneg _ (by decide), Int.fmod_eq_emod_of_nonneg _ (by decide), Int.fmod_eq_emod_of_nonneg _ (by decide), Int.fmod_eq_emod_of_nonneg _ (by decide), Int.fmod_eq_emod_of_nonneg _ (by decide)] <;> omega
theorem sig0_high (n : Nat) : sig0 (n : Int) = sig0 ((n / 4096 % 16 * 4096 : Nat) : Int) := by
  unfold sig0
  rw [Int.fdiv_eq_ediv_of_nonneg _ (by decide), Int.fdiv_eq_ediv_of_nonneg _ (by decide), Int.fmod_eq_emod_of_nonneg _ (by decide), Int.fmod_eq_emod_of_nonneg _ (by decide)]
  congr 1
  omega
theorem and_rep {n i : Nat} (hn : n < 4096) (hi : i < 3) : n &&& dM i = rep i n := by
  have h := List.all_eq_true.mp okM n (List.mem_range.mpr hn)
  rw [Bool.and_eq_true, Bool.and_eq_true] at h
  rcases (by omega : i = 0 ∨ i = 1 ∨ i = 2) with rfl | rfl | rfl
  · exact Nat.eq_of_beq_eq_true h.1.1
  · exact Nat.eq_of_beq_eq_true h.1.2
  · exact Nat.eq_of_beq_eq_true h.2
theorem bitAnd_rep {n i b : Nat} (hn : n < 4096) (hi : i < 3) (hb : dM i &&& b = b) : Builtin.bitAnd (n : Int) b = Builtin.bitAnd ((rep i n : Nat) : Int) b := by
  rw [bitAnd_pp (by omega) (by omega), bitAnd_pp (by omega) (by omega)]
  simp only [Int.toNat_natCast]
  rw [← and_rep hn hi, Nat.and_assoc, hb]
theorem pick_rep {n i j : Nat} (hn : n < 4096) (hi : i < 3) (hj : j ≠ 0) : ∀ ps : List Pr, (∀ p ∈ ps, 0 ≤ p.b ∧ dM i &&& p.b.toNat = p.b.toNat) → pick j (n : Int) ps = pick j ((rep i n : Nat) : Int) ps
  | [], _ => rfl
  | p :: r, h => by
    have hp := h p (by simp)
    have e : tst j (n : Int) p.b = tst j ((rep i n : Nat) : Int) p.b := by
      unfold tst
      rw [if_neg hj, if_neg hj]
      obtain ⟨b, hb⟩ := Int.eq_ofNat_of_zero_le hp.1
      rw [hb] at hp ⊢
      rw [bitAnd_rep hn hi (by simpa using hp.2)]
    unfold pick
    rw [e, pick_rep hn hi hj r fun q hq => h q (by simp [hq])]
theorem rowsM {i t : Nat} (hi : i < 3) (ht : t < 3) : ∀ p ∈ (rowAt (3 * i + (t + 1))).2, 0 ≤ p.b ∧ dM i &&& p.b.toNat = p.b.toNat := by
  intro p hp
  have all : (List.range 3).all (fun i => (List.range 3).all fun t => (rowAt (3 * i + (t + 1))).2.all fun p => decide (0 ≤ p.b) && decide (dM i &&& p.b.toNat = p.b.toNat)) = true := by decide +kernel
  have := List.all_eq_true.mp (List.all_eq_true.mp (List.all_eq_true.mp all i (List.mem_range.mpr hi)) t (List.mem_range.mpr ht)) p hp
  rw [Bool.and_eq_true] at this
  exact ⟨of_decide_eq_true this.1, of_decide_eq_true this.2⟩
theorem fig_rep (n i : Nat) (hi : i < 3) : fig (n : Int) i = fig ((rep i n : Nat) : Int) i ∧ abv (n : Int) i = abv ((rep i n : Nat) : Int) i := by
  rcases (by omega : i = 0 ∨ i = 1 ∨ i = 2) with rfl | rfl | rfl <;> unfold fig abv rep dD dE <;> simp only [List.getD_cons_zero, List.getD_cons_succ] <;>
    rw [Int.fdiv_eq_ediv_of_nonneg _ (by decide), Int.fdiv_eq_ediv_of_nonneg _ (by decide), Int.fdiv_eq_ediv_of_nonneg _ (by decide), Int.fdiv_eq_ediv_of_nonneg _ (by decide), Int.fmod_eq_emod_of_nonneg _ (by decide), Int.fmod_eq_emod_of_nonneg _ (by decide), Int.fmod_eq_emod_of_nonneg _ (by decide), Int.fmod_eq_emod_of_nonneg _ (by decide)] <;> omega
theorem trip (n i : Nat) (hi : i < 3) : pick (3 * i + 1) (n : Int) (rowAt (3 * i + 1)).2 = rS n i ∧ pick (3 * i + 2) (n : Int) (rowAt (3 * i + 2)).2 = wS n i ∧ pick (3 * i + 3) (n : Int) (rowAt (3 * i + 3)).2 = xS n i := by
  have hlt : n % 4096 < 4096 := Nat.mod_lt _ (by decide)
  have h := List.all_eq_true.mp (List.all_eq_true.mp (List.all_eq_true.mp okAll i (List.mem_range.mpr hi)) (n % 4096 / dD i % 8) (List.mem_range.mpr (Nat.mod_lt _ (by decide)))) (n % 4096 / dE i % 2) (List.mem_range.mpr (Nat.mod_lt _ (by decide)))
  have h' : okR i (rep i (n % 4096)) = true := h
  unfold okR at h'
  rw [Bool.and_eq_true, Bool.and_eq_true] at h'
  have hf := fig_low n i hi
  have hr := fig_rep (n % 4096) i hi
  have e1 : rS (n : Int) i = rS ((rep i (n % 4096) : Nat) : Int) i := by unfold rS; rw [hf.1, hr.1]
  have e2 : wS (n : Int) i = wS ((rep i (n % 4096) : Nat) : Int) i := by unfold wS; rw [hf.1, hr.1]
  have e3 : xS (n : Int) i = xS ((rep i (n % 4096) : Nat) : Int) i := by unfold xS; rw [hf.1, hf.2, hr.1, hr.2]
  rw [pick_low n _ (by omega) _ (rows4096 _ (by omega)), pick_low n _ (by omega) _ (rows4096 _ (by omega)), pick_low n _ (by omega) _ (rows4096 _ (by omega)),
    pick_rep (j := 3 * i + 1) hlt hi (by omega) _ (rowsM (t := 0) hi (by decide)), pick_rep (j := 3 * i + 2) hlt hi (by omega) _ (rowsM (t := 1) hi (by decide)), pick_rep (j := 3 * i + 3) hlt hi (by omega) _ (rowsM (t := 2) hi (by decide)), e1, e2, e3]
  exact ⟨beq_iff_eq.mp h'.1.1, beq_iff_eq.mp h'.1.2, beq_iff_eq.mp h'.2⟩
theorem kind_eq (n : Nat) : pick 0 (n : Int) (rowAt 0).2 = sig0 n := by
  have h := List.all_eq_true.mp okAllK (n / 4096 % 16) (List.mem_range.mpr (by omega))
  rw [pick_high, sig0_high]
  exact beq_iff_eq.mp h
def tl (x : Str) : List Nat := x.cps.toList
theorem tl_ext {x y : Str} (h : tl x = tl y) : x = y := by
  obtain ⟨⟨a⟩⟩ := x; obtain ⟨⟨b⟩⟩ := y
  exact congrArg (fun z => (⟨⟨z⟩⟩ : Str)) h
theorem tl_append (x y : Str) : tl (x ++ y) = tl x ++ tl y := by unfold tl; rw [Str.cps_append, Array.toList_append]
theorem tl_length (x : Str) : (tl x).length = x.length := rfl
theorem tl_join (sep : Str) : ∀ ys : List Str, tl (Txt.join sep ys) = List.intercalate (tl sep) (ys.map tl) := by
  intro ys
  show tl (Builtin.Str.glued sep ys) = _
  rw [StrLaws.glued_eq_join]
  induction ys with
  | nil => rfl
  | cons x r ih =>
    cases r with
    | nil => simp [Str.join, List.intercalate]
    | cons y r =>
      show tl (x ++ sep ++ Str.join sep (y :: r)) = _
      rw [tl_append, tl_append, ih]
      simp [List.intercalate]
theorem join0 (ys : List Str) : tl (Txt.join (S "") ys) = (ys.map tl).flatten := by
  rw [tl_join, show tl (S "") = [] from rfl]
  induction ys with
  | nil => rfl
  | cons x r ih =>
    cases r with
    | nil => simp [List.intercalate]
    | cons y r => simp [List.intercalate] at ih ⊢; exact ih
theorem mode_sigs {m : Int} (h : 0 ≤ m) : Txt.join (S "") (picks m 10) = sigs m 3 := by
  obtain ⟨n, rfl⟩ := Int.eq_ofNat_of_zero_le h
  apply tl_ext
  rw [join0, sigs3]
  obtain ⟨a1, a2, a3⟩ := trip n 0 (by decide)
  obtain ⟨b1, b2, b3⟩ := trip n 1 (by decide)
  obtain ⟨c1, c2, c3⟩ := trip n 2 (by decide)
  have k := kind_eq n
  simp only [picks, List.nil_append, List.map_append, List.map_cons, List.map_nil, List.flatten_append, List.flatten_cons, List.flatten_nil, List.append_nil, tl_append]
  rw [k, a1, a2, a3, b1, b2, b3, c1, c2, c3]
end Mine
end
section
open PySem PySem.W PyProof.Rows
set_option maxRecDepth 100000
set_option maxHeartbeats 0
namespace Mine
section
variable {prog : Program} {w : World} {A : Around} {E : Value → Shared → Prop} {s : Shared}
theorem look_id {l : Addr} {items : Array Value} {c : Nat} {d : Str} {t : Tok} {Q : Builtin.Str.Mapped → Shared → Prop} (hl : s.heap.IsList l items) (hc : items[c]? = some (.str d t)) (hc' : c < 256) (h : Q (.text d) { s with toks := s.toks + 1 }) :
    wpAny (model prog w) A (Builtin.Str.tableLookup (.ref l) c) Q E s := by
  unfold Builtin.Str.tableLookup
  refine wpAny_bind (wpAny_attempt (wpAny_bind (wpAny_mkInt ?_)))
  refine wpAny_getItem_list (s := { s with toks := s.toks + 1 }) hl (by omega) (by omega) (x := .str d t) (by simpa using hc) ?_
  refine wpAny_bind (m := asInt? (.str d t)) (wpAny_pure ?_)
  show wpAny _ _ (asStr? (.str d t) >>= _) _ _ _
  exact wpAny_bind (m := asStr? (.str d t)) (wpAny_pure (wpAny_pure h))
def flatP (ps : List Str) : List Nat := (ps.reverse.map tl).flatten
theorem foldP (ps : List Str) : ∀ acc : Array Nat, (List.foldl (fun acc (p : Str) => acc ++ p.cps) acc ps).toList = acc.toList ++ (ps.map tl).flatten := by
  induction ps with
  | nil => intro acc; simp
  | cons p r ih => intro acc; rw [List.foldl_cons, ih]; simp [tl]
theorem not_long {n : Nat} (h : n ≤ 200000) : Builtin.Str.tooLong n = false := by
  unfold Builtin.Str.tooLong
  have := sizeLine_eq
  simp; omega
theorem lookup_known : ∀ (kn : List (Nat × Option Nat)), (∀ p ∈ kn, p.2 = some p.1) → ∀ c, List.lookup c kn = none ∨ List.lookup c kn = some (some c)
  | [], _, c => .inl rfl
  | p :: r, h, c => by
    rw [List.lookup]
    by_cases e : c = p.1
    · subst e; rw [show (p.1 == p.1) = true from beq_self_eq_true _]; right; exact congrArg some (h p (by simp))
    · rw [show (c == p.1) = false from beq_eq_false_iff_ne.mpr e]; exact lookup_known r (fun q hq => h q (by simp [hq])) c
theorem translate_id {l : Addr} {items : Array Value} {x : Str} {t : Tok} {Q : Value → Shared → Prop} (hl : s.heap.IsList l items) (hx : ∀ c ∈ tl x, c < 128 ∧ ∃ u, items[c]? = some (.str ⟨#[c]⟩ u)) (hz : x.length ≤ 100000) (hne : tl x ≠ [])
    (h : ∀ t' k, Q (.str x t') { s with toks := k }) : wpAny (model prog w) A (call (.builtin "str.translate") [.str x t, .ref l]) Q E s := by
  refine wpAny_call_entry F.slot_str_translate (typeIs_str _ _ _) F.entry_str_translate ?_ (F.args_str_translate_2 _ _)
  unfold Builtin.«str.translate» Builtin.Str.strOneArg
  wp_walk
  rw [if_neg (by intro q; exact hne (List.eq_nil_of_length_eq_zero (by rw [tl_length]; exact beq_iff_eq.mp q)))]
  have hf : (x.cps.all fun x => decide (x < 128)) = true := by
    rw [Array.all_eq_true']
    intro c hc
    exact decide_eq_true (hx c (by unfold tl; exact Array.mem_toList_iff.mpr hc)).1
  rw [hf]
  refine wpAny_bind (wpAny_forIn_array' _ (fun rest b s' => (∃ k, s' = { s with toks := k }) ∧ flatP b.1 ++ rest = tl x ∧ b.2.1 = (flatP b.1).length ∧ b.2.2.1 = true ∧ (∀ p ∈ b.2.2.2.1, p.2 = some p.1) ∧ b.2.2.2.2 = false) _ ?_ ?_ _ _ ⟨⟨_, rfl⟩, rfl, rfl, rfl, (fun p hp => nomatch hp), rfl⟩)
  · rintro c rest ⟨ps, tot, fast, kn, ad⟩ s₁ ⟨⟨k, rfl⟩, hfl, htot, hfast, hkn, had⟩
    dsimp only at hfl htot hfast hkn had
    subst hfast had htot
    have hmem : c ∈ tl x := by rw [← hfl]; simp
    obtain ⟨hc, u, hu⟩ := hx c hmem
    have hlen : (flatP ps).length ≤ 200000 := by
      have := congrArg List.length hfl
      rw [List.length_append, tl_length] at this
      omega
    dsimp only
    rw [not_long hlen, if_neg Bool.false_ne_true, if_pos rfl]
    have step : ∀ (ps' : List Str), ps' = ⟨#[c]⟩ :: ps → flatP ps' ++ rest = tl x ∧ (flatP ps).length + 1 = (flatP ps').length := by
      rintro _ rfl
      have e : flatP (⟨#[c]⟩ :: ps) = flatP ps ++ [c] := by unfold flatP; simp [tl]
      rw [e]
      exact ⟨by rw [← hfl]; simp, by simp⟩
    rcases lookup_known kn hkn c with e | e
    · rw [e]
      refine wpAny_bind (look_id (s := { s with toks := k }) hl hu (by omega) ?_)
      have e2 : ((⟨#[c]⟩ : Str).length == 1 && (⟨#[c]⟩ : Str).cps.all fun x => decide (x < 128)) = true := by simp [Str.length, hc]
      dsimp only
      rw [e2, if_pos rfl]
      refine wpAny_bind (wpAny_pure ?_)
      refine wpAny_pure ?_
      obtain ⟨h1, h2⟩ := step _ rfl
      exact ⟨⟨_, rfl⟩, h1, h2, rfl, fun p hp => (List.mem_cons.mp hp).elim (fun q => by rw [q]; rfl) (hkn p), rfl⟩
    · rw [e]
      refine wpAny_bind (wpAny_pure ?_)
      refine wpAny_pure ?_
      obtain ⟨h1, h2⟩ := step _ rfl
      exact ⟨⟨_, rfl⟩, h1, h2, rfl, hkn, rfl⟩
  · rintro ⟨ps, tot, fast, kn, ad⟩ s₁ ⟨⟨k, rfl⟩, hfl, htot, hfast, hkn, had⟩
    dsimp only at hfl htot hfast hkn had
    subst htot
    rw [List.append_nil] at hfl
    dsimp only
    rw [not_long (by rw [hfl, tl_length]; omega), if_neg Bool.false_ne_true]
    have e : (⟨List.foldl (fun acc (p : Str) => acc ++ p.cps) #[] ps.reverse⟩ : Str) = x := tl_ext (by
      show (List.foldl (fun acc (p : Str) => acc ++ p.cps) #[] ps.reverse).toList = _
      rw [foldP, ← hfl]; rfl)
    rw [e]
    exact wpAny_bind (wpAny_mkStr (wpAny_pure ⟨_, rfl, h _ _⟩))
end
end Mine
end
section
open PySem PySem.W PyProof.Rows
set_option maxRecDepth 100000
set_option maxHeartbeats 0
namespace Mine
abbrev bndOf (a : Addr) : Obj := { cls := .type "builtin_function_or_method", data := .fields #[.builtin "list.append", .ref a] }
theorem lk_append : typeLookup (.type "list") "append" = pure (some (.builtin "list.append")) := by rw [typeLookup_type, builtinLookup_eq_fast]; kernel_rfl
theorem ty_append : typeOf (.builtin "list.append") = pure (.type "method_descriptor") := by show builtinType _ = _; rw [builtinType_eq_fast]; kernel_rfl
theorem slot_md_get : Slot "method_descriptor" "__get__" "method_descriptor.__get__" :=
  .of (owner := "method_descriptor") (n := "__get__") (by rw [typeLookup_type, builtinLookup_eq_fast]; kernel_rfl) (by decide +kernel) (by decide +kernel) (by decide +kernel)
    (by first | exact .inl (by decide +kernel) | exact .inr (by decide +kernel)) (by rw [isSubtype_type]; kernel_rfl)
theorem md_set : typeLookup (.type "method_descriptor") "__set__" = pure none := by rw [typeLookup_type, builtinLookup_eq_fast]; kernel_rfl
theorem md_del : typeLookup (.type "method_descriptor") "__delete__" = pure none := by rw [typeLookup_type, builtinLookup_eq_fast]; kernel_rfl
theorem entry_md_get : entryFor table "method_descriptor.__get__" = some Builtin.«method_descriptor.__get__» := entryFor_of_tree (by kernel_rfl)
theorem args_md_get (a b c : Value) : argsOk "method_descriptor.__get__" ⟨[a, b, c], []⟩ := by unfold argsOk; kernel_rfl
theorem sub_list_owner : isSubtype (.type "list") (.type (".".intercalate ("list.append".cutAt '.').dropLast)) = pure true := by
  have e0 : "list.append".cutAt '.' = ["list", "append"] := by first | rfl | decide +kernel
  rw [e0, show (".".intercalate (["list", "append"].dropLast)) = "list" by decide +kernel, isSubtype_type]; kernel_rfl
section
variable {prog : Program} {w : World} {A : Around} {E : Value → Shared → Prop} {h : Heap} {g : Array GenState} {d : Drawn} {t : Nat} {os : OsState} {a : Addr} {its : Array Value} {k : Nat}
theorem md_get_list {R : Result → Shared → Prop} (hx : h.get? a = some (listOf its k)) (hq : R (.ok (.ret (.ref h.objs.size))) ⟨h.push (bndOf a), g, d, t, os⟩) :
    codeAny (model prog w) A (.call (.builtin "method_descriptor.__get__") ⟨[.builtin "list.append", .ref a, .type "list"], []⟩) R ⟨h, g, d, t, os⟩ := by
  have hT : (⟨h, g, d, t, os⟩ : Shared).TypeIs (.ref a) "list" := ⟨_, hx, rfl⟩
  have hT5 : (⟨h, g, d, t, os⟩ : Shared).TypeIs (.builtin "list.append") "method_descriptor" := ty_append
  have f8 := sub_list_owner
  refine codeAny_call_builtin slot_md_get.plain entry_md_get (slot_md_get.check _ _ _ _ _ _ _ _ hT5 (args_md_get _ _ _) ?_)
  repeat (any_goals (first | assumption | wp_step))
theorem append_entry {tk : Tok} {Q : PySem.Fin → Shared → Prop} (hx : h.get? a = some (listOf its k)) (hq : Q (.done (.ret (.ref h.objs.size))) ⟨h.push (bndOf a), g, d, t, os⟩) :
    wpAny (model prog w) A (Builtin.«object.__getattribute__» ⟨[.ref a, .str "append" tk], []⟩) Q E ⟨h, g, d, t, os⟩ := by
  have hT : (⟨h, g, d, t, os⟩ : Shared).TypeIs (.ref a) "list" := ⟨_, hx, rfl⟩
  have hT5 : (⟨h, g, d, t, os⟩ : Shared).TypeIs (.builtin "list.append") "method_descriptor" := ty_append
  have f4 := lk_append
  have f5 := ty_append
  have f6 := slot_md_get.lookup
  have f7 := md_set
  have f8 := md_del
  repeat (any_goals (first | assumption | wp_step))
  refine md_get_list hx ?_
  repeat (any_goals (first | assumption | wp_step))
theorem append_call {tk : Tok} {R : Result → Shared → Prop} (hx : h.get? a = some (listOf its k)) (hq : R (.ok (.ret (.ref h.objs.size))) ⟨h.push (bndOf a), g, d, t, os⟩) :
    codeAny (model prog w) A (.call (.builtin "list.__getattribute__") ⟨[.ref a, .str "append" tk], []⟩) R ⟨h, g, d, t, os⟩ :=
  codeAny_call_builtin F.slot_list_getattribute.plain F.entry_list_ga (F.slot_list_getattribute.check _ _ _ _ _ _ _ _ (show (⟨h, g, d, t, os⟩ : Shared).TypeIs (.ref a) "list" from ⟨_, hx, rfl⟩) (F.args_list_getattribute_2 _ _) (append_entry hx hq))
theorem append_by {tk : Tok} {Q : Value → Shared → Prop} (hx : h.get? a = some (listOf its k)) (hq : Q (.ref h.objs.size) ⟨h.push (bndOf a), g, d, t, os⟩) : wpAny (model prog w) A (getAttrBy (.ref a) (.str "append" tk) true true) Q E ⟨h, g, d, t, os⟩ := by
  have hT : (⟨h, g, d, t, os⟩ : Shared).TypeIs (.ref a) "list" := ⟨_, hx, rfl⟩
  have f2 := F.slot_list_getattribute.lookup
  have f3 := F.slot_list_getattribute.bind (.ref a)
  repeat (any_goals (first | assumption | wp_step))
  refine append_call hx ?_
  repeat (any_goals (first | assumption | wp_step))
theorem append_attr {Q : Value → Shared → Prop} {s : Shared} (hx : s.heap.get? a = some (listOf its k)) (hq : Q (.ref s.heap.objs.size) { s with heap := s.heap.push (bndOf a), toks := s.toks + 1 }) : wpAny (model prog w) A (getAttr (.ref a) "append" true) Q E s := by
  unfold getAttr
  exact wpAny_bind (wpAny_mkText (append_by (t := s.toks + 1) hx hq))
/-- a call of the bound append -/
theorem sig_append : Manifest.signature? "list.append" = some ⟨.oneArg, "list.append", "append", .self, [⟨"object", .posOnly, true⟩]⟩ := by
  rw [signature?_of (id := "list.append") (n := ['d', 'n', 'e', 'p', 'p', 'a']) (o := ['t', 's', 'i', 'l']) (by kernel_rfl) F.owner_list]; kernel_rfl
end
end Mine
end
section
open PySem PySem.W PyProof.Rows
set_option maxRecDepth 100000
set_option maxHeartbeats 0
namespace Mine
theorem kind_append : builtinKind "list.append" = some .method := by decide +kernel
theorem vm_append : Manifest.varargsMethods.contains "list.append" = false := by decide +kernel
theorem sub_list_module : isSubtype (.type "list") (.type "module") = pure false := by rw [isSubtype_type]; kernel_rfl
section
variable {prog : Program} {w : World} {A : Around} {E : Value → Shared → Prop} {h : Heap} {g : Array GenState} {d : Drawn} {t : Nat} {os : OsState} {a q : Addr} {its : Array Value} {k : Nat} {v : Value}
theorem chk_append {Q : Unit → Shared → Prop} (hx : h.get? a = some (listOf its k)) (hq : Q () ⟨h, g, d, t, os⟩) : wpAny (model prog w) A (checkBoundCall "list.append" ⟨[.ref a, v], []⟩) Q E ⟨h, g, d, t, os⟩ := by
  have hT : (⟨h, g, d, t, os⟩ : Shared).TypeIs (.ref a) "list" := ⟨_, hx, rfl⟩
  have f1 := sub_list_module
  unfold checkBoundCall
  rw [sig_append, kind_append]
  simp only [vm_append]
  unfold isInstance
  repeat (any_goals (first | assumption | wp_step))
theorem bound_call {D : Addr} {x : Value} {s : Shared} {h₀ : Heap} {L : Addr} {m : Str → Option Value} {news news' : List (Addr × Obj)} {Q : Value → Shared → Prop} (hq : s.heap.get? q = some (bndOf D)) (F : Fr h₀ L s.heap m) (N : News h₀ L s.heap news) (U : Upd D (listOf its k) (listOf (its.push x) (k + 1)) news news') (hsz : its.size ≤ sizeLine)
    (hr : ∀ h', Fr h₀ L h' m → News h₀ L h' news' → Q .none { s with heap := h' }) : wpAny (model prog w) A (call (.ref q) [x]) Q E s := by
  obtain ⟨pre, post, rfl, rfl, a1, b1⟩ := U.split
  have z := N (D, listOf its k) (List.mem_append.mpr (.inr (.head _)))
  obtain ⟨hh, gg, dd, tt, oo⟩ := s
  refine wpAny_call (codeAny_of_tree ?_)
  show wpAny _ _ (callAny (.ref q) _) _ _ _
  dsimp only at hq
  refine nd_load hq ?_
  show wpAny _ _ (checkBoundCall "list.append" ⟨[.ref D, x], []⟩ >>= fun _ => PySem.again (Code.builtin "list.append" ⟨[.ref D, x], []⟩)) _ _ _
  refine wpAny_bind (chk_append z.1 ?_)
  refine wpAny_pure ⟨Code.quiet_builtin _ (by decide +kernel), codeAny_builtin entry_list_append ?_⟩
  show wpAny _ _ (updateSeq D (·.push x) >>= fun _ => ret .none) _ _ _
  refine wpAny_bind ?_
  refine wpAny_updateSeq z.1 rfl (wpAny_pure ?_)
  have ho' := Heap.get?_update_self (fun o => Obj.mapSeq (·.push x) o) z.1 (by rw [mapSeq_push]; rfl)
  rw [mapSeq_push] at ho'
  have hs : Heap.SameBut D hh (hh.update D (fun o => Obj.mapSeq (·.push x) o)) := Heap.SameBut.update ..
  exact hr _ (F.change hs z.2.1 z.2.2) (news_set N a1 b1 hs ho')
theorem keeps_bnd {M : Model} {D : Addr} (h : Heap) (X : h.get? q = some (bndOf D)) : ∃ k, (k = Keeper.frame ∨ k = Keeper.machine ∨ k = Keeper.boundFrame) ∧ Looks M h (keeperOf (.ref q)) k :=
  ⟨.machine, .inr (.inl rfl), (Looks.ld (part := none) X).andThen .now⟩
end
section
variable {p' : Pos} {prog : Program} {w : World} {A : Around} {s : Shared} {h₀ : Heap} {L f : Addr} {cd : Value} {fname : Str} {scope : Scope} {ns : List Str} {vs : List (Option Value)} {O : List (Addr × Obj)} {Q : Flow → Shared → Prop} {n : Str} {pos p ap : Pos} {e o : PySem.Expr} {rest : List Stmt}
/-- f(e), f the bound append of a list of the ledger -/
theorem s_appendB {D q : Addr} {its : Array Value} {k : Nat} {O' : Value → List (Addr × Obj)} {V : Value → Prop} {m : Str → Option Value} (F : Fr h₀ L s.heap m) (N : News h₀ L s.heap O) (hq : (q, bndOf D) ∈ O)
    (ho : Ev prog w A (envOf fname scope L f cd) s.heap (.Name n ap) (· = .ref q)) (hev : Ev prog w A (envOf fname scope L f cd) s.heap e V) (U : ∀ v, V v → Upd D (listOf its k) (listOf (its.push v) (k + 1)) O (O' v))
    (kk : ∀ v h' tk, V v → Fr h₀ L h' m → News h₀ L h' (O' v) → wpAny (model prog w) A (execs rest (envOf fname scope L f cd)) Q No { s with heap := h', toks := tk })
    (hsz : its.size ≤ sizeLine)
    (hst : starEach [e] (envOf fname scope L f cd) = (false, eval e (envOf fname scope L f cd)) :: starEach [] (envOf fname scope L f cd) := by rfl)
    (hc : eval (.Call (.Name n ap) [e] [] p) (envOf fname scope L f cd) = (do let fv ← eval (.Name n ap) (envOf fname scope L f cd); callWith p fv [] (backTo p (starEach [e] (envOf fname scope L f cd))) (backToKw p (keywordEach [] (envOf fname scope L f cd)))) := by rfl)
    (hin : interactive (envOf fname scope L f cd) = false := by rfl) (hsw : swapsWith (.Call (.Name n ap) [e] [] p) none pos.line (envOf fname scope L f cd) = pure false := by rfl) :
    wpAny (model prog w) A (execs (.Expr (.Call (.Name n ap) [e] [] p) pos :: rest) (envOf fname scope L f cd)) Q No s := by
  refine wpAny_execs_cons (wpAny_Expr_any (Call_ ?_ hc) hin hsw)
  refine ho s _ _ (Grow.refl _) fun u h1 t1 hu g1 => ?_
  subst hu
  show wpAny _ _ (callWith p (.ref q) [] (backTo p (starEach [e] (envOf fname scope L f cd))) []) _ _ _
  rw [hst]
  refine callWith_of (P := fun h => h.get? q = some (bndOf D)) rfl (fun h X => keeps_bnd h X) (Calls.evalArgs_plain ?_)
  refine Calls.spliced_cons (hev _ _ _ g1 fun v h2 t2 hv g2 => Calls.spliced_nil ?_)
  exact ⟨(News.grow N (g1.trans g2) _ hq).1, bound_call (s := { s with heap := h2, toks := t2 }) (News.grow N (g1.trans g2) _ hq).1 (Fr.grow F (g1.trans g2)) (News.grow N (g1.trans g2)) (U v hv) hsz fun h' F' N' => kk v h' t2 hv F' N'⟩
/-- x = d.append -/
theorem s_bind_append {D : Addr} {its : Array Value} {k : Nat} {x : Str} (F : Fr h₀ L s.heap (mv ns vs)) (N : News h₀ L s.heap O) (hn : ns.Nodup) (i : Nat) (hm : (D, listOf its k) ∈ O) (ho : Ev prog w A (envOf fname scope L f cd) s.heap (.Name n ap) (· = .ref D))
    (kk : ∀ q h' tk, Fr h₀ L h' (mv ns (vs.set i (some (.ref q)))) → News h₀ L h' ((q, bndOf D) :: O) → (∀ p ∈ O, p.1 ≠ q) → wpAny (model prog w) A (execs rest (envOf fname scope L f cd)) Q No { s with heap := h', toks := tk })
    (hi : ns[i]? = some x := by rfl) (hlen : i < vs.length := by exact Nat.le_of_ble_eq_true rfl) (hsw : swapsWith (.Attribute (.Name n ap) (Str.ofString "append") p) (some (.Name x p')) pos.line (envOf fname scope L f cd) = pure false := by rfl) (hk : scope.kind = .function := by rfl) (hl : (envOf fname scope L f cd).kindOf x = some .local := by rfl) :
    wpAny (model prog w) A (execs (.Assign [.Name x p'] (.Attribute (.Name n ap) (Str.ofString "append") p) pos :: rest) (envOf fname scope L f cd)) Q No s := by
  refine wpAny_execs_cons (wpAny_Assign_Name (Attribute_name ?_) hsw)
  refine ho s _ _ (Grow.refl _) fun u h1 t1 hu g1 => ?_
  subst hu
  have F1 := Fr.grow F g1
  have N1 := News.grow N g1
  refine append_attr (s := { s with heap := h1, toks := t1 }) (N1 _ hm).1 ?_
  have hnew : h1.get? h1.objs.size = none := by
    cases hq : h1.get? h1.objs.size with
    | none => rfl
    | some o => exact absurd (Heap.lt_size hq) (Nat.lt_irrefl _)
  have hne := new_ne (s := { s with heap := h1, toks := t1 }) (h' := h1) F1 hnew
  have g2 : Grow h1 (h1.push (bndOf D)) := Grow.push _ _
  have N2 : News h₀ L (h1.push (bndOf D)) ((h1.objs.size, bndOf D) :: O) := fun p hp => (List.mem_cons.mp hp).elim (fun e => e ▸ ⟨Heap.get?_push_size _ rfl, hne⟩) (News.grow N1 g2 p)
  exact stN (Fr.grow F1 g2) N2 (fun h' F' N' => kk _ h' _ (mv_set hn hi hlen ▸ F') N' fun p hp q => Nat.ne_of_lt (Heap.lt_size (N1 p hp).1) q) hk hl
end
end Mine
end
section
open PySem PySem.W PyProof.Rows
set_option maxRecDepth 100000
set_option maxHeartbeats 0
namespace Mine
section
variable {prog : Program} {w : World} {A : Around} {env : Env} {h : Heap} {l r e o : PySem.Expr} {pos p ap : Pos} {a b : Int} {x y n : Str}
theorem Te.and {c d : Bool} (hl : Te prog w A env h l c) (hr : c = true → Te prog w A env h r d) : Te prog w A env h (.BoolOp .And [l, r] pos) (c && d) :=
  fun s Q E g k => isTrue_and (hl s _ _ g fun h1 t1 g1 => by
    cases c with
    | false => exact k h1 t1 g1
    | true => exact isTrue_and (hr rfl _ _ _ (g.trans g1) fun h2 t2 g2 => by
        cases d with
        | false => exact k h2 t2 (g1.trans g2)
        | true => exact isTrue_and_nil (k h2 t2 (g1.trans g2))))
/-- a method of a text with one argument -/
theorem Ev.meth1 {name : Str} {id : String} {V V' : Value → Prop} (slot : Slot "str" name id) (ty : typeOf (.builtin id) = pure (.type "method_descriptor")) (ho : Ev prog w A env h o (IsS x)) (he : Ev prog w A env h e V)
    (hc : ∀ (s : Shared) t v (Q : Value → Shared → Prop) (E : Value → Shared → Prop), V v → Grow h s.heap → (∀ v h' tk, V' v → Grow s.heap h' → Q v { s with heap := h', toks := tk }) → wpAny (model prog w) A (call (.builtin id) [.str x t, v]) Q E s)
    (hst : starEach [e] env = (false, eval e env) :: starEach [] env := by rfl) {pl : Sem Bool}
    (hm : eval (.Call (.Attribute o name ap) [e] [] pos) env = (do
      let ov ← eval o env
      standAt ap.atName
      let (f, first) ← holding [ov] (getMethod ov name pl)
      callWith pos f first (backTo pos (starEach [e] env)) []) := by rfl) : Ev prog w A env h (.Call (.Attribute o name ap) [e] [] pos) V' :=
  fun s Q E g k => MethodCall_ (ho s _ _ g fun u h1 t1 hu g1 => by
    obtain ⟨t, rfl⟩ := hu
    refine GM.of (.str x t) (typeIs_str _ _ _) slot ty GM.noRef ?_
    refine callWith_method1 (spliced_more (he _ _ _ (g.trans g1) fun v h2 t2 hv g2 => spliced_none ?_) hst) hst rfl
    exact hc _ t v _ _ hv ((g.trans g1).trans g2) fun v h3 t3 hv g3 => k v h3 t3 hv ((g1.trans g2).trans g3)) hm
theorem Ev.meth0 {name : Str} {id : String} {V' : Value → Prop} (slot : Slot "str" name id) (ty : typeOf (.builtin id) = pure (.type "method_descriptor")) (ho : Ev prog w A env h o (IsS x))
    (hc : ∀ (s : Shared) t (Q : Value → Shared → Prop) (E : Value → Shared → Prop), Grow h s.heap → (∀ v h' tk, V' v → Grow s.heap h' → Q v { s with heap := h', toks := tk }) → wpAny (model prog w) A (call (.builtin id) [.str x t]) Q E s)
    {pl : Sem Bool}
    (hm : eval (.Call (.Attribute o name ap) [] [] pos) env = (do
      let ov ← eval o env
      standAt ap.atName
      let (f, first) ← holding [ov] (getMethod ov name pl)
      callWith pos f first (backTo pos (starEach [] env)) []) := by rfl) : Ev prog w A env h (.Call (.Attribute o name ap) [] [] pos) V' :=
  fun s Q E g k => MethodCall_ (ho s _ _ g fun u h1 t1 hu g1 => by
    obtain ⟨t, rfl⟩ := hu
    refine GM.of (.str x t) (typeIs_str _ _ _) slot ty GM.noRef ?_
    refine callWith_method0 ?_
    exact hc _ t _ _ (g.trans g1) fun v h3 t3 hv g3 => k v h3 t3 hv (g1.trans g3)) hm
theorem Ev.translate {items : Array Value} {D : Addr} (ho : Ev prog w A env h o (IsS x)) (he : Ev prog w A env h e (· = .ref D)) (hl : h.IsList D items) (hx : ∀ c ∈ tl x, c < 128 ∧ ∃ u, items[c]? = some (.str ⟨#[c]⟩ u)) (hz : x.length ≤ 100000) (hne : tl x ≠ [])
    (hst : starEach [e] env = (false, eval e env) :: starEach [] env := by rfl) {pl : Sem Bool}
    (hm : eval (.Call (.Attribute o (Str.ofString "translate") ap) [e] [] pos) env = (do
      let ov ← eval o env
      standAt ap.atName
      let (f, first) ← holding [ov] (getMethod ov (Str.ofString "translate") pl)
      callWith pos f first (backTo pos (starEach [e] env)) []) := by rfl) : Ev prog w A env h (.Call (.Attribute o (Str.ofString "translate") ap) [e] [] pos) (IsS x) :=
  Ev.meth1 F.slot_str_translate F.type_str_translate ho he (fun s t v Q E hv g k => by subst hv; exact translate_id (hl.at fun o e => g _ _ e) hx hz hne fun t' k' => k _ s.heap _ ⟨_, rfl⟩ (Grow.refl _)) hst hm
theorem Ev.rstrip (ho : Ev prog w A env h o (IsS x)) (hz : x.length ≤ sizeLine) {pl : Sem Bool}
    (hm : eval (.Call (.Attribute o (Str.ofString "rstrip") ap) [] [] pos) env = (do
      let ov ← eval o env
      standAt ap.atName
      let (f, first) ← holding [ov] (getMethod ov (Str.ofString "rstrip") pl)
      callWith pos f first (backTo pos (starEach [] env)) []) := by rfl) : Ev prog w A env h (.Call (.Attribute o (Str.ofString "rstrip") ap) [] [] pos) (IsS (Txt.rstrip x)) :=
  Ev.meth0 F.slot_str_rstrip F.type_str_rstrip ho (fun s t Q E g k => SC.rstrip (fun t' k' => k _ s.heap _ ⟨_, rfl⟩ (Grow.refl _)) hz) hm
theorem Te.endswith (ho : Ev prog w A env h o (IsS x)) (he : Ev prog w A env h e (IsS y)) (hst : starEach [e] env = (false, eval e env) :: starEach [] env := by rfl) {pl : Sem Bool}
    (hm : eval (.Call (.Attribute o (Str.ofString "endswith") ap) [e] [] pos) env = (do
      let ov ← eval o env
      standAt ap.atName
      let (f, first) ← holding [ov] (getMethod ov (Str.ofString "endswith") pl)
      callWith pos f first (backTo pos (starEach [e] env)) []) := by rfl)
    (hp : PySem.isTrue (.Call (.Attribute o (Str.ofString "endswith") ap) [e] [] pos) env (eval (.Call (.Attribute o (Str.ofString "endswith") ap) [e] [] pos) env) = (do let v ← eval (.Call (.Attribute o (Str.ofString "endswith") ap) [e] [] pos) env; standAt (PySem.Expr.Call (.Attribute o (Str.ofString "endswith") ap) [e] [] pos).pos; holding [v] (truthy v)) := by rfl) :
    Te prog w A env h (.Call (.Attribute o (Str.ofString "endswith") ap) [e] [] pos) (Txt.endswith x y) :=
  fun s Q E g k => isTrue_plain (Ev.meth1 (V' := (· = .bool (Txt.endswith x y))) F.slot_str_endswith F.type_str_endswith ho he (fun s t v Q E hv g k => by obtain ⟨u, rfl⟩ := hv; exact SC.endswith (k _ s.heap _ rfl (Grow.refl _))) hst hm s _ _ g fun v h1 t1 hv g1 => by subst hv; exact wpAny_truthy_bool (k h1 t1 g1)) hp
end
section
variable {prog : Program} {w : World} {A : Around} {s : Shared} {h₀ : Heap} {L f : Addr} {cd : Value} {fname : Str} {scope : Scope} {ns : List Str} {vs : List (Option Value)} {O : List (Addr × Obj)} {Q : Flow → Shared → Prop} {x y n : Str} {pos p px ap mp : Pos} {e o test : PySem.Expr} {rest body : List Stmt}
/-- a while's turn ends -/
def WE (prog : Program) (w : World) (A : Around) (env : Env) (rest : List Stmt) (ns : List Str) (h₀ : Heap) (L : Addr) (J : Nat → List (Option Value) → List (Addr × Obj) → Prop) (k : Nat) (s : Shared) (Q : Flow → Shared → Prop) : Flow → Shared → Prop := fun fl s₃ => match fl with
  | .ret v => Q (.ret v) s₃
  | .brk => wpAny (model prog w) A (execs rest env) Q No s₃
  | _ => ∃ k' h' tk vs O, k' < k ∧ s₃ = { s with heap := h', toks := tk } ∧ Fr h₀ L h' (mv ns vs) ∧ News h₀ L h' O ∧ J k' vs O
theorem s_while (F : Fr h₀ L s.heap (mv ns vs)) (N : News h₀ L s.heap O) (J : Nat → List (Option Value) → List (Addr × Obj) → Prop) (k0 : Nat) (h0 : J k0 vs O)
    (turn : ∀ k vs₁ O₁ h, J k vs₁ O₁ → Fr h₀ L h (mv ns vs₁) → News h₀ L h O₁ → ∃ c, Te prog w A (envOf fname scope L f cd) h test c ∧ ∀ h' tk', Fr h₀ L h' (mv ns vs₁) → News h₀ L h' O₁ →
      if c then wpAny (model prog w) A (execs body (envOf fname scope L f cd)) (WE prog w A (envOf fname scope L f cd) rest ns h₀ L J k s Q) No { s with heap := h', toks := tk' }
      else wpAny (model prog w) A (execs rest (envOf fname scope L f cd)) Q No { s with heap := h', toks := tk' }) :
    wpAny (model prog w) A (execs (.While test body [] pos :: rest) (envOf fname scope L f cd)) Q No s := by
  refine wpAny_execs_cons (wpAny_While ?_)
  refine codeAny_whileLoop (fun k s' => ∃ h' tk vs O, s' = { s with heap := h', toks := tk } ∧ Fr h₀ L h' (mv ns vs) ∧ News h₀ L h' O ∧ J k vs O) ?_ k0 ⟨s.heap, s.toks, vs, O, rfl, F, N, h0⟩
  rintro k s' ⟨h', tk, vs₁, O₁, rfl, F₁, N₁, hJ⟩
  obtain ⟨c, ht, hk⟩ := turn k vs₁ O₁ h' hJ F₁ N₁
  refine ht _ _ _ (Grow.refl _) fun h2 t2 g2 => ?_
  have := hk h2 t2 (Fr.grow F₁ g2) (News.grow N₁ g2)
  cases c with
  | true =>
    refine wpAny_mono this (fun fl s₃ h₃ => ?_) fun _ _ x => x.elim
    cases fl with
    | ret v => exact h₃
    | brk => exact h₃
    | next => obtain ⟨k', h', tk, vs, O, hlt, e, F, N, hJ⟩ := h₃; exact ⟨k', hlt, h', tk, vs, O, e, F, N, hJ⟩
    | cont => obtain ⟨k', h', tk, vs, O, hlt, e, F, N, hJ⟩ := h₃; exact ⟨k', hlt, h', tk, vs, O, e, F, N, hJ⟩
  | false => exact wpAny_execs_nil this
theorem s_aug {op : Operator} {V V' : Value → Prop} {u : Value} (F : Fr h₀ L s.heap (mv ns vs)) (N : News h₀ L s.heap O) (hn : ns.Nodup) (i : Nat) (hv : vs[i]? = some (some u)) (hev : Ev prog w A (envOf fname scope L f cd) s.heap e V)
    (hop : ∀ (s : Shared) v (Q : Value → Shared → Prop) (E : Value → Shared → Prop), V v → (∀ v h' tk, V' v → Grow s.heap h' → Q v { s with heap := h', toks := tk }) → wpAny (model prog w) A (inplaceOp op u v) Q E s)
    (k : ∀ v h' tk, V' v → Fr h₀ L h' (mv ns (vs.set i (some v))) → News h₀ L h' O → wpAny (model prog w) A (execs rest (envOf fname scope L f cd)) Q No { s with heap := h', toks := tk })
    (hi : ns[i]? = some x := by rfl) (hlen : i < vs.length := by exact Nat.le_of_ble_eq_true rfl) (hk : scope.kind = .function := by rfl) (hl : (envOf fname scope L f cd).kindOf x = some .local := by rfl) :
    wpAny (model prog w) A (execs (.AugAssign (.Name x p) op e pos :: rest) (envOf fname scope L f cd)) Q No s :=
  wpAny_execs_cons (wpAny_AugAssign_Name (wpAny_loadName_local hk hl F.ns (mv_get hn hi hv) (hev _ _ _ (Grow.refl _) fun v h1 t1 hv' g1 => hop _ v _ _ hv' fun z h2 t2 hz g2 => stN (Fr.grow F (g1.trans g2)) (News.grow N (g1.trans g2)) (fun h' F' N' => k z h' _ hz (mv_set hn hi hlen ▸ F') N') hk hl)))
theorem s_augI {a b : Int} {t : Tok} (F : Fr h₀ L s.heap (mv ns vs)) (N : News h₀ L s.heap O) (hn : ns.Nodup) (i : Nat) (hv : vs[i]? = some (some (.int a t))) (hev : Ev prog w A (envOf fname scope L f cd) s.heap e (IsI b))
    (k : ∀ v h' tk, IsI (a + b) v → Fr h₀ L h' (mv ns (vs.set i (some v))) → News h₀ L h' O → wpAny (model prog w) A (execs rest (envOf fname scope L f cd)) Q No { s with heap := h', toks := tk })
    (hi : ns[i]? = some x := by rfl) (hlen : i < vs.length := by exact Nat.le_of_ble_eq_true rfl) (hk : scope.kind = .function := by rfl) (hl : (envOf fname scope L f cd).kindOf x = some .local := by rfl) :
    wpAny (model prog w) A (execs (.AugAssign (.Name x p) .Add e pos :: rest) (envOf fname scope L f cd)) Q No s :=
  s_aug F N hn i hv hev (fun s v Q E hv k => by obtain ⟨u, rfl⟩ := hv; exact wpAny_iadd_int (k _ s.heap _ ⟨_, rfl⟩ (Grow.refl _))) k hi hlen hk hl
theorem s_augS {a b : Str} {t : Tok} (F : Fr h₀ L s.heap (mv ns vs)) (N : News h₀ L s.heap O) (hn : ns.Nodup) (i : Nat) (hv : vs[i]? = some (some (.str a t))) (hev : Ev prog w A (envOf fname scope L f cd) s.heap e (IsS b)) (hz : a.length + b.length ≤ sizeLine)
    (k : ∀ v h' tk, IsS (a ++ b) v → Fr h₀ L h' (mv ns (vs.set i (some v))) → News h₀ L h' O → wpAny (model prog w) A (execs rest (envOf fname scope L f cd)) Q No { s with heap := h', toks := tk })
    (hi : ns[i]? = some x := by rfl) (hlen : i < vs.length := by exact Nat.le_of_ble_eq_true rfl) (hk : scope.kind = .function := by rfl) (hl : (envOf fname scope L f cd).kindOf x = some .local := by rfl) :
    wpAny (model prog w) A (execs (.AugAssign (.Name x p) .Add e pos :: rest) (envOf fname scope L f cd)) Q No s :=
  s_aug F N hn i hv hev (fun s v Q E hv k => by obtain ⟨u, rfl⟩ := hv; exact PyProof.Rows.iadd_str (fun t' tk => k _ s.heap _ ⟨_, rfl⟩ (Grow.refl _)) hz) k hi hlen hk hl
/-- for x in e.splitlines() -/
theorem s_for_lines (hh : A.handled = none) (F : Fr h₀ L s.heap (mv ns vs)) (N : News h₀ L s.heap O) (hn : ns.Nodup) (ix : Nat) (J : Nat → List (Option Value) → List (Addr × Obj) → Prop)
    (he : Ev prog w A (envOf fname scope L f cd) s.heap o (IsS y)) (hy : y.length ≤ 100000) (h0 : J 0 vs O) (hlen : ∀ i vs O, J i vs O → ix < vs.length)
    (turn : ∀ i t z vs₁ O₁ h tk own, (Txt.lines y)[i]? = some z → J i vs₁ O₁ → (∀ p ∈ own, ∀ q ∈ O₁, p.1 ≠ q.1) → Fr h₀ L h (mv ns (vs₁.set ix (some (.str z t)))) → News h₀ L h (own ++ O₁) →
      wpAny (model prog w) A (execs body (envOf fname scope L f cd)) (fun fl s₂ => (fl = .next ∨ fl = .cont) ∧ ∃ h' tk' vs₂ O₂, s₂ = { s with heap := h', toks := tk' } ∧ Fr h₀ L h' (mv ns vs₂) ∧ News h₀ L h' (own ++ O₂) ∧ O₂.map (·.1) = O₁.map (·.1) ∧ J (i + 1) vs₂ O₂) No { s with heap := h, toks := tk })
    (done : ∀ vs₁ h tk O₁, J (Txt.lines y).length vs₁ O₁ → Fr h₀ L h (mv ns vs₁) → News h₀ L h O₁ → wpAny (model prog w) A (execs rest (envOf fname scope L f cd)) Q No { s with heap := h, toks := tk })
    (hi : ns[ix]? = some x := by rfl) (hkind : scope.kind = .function := by rfl) (hl : (envOf fname scope L f cd).kindOf x = some .local := by rfl) {pl : Sem Bool}
    (hm : eval (.Call (.Attribute o (Str.ofString "splitlines") ap) [] [] mp) (envOf fname scope L f cd) = (do
      let ov ← eval o (envOf fname scope L f cd)
      standAt ap.atName
      let (f', first) ← holding [ov] (getMethod ov (Str.ofString "splitlines") pl)
      callWith mp f' first (backTo mp (starEach [] (envOf fname scope L f cd))) []) := by rfl)
    (hs : ∀ x, foldedSetIterable (.Call (.Attribute o (Str.ofString "splitlines") ap) [] [] mp) (envOf fname scope L f cd) x = pure x := by intro _; rfl) :
    wpAny (model prog w) A (execs (.For (.Name x px) (.Call (.Attribute o (Str.ofString "splitlines") ap) [] [] mp) body [] pos :: rest) (envOf fname scope L f cd)) Q No s := by
  refine wpAny_execs_cons (wpAny_For (MethodCall_ ?_ hm) hs)
  refine he s _ _ (Grow.refl _) fun v h1 t1 hv g1 => ?_
  obtain ⟨ty, rfl⟩ := hv
  refine GM.splitlines ?_
  refine callWith_method0 ?_
  have F1 := Fr.grow F g1
  have N1 := News.grow N g1
  have hsl := sizeLine_eq
  have hcut : (lineCuts y).length ≤ sizeLine := by
    have h1 := StrLaws.ls_weight y
    have h2 := StrLaws.map_weight3 y _ h1.2
    have h3 : (lineCuts y).length = (Builtin.Str.lineSpans y).length := by unfold lineCuts; rw [List.length_map]
    simp only [List.length_map] at h2
    omega
  refine splitlinesN (s := { s with heap := h1, toks := t1 }) F1 N1 (fun l h2 k2 hl2 F2 N2 => ?_) (by omega) hcut
  have hD : ∀ p ∈ O, p.1 ≠ h1.objs.size := fun p hp => Nat.ne_of_lt (Heap.lt_size (N1 p hp).1)
  have hsize : (strValues l).toArray.size = (Txt.lines y).length := by rw [← hl2, List.size_toArray, List.length_map]; unfold strValues; rw [List.length_map]
  refine for_list (iter := o) (pos := pos) (h₀ := h₀) (env := envOf fname scope L f cd) (l := h1.objs.size) (lo := listOf (strValues l).toArray 0) (vs := (strValues l).toArray) (O := (h1.objs.size, listOf (strValues l).toArray 0) :: O)
    (fun i m O' => ∃ vs O'', m = mv ns vs ∧ O' = (h1.objs.size, listOf (strValues l).toArray 0) :: O'' ∧ (∀ p ∈ O'', p.1 ≠ h1.objs.size) ∧ J i vs O'') hh ⟨rfl, 0, rfl⟩ (by rintro i m O' ⟨vs, O'', rfl, rfl, _, _⟩; exact List.mem_cons_self ..) F2 N2 ⟨vs, O, rfl, rfl, hD, h0⟩ ?_ ?_
  · rintro i v m₁ O' h tk I it hv ⟨vs₁, O₁, rfl, rfl, hne, hJ⟩ hO F₁ N₁
    obtain ⟨z, t, rfl, hz⟩ : ∃ z t, v = .str z t ∧ (Txt.lines y)[i]? = some z := by
      rw [List.getElem?_toArray] at hv
      unfold strValues at hv
      rw [List.getElem?_map] at hv
      cases hq : l[i]? with
      | none => rw [hq] at hv; cases hv
      | some p =>
        rw [hq] at hv
        exact ⟨p.1, p.2, (Option.some.inj hv).symm, by rw [← hl2, List.getElem?_map, hq]; rfl⟩
    refine s_store F₁ N₁ hn ix (fun h' tk' F' N' => ?_) hi (hlen _ _ _ hJ) hkind hl
    refine wpAny_mono (turn i t z vs₁ O₁ h' tk' [(I, it), (h1.objs.size, listOf (strValues l).toArray 0)] hz hJ ?_ F' N') (fun fl s₂ hfl => ?_) fun _ _ x => x
    · intro p hp q hq e
      rcases List.mem_cons.mp hp with rfl | hp
      · exact hO q (List.mem_cons_of_mem _ hq) e.symm
      · rw [List.mem_singleton.mp hp] at e
        exact hne q hq e.symm
    · obtain ⟨hfl, h'', tk'', vs₂, O₂, rfl, F₂, N₂, hmap, hJ₂⟩ := hfl
      have hmem : ∀ p ∈ O₂, ∃ q ∈ O₁, q.1 = p.1 := fun p hp => by
        have : p.1 ∈ O₁.map (·.1) := hmap ▸ List.mem_map.mpr ⟨p, hp, rfl⟩
        obtain ⟨q, hq, e⟩ := List.mem_map.mp this
        exact ⟨q, hq, e⟩
      have fin : ∃ h' tk m' O', ({ s with heap := h'', toks := tk'' } : Shared) = { s with heap := h', toks := tk } ∧ Fr h₀ L h' m' ∧ News h₀ L h' ((I, it) :: O') ∧ (∀ p ∈ O', p.1 ≠ I) ∧ ∃ vs O'', m' = mv ns vs ∧ O' = (h1.objs.size, listOf (strValues l).toArray 0) :: O'' ∧ (∀ p ∈ O'', p.1 ≠ h1.objs.size) ∧ J (i + 1) vs O'' := by
        refine ⟨h'', tk'', _, _, rfl, F₂, N₂, ?_, vs₂, O₂, rfl, rfl, ?_, hJ₂⟩
        · intro p hp
          rcases List.mem_cons.mp hp with rfl | hp
          · exact hO _ (List.mem_cons_self ..)
          · obtain ⟨q, hq, e⟩ := hmem p hp
            rw [← e]; exact hO q (List.mem_cons_of_mem _ hq)
        · intro p hp
          obtain ⟨q, hq, e⟩ := hmem p hp
          rw [← e]; exact hne q hq
      rcases hfl with rfl | rfl <;> exact fin
  · rintro m₁ O' h tk ⟨vs₁, O₁, rfl, rfl, _, hJ⟩ F₁ N₁
    rw [hsize] at hJ
    exact wpAny_execs_nil (done vs₁ h tk O₁ hJ F₁ fun p hp => N₁ p (List.mem_cons_of_mem _ hp))
end
end Mine
end
section
open PySem PySem.W PyProof.Rows
set_option maxRecDepth 100000
set_option maxHeartbeats 0
namespace Mine
theorem tl_slice {x : Str} {i j : Int} (h0 : 0 ≤ i) (h1 : i ≤ j) (h2 : j ≤ (tl x).length) : tl (Txt.slice x (some i) (some j)) = ((tl x).drop i.toNat).take (j - i).toNat := by
  rw [show Txt.slice x (some i) (some j) = _ from StrLaws.sliceText_plain ⟨h0, h1, h2⟩]; rfl
theorem tl_slice_from {x : Str} {i : Int} (h0 : 0 ≤ i) (h2 : i ≤ (tl x).length) : tl (Txt.slice x (some i) none) = (tl x).drop i.toNat := by
  rw [show Txt.slice x (some i) none = _ from StrLaws.sliceText_from ⟨h0, h2⟩]
  show ((tl x).drop i.toNat).take (((tl x).length : Int) - i).toNat = _
  exact List.take_of_length_le (by rw [List.length_drop]; omega)
theorem tl_slice_to_neg {x : Str} {k : Nat} (h0 : 0 < k) (h1 : k ≤ (tl x).length) : tl (Txt.slice x none (some (-(k : Int)))) = (tl x).take ((tl x).length - k) := by
  rw [show Txt.slice x none (some (-(k : Int))) = _ from StrLaws.sliceText_to_neg (by omega) (by rw [← tl_length]; omega)]
  show ((tl x).drop 0).take (-(k : Int) + ((tl x).length : Nat) - 0).toNat = _
  rw [List.drop_zero]; congr 1; omega
theorem item_at {x : Str} {i : Nat} {c : Nat} (h : (tl x)[i]? = some c) : Txt.item x (i : Int) = ⟨#[c]⟩ := by
  have hlt : i < x.length := by rw [← tl_length]; exact (List.getElem?_eq_some_iff.mp h).1
  unfold Txt.item Txt.charAt
  rw [seqIndex_of (by omega) (by omega : (i : Int) < (x.length : Nat)), Int.toNat_natCast]
  show (⟨#[((x.cps[i]?)).getD 0]⟩ : Str) = _
  rw [← Array.getElem?_toList, show x.cps.toList[i]? = some c from h]; rfl
theorem item_last {x : Str} {c : Nat} (h : (tl x).getLast? = some c) : Txt.item x (-1) = ⟨#[c]⟩ := by
  have hne : tl x ≠ [] := by intro q; rw [q] at h; cases h
  have hl : 0 < x.length := by rw [← tl_length]; exact List.length_pos_iff.mpr hne
  unfold Txt.item Txt.charAt
  rw [StrLaws.at_neg (n := c) (by decide) (by omega) (by
    rw [List.getLast?_eq_getElem?] at h
    rw [← Array.getElem?_toList, ← h]
    show (tl x)[((-1 : Int) + x.length).toNat]? = _
    rw [← tl_length]; congr 1; omega)]
  rfl
end Mine
end
section
open PySem PySem.W PyProof.Rows StrLaws Builtin.Str
set_option maxRecDepth 100000
set_option maxHeartbeats 0
namespace Mine
theorem runBody {x : Str} {cur m : Nat} {st : LsSt} : Id.run (forIn (m := Id) (List.range' cur (m + 1)) st (lsBody x)) = Id.run (forIn (m := Id) (List.range' (cur + 1) m) (if (decide (st.snd ≤ cur) && Unicode.isLineBreak (x.cps.getD cur 0)) = true then (st.fst.push (st.snd, cur, lsNext x cur), lsNext x cur) else st) (lsBody x)) := by
  rw [List.range'_succ, List.forIn_cons]
  unfold lsBody
  split <;> rfl
theorem getD_tl (x : Str) (i : Nat) : x.cps.getD i 0 = (tl x).getD i 0 := by
  unfold tl; rw [List.getD_eq_getElem?_getD, Array.getD_eq_getD_getElem?, Array.getElem?_toList]
/-- no line break in a stretch: the state stays -/
theorem run_quiet (x : Str) : ∀ (m cur : Nat) (st : LsSt), (∀ i, cur ≤ i → i < cur + m → Unicode.isLineBreak ((tl x).getD i 0) = false) → ∀ k, Id.run (forIn (m := Id) (List.range' cur (m + k)) st (lsBody x)) = Id.run (forIn (m := Id) (List.range' (cur + m) k) st (lsBody x))
  | 0, cur, st, _, k => by rw [Nat.zero_add]; rfl
  | m + 1, cur, st, h, k => by
    rw [show m + 1 + k = m + k + 1 by omega, runBody, getD_tl, h cur (Nat.le_refl _) (by omega), Bool.and_false, if_neg Bool.false_ne_true, run_quiet x m (cur + 1) st (fun i h1 h2 => h i (by omega) (by omega)) k]
    congr 3; omega
/-- the line ends that the law names -/
inductive IsEol : List Nat → Prop
  | lf : IsEol [10]
  | crlf : IsEol [13, 10]
  | cr : IsEol [13]
theorem isB10 : Unicode.isLineBreak 10 = true := by decide +kernel
theorem isB13 : Unicode.isLineBreak 13 = true := by decide +kernel
/-- a piece and a line end -/
theorem run_eol {x : Str} {eol : List Nat} (he : IsEol eol) {pre p rest : List Nat} (hx : tl x = pre ++ p ++ eol ++ rest) (hp : ∀ c ∈ p, Unicode.isLineBreak c = false) (hr : eol = [13] → rest.head? ≠ some 10) (acc : Array (Nat × Nat × Nat)) (k : Nat) :
    Id.run (forIn (m := Id) (List.range' pre.length (p.length + (eol.length + k))) ((acc, pre.length) : LsSt) (lsBody x)) =
      Id.run (forIn (m := Id) (List.range' (pre.length + p.length + eol.length) k) ((acc.push (pre.length, pre.length + p.length, pre.length + p.length + eol.length), pre.length + p.length + eol.length) : LsSt) (lsBody x)) := by
  have get : ∀ i : Nat, (tl x)[i]? = (pre ++ p ++ eol ++ rest)[i]? := fun i => by rw [hx]
  rw [run_quiet x p.length pre.length _ (fun i h1 h2 => by
    rw [List.getD_eq_getElem?_getD, get, List.append_assoc, List.append_assoc, List.getElem?_append_right h1, List.getElem?_append_left (by omega)]
    rw [List.getElem?_eq_getElem (by omega)]
    exact hp _ (List.getElem_mem _))]
  have g0 : ∀ j : Nat, (tl x)[pre.length + p.length + j]? = (eol ++ rest)[j]? := fun j => by
    rw [get, List.append_assoc, List.getElem?_append_right (by rw [List.length_append]; omega), List.length_append]
    congr 1; omega
  have gD : ∀ j : Nat, (tl x).getD (pre.length + p.length + j) 0 = (eol ++ rest).getD j 0 := fun j => by rw [List.getD_eq_getElem?_getD, List.getD_eq_getElem?_getD, g0]
  have hn : ∀ j : Nat, x.cps[j]? = (tl x)[j]? := fun j => by unfold tl; rw [Array.getElem?_toList]
  have hle : decide (pre.length ≤ pre.length + p.length) = true := decide_eq_true (by omega)
  cases he with
  | lf =>
    rw [show [10].length + k = k + 1 by simp; omega, runBody, getD_tl, show pre.length + p.length = pre.length + p.length + 0 from rfl, gD 0]
    have hnx : lsNext x (pre.length + p.length + 0) = pre.length + p.length + 1 := by
      unfold lsNext; rw [getD_tl, gD 0]; rfl
    rw [hnx]
    simp only [List.cons_append, List.getD_cons_zero, isB10, Nat.add_zero, hle, Bool.and_self, if_true, List.length_singleton]
  | cr =>
    rw [show [13].length + k = k + 1 by simp; omega, runBody, getD_tl, show pre.length + p.length = pre.length + p.length + 0 from rfl, gD 0]
    have hnx : lsNext x (pre.length + p.length + 0) = pre.length + p.length + 1 := by
      unfold lsNext; rw [getD_tl, gD 0, hn, show pre.length + p.length + 0 + 1 = pre.length + p.length + 1 from rfl, g0 1]
      have : (([13] ++ rest)[1]? == some 10) = false := by
        cases rest with
        | nil => rfl
        | cons c r => have hr := hr rfl; simp at hr ⊢; exact hr
      rw [this, Bool.and_false]; rfl
    rw [hnx]
    simp only [List.cons_append, List.getD_cons_zero, isB13, Nat.add_zero, hle, Bool.and_self, if_true, List.length_singleton]
  | crlf =>
    rw [show [13, 10].length + k = k + 1 + 1 by simp; omega, runBody, getD_tl, show pre.length + p.length = pre.length + p.length + 0 from rfl, gD 0]
    have hnx : lsNext x (pre.length + p.length + 0) = pre.length + p.length + 2 := by
      unfold lsNext; rw [getD_tl, gD 0, hn, show pre.length + p.length + 0 + 1 = pre.length + p.length + 1 from rfl, g0 1]; rfl
    rw [hnx]
    simp only [List.cons_append, List.getD_cons_zero, isB13, Nat.add_zero, hle, Bool.and_self, if_true]
    rw [runBody]
    have : decide (pre.length + p.length + 2 ≤ pre.length + p.length + 1) = false := decide_eq_false (by omega)
    simp only [this, Bool.false_and, Bool.false_eq_true, if_false]
    rfl
/-- the last piece goes if it is empty -/
def trimL : List (List Nat) → List (List Nat)
  | [] => []
  | [p] => if p = [] then [] else [p]
  | p :: q :: r => p :: trimL (q :: r)
def cut (l : List Nat) (s : Nat × Nat × Nat) : List Nat := (l.drop s.1).take (s.2.1 - s.1)
theorem inter_cons (sep p q : List Nat) (r : List (List Nat)) : List.intercalate sep (p :: q :: r) = p ++ sep ++ List.intercalate sep (q :: r) := by simp [List.intercalate]
theorem inter_one (sep p : List Nat) : List.intercalate sep [p] = p := by simp [List.intercalate]
theorem inter_head {q : List Nat} (hq : ∀ c ∈ q, Unicode.isLineBreak c = false) (r : List (List Nat)) : (List.intercalate [13] (q :: r)).head? ≠ some 10 := by
  have h10 : q.head? ≠ some 10 := fun e => by
    have := hq 10 (List.mem_of_mem_head? (by rw [e]; rfl))
    rw [isB10] at this; cases this
  cases r with
  | nil => rw [inter_one]; exact h10
  | cons a b =>
    rw [inter_cons]
    cases q with
    | nil => simp
    | cons c q => simpa using h10
theorem lines_run {x : Str} {eol : List Nat} (he : IsEol eol) : ∀ (ps : List (List Nat)) (pre : List Nat) (acc : Array (Nat × Nat × Nat)), (∀ p ∈ ps, ∀ c ∈ p, Unicode.isLineBreak c = false) → ps ≠ [] → tl x = pre ++ List.intercalate eol ps →
    (lsEnd x (Id.run (forIn (m := Id) (List.range' pre.length (List.intercalate eol ps).length) ((acc, pre.length) : LsSt) (lsBody x)))).map (cut (tl x)) = acc.toList.map (cut (tl x)) ++ trimL ps
  | [], _, _, _, hne, _ => absurd rfl hne
  | [p], pre, acc, hp, _, hx => by
    rw [inter_one] at hx ⊢
    have e := run_quiet x p.length pre.length (acc, pre.length) (fun i h1 h2 => by
      rw [hx, List.getD_eq_getElem?_getD, List.getElem?_append_right h1, List.getElem?_eq_getElem (by omega)]
      exact hp p (by simp) _ (List.getElem_mem _)) 0
    rw [Nat.add_zero] at e
    rw [e]
    show (lsEnd x (acc, pre.length)).map _ = _
    have hl : x.length = pre.length + p.length := by rw [← tl_length, hx, List.length_append]
    unfold lsEnd trimL
    by_cases h0 : p = []
    · rw [if_neg (by rw [hl, h0]; simp), if_pos h0, List.append_nil]
    · have : 0 < p.length := List.length_pos_iff.mpr h0
      rw [if_pos (by rw [hl]; show pre.length < pre.length + p.length; omega), if_neg h0, Array.toList_push, List.map_append]
      congr 1
      show [cut (tl x) (pre.length, x.length, x.length)] = [p]
      unfold cut
      show [((tl x).drop pre.length).take (x.length - pre.length)] = [p]
      rw [hx, List.drop_left, hl, Nat.add_sub_cancel_left, List.take_length]
  | p :: q :: r, pre, acc, hp, _, hx => by
    rw [inter_cons] at hx ⊢
    have e := run_eol (x := x) he (pre := pre) (p := p) (rest := List.intercalate eol (q :: r)) (by rw [hx]; simp) (hp p (by simp)) (fun e13 => by subst e13; exact inter_head (hp q (by simp)) r) acc (List.intercalate eol (q :: r)).length
    rw [List.length_append, List.length_append, Nat.add_assoc p.length, e]
    have ih := lines_run (x := x) he (q :: r) (pre ++ p ++ eol) (acc.push (pre.length, pre.length + p.length, pre.length + p.length + eol.length)) (fun a ha => hp a (by simp at ha ⊢; exact .inr ha)) (by simp) (by rw [hx]; simp)
    rw [List.length_append, List.length_append] at ih
    rw [ih, Array.toList_push, List.map_append, List.append_assoc]
    congr 1
    show [cut (tl x) (pre.length, pre.length + p.length, _)] ++ _ = p :: trimL (q :: r)
    have : cut (tl x) (pre.length, pre.length + p.length, pre.length + p.length + eol.length) = p := by
      unfold cut
      show ((tl x).drop pre.length).take (pre.length + p.length - pre.length) = p
      rw [hx, List.drop_left, Nat.add_sub_cancel_left, List.append_assoc, List.take_left]
    rw [this]; rfl
theorem tl_sub (x : Str) (i j : Nat) : tl (strSub x i j) = ((tl x).drop i).take (j - i) := by
  unfold strSub tl
  simp [List.extract_eq_drop_take]
theorem tl_lines {x : Str} {eol : List Nat} (he : IsEol eol) {ps : List (List Nat)} (hp : ∀ p ∈ ps, ∀ c ∈ p, Unicode.isLineBreak c = false) (hne : ps ≠ []) (hx : tl x = List.intercalate eol ps) : (Txt.lines x).map tl = trimL ps := by
  have key := lines_run (x := x) he ps [] #[] hp hne (by simpa using hx)
  rw [← hx, tl_length, show ([] : List Nat).length = 0 from rfl, ← ls_eq] at key
  have e : (linesOf x).map tl = (lineSpans x).map (cut (tl x)) := by
    unfold linesOf lineCuts
    rw [List.map_map, List.map_map]
    apply List.map_congr_left
    intro ⟨i, j, k⟩ _
    exact tl_sub x i j
  have e2 : (linesOf x).map tl = trimL ps := by rw [e, key]; rfl
  unfold Txt.lines
  split
  · rename_i h
    have hc := beq_iff_eq.mp h
    have : (linesOf x).map tl = [tl x] := by
      unfold linesOf
      rw [hc]
      show [tl (strSub x 0 x.length)] = [tl x]
      rw [tl_sub, List.drop_zero, Nat.sub_zero, ← tl_length, List.take_length]
    rw [← e2, this]; rfl
  · exact e2
end Mine
end
section
open PySem PySem.W PyProof.Rows StrLaws Builtin.Str
set_option maxRecDepth 100000
set_option maxHeartbeats 0
namespace Mine
/-- the signs that a mode may have -/
def sgL : List Nat := [45, 63, 112, 99, 100, 98, 108, 115, 114, 119, 120, 83, 116, 84]
def sgOk (c : Nat) : Bool := decide (c < 128) && !Unicode.isLineBreak c && !Unicode.isSpace c && (c != 61) && (occurrences (S " \t") ⟨#[c]⟩ 0 (S " \t").length 1).isEmpty && (occurrences (S "\r\n") ⟨#[c]⟩ 0 (S "\r\n").length 1).isEmpty
theorem sg_all : sgL.all sgOk = true := by decide +kernel
noncomputable def its46 : Array Value := (((setAll by13 1450 (tab 0 256)).set 13 (.str ⟨#[13]⟩ 1751)).set 10 (.str ⟨#[10]⟩ 1754)).toArray
def isOwn (v : Option Value) (c : Nat) : Bool := match v with
  | some (.str x _) => x == ⟨#[c]⟩
  | _ => false
theorem map_all : (10 :: sgL).all (fun c => isOwn its46[c]? c) = true := by kernel_rfl
theorem map_own {c : Nat} (h : c ∈ 10 :: sgL) : ∃ u, its46[c]? = some (.str ⟨#[c]⟩ u) := by
  have := List.all_eq_true.mp map_all c h
  revert this
  unfold isOwn
  cases its46[c]? with
  | none => intro h; cases h
  | some v =>
    cases v <;> intro h <;> first | cases h | exact ⟨_, by rw [beq_iff_eq.mp h]⟩
structure Sg (c : Nat) : Prop where
  low : c < 128
  nb : Unicode.isLineBreak c = false
  ns : Unicode.isSpace c = false
  ne : c ≠ 61
  tab : (occurrences (S " \t") ⟨#[c]⟩ 0 (S " \t").length 1).isEmpty = true
  end_ : (occurrences (S "\r\n") ⟨#[c]⟩ 0 (S "\r\n").length 1).isEmpty = true
theorem sg_of {c : Nat} (h : c ∈ sgL) : Sg c := by
  have := List.all_eq_true.mp sg_all c h
  unfold sgOk at this
  simp only [Bool.and_eq_true] at this
  obtain ⟨⟨⟨⟨⟨h1, h2⟩, h3⟩, h4⟩, h5⟩, h6⟩ := this
  exact ⟨of_decide_eq_true h1, by simpa using h2, by simpa using h3, by simpa using h4, h5, h6⟩
theorem lf_end : (occurrences (S "\r\n") ⟨#[10]⟩ 0 (S "\r\n").length 1).isEmpty = false := by decide +kernel
theorem cr_end : (occurrences (S "\r\n") ⟨#[13]⟩ 0 (S "\r\n").length 1).isEmpty = false := by decide +kernel
theorem eq_end : (occurrences (S "\r\n") ⟨#[61]⟩ 0 (S "\r\n").length 1).isEmpty = true := by decide +kernel
theorem eq_nb : Unicode.isLineBreak 61 = false ∧ Unicode.isSpace 61 = false := by decide +kernel
/-- how many breaks a row of n signs has -/
def brk (W n : Nat) : Nat := (n - 2) / (W - 1)
def pieceW (W : Nat) (l : List Nat) (j : Nat) : List Nat := (l.drop (j * (W - 1))).take (W - 1) ++ [61]
def pieces (W : Nat) (l : List Nat) : List (List Nat) := (List.range (brk W l.length)).map (pieceW W l) ++ [l.drop (brk W l.length * (W - 1))]
theorem brk_lt {W n j : Nat} (hW : 4 ≤ W) : j < brk W n ↔ j * (W - 1) + W + 1 ≤ n := by
  unfold brk
  rw [Nat.lt_div_iff_mul_lt (by omega)]
  have e : (W - 1) * j = j * (W - 1) := Nat.mul_comm _ _
  omega
end Mine
end
section
open PySem PySem.W PyProof.Rows StrLaws Builtin.Str
set_option maxRecDepth 100000
set_option maxHeartbeats 0
namespace Mine
theorem mv_arg3 (a b c : Str) (v1 v2 v3 : Value) (ns : List Str) (k : Nat) (h1 : a ≠ b) (h2 : a ≠ c) (h3 : b ≠ c) : (fun y => List.lookup y [(c, v3), (b, v2), (a, v1)]) = mv (a :: b :: c :: ns) (some v1 :: some v2 :: some v3 :: List.replicate k none) := by
  funext y
  show (match y == c with | true => some v3 | false => match y == b with | true => some v2 | false => match y == a with | true => some v1 | false => none) = if y = a then some v1 else if y = b then some v2 else if y = c then some v3 else mv ns (List.replicate k none) y
  rw [mv_none]
  by_cases e1 : y = a
  · subst e1
    rw [if_pos rfl, beq_eq_false_iff_ne.mpr h2, beq_eq_false_iff_ne.mpr h1, beq_self_eq_true]
  · rw [if_neg e1, beq_eq_false_iff_ne.mpr e1]
    by_cases e2 : y = b
    · subst e2
      rw [if_pos rfl, beq_eq_false_iff_ne.mpr h3, beq_self_eq_true]
    · rw [if_neg e2, beq_eq_false_iff_ne.mpr e2]
      by_cases e3 : y = c
      · subst e3
        rw [if_pos rfl, beq_self_eq_true]
      · rw [if_neg e3, beq_eq_false_iff_ne.mpr e3]
theorem K57 (w : World) : (KK w.params).lookup 57 = some (fn (S "body_encode") d57.1 (.ref 50) (.str ⟨#[99, 112, 121, 51, 49, 51, 46, 101, 109, 97, 105, 108, 46, 113, 117, 111, 112, 114, 105, 109, 105, 109, 101]⟩ 1234) 56) := by kernel_rfl
theorem K50 (w : World) : (KK w.params).lookup 50 = some (tp #[.int 76 1755, .str ⟨#[10]⟩ 189]) := by kernel_rfl
theorem C56 (w : World) : codeIn (KK w.params) (.ref 56) (S "body_encode") = true := by kernel_rfl
theorem K46 (w : World) : (KK w.params).lookup 46 = some ⟨.type "list", none, .seq its46 0, #[]⟩ := by kernel_rfl
theorem glob_map (w : World) : nsIn (KK w.params) mainGlobals (S "_QUOPRI_BODY_ENCODE_MAP") = some (some (.ref 46)) := by kernel_rfl
theorem glob_crlf (w : World) : nsIn (KK w.params) mainGlobals (S "CRLF") = some (some (.str ⟨#[13, 10]⟩ 187)) := by kernel_rfl
theorem glob_len (w : World) : nsIn (KK w.params) mainGlobals (S "len") = some none := by kernel_rfl
theorem boot_len : bootBuiltins (S "len") = some (.builtin "len") := by kernel_rfl
abbrev ns57 : List Str := [S "body", S "maxlinelen", S "eol", S "soft_break", S "maxlinelen1", S "encoded_body", S "append", S "line", S "start", S "laststart", S "stop", S "room", S "q"]
theorem nd57 : ns57.Nodup := by decide +kernel
/-- sizes -/
theorem flat_len {f : List Nat → List (List Nat)} {B : Nat} : ∀ (M : List (List Nat)), (∀ l ∈ M, (f l).length ≤ B) → (M.flatMap f).length ≤ M.length * B
  | [], _ => by simp
  | l :: r, h => by
    rw [List.flatMap_cons, List.length_append, List.length_cons, Nat.succ_mul]
    have := flat_len r fun q hq => h q (by simp [hq])
    have := h l (by simp)
    omega
theorem inter_len (sep : List Nat) {B : Nat} : ∀ (ps : List (List Nat)), (∀ l ∈ ps, l.length ≤ B) → (List.intercalate sep ps).length ≤ ps.length * (B + sep.length)
  | [], _ => by simp [List.intercalate]
  | [p], h => by rw [inter_one]; have := h p (by simp); simp; omega
  | p :: q :: r, h => by
    rw [inter_cons, List.length_append, List.length_append, List.length_cons, Nat.succ_mul]
    have := inter_len sep (q :: r) fun l hl => h l (by simp at hl ⊢; exact .inr hl)
    have := h p (by simp)
    omega
theorem mem_inter {sep : List Nat} {c : Nat} : ∀ {ps : List (List Nat)}, c ∈ List.intercalate sep ps → c ∈ sep ∨ ∃ p ∈ ps, c ∈ p
  | [], h => by simp [List.intercalate] at h
  | [p], h => by rw [inter_one] at h; exact .inr ⟨p, by simp, h⟩
  | p :: q :: r, h => by
    rw [inter_cons] at h
    rcases List.mem_append.mp h with h | h
    · rcases List.mem_append.mp h with h | h
      · exact .inr ⟨p, by simp, h⟩
      · exact .inl h
    · rcases mem_inter h with h | ⟨a, ha, hc⟩
      · exact .inl h
      · exact .inr ⟨a, List.mem_cons_of_mem _ ha, hc⟩
theorem brk_le {W n : Nat} (hW : 4 ≤ W) : brk W n ≤ n := by unfold brk; exact Nat.le_trans (Nat.div_le_self _ _) (Nat.sub_le _ _)
theorem pieces_len (W : Nat) (l : List Nat) : (pieces W l).length = brk W l.length + 1 := by simp [pieces]
theorem trimL_sub : ∀ (rows : List (List Nat)), ∀ l ∈ trimL rows, l ∈ rows
  | [], l, h => h
  | [p], l, h => by unfold trimL at h; split at h; exact nomatch h; exact h
  | p :: q :: r, l, h => by
    rcases List.mem_cons.mp h with rfl | h
    · simp
    · exact List.mem_cons_of_mem _ (trimL_sub (q :: r) l h)
theorem trimL_length : ∀ (rows : List (List Nat)), (trimL rows).length ≤ rows.length
  | [] => Nat.le_refl _
  | [p] => by unfold trimL; split <;> simp
  | p :: q :: r => by have := trimL_length (q :: r); simp [trimL] at this ⊢; exact this
theorem eol_len {e : List Nat} (he : IsEol e) : e.length ≤ 2 := by cases he <;> simp
theorem eol_pos {e : List Nat} (he : IsEol e) : 0 < e.length := by cases he <;> simp
theorem item_sg {z : Str} (hsg : ∀ c ∈ tl z, c ∈ sgL) {a : Int} (h0 : 0 ≤ a) (h1 : a < z.length) : (Txt.item z a == S "=") = false := by
  obtain ⟨i, rfl⟩ := Int.eq_ofNat_of_zero_le h0
  have hi : i < (tl z).length := by rw [tl_length]; omega
  have e : (tl z)[i]? = some (tl z)[i] := List.getElem?_eq_getElem hi
  rw [item_at e]
  have := (sg_of (hsg _ (List.getElem_mem hi))).ne
  rw [beq_eq_false_iff_ne]
  intro q
  have q2 := congrArg tl q
  rw [show tl (S "=") = [61] by decide +kernel] at q2
  exact this (by simpa [tl] using q2)
theorem inter_nil {sep : List Nat} (hs : sep ≠ []) : ∀ {ps : List (List Nat)}, ps ≠ [] → List.intercalate sep ps = [] → ps = [[]]
  | [], h, _ => absurd rfl h
  | [p], _, h => by rw [inter_one] at h; rw [h]
  | p :: q :: r, _, h => by rw [inter_cons] at h; simp at h; exact absurd h.2.1 hs
theorem gl_app (a : List Nat) {b : List Nat} (hb : b ≠ []) : (a ++ b).getLast? = b.getLast? := by
  rw [List.getLast?_append, List.getLast?_eq_some_getLast hb]; rfl
theorem piece_le {W : Nat} {r l : List Nat} (h : l ∈ pieces W r) : l.length ≤ r.length + 1 := by
  unfold pieces at h
  rcases List.mem_append.mp h with h | h
  · obtain ⟨j, _, rfl⟩ := List.mem_map.mp h
    unfold pieceW
    rw [List.length_append, List.length_take, List.length_drop]; simp; omega
  · rw [List.mem_singleton.mp h, List.length_drop]; omega
theorem last_inter {sep : List Nat} (hs : sep ≠ []) : ∀ (ps : List (List Nat)), ps ≠ [] → List.intercalate sep ps ≠ [] →
    (trimL ps = ps ∧ ∃ p ∈ ps, p ≠ [] ∧ (List.intercalate sep ps).getLast? = p.getLast?) ∨ (ps = trimL ps ++ [[]] ∧ (List.intercalate sep ps).getLast? = sep.getLast?)
  | [], h, _ => absurd rfl h
  | [p], _, h => by
    rw [inter_one] at h ⊢
    exact .inl ⟨by unfold trimL; rw [if_neg h], p, by simp, h, rfl⟩
  | p :: q :: r, _, h => by
    rw [inter_cons]
    by_cases hn : List.intercalate sep (q :: r) = []
    · have e := inter_nil hs (by simp) hn
      rw [e]
      refine .inr ⟨rfl, ?_⟩
      rw [inter_one, List.append_nil, gl_app _ hs]
    · rw [gl_app _ hn]
      rcases last_inter hs (q :: r) (by simp) hn with ⟨h1, a, ha, h2, h3⟩ | ⟨h1, h3⟩
      · exact .inl ⟨by show p :: trimL (q :: r) = _; rw [h1], a, List.mem_cons_of_mem _ ha, h2, h3⟩
      · refine .inr ⟨?_, h3⟩
        show p :: q :: r = p :: (trimL (q :: r) ++ [[]])
        rw [← h1]
section
variable {w : World} {A : Around} {s : Shared} {mg mb : Str → Option Value} {E Q : Value → Shared → Prop}
theorem enc_call (W : Wd w mg mb s.heap) (hh : A.handled = none) (hroom : A.depth < recursionLimit) {x eol : Str} {t1 t2 t3 : Tok} {wd : Nat} (hw : 4 ≤ wd) (hw2 : wd ≤ 2000) {rows : List (List Nat)} (hne : tl x ≠ []) (hrne : rows ≠ []) (hx : tl x = List.intercalate [10] rows) (hr : ∀ r ∈ rows, ∀ c ∈ r, c ∈ sgL) (hrl : rows.length ≤ 20) (hrn : ∀ r ∈ rows, r.length ≤ 200) (he : IsEol (tl eol))
    (k : ∀ y t' h' tk, tl y = List.intercalate (tl eol) (rows.flatMap (pieces wd)) → Grow s.heap h' → Q (.str y t') { s with heap := h', toks := tk }) :
    wpAny (model pN w) A (call (.ref 57) [.str x t1, .int (wd : Nat) t2, .str eol t3]) Q E s := by
  have hsl := sizeLine_eq
  have hz : x.length ≤ 100000 := by
    have := inter_len [10] rows hrn
    rw [← hx, tl_length] at this
    have h2 : rows.length * (200 + 1) ≤ 20 * 201 := Nat.mul_le_mul_right _ hrl
    simp at this; omega
  have hel : eol.length ≤ 2 := by rw [← tl_length]; exact eol_len he
  refine fcall (K := KK w.params) W.X W.T.nolimit (K57 w) (C56 w) hroom (binds := [(S "body", .str x t1), (S "maxlinelen", .int (wd : Nat) t2), (S "eol", .str eol t3)]) (BindsTo.of_defaults (T := 50) rfl (W.X _ _ (K50 w)) rfl rfl rfl) (locs rfl) fun h₁ F₁ => ?_
  rw [show (fun y => List.lookup y ([(S "body", Value.str x t1), (S "maxlinelen", .int (wd : Nat) t2), (S "eol", .str eol t3)].reverse)) = mv ns57 [some (.str x t1), some (.int (wd : Nat) t2), some (.str eol t3), none, none, none, none, none, none, none, none, none, none] from mv_arg3 _ _ _ _ _ _ _ 10 (by decide +kernel) (by decide +kernel) (by decide +kernel)] at F₁
  refine s_if F₁ News.nil (Te.ltI (Ev.varI F₁ nd57 1) Ev.int) fun h tk F N => ?_
  rw [show decide ((wd : Int) < 4) = false from decide_eq_false (by omega)]
  refine wpAny_execs_nil ?_
  refine s_if F N (Te.not (Te.strE (Ev.varS F nd57 0) (by omega))) fun h tk F N => ?_
  rw [show (!((x.length : Int) != 0)) = false by
    have : x.length ≠ 0 := by rw [← tl_length]; exact fun q => hne (List.eq_nil_of_length_eq_zero q)
    simp; omega]
  refine wpAny_execs_nil ?_
  have Wn : Wd w mg mb h := W.grow F.keep
  refine s_assign (i := 0) F N nd57 (Ev.translate (items := its46) (Ev.varS F nd57 0) (Ev.glob Wn (glob_map w)) ⟨_, Wn.X _ _ (K46 w), rfl, _, rfl⟩ (fun c hc => ?_) hz hne) ?_
  · rw [hx] at hc
    have hc2 : c ∈ 10 :: sgL := by
      rcases mem_inter hc with h | ⟨p, hp, hcp⟩
      · rw [List.mem_singleton.mp h]; simp
      · exact List.mem_cons_of_mem _ (hr p hp c hcp)
    exact ⟨by
      rcases List.mem_cons.mp hc2 with rfl | h
      · decide
      · exact (sg_of h).low, map_own hc2⟩
  rintro v h tk ⟨t4, rfl⟩ F N
  refine s_assign (i := 3) F N nd57 (Ev.cat Ev.str (Ev.varS F nd57 2) (by show (S "=").length + _ ≤ _; rw [show (S "=").length = 1 by decide +kernel]; omega)) ?_
  rintro v h tk ⟨t5, rfl⟩ F N
  refine s_assign (i := 4) F N nd57 ((Ev.varI F nd57 1).sub Ev.int) ?_
  rintro v h tk ⟨t6, rfl⟩ F N
  refine s_assignL (i := 5) F N nd57 Evs.nil (by decide) ?_
  rintro us D h tk hus F N hO
  cases hus
  refine s_bind_append (i := 6) F N nd57 (List.mem_cons_self ..) (Ev.var F nd57 5) ?_
  rintro q h tk F N hq
  have hqD : q ≠ D := fun e => hq (D, listOf #[] 0) (List.mem_cons_self ..) e.symm
  have hlines : (Txt.lines x).map tl = trimL rows := tl_lines .lf (fun p hp c hc => (sg_of (hr p hp c hc)).nb) hrne hx
  refine s_for_lines (ix := 7) hh F N nd57 (fun i vs O => ∃ its k ps a b c d e f, O = [(q, bndOf D), (D, listOf its k)] ∧ vs = [some (.str x t4), some (.int (wd : Nat) t2), some (.str eol t3), some (.str (S "=" ++ eol) t5), some (.int ((wd : Int) - 1) t6), some (.ref D), some (.ref q), a, b, c, d, e, f] ∧ StrsAre its.toList ps ∧ ps.map tl = ((trimL rows).take i).flatMap (pieces wd))
    (Ev.varS F nd57 0) hz ⟨_, _, [], _, _, _, _, _, _, rfl, rfl, .nil, rfl⟩ (by rintro _ _ _ ⟨its, k, ps, a, b, c, d, e, f, rfl, rfl, _, _⟩; exact Nat.le_of_ble_eq_true rfl) ?_ ?_
  · rintro i tz z vs₁ O₁ h tk own hzi ⟨its, k', ps, a, b, c, d, e, f, rfl, rfl, hs, hps⟩ hown F N
    have hzl : (trimL rows)[i]? = some (tl z) := by rw [← hlines, List.getElem?_map, hzi]; rfl
    have hmem : tl z ∈ rows := trimL_sub _ _ (List.mem_of_getElem? hzl)
    have hn : z.length ≤ 200 := by rw [← tl_length]; exact hrn _ hmem
    have hsg : ∀ c ∈ tl z, c ∈ sgL := hr _ hmem
    have hi : i < (trimL rows).length := (List.getElem?_eq_some_iff.mp hzl).1
    have hbase : (((trimL rows).take i).flatMap (pieces wd)).length ≤ 20 * 201 := by
      have h1 := flat_len (f := pieces wd) (B := 201) ((trimL rows).take i) (fun l hl => by
        rw [pieces_len]
        have := brk_le (W := wd) (n := l.length) hw
        have := hrn l (trimL_sub _ _ (List.mem_of_mem_take hl))
        omega)
      have h2 := trimL_length rows
      have h3 : ((trimL rows).take i).length ≤ 20 := by rw [List.length_take]; omega
      exact Nat.le_trans h1 (Nat.mul_le_mul_right _ h3)
    have hDo : ∀ p ∈ own, p.1 ≠ D := fun p hp => hown p hp (D, listOf its k') (by simp)
    have hqo : ∀ p ∈ own, p.1 ≠ q := fun p hp => hown p hp (q, bndOf D) (by simp)
    have UU : ∀ (its : Array Value) (k' : Nat) (v : Value), Upd D (listOf its k') (listOf (its.push v) (k' + 1)) (own ++ [(q, bndOf D), (D, listOf its k')]) (own ++ [(q, bndOf D), (D, listOf (its.push v) (k' + 1))]) := by
      intro its k' v
      have := upd_in (own := own ++ [(q, bndOf D)]) (D := D) (o := listOf its k') (o' := listOf (its.push v) (k' + 1)) (fun p hp => by
        rcases List.mem_append.mp hp with hp | hp
        · exact hDo p hp
        · rw [List.mem_singleton.mp hp]; exact hqD)
      simpa using this
    have hbq : ∀ (its : Array Value) (k' : Nat), (q, bndOf D) ∈ own ++ [(q, bndOf D), (D, listOf its k')] := by simp
    refine s_assign (i := 8) F N nd57 Ev.int ?_
    rintro v h tk ⟨t7, rfl⟩ F N
    have Wn : Wd w mg mb h := W.grow F.keep
    refine s_assign (i := 9) F N nd57 (((Ev.lenS (Ev.blt Wn (glob_len w) boot_len (by decide +kernel)) (Ev.varS F nd57 7) (by omega)).sub Ev.int).sub (Ev.varI F nd57 1)) ?_
    rintro v h tk ⟨t8, rfl⟩ F N
    refine s_while F N (fun m vs O => ∃ j its k ps st tb d e f, j ≤ brk wd z.length ∧ m = brk wd z.length - j ∧ O = own ++ [(q, bndOf D), (D, listOf its k)] ∧ st = ((j * (wd - 1) : Nat) : Int) ∧ vs = [some (.str x t4), some (.int (wd : Nat) t2), some (.str eol t3), some (.str (S "=" ++ eol) t5), some (.int ((wd : Int) - 1) t6), some (.ref D), some (.ref q), some (.str z tz), some (.int st tb), some (.int ((z.length : Int) - 1 - wd) t8), d, e, f] ∧ StrsAre its.toList ps ∧ ps.map tl = ((trimL rows).take i).flatMap (pieces wd) ++ (List.range j).map (pieceW wd (tl z))) (brk wd z.length)
      ⟨0, its, k', ps, _, _, _, _, _, Nat.zero_le _, rfl, rfl, by simp, rfl, hs, by simpa using hps⟩ ?_
    rintro m vs₁ O₁ h ⟨j, its, k', ps, st, tb, d, e, f, hj, rfl, rfl, hst, rfl, hs, hps⟩ F N
    refine ⟨_, Te.leI (Ev.varI F nd57 8) (Ev.varI F nd57 9), fun h tk F N => ?_⟩
    have hsz : its.size ≤ sizeLine := by
      have h1 := strsAre_size hs
      have h2 := congrArg List.length hps
      rw [List.length_map, List.length_append, List.length_map, List.length_range] at h2
      have := brk_le (W := wd) (n := z.length) hw
      omega
    by_cases hlt : j < brk wd z.length
    · have hb := (brk_lt hw).mp hlt
      have hm : (j + 1) * (wd - 1) = j * (wd - 1) + (wd - 1) := Nat.succ_mul _ _
      rw [if_pos (decide_eq_true (by omega))]
      refine s_assign (i := 10) F N nd57 ((Ev.varI F nd57 8).add (Ev.varI F nd57 4)) ?_
      rintro v h tk ⟨t9, rfl⟩ F N
      refine s_if F N (Te.eqS (Ev.strAt (Ev.varS F nd57 7) ((Ev.varI F nd57 10).sub Ev.int) (fits_small (by omega) (by omega)) (by omega) (by omega)) Ev.str) fun h tk F N => ?_
      rw [item_sg hsg (by omega) (by omega)]
      refine s_if F N (Te.eqS (Ev.strAt (Ev.varS F nd57 7) ((Ev.varI F nd57 10).sub Ev.int) (fits_small (by omega) (by omega)) (by omega) (by omega)) Ev.str) fun h tk F N => ?_
      rw [item_sg hsg (by omega) (by omega)]
      have hsll : (Txt.slice z (some st) (some (st + ((wd : Int) - 1)))).length ≤ z.length := Txt.slice_le _ _ _
      refine s_appendB F N (hbq _ _) (Ev.var F nd57 6) (Ev.cat (Ev.slice2 (l2 := .Constant .none 0 default) (Ev.varS F nd57 7) (Ev.varI F nd57 8) (Ev.varI F nd57 10) (by omega)) Ev.str (by show _ + (S "=").length ≤ _; rw [show (S "=").length = 1 by decide +kernel]; omega)) (fun v _ => UU its k' v) (fun v h tk hv F N => ?_) hsz
      obtain ⟨t10, rfl⟩ := hv
      refine s_assign (i := 8) F N nd57 (Ev.varI F nd57 10) ?_
      rintro v h tk ⟨t11, rfl⟩ F N
      refine wpAny_execs_nil (wpAny_execs_nil (wpAny_execs_nil ?_))
      refine ⟨brk wd z.length - (j + 1), h, tk, _, _, by omega, rfl, F, N, j + 1, _, _, ps ++ [_], _, _, _, _, _, hlt, rfl, rfl, by omega, rfl, strsAre_push hs, ?_⟩
      rw [List.map_append, hps, List.range_succ, List.map_append, List.append_assoc]
      congr 2
      show [tl _] = [pieceW wd (tl z) j]
      rw [tl_append, show tl (S "=") = [61] by decide +kernel, tl_slice (by omega) (by omega) (by rw [tl_length]; omega)]
      unfold pieceW
      rw [show st.toNat = j * (wd - 1) by omega, show (st + ((wd : Int) - 1) - st).toNat = wd - 1 by omega]
    · have hje : j = brk wd z.length := by omega
      have hb := mt (brk_lt (W := wd) (n := z.length) (j := j) hw).mpr hlt
      have hbz : j * (wd - 1) ≤ z.length := by
        rw [hje]
        unfold brk
        have := Nat.div_mul_le_self (z.length - 2) (wd - 1)
        omega
      rw [if_neg (by simp; omega)]
      refine s_if F N (Te.and (d := !(occurrences (S " \t") (Txt.item z (-1)) 0 (S " \t").length 1).isEmpty) (Te.strE (Ev.varS F nd57 7) (by omega)) (fun hc => Te.inS (Ev.strAt (Ev.varS F nd57 7) (Ev.neg Ev.int) (fits_small (by omega) (by omega)) (by simp at hc; omega) (by omega)) Ev.str)) fun h tk F N => ?_
      have hfalse : (((z.length : Int) != 0) && !(occurrences (S " \t") (Txt.item z (-1)) 0 (S " \t").length 1).isEmpty) = false := by
        by_cases h0 : tl z = []
        · have : z.length = 0 := by rw [← tl_length, h0]; rfl
          simp [this]
        · obtain ⟨c, hc⟩ : ∃ c, (tl z).getLast? = some c := ⟨_, List.getLast?_eq_some_getLast h0⟩
          rw [item_last hc, (sg_of (hsg c (List.mem_of_getLast? hc))).tab]
          simp
      rw [hfalse]
      have hsll : (Txt.slice z (some st) none).length ≤ z.length := Txt.slice_le _ _ _
      refine s_appendB F N (hbq _ _) (Ev.var F nd57 6) (Ev.slice1 (Ev.varS F nd57 7) (Ev.varI F nd57 8) (by omega)) (fun v _ => UU its k' v) (fun v h tk hv F N => ?_) hsz
      obtain ⟨t10, rfl⟩ := hv
      refine wpAny_execs_nil (wpAny_execs_nil ?_)
      refine ⟨.inl rfl, h, tk, _, _, rfl, F, N, rfl, _, _, ps ++ [_], _, _, _, _, _, _, rfl, rfl, strsAre_push hs, ?_⟩
      rw [List.map_append, hps, List.take_succ, hzl, List.flatMap_append, List.append_assoc]
      congr 1
      show _ ++ [tl _] = List.flatMap _ [tl z]
      rw [tl_slice_from (by omega) (by rw [tl_length]; omega), show st.toNat = j * (wd - 1) by omega, hje]
      simp [pieces, tl_length]
  · rintro vs₁ h tk O₁ ⟨its, k', ps, a, b, c, d, e, f, rfl, rfl, hs, hps⟩ F N
    have hlen : (Txt.lines x).length = (trimL rows).length := by rw [← hlines, List.length_map]
    rw [hlen, List.take_length] at hps
    have fin : ∀ (its : Array Value) (k' : Nat) (ps : List Str) (a b c d e f : Option Value) (h : Heap) (tk : Nat), StrsAre its.toList ps → ps.map tl = rows.flatMap (pieces wd) → Fr s.heap s.heap.objs.size h (mv ns57 [some (.str x t4), some (.int (wd : Nat) t2), some (.str eol t3), some (.str (S "=" ++ eol) t5), some (.int ((wd : Int) - 1) t6), some (.ref D), some (.ref q), a, b, c, d, e, f]) → News s.heap s.heap.objs.size h [(q, bndOf D), (D, listOf its k')] →
        wpAny (model pN w) (A.deeper (envOf (S "body_encode") d57.1.2.2 s.heap.objs.size 57 (.ref 56))) (execs (d57.1.2.1.drop 9) (envOf (S "body_encode") d57.1.2.2 s.heap.objs.size 57 (.ref 56))) (fun fl s' => ∃ v, fl = .ret v ∧ Q v s') No { s with heap := h, toks := tk } := by
      intro its k' ps a b c d e f h tk hs hps F N
      have hcnt : ps.length ≤ 20 * 201 := by
        have h1 := flat_len (f := pieces wd) (B := 201) rows (fun l hl => by
          rw [pieces_len]
          have := brk_le (W := wd) (n := l.length) hw
          have := hrn l hl
          omega)
        have h2 := congrArg List.length hps
        rw [List.length_map] at h2
        rw [h2]
        exact Nat.le_trans h1 (Nat.mul_le_mul_right _ hrl)
      have hsum : (ps.map (·.length)).sum ≤ ps.length * 201 := StrLaws.sumLen_le ps fun y hy => by
        have : tl y ∈ rows.flatMap (pieces wd) := hps ▸ List.mem_map.mpr ⟨y, hy, rfl⟩
        obtain ⟨r, hr', hyr⟩ := List.mem_flatMap.mp this
        have h1 := piece_le hyr
        have h2 := hrn r hr'
        rw [tl_length] at h1
        omega
      have hmul : ps.length * 201 ≤ 20 * 201 * 201 := Nat.mul_le_mul_right _ hcnt
      have hmul2 : ps.length * 64 ≤ 20 * 201 * 64 := Nat.mul_le_mul_right _ hcnt
      refine s_ret (Ev.join (Ev.varS F nd57 2) ((Ev.var F nd57 5).toH (fun v h' e g => ⟨D, its, e, ⟨_, g _ _ (N (D, listOf its k') (by simp)).1, rfl, _, rfl⟩, hs⟩)) (by omega) (by omega)) ?_
      rintro v h' tk' ⟨t, rfl⟩ g
      exact ⟨_, rfl, k _ _ _ _ (by rw [tl_join, hps]) (Grow.trans F.keep g)⟩
    have Wn : Wd w mg mb h := W.grow F.keep
    refine s_if F N (Te.inS (x := S "\r\n") (Ev.strAt (Ev.varS F nd57 0) (Ev.neg Ev.int) (fits_small (by omega) (by omega)) (by have : 0 < (tl x).length := List.length_pos_iff.mpr hne; rw [tl_length] at this; omega) (by omega)) ((Ev.glob Wn (glob_crlf w)).mono fun v e => ⟨187, by rw [e]; rfl⟩)) fun h tk F N => ?_
    rcases last_inter (sep := [10]) (by simp) rows hrne (by rw [← hx]; exact hne) with ⟨h1, p, hp, hpn, hl⟩ | ⟨h1, hl⟩
    · obtain ⟨c, hc⟩ : ∃ c, p.getLast? = some c := ⟨_, List.getLast?_eq_some_getLast hpn⟩
      rw [← hx, hc] at hl
      rw [item_last hl, (sg_of (hr p hp c (List.mem_of_getLast? hc))).end_]
      refine wpAny_execs_nil ?_
      exact fin its k' ps _ _ _ _ _ _ h tk hs (by rw [hps, h1]) F N
    · rw [← hx] at hl
      replace hl : (tl x).getLast? = some 10 := hl
      rw [item_last hl, lf_end]
      have hsz : its.size ≤ sizeLine := by
        have h3 := strsAre_size hs
        have h2 := congrArg List.length hps
        rw [List.length_map] at h2
        have h4 := flat_len (f := pieces wd) (B := 201) (trimL rows) (fun l hl => by
          rw [pieces_len]
          have := brk_le (W := wd) (n := l.length) hw
          have := hrn l (trimL_sub _ _ hl)
          omega)
        have h5 := trimL_length rows
        have h6 : (trimL rows).length * 201 ≤ 20 * 201 := Nat.mul_le_mul_right _ (by omega)
        omega
      refine s_appendB F N (List.mem_cons_self ..) (Ev.var F nd57 6) (Ev.str (x := S "")) (fun v _ => Upd.tail hqD (Upd.head (fun p hp => nomatch hp))) (fun v h tk hv F N => ?_) hsz
      obtain ⟨t10, rfl⟩ := hv
      refine wpAny_execs_nil ?_
      refine fin _ _ (ps ++ [S ""]) _ _ _ _ _ _ h tk (strsAre_push hs) ?_ F N
      rw [List.map_append, hps]
      conv => rhs; rw [h1]
      rw [List.flatMap_append, show List.flatMap (pieces wd) [[]] = [[]] by simp [pieces, brk]]
      rfl
end
end Mine
end
section
open PySem PySem.W PyProof.Rows StrLaws Builtin.Str
set_option maxRecDepth 100000
set_option maxHeartbeats 0
namespace Mine
theorem rstrip_id {x : Str} (h : ∀ c, (tl x).getLast? = some c → Unicode.isSpace c = false) : Txt.rstrip x = x := by
  have key : ((tl x).reverse.takeWhile Unicode.isSpace) = [] := by
    cases hq : (tl x).reverse with
    | nil => rfl
    | cons c r =>
      have : (tl x).getLast? = some c := by rw [← List.head?_reverse, hq]; rfl
      rw [List.takeWhile_cons, h c this]; rfl
  unfold Txt.rstrip Txt.stripBy
  rw [if_pos]
  show ((0 : Nat) == 0 && (x.length - ((x.cps.toList.drop 0).reverse.takeWhile Unicode.isSpace).length) == x.length) = true
  rw [List.drop_zero, show x.cps.toList.reverse.takeWhile Unicode.isSpace = [] from key]
  simp
theorem mv_arg2 (a b : Str) (v1 v2 : Value) (ns : List Str) (k : Nat) (h1 : a ≠ b) : (fun y => List.lookup y [(b, v2), (a, v1)]) = mv (a :: b :: ns) (some v1 :: some v2 :: List.replicate k none) := by
  funext y
  show (match y == b with | true => some v2 | false => match y == a with | true => some v1 | false => none) = if y = a then some v1 else if y = b then some v2 else mv ns (List.replicate k none) y
  rw [mv_none]
  by_cases e1 : y = a
  · subst e1
    rw [if_pos rfl, beq_eq_false_iff_ne.mpr h1, beq_self_eq_true]
  · rw [if_neg e1, beq_eq_false_iff_ne.mpr e1]
    by_cases e2 : y = b
    · subst e2
      rw [if_pos rfl, beq_self_eq_true]
    · rw [if_neg e2, beq_eq_false_iff_ne.mpr e2]
theorem K65 (w : World) : (KK w.params).lookup 65 = some (fn (S "decode") d65.1 (.ref 58) (.str ⟨#[99, 112, 121, 51, 49, 51, 46, 101, 109, 97, 105, 108, 46, 113, 117, 111, 112, 114, 105, 109, 105, 109, 101]⟩ 1234) 64) := by kernel_rfl
theorem K58 (w : World) : (KK w.params).lookup 58 = some (tp #[.str ⟨#[10]⟩ 189]) := by kernel_rfl
theorem C64 (w : World) : codeIn (KK w.params) (.ref 64) (S "decode") = true := by kernel_rfl
abbrev ns65 : List Str := [S "encoded", S "eol", S "decoded", S "line", S "i", S "n", S "c"]
theorem nd65 : ns65.Nodup := by decide +kernel
/-- what decode makes of a line -/
def dec1 (mark p : List Nat) : List Nat := if p = [] then mark else if p.getLast? = some 61 then p.dropLast else p ++ mark
theorem flat_lenN {f : List Nat → List Nat} {B : Nat} : ∀ (M : List (List Nat)), (∀ l ∈ M, (f l).length ≤ B) → (M.flatMap f).length ≤ M.length * B
  | [], _ => by simp
  | l :: r, h => by
    rw [List.flatMap_cons, List.length_append, List.length_cons, Nat.succ_mul]
    have := flat_lenN r fun q hq => h q (by simp [hq])
    have := h l (by simp)
    omega
theorem dec1_len (mark p : List Nat) : (dec1 mark p).length ≤ p.length + mark.length := by
  unfold dec1
  split
  · omega
  · split
    · rw [List.length_dropLast]; omega
    · rw [List.length_append]; omega
/-- a piece of the mail -/
structure Pc (p : List Nat) : Prop where
  body : ∀ i c, p[i]? = some c → c ∈ sgL ∨ (c = 61 ∧ i + 1 = p.length)
theorem Pc.last {p : List Nat} (h : Pc p) {c : Nat} (hc : p.getLast? = some c) : c ∈ sgL ∨ c = 61 := by
  rw [List.getLast?_eq_getElem?] at hc
  rcases h.body _ c hc with h | h
  · exact .inl h
  · exact .inr h.1
theorem Pc.nb {p : List Nat} (h : Pc p) : ∀ c ∈ p, Unicode.isLineBreak c = false := fun c hc => by
  obtain ⟨i, hi, e⟩ := List.mem_iff_getElem.mp hc
  rcases h.body i c (by rw [List.getElem?_eq_getElem hi, e]) with h | h
  · exact (sg_of h).nb
  · rw [h.1]; exact eq_nb.1
theorem Pc.ns {p : List Nat} (h : Pc p) {c : Nat} (hc : p.getLast? = some c) : Unicode.isSpace c = false := by
  rcases h.last hc with h | h
  · exact (sg_of h).ns
  · rw [h]; exact eq_nb.2
theorem Pc.end_ {p : List Nat} (h : Pc p) {c : Nat} (hc : p.getLast? = some c) : (occurrences (S "\r\n") ⟨#[c]⟩ 0 (S "\r\n").length 1).isEmpty = true := by
  rcases h.last hc with h | h
  · exact (sg_of h).end_
  · rw [h]; exact eq_end
theorem eq61 (c : Nat) : ((⟨#[c]⟩ : Str) != S "=") = decide (c ≠ 61) := by
  by_cases e : c = 61
  · subst e; decide +kernel
  · rw [decide_eq_true e, bne_iff_ne]
    intro q
    have := congrArg tl q
    rw [show tl (S "=") = [61] by decide +kernel] at this
    exact e (by simpa [tl] using this)
theorem ends_tl {x y : Str} {a : List Nat} (h : tl x = a ++ tl y) : Txt.endswith x y = true := by
  unfold Txt.endswith subAt
  have hl : x.length = a.length + y.length := by rw [← tl_length, h, List.length_append, tl_length]
  rw [decide_eq_true (by omega), Bool.true_and, show x.length - y.length = a.length by omega, beq_iff_eq]
  apply Array.toList_inj.mp
  rw [Array.toList_extract, List.extract_eq_drop_take]
  show (List.drop a.length (tl x)).take (a.length + y.length - a.length) = tl y
  rw [h, List.drop_left, Nat.add_sub_cancel_left, ← tl_length, List.take_length]
end Mine
end
section
open PySem PySem.W PyProof.Rows StrLaws Builtin.Str
set_option maxRecDepth 100000
set_option maxHeartbeats 0
namespace Mine
section
variable {w : World} {A : Around} {s : Shared} {mg mb : Str → Option Value} {E Q : Value → Shared → Prop}
theorem dec_call (W : Wd w mg mb s.heap) (hh : A.handled = none) (hroom : A.depth < recursionLimit) {x mark : Str} {t1 t2 : Tok} {eol : List Nat} {ps : List (List Nat)} {res : List Nat} (he : IsEol eol) (hne : tl x ≠ []) (hpne : ps ≠ []) (hx : tl x = List.intercalate eol ps) (hp : ∀ p ∈ ps, Pc p) (hpl : ps.length ≤ 5000) (hpn : ∀ p ∈ ps, p.length ≤ 300) (hxl : x.length ≤ 100000) (hm : 0 < mark.length) (hml : mark.length ≤ 2)
    (hres : (trimL ps = ps ∧ (trimL ps).flatMap (dec1 (tl mark)) = res ++ tl mark) ∨ (ps = trimL ps ++ [[]] ∧ (trimL ps).flatMap (dec1 (tl mark)) = res))
    (k : ∀ y t' h' tk, tl y = res → Grow s.heap h' → Q (.str y t') { s with heap := h', toks := tk }) :
    wpAny (model pN w) A (call (.ref 65) [.str x t1, .str mark t2]) Q E s := by
  have hsl := sizeLine_eq
  refine fcall (K := KK w.params) W.X W.T.nolimit (K65 w) (C64 w) hroom (binds := [(S "encoded", .str x t1), (S "eol", .str mark t2)]) (BindsTo.of_defaults (T := 58) rfl (W.X _ _ (K58 w)) rfl rfl rfl) (locs rfl) fun h₁ F₁ => ?_
  rw [show (fun y => List.lookup y ([(S "encoded", Value.str x t1), (S "eol", .str mark t2)].reverse)) = mv ns65 [some (.str x t1), some (.str mark t2), none, none, none, none, none] from mv_arg2 _ _ _ _ _ 5 (by decide +kernel)] at F₁
  have hx0 : 0 < x.length := by rw [← tl_length]; exact List.length_pos_iff.mpr hne
  refine s_if F₁ News.nil (Te.not (Te.strE (Ev.varS F₁ nd65 0) (by omega))) fun h tk F N => ?_
  rw [show (!((x.length : Int) != 0)) = false by simp; omega]
  refine wpAny_execs_nil ?_
  refine s_assign (i := 2) F N nd65 (Ev.str (x := S "")) ?_
  rintro v h tk ⟨t3, rfl⟩ F N
  have hlines : (Txt.lines x).map tl = trimL ps := tl_lines he (fun p hp' => (hp p hp').nb) hpne hx
  have hlenD : ∀ i, (((trimL ps).take i).flatMap (dec1 (tl mark))).length ≤ 5000 * 302 := fun i => by
    have h1 := flat_lenN (f := dec1 (tl mark)) (B := 302) ((trimL ps).take i) (fun l hl => by
      have := dec1_len (tl mark) l
      have := hpn l (trimL_sub _ _ (List.mem_of_mem_take hl))
      rw [tl_length] at *
      omega)
    have h2 := trimL_length ps
    have h3 : ((trimL ps).take i).length ≤ 5000 := by rw [List.length_take]; omega
    exact Nat.le_trans h1 (Nat.mul_le_mul_right _ h3)
  refine s_for_lines (ix := 3) hh F N nd65 (fun i vs O => ∃ D td a b c d, O = [] ∧ vs = [some (.str x t1), some (.str mark t2), some (.str D td), a, b, c, d] ∧ tl D = ((trimL ps).take i).flatMap (dec1 (tl mark)))
    (Ev.varS F nd65 0) hxl ⟨_, _, _, _, _, _, rfl, rfl, rfl⟩ (by rintro _ _ _ ⟨D, td, a, b, c, d, rfl, rfl, _⟩; exact Nat.le_of_ble_eq_true rfl) ?_ ?_
  · rintro i tz z vs₁ O₁ h tk own hzi ⟨D, td, a, b, c, d, rfl, rfl, hD⟩ hown F N
    have hzl : (trimL ps)[i]? = some (tl z) := by rw [← hlines, List.getElem?_map, hzi]; rfl
    have hmem : tl z ∈ ps := trimL_sub _ _ (List.mem_of_getElem? hzl)
    have hn : z.length ≤ 300 := by rw [← tl_length]; exact hpn _ hmem
    have hpc := hp _ hmem
    have hDl : D.length ≤ 5000 * 302 := by rw [← tl_length, hD]; exact hlenD i
    have hnext : ((trimL ps).take (i + 1)).flatMap (dec1 (tl mark)) = ((trimL ps).take i).flatMap (dec1 (tl mark)) ++ dec1 (tl mark) (tl z) := by
      rw [List.take_succ, hzl, List.flatMap_append]; simp
    refine s_assign (i := 3) F N nd65 (Ev.rstrip (Ev.varS F nd65 3) (by omega)) ?_
    rw [rstrip_id fun c hc => hpc.ns hc]
    rintro v h tk ⟨t4, rfl⟩ F N
    refine s_if F N (Te.not (Te.strE (Ev.varS F nd65 3) (by omega))) fun h tk F N => ?_
    by_cases h0 : z.length = 0
    · have hz0 : tl z = [] := List.eq_nil_of_length_eq_zero (by rw [tl_length]; exact h0)
      rw [show (!((z.length : Int) != 0)) = true by simp [h0]]
      refine s_augS (i := 2) F N nd65 rfl (Ev.varS F nd65 1) (by omega) ?_
      rintro v h tk ⟨t5, rfl⟩ F N
      refine wpAny_execs_cons (wpAny_Continue ?_)
      refine ⟨.inr rfl, h, tk, _, [], rfl, F, by simpa using N, rfl, _, _, _, _, _, _, rfl, rfl, ?_⟩
      rw [hnext, tl_append, hD, hz0]; rfl
    rw [show (!((z.length : Int) != 0)) = false by simp; omega]
    refine wpAny_execs_nil ?_
    refine s_assign (i := 4) F N nd65 Ev.int ?_
    rintro v h tk ⟨t5, rfl⟩ F N
    have Wn : Wd w mg mb h := W.grow F.keep
    refine s_assign (i := 5) F N nd65 (Ev.lenS (Ev.blt Wn (glob_len w) boot_len (by decide +kernel)) (Ev.varS F nd65 3) (by omega)) ?_
    rintro v h tk ⟨t6, rfl⟩ F N
    have hzne : tl z ≠ [] := fun q => h0 (by rw [← tl_length, q]; rfl)
    refine s_while F N (fun m vs O => ∃ j D' td tj d, j ≤ z.length ∧ m = z.length - j ∧ O = own ++ [] ∧ vs = [some (.str x t1), some (.str mark t2), some (.str D' td), some (.str z t4), some (.int (j : Nat) tj), some (.int (z.length : Nat) t6), d] ∧ tl D' = tl D ++ (if j < z.length then (tl z).take j else dec1 (tl mark) (tl z))) z.length
      ⟨0, D, _, _, _, Nat.zero_le _, rfl, rfl, rfl, by rw [if_pos (by omega)]; simp⟩ ?_
    rintro m vs₁ O₁ h ⟨j, D', td', tj, d, hj, rfl, rfl, rfl, hD'⟩ F N
    refine ⟨_, Te.ltI (Ev.varI F nd65 4) (Ev.varI F nd65 5), fun h tk F N => ?_⟩
    by_cases hlt : j < z.length
    · rw [if_pos hlt] at hD'
      rw [if_pos (decide_eq_true (by omega))]
      have hjt : j < (tl z).length := by rw [tl_length]; exact hlt
      have hgj : (tl z)[j]? = some (tl z)[j] := List.getElem?_eq_getElem hjt
      have hD'l : D'.length ≤ 5000 * 302 + 300 := by
        have := congrArg List.length hD'
        rw [tl_length, List.length_append, tl_length, List.length_take, tl_length] at this
        omega
      refine s_assign (i := 6) F N nd65 (Ev.strAt (Ev.varS F nd65 3) (Ev.varI F nd65 4) (fits_small (by omega) (by omega)) (by omega) (by omega)) ?_
      rw [item_at hgj]
      rintro v h tk ⟨t7, rfl⟩ F N
      refine s_if F N (Te.neS (Ev.varS F nd65 6) Ev.str) fun h tk F N => ?_
      rw [eq61]
      by_cases hc : (tl z)[j] = 61
      · rw [decide_eq_false (by simp [hc])]
        have hlast : j + 1 = z.length := by
          rcases hpc.body j _ hgj with h' | h'
          · exact absurd hc (sg_of h').ne
          · rw [tl_length] at h'; exact h'.2
        refine s_if F N (Te.eqI ((Ev.varI F nd65 4).add Ev.int) (Ev.varI F nd65 5)) fun h tk F N => ?_
        rw [show (((j : Int) + 1) == (z.length : Nat)) = true by rw [beq_iff_eq]; omega]
        refine s_augI (i := 4) F N nd65 rfl Ev.int ?_
        rintro v h tk ⟨t8, rfl⟩ F N
        refine wpAny_execs_cons (wpAny_Continue ?_)
        refine ⟨z.length - (j + 1), h, tk, _, _, by omega, rfl, F, N, j + 1, D', _, _, _, by omega, rfl, rfl, rfl, ?_⟩
        rw [if_neg (by omega), hD']
        congr 1
        have hgl : (tl z).getLast? = some 61 := by rw [List.getLast?_eq_getElem?, tl_length, show z.length - 1 = j by omega, hgj, hc]
        unfold dec1
        rw [if_neg hzne, if_pos hgl, List.dropLast_eq_take, tl_length, show z.length - 1 = j by omega]
      · rw [decide_eq_true (by simpa using hc)]
        refine s_augS (i := 2) F N nd65 rfl (Ev.varS F nd65 6) (by show _ + 1 ≤ _; omega) ?_
        rintro v h tk ⟨t8, rfl⟩ F N
        refine s_augI (i := 4) F N nd65 rfl Ev.int ?_
        rintro v h tk ⟨t9, rfl⟩ F N
        refine wpAny_execs_nil ?_
        have hD2 : tl (D' ++ ⟨#[(tl z)[j]]⟩) = tl D ++ (tl z).take (j + 1) := by
          rw [tl_append, hD', List.append_assoc]
          congr 1
          rw [List.take_succ, hgj]; rfl
        refine s_if F N (Te.eqI (Ev.varI F nd65 4) (Ev.varI F nd65 5)) fun h tk F N => ?_
        by_cases hl : j + 1 = z.length
        · rw [show (((j : Int) + 1) == (z.length : Nat)) = true by rw [beq_iff_eq]; omega]
          refine s_augS (i := 2) F N nd65 rfl (Ev.varS F nd65 1) (by rw [len_app]; show _ + 1 + _ ≤ _; omega) ?_
          rintro v h tk ⟨t10, rfl⟩ F N
          refine wpAny_execs_nil (wpAny_execs_nil ?_)
          refine ⟨z.length - (j + 1), h, tk, _, _, by omega, rfl, F, N, j + 1, _, _, _, _, by omega, rfl, rfl, rfl, ?_⟩
          rw [if_neg (by omega), tl_append, hD2, List.append_assoc]
          congr 1
          have hgl : (tl z).getLast? ≠ some 61 := by
            rw [List.getLast?_eq_getElem?, tl_length, show z.length - 1 = j by omega, hgj]
            intro q; exact hc (Option.some.inj q)
          unfold dec1
          rw [if_neg hzne, if_neg hgl, List.take_of_length_le (by rw [tl_length]; omega)]
        · rw [show (((j : Int) + 1) == (z.length : Nat)) = false by rw [beq_eq_false_iff_ne]; omega]
          refine wpAny_execs_nil (wpAny_execs_nil ?_)
          refine ⟨z.length - (j + 1), h, tk, _, _, by omega, rfl, F, N, j + 1, _, _, _, _, by omega, rfl, rfl, rfl, ?_⟩
          rw [if_pos (by omega), hD2]
    · rw [if_neg hlt] at hD'
      rw [if_neg (by simp; omega)]
      refine wpAny_execs_nil ?_
      refine ⟨.inl rfl, h, tk, _, [], rfl, F, N, rfl, _, _, _, _, _, _, rfl, rfl, ?_⟩
      rw [hD', hnext, hD]
  · rintro vs₁ h tk O₁ ⟨D, td, a, b, c, d, rfl, rfl, hD⟩ F N
    have hlen : (Txt.lines x).length = (trimL ps).length := by rw [← hlines, List.length_map]
    have hDl : D.length ≤ 5000 * 302 := by rw [← tl_length, hD]; exact hlenD _
    rw [hlen, List.take_length] at hD
    have fin : ∀ (D : Str) (td : Tok) (h : Heap) (tk : Nat), tl D = res → Fr s.heap s.heap.objs.size h (mv ns65 [some (.str x t1), some (.str mark t2), some (.str D td), a, b, c, d]) →
        wpAny (model pN w) (A.deeper (envOf (S "decode") d65.1.2.2 s.heap.objs.size 65 (.ref 64))) (execs (d65.1.2.1.drop 4) (envOf (S "decode") d65.1.2.2 s.heap.objs.size 65 (.ref 64))) (fun fl s' => ∃ v, fl = .ret v ∧ Q v s') No { s with heap := h, toks := tk } := by
      intro D td h tk hD F
      refine s_ret (Ev.varS F nd65 2) ?_
      rintro v h' tk' ⟨t, rfl⟩ g
      exact ⟨_, rfl, k _ _ _ _ hD (Grow.trans F.keep g)⟩
    refine s_if F N (Te.and (Te.notInS (x := S "\r\n") (Ev.strAt (Ev.varS F nd65 0) (Ev.neg Ev.int) (fits_small (by omega) (by omega)) (by omega) (by omega)) Ev.str) (fun _ => Te.endswith (Ev.varS F nd65 2) (Ev.varS F nd65 1))) fun h tk F N => ?_
    have hsep : eol ≠ [] := List.length_pos_iff.mp (eol_pos he)
    rcases last_inter hsep ps hpne (by rw [← hx]; exact hne) with ⟨h1, p, hp', hpn', hl⟩ | ⟨h1, hl⟩
    · obtain ⟨c', hc⟩ : ∃ c, p.getLast? = some c := ⟨_, List.getLast?_eq_some_getLast hpn'⟩
      rw [← hx, hc] at hl
      have hr2 : tl D = res ++ tl mark := by
        rcases hres with h | h
        · rw [hD, h.2]
        · exfalso
          have := congrArg List.length h.1
          rw [h1] at this
          simp at this
      rw [item_last hl, (hp p hp').end_ hc, ends_tl hr2]
      have Wn : Wd w mg mb h := W.grow F.keep
      refine s_assign (i := 2) F N nd65 (Ev.slice0 (Ev.varS F nd65 2) (Ev.neg (Ev.lenS (Ev.blt Wn (glob_len w) boot_len (by decide +kernel)) (Ev.varS F nd65 1) (by omega))) (by omega)) ?_
      rintro v h tk ⟨t8, rfl⟩ F N
      refine wpAny_execs_nil (fin _ _ h tk ?_ F)
      have hlD : (tl D).length = res.length + mark.length := by rw [hr2, List.length_append, tl_length]
      rw [tl_slice_to_neg hm (by omega), hlD, Nat.add_sub_cancel, hr2, List.take_left]
    · have hr2 : tl D = res := by
        rcases hres with h | h
        · exfalso
          have := congrArg List.length h1
          rw [h.1] at this
          simp at this
        · rw [hD, h.2]
      rw [← hx] at hl
      have hne2 : (!!(occurrences (S "\r\n") (Txt.item x (-1)) 0 (S "\r\n").length 1).isEmpty) = false := by
        revert hl
        cases he with
        | lf => intro hl; rw [item_last (c := 10) hl, lf_end]; rfl
        | crlf => intro hl; rw [item_last (c := 10) hl, lf_end]; rfl
        | cr => intro hl; rw [item_last (c := 13) hl, cr_end]; rfl
      rw [hne2, Bool.false_and]
      exact wpAny_execs_nil (fin _ _ h tk hr2 F)
end
end Mine
end
section
open PySem PySem.W PyProof.Rows StrLaws Builtin.Str
set_option maxRecDepth 100000
set_option maxHeartbeats 0
namespace Mine
theorem glob_VE (w : World) : nsIn (KK w.params) mainGlobals (S "ValueError") = some none := by kernel_rfl
theorem boot_VE : bootBuiltins (S "ValueError") = some (.type "ValueError") := by kernel_rfl
section
variable {w : World} {A : Around} {s : Shared} {mg mb : Str → Option Value} {E Q : Value → Shared → Prop} {base : Heap} {outer : List Env}
/-- body_encode refuses a width below 4 -/
theorem enc_raises (W : Wd w mg mb s.heap) (hh : A.handled = none) (hroom : A.depth < recursionLimit) (K : Below A base outer s.heap) {x eol : Str} {t1 t2 t3 : Tok} {wd : Int} (hw : wd < 4)
    (k : ∀ e h' tk t vs, RaisedS base s.heap outer e (.type "ValueError") t vs [] h' → s.heap.UpToSlots h' → E (.ref e) { s with heap := h', toks := tk }) :
    wpAny (model pN w) A (call (.ref 57) [.str x t1, .int wd t2, .str eol t3]) Q E s := by
  refine wpAny_call (codeAny_call_def (fd := fnOf (S "body_encode") (S "body_encode") d57.1.1 d57.1.2.1 d57.1.2.2 (.ref 50) .none .none (.str ⟨#[99, 112, 121, 51, 49, 51, 46, 101, 109, 97, 105, 108, 46, 113, 117, 111, 112, 114, 105, 109, 105, 109, 101]⟩ 1234) none (.ref 56) .none) (body := d57.1.2.1) (binds := [(S "body", .str x t1), (S "maxlinelen", .int wd t2), (S "eol", .str eol t3)]) hroom (W.X _ _ (K57 w)) rfl W.T.nolimit (codeRec_of W.X (C56 w)) rfl (BindsTo.of_defaults (T := 50) rfl (W.X _ _ (K50 w)) rfl rfl rfl) (by decide) (locs rfl) (fun h₁ hns hk₁ => ?_))
  have F₁ : Fr s.heap s.heap.objs.size h₁ (mv ns57 [some (.str x t1), some (.int wd t2), some (.str eol t3), none, none, none, none, none, none, none, none, none, none]) := by
    rw [← show (fun y => List.lookup y ([(S "body", Value.str x t1), (S "maxlinelen", .int wd t2), (S "eol", .str eol t3)].reverse)) = mv ns57 [some (.str x t1), some (.int wd t2), some (.str eol t3), none, none, none, none, none, none, none, none, none, none] from mv_arg3 _ _ _ _ _ _ _ 10 (by decide +kernel) (by decide +kernel) (by decide +kernel)]
    exact ⟨hns, hk₁, Nat.le_refl _⟩
  refine wpAny_execs_cons (wpAny_If ?_)
  refine (Te.ltI (Ev.varI F₁ nd57 1) Ev.int) _ _ _ (Grow.refl _) fun h tk g => ?_
  rw [if_pos (decide_eq_true hw)]
  have F2 := Fr.grow F₁ g
  have Wn : Wd w mg mb h := W.grow F2.keep
  refine wpAny_execs_cons ?_
  refine Raise_madeB PySem.F.excCall_ValueError PySem.F.excRaise_ValueError hh ?_
  refine (Ev.blt Wn (glob_VE w) boot_VE (by decide +kernel)) _ _ _ (Grow.refl _) fun v h2 t2' hv g2 => ⟨hv, ?_⟩
  refine (Evs.cons Ev.str Evs.nil) _ _ _ _ g2 fun vs h3 t3' hvs g3 => ⟨by rw [hvs.len]; decide, fun h' e hx => ?_⟩
  have F3 := Fr.grow F2 (g2.trans g3)
  refine leave_raiseS (s' := { s with heap := h', toks := t3' }) K hx.of F3 News.nil fun h'' t R _ U => ?_
  exact k e h'' _ t vs R U
end
end Mine
end
section
open PySem PySem.W PyProof.Rows StrLaws Builtin.Str
set_option maxRecDepth 100000
set_option maxHeartbeats 0
namespace Mine
section
variable {w : World} {A₀ : Around} {s' : Shared} {mg mb : Str → Option Value} {base g G : Heap} {L a e t : Addr} {m : Str → Option Value} {name : Str} {scope : Scope} {cd : Value} {vs : List Value} {b₀ : Stmt} {suite : List Stmt} {pos np : Pos} {rest : List ExceptHandler} {Q : Flow → Shared → Prop} {O : List (Addr × Obj)}
theorem caughtL (R : RaisedS base G [envOf name scope L a cd] e (.type "ValueError") t vs [] s'.heap) (F : Fr g L G m) (N : News g L G O) (K : Below A₀ base [] g) (hsm : G.UpToSlots s'.heap) (W : Wd w mg mb g)
    (k : ∀ h', Fr g L h' m → News g L h' O → wpAny (model pN w) ((A₀.deeper (envOf name scope L a cd)).mark (some (.ref e))) (execs (b₀ :: suite) (envOf name scope L a cd)) Q No { s' with heap := h' })
    (hk : scope.kind = .function := by rfl) (hx : (envOf name scope L a cd).kindOf (S "ValueError") = some .globalImplicit := by rfl) (hd : (S "ValueError" == ("__debug__" : Str)) = false := by decide)
    (hE : PassesOwnAt (model pN w) ((A₀.deeper (envOf name scope L a cd)).mark (some (.ref e))) (A₀.deeper (envOf name scope L a cd)) (envOf name scope L a cd) No := by passes_own) :
    wpAny (model pN w) (A₀.deeper (envOf name scope L a cd)) (noteFrame (.ref e) (envOf name scope L a cd))
      (fun _ s₂ => wpAny (model pN w) (A₀.deeper (envOf name scope L a cd)) (setFlight (.ref e) none) (fun _ s₃ =>
        wpAny (model pN w) (A₀.deeper (envOf name scope L a cd)) (handleBy (.ref e) (envOf name scope L a cd) (.ExceptHandler (some (.Name (S "ValueError") np)) none (b₀ :: suite) pos :: rest)) Q No s₃) No s₂) No s' := by
  obtain ⟨⟨B, hB, hBG, hl, hfl, hnew⟩, htup⟩ := R
  have hLg : g.get? L = none := kts_self F
  have keepG : ∀ b o, G.get? b = some o → b ≠ L → B.get? b = some o := fun b o e hb => hBG b o e fun hm => by
    rcases kts_mem hm with z | z
    · exact hb z
    · exact nomatch z
  have grd : ∀ h₅ : Heap, B.StaysIn h₅ → G.UpToSlots h₅ → Fr g L h₅ m ∧ News g L h₅ O := fun h₅ st up =>
    ⟨⟨up.ns F.ns, fun b o e => st b o (keepG b o (F.keep b o e) fun q => by rw [q, hLg] at e; cases e), F.above⟩,
      fun p hp => ⟨st _ _ (keepG _ _ (N p hp).1 (N p hp).2.1), (N p hp).2⟩⟩
  refine wpAny_looks_onW (Around.frames_deeper K.stack) rfl hfl fun h₄ hheld₄ hsm₄ => ?_
  refine wpAny_landsW hheld₄ fun h₅ hheld hsm₅' => ?_
  have hsm₅ := hsm₄.trans hsm₅'
  obtain ⟨F₅, N₅⟩ := grd _ hheld.1 (hsm.trans hsm₅)
  obtain ⟨ob, hob, hobc⟩ := hheld.there
  refine wpAny_handleBy_builtin (X := "ValueError") (T := "ValueError") (b := true) (by rw [isSubtype_type]; kernel_rfl) (by rw [isSubtype_type]; kernel_rfl) (by rw [isSubtype_type]; kernel_rfl) (name_B F₅ W.X W.T (glob_VE w) boot_VE (by decide +kernel) ⟨rfl, ⟨ob, hob, hobc⟩, ?_⟩ hk hx hd)
  refine lands_againW hheld fun h₆ hfl₆ hsm₆ => ?_
  obtain ⟨F₆, N₆⟩ := grd _ hfl₆.1 ((hsm.trans hsm₅).trans hsm₆)
  exact wpAny_passesOwnAt hE (k h₆ F₆ N₆)
end
end Mine
end
section
open PySem PySem.W PyProof.Rows StrLaws Builtin.Str
set_option maxRecDepth 100000
set_option maxHeartbeats 0
namespace Mine
section
variable {prog : Program} {w : World} {A : Around} {env : Env} {h : Heap} {l r e o elt iter : PySem.Expr} {pos p ap px : Pos} {a b : Int} {x y n : Str} {scope : Scope}
theorem Ev.bool {c : Bool} {k : Nat} : Ev prog w A env h (.Constant (.bool c) k pos) (· = .bool c) := fun s Q E g k => Constant_bool (k _ s.heap _ rfl (Grow.refl _))
/-- a list comprehension over a list, no tests -/
theorem EvH.comp {ax : Addr} {items : Array Value} (F : Value → Value → Prop) (hh : A.handled = none) (hit : Ev prog w A env h iter (· = .ref ax)) (hl : h.IsList ax items) (hsz : items.size ≤ sizeLine)
    (helt : ∀ C h₂ m₂ v, v ∈ items → Grow h h₂ → h₂.Ns C m₂ → m₂ x = some v → Ev prog w A (compEnv scope C env) h₂ elt (F v))
    (hfree : ∀ y ∈ scope.names, y.2 ≠ .free := by decide) (hcell : ∀ y ∈ scope.names, y.2 ≠ .cell := by decide) (hkind : scope.kind = .function := by rfl) (hnames : ∀ y ∈ scope.names, y.2 = .local → scope.names.lookup y.1 = some .local := by decide) (hx : scope.names.lookup x = some .local := by rfl)
    (hs : ∀ x, foldedSetIterable iter env x = pure x := by intro _; rfl) :
    EvH prog w A env h (.ListComp elt [⟨.Name x px, iter, [], 0⟩] scope pos) (fun v h' => ∃ D ys, v = .ref D ∧ h'.IsList D ys ∧ Paired F items.toList ys.toList) := by
  intro s Q E g k
  refine wpAny_ListComp_map (fun _ => true) F hh hfree hcell hkind hnames hx (hit s _ _ g fun v h1 t1 hv g1 => ?_) hs
  subst hv
  have hl1 : h1.IsList ax items := hl.at fun o e => (g.trans g1) _ _ e
  refine ⟨ax, items, rfl, hl1, hsz, ?_, ?_, ?_⟩
  · intro C v s₂ m₂ E' hv hn hm hk
    exact wpAny_tests_nil ⟨rfl, s₂.heap, s₂.toks, rfl, fun _ _ e => e⟩
  · intro C v s₂ m₂ E' hv _ hn hm hk
    have g2 : Grow h s₂.heap := (g.trans g1).trans hk
    exact helt C s₂.heap m₂ v hv g2 hn hm s₂ _ _ (Grow.refl _) fun z h3 t3 hz g3 => ⟨hz, h3, t3, rfl, g3⟩
  · intro D h' tk ys hD hl' hP hk
    refine k _ h' tk ⟨D, ys, rfl, hl', ?_⟩ (g1.trans hk)
    rwa [List.filter_eq_self.mpr (fun _ _ => rfl)] at hP
theorem strs_of_paired {F : Value → Value → Prop} {f : Value → Str} : ∀ {l ys : List Value}, (∀ v ∈ l, ∀ y, F v y → IsS (f v) y) → Paired F l ys → StrsAre ys (l.map f)
  | _, _, _, .nil => .nil
  | _, _, hF, .cons h r => by
    obtain ⟨t, rfl⟩ := hF _ (by simp) _ h
    exact .cons _ t (strs_of_paired (fun v hv => hF v (by simp [hv])) r)
/-- the last item of a list -/
theorem Ev.listLast {D : Addr} {its : Array Value} {v : Value} (hs : Ev prog w A env h l (· = .ref D)) (hi : Ev prog w A env h r (IsI (-1))) (hl : h.IsList D its) (hv : its.toList.getLast? = some v)
    (hp : ∀ b u, subscripted r false (.ref b) (.int (-1) u) = operate [.ref b, .int (-1) u] (getItem (.ref b) (.int (-1) u)) := by intro _ _; rfl) (ht : ∀ z, letTemporaryGo l (.ref D) z = pure () := by intro _; rfl) : Ev prog w A env h (.Subscript l r pos) (· = v) :=
  fun s Q E g k => Subscript_ (hs s _ _ g fun u h1 t1 hu g1 => hi _ _ _ (g.trans g1) fun v' h2 t2 hv' g2 => by
    subst hu
    obtain ⟨t', rfl⟩ := hv'
    have hl2 : h2.IsList D its := hl.at fun o e => ((g.trans g1).trans g2) _ _ e
    have hpos : 0 < its.size := by
      cases hq : its.toList with
      | nil => rw [hq] at hv; cases hv
      | cons a b => have := congrArg List.length hq; simp at this; omega
    exact tail_any (s := { s with heap := h2, toks := t2 }) hl2.typeIs PySem.F.slot_list_getitem.lookup (wpAny_getItem_list_neg hl2 (by decide) (by omega) (by decide) (by
      rw [List.getLast?_eq_getElem?] at hv
      rw [← hv, ← Array.getElem?_toList]
      congr 1
      simp
      omega) (k v h2 t2 rfl (g1.trans g2))) (hp _ _))
end
section
variable {prog : Program} {w : World} {A : Around} {s : Shared} {h₀ : Heap} {L f : Addr} {cd : Value} {fname : Str} {scope : Scope} {ns : List Str} {vs : List (Option Value)} {O : List (Addr × Obj)} {Q : Flow → Shared → Prop} {n : Str} {pos p ap lp : Pos} {e o : PySem.Expr} {rest : List Stmt}
/-- o.append([]) -/
theorem s_appendNil {D : Addr} {its : Array Value} {k : Nat} {O' : Addr → List (Addr × Obj)} {m : Str → Option Value} (F : Fr h₀ L s.heap m) (N : News h₀ L s.heap O)
    (ho : Ev prog w A (envOf fname scope L f cd) s.heap o (· = .ref D)) (U : ∀ b, (∀ p ∈ O, p.1 ≠ b) → Upd D (listOf its k) (listOf (its.push (.ref b)) (k + 1)) ((b, listOf #[] 0) :: O) (O' b)) (hm : (D, listOf its k) ∈ O)
    (kk : ∀ b h' tk, (∀ p ∈ O, p.1 ≠ b) → Fr h₀ L h' m → News h₀ L h' (O' b) → wpAny (model prog w) A (execs rest (envOf fname scope L f cd)) Q No { s with heap := h', toks := tk })
    (hsz : its.size ≤ sizeLine)
    (hst : starEach [.List [] lp] (envOf fname scope L f cd) = (false, eval (.List [] lp) (envOf fname scope L f cd)) :: starEach [] (envOf fname scope L f cd) := by rfl) {pl : Sem Bool}
    (hmc : eval (.Call (.Attribute o (Str.ofString "append") ap) [.List [] lp] [] p) (envOf fname scope L f cd) = (do
      let ov ← eval o (envOf fname scope L f cd)
      standAt ap.atName
      let (f', first) ← holding [ov] (getMethod ov (Str.ofString "append") pl)
      callWith p f' first (backTo p (starEach [.List [] lp] (envOf fname scope L f cd))) []) := by rfl)
    (hin : interactive (envOf fname scope L f cd) = false := by rfl) (hsw : swapsWith (.Call (.Attribute o (Str.ofString "append") ap) [.List [] lp] [] p) none pos.line (envOf fname scope L f cd) = pure false := by rfl) :
    wpAny (model prog w) A (execs (.Expr (.Call (.Attribute o (Str.ofString "append") ap) [.List [] lp] [] p) pos :: rest) (envOf fname scope L f cd)) Q No s := by
  refine wpAny_execs_cons (wpAny_Expr_any (MethodCall_ ?_ hmc) hin hsw)
  refine ho s _ _ (Grow.refl _) fun u h1 t1 hu g1 => ?_
  subst hu
  have N1 := News.grow N g1
  have F1 := Fr.grow F g1
  refine getMethod_append_N (s := { s with heap := h1, toks := t1 }) N1 hm ?_
  refine callWith_method1 (spliced_more (Ev.list (h := h1) Evs.nil _ _ _ (Grow.refl _) (fun us b h2 t2 hus g2 hb hb2 => spliced_none ?_) (fun us hus => by rw [hus.len]; exact Nat.zero_le _)) hst) hst rfl
  cases hus
  have hne := new_ne (s := { s with heap := h1, toks := t1 }) (h' := h1) F1 hb
  have hOb : ∀ p ∈ O, p.1 ≠ b := fun p hp q => by have := (N1 p hp).1; rw [q, hb] at this; cases this
  have N2 : News h₀ L h2 ((b, listOf #[] 0) :: O) := fun p hp => (List.mem_cons.mp hp).elim (fun e => e ▸ ⟨hb2, hne⟩) (News.grow N1 g2 p)
  exact append_K (s := { s with heap := h2, toks := t2 }) (Fr.grow F1 g2) N2 (U b hOb) (fun h' F' N' => kk b h' t2 hOb F' N') hsz
end
end Mine
end
section
open PySem PySem.W PyProof.Rows StrLaws Builtin.Str
set_option maxRecDepth 100000
set_option maxHeartbeats 0
namespace Mine
theorem slice_clamp (items : Array Value) (a b : Nat) (hab : a ≤ b) : slicePick items (some a) (some b) none = ((items.toList.drop a).take (b - a)).toArray := by
  rw [slicePick_plain]
  simp only [Option.elim, clipAt_nat]
  congr 1
  rcases Nat.le_total a items.size with h | h
  · rw [Nat.min_eq_left h]
    rcases Nat.le_total b items.size with h2 | h2
    · rw [Nat.min_eq_left h2]
    · rw [Nat.min_eq_right h2, List.take_of_length_le (by simp), List.take_of_length_le (by simp; omega)]
  · rw [Nat.min_eq_right h, Nat.min_eq_right (Nat.le_trans h hab), List.drop_of_length_le (by simp), List.drop_of_length_le (by simpa using h)]; simp
section
variable {prog : Program} {w : World} {A : Around} {env : Env} {h : Heap} {l r e o : PySem.Expr} {pos p ap px : Pos}
/-- l != [] -/
theorem Te.neNil {ax : Addr} {items : Array Value} (hu : A.units < cLine) (hl : Ev prog w A env h l (· = .ref ax)) (hi : h.IsList ax items) : Te prog w A env h (.Compare l [.NotEq] [.List [] p] pos) (items.size != 0) :=
  fun s Q E g k => wpAny_isTrue_Compare1 (hl s _ _ g fun u h1 t1 hu' g1 => Ev.list (h := h1) Evs.nil _ _ _ (Grow.refl _) (fun us b h2 t2 hus g2 hb hb2 => by
    subst hu'
    cases hus
    have hl2 : h2.IsList ax items := hi.at fun o e => ((g.trans g1).trans g2) _ _ e
    have hb3 : h2.IsList b #[] := ⟨_, hb2, rfl, _, rfl⟩
    show wpAny _ _ (richCompare .NotEq (.ref ax) (.ref b)) _ _ _
    by_cases h0 : items.size = 0
    · have := SeqAt.RcNeAt.lists (A := A) (s := { s with heap := h2, toks := t2 }) (e := fun _ => true) hl2 hb3 (by simpa using h0) hu (fun j h1 _ => absurd h1 (by omega))
      rw [h0] at this
      exact this _ _ _ _ (wpAny_truthy_bool (by rw [show (items.size != 0) = false by simp [h0]] at k; exact k h2 t2 (g1.trans g2)))
    · have := SeqAt.RcNeAt.lists_lengths (A := A) (s := { s with heap := h2, toks := t2 }) hl2 hb3 (by simpa using h0) hu
      exact this _ _ _ _ (wpAny_truthy_bool (by rw [show (items.size != 0) = true by simpa using h0] at k; exact k h2 t2 (g1.trans g2)))) (fun us hus => by rw [hus.len]; exact Nat.zero_le _)) rfl
/-- xs[a:b] of a list -/
theorem EvH.slice {ax : Addr} {items : Array Value} {a b : Nat} {p2 : Pos} (hs : Ev prog w A env h e (· = .ref ax)) (hi : Ev prog w A env h l (IsI (a : Nat))) (hj : Ev prog w A env h r (IsI (b : Nat))) (hl : h.IsList ax items) (hab : a ≤ b) (hz : items.size ≤ sizeLine)
    (hp : ∀ c d, subscripted (.Slice (some l) (some r) none p2) false (.ref d) (.ref c) = operate [.ref c, .ref d] (getItem (.ref d) (.ref c)) := by intro _ _; rfl) (ht : ∀ d z, letTemporaryGo e (.ref d) z = pure () := by intro _ _; rfl) :
    EvH prog w A env h (.Subscript e (.Slice (some l) (some r) none p2) pos) (fun v h' => ∃ D, v = .ref D ∧ h'.get? D = some (listOf ((items.toList.drop a).take (b - a)).toArray 0) ∧ h.get? D = none) :=
  fun s Q E g k => Subscript_ (hs s _ _ g fun u h1 t1 hu g1 => wpAny_Slice (evalPart_some_step (hi _ _ _ (g.trans g1) fun v h2 t2 hv g2 => evalPart_some_step (hj _ _ _ ((g.trans g1).trans g2) fun v' h3 t3 hv' g3 => by
    subst hu; obtain ⟨t', rfl⟩ := hv; obtain ⟨t'', rfl⟩ := hv'
    refine wpAny_pure ?_
    have g4 := (g1.trans g2).trans g3
    have hl3 : h3.IsList ax items := hl.at fun o e => (g.trans g4) _ _ e
    refine slice_listK (s := { s with heap := h3, toks := t3 }) hl3 (.int _ _) (.int _ _) ?_ (hp _ _) (ht _) hz
    rw [slice_clamp _ _ _ hab]
    refine k _ _ _ ⟨_, rfl, ?_, ?_⟩ ((g4.trans (Grow.push _ _)).trans (Grow.push _ _))
    · rw [show h3.objs.size + 1 = (h3.push { cls := .type "slice", data := .fields #[.int (a : Nat) t', .int (b : Nat) t'', .none] }).objs.size from (Heap.size_push ..).symm]
      exact Heap.get?_push_size _ rfl
    · cases hq : h.get? (h3.objs.size + 1) with
      | none => rfl
      | some o => exact absurd (Heap.lt_size ((g.trans g4) _ _ hq)) (Nat.not_lt.mpr (Nat.le_succ _))))))
end
end Mine
end
section
open PySem PySem.W PyProof.Rows StrLaws Builtin.Str
set_option maxRecDepth 100000
set_option maxHeartbeats 0
namespace Mine
/-- a row's text in the mail: b breaks, each behind v signs -/
def rowT (v : Nat) (eol : List Nat) : Nat → List Nat → List Nat
  | 0, l => l
  | b + 1, l => l.take v ++ (61 :: eol) ++ rowT v eol b (l.drop v)
theorem inter_map (eol : List Nat) (x : List Nat) {xs : List (List Nat)} (h : xs ≠ []) : List.intercalate eol (x :: xs) = x ++ eol ++ List.intercalate eol xs := by
  cases xs with
  | nil => exact absurd rfl h
  | cons q r => exact inter_cons eol x q r
theorem pieces_rowT (v : Nat) (eol : List Nat) : ∀ (b : Nat) (l : List Nat), List.intercalate eol ((List.range b).map (fun j => (l.drop (j * v)).take v ++ [61]) ++ [l.drop (b * v)]) = rowT v eol b l
  | 0, l => by simp [rowT, inter_one]
  | b + 1, l => by
    have e : (List.range (b + 1)).map (fun j => (l.drop (j * v)).take v ++ [61]) ++ [l.drop ((b + 1) * v)] = (l.take v ++ [61]) :: ((List.range b).map (fun j => ((l.drop v).drop (j * v)).take v ++ [61]) ++ [(l.drop v).drop (b * v)]) := by
      rw [List.range_succ_eq_map, List.map_cons, List.map_map, List.cons_append]
      congr 1
      · simp
      · congr 1
        · apply List.map_congr_left
          intro j _
          show (l.drop ((j + 1) * v)).take v ++ [61] = _
          rw [List.drop_drop, Nat.succ_mul, Nat.add_comm]
        · rw [List.drop_drop, Nat.succ_mul, Nat.add_comm]
    rw [e, inter_map _ _ (by simp), pieces_rowT v eol b (l.drop v)]
    simp [rowT]
theorem rowT_len {v : Nat} {eol : List Nat} : ∀ {b : Nat} {l : List Nat}, b * v ≤ l.length → (rowT v eol b l).length = l.length + b * (1 + eol.length)
  | 0, l, _ => by simp [rowT]
  | b + 1, l, h => by
    rw [Nat.succ_mul] at h
    rw [rowT, List.length_append, List.length_append, rowT_len (b := b) (by rw [List.length_drop]; omega), List.length_take, List.length_drop, List.length_cons, Nat.succ_mul]
    omega
/-- where a sign stands -/
theorem rowT_sign {v : Nat} (hv : 0 < v) {eol : List Nat} : ∀ {b : Nat} {l : List Nat}, b * v ≤ l.length → ∀ {i : Nat}, i < l.length → (rowT v eol b l)[i + (1 + eol.length) * min (i / v) b]? = l[i]?
  | 0, l, _, i, hi => by simp [rowT]
  | b + 1, l, h, i, hi => by
    rw [Nat.succ_mul] at h
    rw [rowT]
    by_cases hiv : i < v
    · rw [Nat.div_eq_of_lt hiv, Nat.zero_min, Nat.mul_zero, Nat.add_zero, List.append_assoc, List.getElem?_append_left (by rw [List.length_take]; omega), List.getElem?_take_of_lt hiv]
    · have hd : i / v = (i - v) / v + 1 := by rw [← Nat.div_eq_sub_div hv (by omega)]
      have hm : min (i / v) (b + 1) = min ((i - v) / v) b + 1 := by rw [hd]; omega
      rw [hm, Nat.mul_succ, List.getElem?_append_right (by rw [List.length_append, List.length_take, List.length_cons]; omega)]
      have hl : (l.take v ++ 61 :: eol).length = v + (1 + eol.length) := by rw [List.length_append, List.length_take, List.length_cons]; omega
      rw [hl]
      have e : i + ((1 + eol.length) * min ((i - v) / v) b + (1 + eol.length)) - (v + (1 + eol.length)) = (i - v) + (1 + eol.length) * min ((i - v) / v) b := by omega
      rw [e, rowT_sign hv (b := b) (by rw [List.length_drop]; omega) (i := i - v) (by rw [List.length_drop]; omega), List.getElem?_drop]
      congr 1; omega
/-- where a break stands -/
theorem rowT_brk {v : Nat} {eol : List Nat} : ∀ {b : Nat} {l : List Nat}, b * v ≤ l.length → ∀ {k : Nat}, k < b → ((rowT v eol b l).drop ((k + 1) * v + k * (1 + eol.length))).take (1 + eol.length) = 61 :: eol
  | 0, l, _, k, hk => absurd hk (Nat.not_lt_zero _)
  | b + 1, l, h, 0, hk => by
    rw [Nat.succ_mul] at h
    rw [rowT, Nat.zero_mul, Nat.add_zero, Nat.one_mul, List.append_assoc, List.drop_append_of_le_length (by rw [List.length_take]; omega), List.drop_of_length_le (by rw [List.length_take]; omega), List.nil_append, List.take_append_of_le_length (by rw [List.length_cons]; omega), List.take_of_length_le (by rw [List.length_cons]; omega)]
  | b + 1, l, h, k + 1, hk => by
    rw [Nat.succ_mul] at h
    have hl : (l.take v ++ 61 :: eol).length = v + (1 + eol.length) := by rw [List.length_append, List.length_take, List.length_cons]; omega
    rw [rowT, show (k + 1 + 1) * v + (k + 1) * (1 + eol.length) = (l.take v ++ 61 :: eol).length + ((k + 1) * v + k * (1 + eol.length)) by rw [hl, Nat.succ_mul (k + 1) v, Nat.succ_mul k (1 + eol.length)]; omega]
    rw [← List.drop_drop, List.drop_left]
    exact rowT_brk (b := b) (by rw [List.length_drop]; omega) (by omega)
end Mine
end
section
open PySem PySem.W PyProof.Rows StrLaws Builtin.Str
set_option maxRecDepth 100000
set_option maxHeartbeats 0
namespace Mine
theorem inter_app (sep : List Nat) : ∀ {a b : List (List Nat)}, a ≠ [] → b ≠ [] → List.intercalate sep (a ++ b) = List.intercalate sep a ++ sep ++ List.intercalate sep b
  | [], _, h, _ => absurd rfl h
  | [p], b, _, hb => by rw [List.singleton_append, inter_map _ _ hb, inter_one]
  | p :: q :: r, b, _, hb => by
    rw [List.cons_append, inter_map _ _ (by simp), inter_app sep (a := q :: r) (by simp) hb, inter_cons]
    simp
theorem pieces_ne (W : Nat) (l : List Nat) : pieces W l ≠ [] := by simp [pieces]
/-- the mail, row by row -/
theorem inter_rows (W : Nat) (eol : List Nat) : ∀ {rows : List (List Nat)}, rows ≠ [] → List.intercalate eol (rows.flatMap (pieces W)) = List.intercalate eol (rows.map fun l => rowT (W - 1) eol (brk W l.length) l)
  | [], h => absurd rfl h
  | [l], _ => by
    rw [List.flatMap_cons, List.flatMap_nil, List.append_nil, List.map_cons, List.map_nil, inter_one]
    exact pieces_rowT (W - 1) eol (brk W l.length) l
  | l :: q :: r, _ => by
    rw [List.flatMap_cons, inter_app eol (pieces_ne W l) (by simp [pieces_ne]), inter_rows W eol (rows := q :: r) (by simp), List.map_cons (a := l), inter_map _ _ (by simp),
      show List.intercalate eol (pieces W l) = rowT (W - 1) eol (brk W l.length) l from pieces_rowT (W - 1) eol (brk W l.length) l]
theorem brk_mul (W n : Nat) : brk W n * (W - 1) ≤ n - 2 := Nat.div_mul_le_self _ _
theorem sg_get {l : List Nat} (h : ∀ c ∈ l, c ∈ sgL) {i c : Nat} (e : l[i]? = some c) : c ∈ sgL := h c (List.mem_of_getElem? e)
theorem pieces_pc {W : Nat} {l : List Nat} (h : ∀ c ∈ l, c ∈ sgL) : ∀ p ∈ pieces W l, Pc p := by
  intro p hp
  unfold pieces at hp
  rcases List.mem_append.mp hp with hp | hp
  · obtain ⟨j, _, rfl⟩ := List.mem_map.mp hp
    refine ⟨fun i c e => ?_⟩
    unfold pieceW at e ⊢
    by_cases hi : i < ((l.drop (j * (W - 1))).take (W - 1)).length
    · rw [List.getElem?_append_left hi] at e
      have := List.mem_of_getElem? e
      exact .inl (h c (List.mem_of_mem_drop (List.mem_of_mem_take this)))
    · rw [List.getElem?_append_right (by omega)] at e
      have h0 : i - ((l.drop (j * (W - 1))).take (W - 1)).length = 0 := by
        have := (List.getElem?_eq_some_iff.mp e).1
        simp at this
        simp
        omega
      rw [h0] at e
      right
      rw [List.length_append]
      simp at e ⊢
      simp at hi h0
      exact ⟨e.symm, by omega⟩
  · rw [List.mem_singleton.mp hp]
    exact ⟨fun i c e => .inl (h c (List.mem_of_mem_drop (List.mem_of_getElem? e)))⟩
/-- what decode makes of a row -/
theorem dec_rowN (v : Nat) (hv : 0 < v) (mark : List Nat) : ∀ (b : Nat) (l : List Nat), (∀ c ∈ l, c ∈ sgL) → l ≠ [] → b * v < l.length → ((List.range b).map (fun j => (l.drop (j * v)).take v ++ [61]) ++ [l.drop (b * v)]).flatMap (dec1 mark) = l ++ mark
  | 0, l, h, hne, _ => by
    have hl : l.getLast? ≠ some 61 := fun e => (sg_of (h 61 (List.mem_of_getLast? e))).ne rfl
    simp only [List.range_zero, List.map_nil, List.nil_append, Nat.zero_mul, List.drop_zero, List.flatMap_cons, List.flatMap_nil, List.append_nil]
    unfold dec1
    rw [if_neg hne, if_neg hl]
  | b + 1, l, h, hne, hb => by
    rw [Nat.succ_mul] at hb
    have e : (List.range (b + 1)).map (fun j => (l.drop (j * v)).take v ++ [61]) ++ [l.drop ((b + 1) * v)] = (l.take v ++ [61]) :: ((List.range b).map (fun j => ((l.drop v).drop (j * v)).take v ++ [61]) ++ [(l.drop v).drop (b * v)]) := by
      rw [List.range_succ_eq_map, List.map_cons, List.map_map, List.cons_append]
      congr 1
      · simp
      · congr 1
        · apply List.map_congr_left
          intro j _
          show (l.drop ((j + 1) * v)).take v ++ [61] = _
          rw [List.drop_drop, Nat.succ_mul, Nat.add_comm]
        · rw [List.drop_drop, Nat.succ_mul, Nat.add_comm]
    have hd : l.drop v ≠ [] := fun q => by have := congrArg List.length q; rw [List.length_drop] at this; simp at this; omega
    rw [e, List.flatMap_cons, dec_rowN v hv mark b (l.drop v) (fun c hc => h c (List.mem_of_mem_drop hc)) hd (by rw [List.length_drop]; omega)]
    have : dec1 mark (l.take v ++ [61]) = l.take v := by unfold dec1; simp
    rw [this, ← List.append_assoc, List.take_append_drop]
theorem dec_row {W : Nat} (hW : 4 ≤ W) {l mark : List Nat} (h : ∀ c ∈ l, c ∈ sgL) : (pieces W l).flatMap (dec1 mark) = l ++ mark := by
  by_cases h0 : l = []
  · subst h0; simp [pieces, brk, dec1]
  · have hl : 0 < l.length := List.length_pos_iff.mpr h0
    refine dec_rowN (W - 1) (by omega) mark _ l h h0 ?_
    have := brk_mul W l.length
    by_cases h2 : l.length ≤ 2
    · have : brk W l.length = 0 := by unfold brk; rw [show l.length - 2 = 0 by omega]; simp
      rw [this]; omega
    · omega
theorem dec_rows {W : Nat} (hW : 4 ≤ W) {mark : List Nat} : ∀ {rows : List (List Nat)}, (∀ r ∈ rows, ∀ c ∈ r, c ∈ sgL) → (rows.flatMap (pieces W)).flatMap (dec1 mark) = rows.flatMap (· ++ mark)
  | [], _ => rfl
  | l :: r, h => by rw [List.flatMap_cons, List.flatMap_append, dec_row hW (h l (by simp)), dec_rows hW (fun q hq => h q (by simp [hq])), List.flatMap_cons]
theorem marks_inter (mark : List Nat) : ∀ {rows : List (List Nat)}, rows ≠ [] → rows.flatMap (· ++ mark) = List.intercalate mark rows ++ mark
  | [], h => absurd rfl h
  | [l], _ => by simp [inter_one]
  | l :: q :: r, _ => by rw [List.flatMap_cons, marks_inter mark (rows := q :: r) (by simp), inter_cons]; simp
theorem trimL_snoc_nil : ∀ (a : List (List Nat)), trimL (a ++ [[]]) = a
  | [] => rfl
  | [p] => rfl
  | p :: q :: r => by show p :: trimL (q :: r ++ [[]]) = _; rw [trimL_snoc_nil (q :: r)]
theorem trimL_snoc {x : List Nat} (hx : x ≠ []) : ∀ (a : List (List Nat)), trimL (a ++ [x]) = a ++ [x]
  | [] => by unfold trimL; simp [hx]
  | [p] => by show p :: trimL [x] = _; unfold trimL; simp [hx]
  | p :: q :: r => by show p :: trimL (q :: r ++ [x]) = _; rw [trimL_snoc hx (q :: r)]; rfl
/-- what decode gives of the mail -/
theorem dec_mail {W : Nat} (hW : 4 ≤ W) {mark : List Nat} {rows : List (List Nat)} (hne : rows ≠ []) (h1 : rows ≠ [[]]) (h : ∀ r ∈ rows, ∀ c ∈ r, c ∈ sgL) :
    (trimL (rows.flatMap (pieces W)) = rows.flatMap (pieces W) ∧ (trimL (rows.flatMap (pieces W))).flatMap (dec1 mark) = List.intercalate mark rows ++ mark) ∨ (rows.flatMap (pieces W) = trimL (rows.flatMap (pieces W)) ++ [[]] ∧ (trimL (rows.flatMap (pieces W))).flatMap (dec1 mark) = List.intercalate mark rows) := by
  obtain ⟨a, l, rfl⟩ : ∃ a l, rows = a ++ [l] := ⟨rows.dropLast, rows.getLast hne, (List.dropLast_concat_getLast hne).symm⟩
  have hsplit : (a ++ [l]).flatMap (pieces W) = (a.flatMap (pieces W) ++ (List.range (brk W l.length)).map (pieceW W l)) ++ [l.drop (brk W l.length * (W - 1))] := by
    rw [List.flatMap_append, List.append_assoc]; simp [pieces]
  by_cases h0 : l = []
  · subst h0
    have e : (a ++ [[]]).flatMap (pieces W) = a.flatMap (pieces W) ++ [[]] := by rw [List.flatMap_append]; simp [pieces, brk]
    have ha : a ≠ [] := fun q => h1 (by rw [q]; rfl)
    right
    rw [e, trimL_snoc_nil]
    refine ⟨rfl, ?_⟩
    rw [dec_rows hW (fun r hr => h r (by simp [hr])), marks_inter mark ha, inter_app mark ha (by simp), inter_one, List.append_nil]
  · have hl : 0 < l.length := List.length_pos_iff.mpr h0
    have hd : l.drop (brk W l.length * (W - 1)) ≠ [] := fun q => by
      have := congrArg List.length q
      rw [List.length_drop] at this
      have hb := brk_mul W l.length
      simp at this
      by_cases h2 : l.length ≤ 2
      · have hz : brk W l.length = 0 := by unfold brk; rw [show l.length - 2 = 0 by omega]; simp
        rw [hz] at this; omega
      · omega
    left
    have ht : trimL ((a ++ [l]).flatMap (pieces W)) = (a ++ [l]).flatMap (pieces W) := by rw [hsplit, trimL_snoc hd]
    rw [ht]
    exact ⟨rfl, by rw [dec_rows hW h, marks_inter mark hne]⟩
end Mine
end
section
open PySem PySem.W PyProof.Rows StrLaws Builtin.Str
set_option maxRecDepth 100000
set_option maxHeartbeats 0
namespace Mine
/-- a mode's ten signs -/
def sgs (m : Int) : List Nat := tl (sigs m 3)
theorem sgs_len (m : Int) : (sgs m).length = 10 := by unfold sgs; rw [tl_length, sigs_len]
theorem tb_sg : TB.all (fun x => x.2.all fun p => (tl p.c).all fun c => sgL.contains c) = true := by decide +kernel
theorem pick_sg (j : Nat) (m : Int) : ∀ (ps : List Pr), (∀ p ∈ ps, ∀ c ∈ tl p.c, c ∈ sgL) → ∀ c ∈ tl (pick j m ps), c ∈ sgL
  | [], _, c, hc => by
    unfold pick at hc
    split at hc
    · have : (tl (S "?")).all (fun c => sgL.contains c) = true := by decide +kernel
      exact List.contains_iff_mem.mp (List.all_eq_true.mp this c hc)
    · have : (tl (S "-")).all (fun c => sgL.contains c) = true := by decide +kernel
      exact List.contains_iff_mem.mp (List.all_eq_true.mp this c hc)
  | p :: r, h, c, hc => by
    unfold pick at hc
    split at hc
    · exact h p (by simp) c hc
    · exact pick_sg j m r (fun q hq => h q (by simp [hq])) c hc
theorem picks_sg (m : Int) : ∀ j, ∀ x ∈ picks m j, ∀ c ∈ tl x, c ∈ sgL
  | 0, x, hx, c, hc => nomatch hx
  | j + 1, x, hx, c, hc => by
    unfold picks at hx
    rcases List.mem_append.mp hx with hx | hx
    · exact picks_sg m j x hx c hc
    · rw [List.mem_singleton.mp hx] at hc
      refine pick_sg j m _ (fun p hp c hc => ?_) c hc
      cases hq : TB[j]? with
      | none => unfold rowAt at hp; rw [List.getD_eq_getElem?_getD, hq] at hp; exact nomatch hp
      | some x =>
        rw [rowAt_eq hq] at hp
        exact List.contains_iff_mem.mp (List.all_eq_true.mp (List.all_eq_true.mp (List.all_eq_true.mp tb_sg x (List.mem_of_getElem? hq)) p hp) c hc)
theorem sgs_sg {m : Int} (h : 0 ≤ m) : ∀ c ∈ sgs m, c ∈ sgL := by
  intro c hc
  unfold sgs at hc
  rw [← mode_sigs h, join0] at hc
  obtain ⟨l, hl, hcl⟩ := List.mem_flatten.mp hc
  obtain ⟨x, hx, rfl⟩ := List.mem_map.mp hl
  exact picks_sg m 10 x hx c hcl
/-- a row's signs -/
def rowS (ms : List Int) : List Nat := ms.flatMap sgs
theorem rowS_len (ms : List Int) : (rowS ms).length = 10 * ms.length := by
  induction ms with
  | nil => rfl
  | cons m r ih =>
    show (sgs m ++ rowS r).length = _
    rw [List.length_append, sgs_len, ih, List.length_cons]; omega
theorem rowS_sg {ms : List Int} (h : ∀ m ∈ ms, 0 ≤ m) : ∀ c ∈ rowS ms, c ∈ sgL := by
  intro c hc
  obtain ⟨m, hm, hc⟩ := List.mem_flatMap.mp hc
  exact sgs_sg (h m hm) c hc
/-- the listing's rows, by the script -/
def modeOf (x : Int) : Int := Int.fmod (Int.fmod (Int.fdiv x 4) 1048576 * 40503) 1048576
def rowStep (R : List (List Int)) (x : Int) : List (List Int) := if Int.fmod x 4 = 0 then R ++ [[]] else R.dropLast ++ [R.getLastD [] ++ [modeOf x]]
structure RowsOk (R : List (List Int)) (i : Nat) : Prop where
  len : R.length ≤ 1 + i
  ne : R ≠ []
  head : R.head? ≠ some []
  nn : ∀ r ∈ R, ∀ m ∈ r, 0 ≤ m
  short : ∀ r ∈ R, r.length ≤ 2 + i
theorem rows0 : RowsOk [[16877, 35305]] 0 := ⟨by decide, by decide, by decide, by decide, by decide⟩
theorem rowsStep {R : List (List Int)} {i : Nat} (h : RowsOk R i) (x : Int) : RowsOk (rowStep R x) (i + 1) := by
  unfold rowStep
  split
  · refine ⟨by rw [List.length_append]; have := h.len; simp; omega, by simp, ?_, ?_, ?_⟩
    · intro q
      cases hR : R with
      | nil => exact h.ne hR
      | cons a b => rw [hR] at q; simp at q; exact h.head (by rw [hR, q]; rfl)
    · intro r hr m hm
      rcases List.mem_append.mp hr with hr | hr
      · exact h.nn r hr m hm
      · rw [List.mem_singleton.mp hr] at hm; exact nomatch hm
    · intro r hr
      rcases List.mem_append.mp hr with hr | hr
      · have := h.short r hr; omega
      · rw [List.mem_singleton.mp hr]; simp
  · obtain ⟨a, l, rfl⟩ : ∃ a l, R = a ++ [l] := ⟨R.dropLast, R.getLast h.ne, (List.dropLast_concat_getLast h.ne).symm⟩
    have e1 : (a ++ [l]).dropLast = a := by simp
    have e2 : (a ++ [l]).getLastD [] = l := by rw [List.getLastD_eq_getLast?]; simp
    rw [e1, e2]
    refine ⟨by have := h.len; simp at this ⊢; omega, by simp, ?_, ?_, ?_⟩
    · cases a with
      | nil => simp
      | cons p q => have := h.head; simpa using this
    · intro r hr m hm
      rcases List.mem_append.mp hr with hr | hr
      · exact h.nn r (by simp [hr]) m hm
      · rw [List.mem_singleton.mp hr] at hm
        rcases List.mem_append.mp hm with hm | hm
        · exact h.nn l (by simp) m hm
        · rw [List.mem_singleton.mp hm]; exact (fmod_bounds _ (by decide)).1
    · intro r hr
      rcases List.mem_append.mp hr with hr | hr
      · have := h.short r (by simp [hr]); omega
      · rw [List.mem_singleton.mp hr, List.length_append]
        have := h.short l (by simp); simp; omega
end Mine
end
section
open PySem PySem.W PyProof.Rows StrLaws Builtin.Str
set_option maxRecDepth 100000
set_option maxHeartbeats 0
namespace Mine
section
variable {prog : Program} {w : World} {A : Around} {env : Env} {h : Heap} {l r e o : PySem.Expr} {pos p ap px : Pos}
/-- an item of a list -/
theorem Ev.listIdx {D : Addr} {its : Array Value} {v : Value} {a : Nat} (hs : Ev prog w A env h l (· = .ref D)) (hi : Ev prog w A env h r (IsI (a : Nat))) (hl : h.IsList D its) (hv : its[a]? = some v) (ha : a < 2 ^ 62)
    (hp : ∀ b u, subscripted r false (.ref b) (.int (a : Nat) u) = operate [.ref b, .int (a : Nat) u] (getItem (.ref b) (.int (a : Nat) u)) := by intro _ _; rfl) (ht : ∀ z, letTemporaryGo l (.ref D) z = pure () := by intro _; rfl) : Ev prog w A env h (.Subscript l r pos) (· = v) :=
  fun s Q E g k => Subscript_ (hs s _ _ g fun u h1 t1 hu g1 => hi _ _ _ (g.trans g1) fun v' h2 t2 hv' g2 => by
    subst hu
    obtain ⟨t', rfl⟩ := hv'
    have hl2 : h2.IsList D its := hl.at fun o e => ((g.trans g1).trans g2) _ _ e
    exact tail_any (s := { s with heap := h2, toks := t2 }) hl2.typeIs PySem.F.slot_list_getitem.lookup (wpAny_getItem_list hl2 (by omega) (by omega) (by simpa using hv) (k v h2 t2 rfl (g1.trans g2))) (hp _ _))
end
abbrev dL : {x : Arguments × List Stmt × Scope // fdOf 46 = some x} := ⟨(_, _, _), rfl⟩
abbrev nsL : List Str := [S "script", S "first", S "width", S "eol", S "mark", S "rows", S "x", S "body", S "refused", S "mail", S "step", S "at", S "plain", S "row", S "signs", S "size", S "breaks", S "i", S "there", S "k"]
theorem ndL : nsL.Nodup := by decide +kernel
theorem glob_abs (w : World) : nsIn (KK w.params) mainGlobals (S "abs") = some none := by kernel_rfl
theorem boot_abs : bootBuiltins (S "abs") = some (.builtin "abs") := by kernel_rfl
theorem glob_min (w : World) : nsIn (KK w.params) mainGlobals (S "min") = some none := by kernel_rfl
theorem boot_min : bootBuiltins (S "min") = some (.builtin "min") := by kernel_rfl
theorem glob_mode (w : World) : nsIn (KK w.params) mainGlobals (S "filemode") = some (some (.ref 112)) := by kernel_rfl
theorem glob_signs (w : World) : nsIn (KK w.params) mainGlobals (S "_law_signs") = some (some (.ref 119)) := by kernel_rfl
theorem glob_enc (w : World) : nsIn (KK w.params) mainGlobals (S "body_encode") = some (some (.ref 57)) := by kernel_rfl
theorem glob_dec (w : World) : nsIn (KK w.params) mainGlobals (S "decode") = some (some (.ref 65)) := by kernel_rfl
theorem unitsL (env : Env) : (callerA.deeper env).units < cLine := by
  have : (callerA.deeper env).units = (callerA.deeper env).units := rfl
  show _ < _
  first | exact Nat.le_of_ble_eq_true rfl | (unfold cLine; exact Nat.le_of_ble_eq_true rfl)
theorem roomL (env : Env) : (callerA.deeper env).depth + 1 < recursionLimit := by
  first | exact Nat.le_of_ble_eq_true rfl | (unfold recursionLimit; exact Nat.le_of_ble_eq_true rfl)
end Mine
end
section
open PySem PySem.W PyProof.Rows StrLaws Builtin.Str
set_option maxRecDepth 100000
set_option maxHeartbeats 0
namespace Mine
section
variable {prog : Program} {w : World} {A : Around} {s : Shared} {h₀ : Heap} {L f : Addr} {cd : Value} {fname : Str} {scope : Scope} {ns : List Str} {vs : List (Option Value)} {O : List (Addr × Obj)} {Q : Flow → Shared → Prop} {x n : Str} {pos p ap lp lp2 : Pos} {e o : PySem.Expr} {rest : List Stmt}
/-- x = [[..]] -/
theorem s_assignLL {es : List PySem.Expr} {Vs : List (Value → Prop)} (F : Fr h₀ L s.heap (mv ns vs)) (N : News h₀ L s.heap O) (hn : ns.Nodup) (i : Nat) (hes : Evs prog w A (envOf fname scope L f cd) s.heap es Vs) (hsz : Vs.length ≤ 1000)
    (k : ∀ us a b h' tk, All2 Vs us → Fr h₀ L h' (mv ns (vs.set i (some (.ref a)))) → News h₀ L h' ((a, listOf #[.ref b] 0) :: (b, listOf us.toArray 0) :: O) → (∀ p ∈ O, p.1 ≠ a ∧ p.1 ≠ b) → a ≠ b → wpAny (model prog w) A (execs rest (envOf fname scope L f cd)) Q No { s with heap := h', toks := tk })
    (hi : ns[i]? = some x := by rfl) (hlen : i < vs.length := by exact Nat.le_of_ble_eq_true rfl)
    (hst : starEach [.List es lp2] (envOf fname scope L f cd) = (false, eval (.List es lp2) (envOf fname scope L f cd)) :: starEach [] (envOf fname scope L f cd) := by rfl)
    (hsw : swapsWith (.List [.List es lp2] lp) (some (.Name x p)) pos.line (envOf fname scope L f cd) = pure false := by rfl) (hk : scope.kind = .function := by rfl) (hl : (envOf fname scope L f cd).kindOf x = some .local := by rfl) :
    wpAny (model prog w) A (execs (.Assign [.Name x p] (.List [.List es lp2] lp) pos :: rest) (envOf fname scope L f cd)) Q No s := by
  refine wpAny_execs_cons (wpAny_Assign_Name (List_ (spliced_more (Ev.list hes s _ _ (Grow.refl _) (fun us b h1 t1 hus g hb hb1 => spliced_none ?_) (fun us hus => by rw [hus.len]; exact Nat.le_trans hsz (by decide))) hst)) hsw)
  refine wpAny_newObj_type ?_ (by show [Value.ref b].toArray.size ≤ sizeLine; rw [sizeLine_eq]; exact Nat.le_of_ble_eq_true rfl)
  have F1 := Fr.grow F g
  have N1 := News.grow N g
  have hne := new_ne (h' := h1) F hb
  have hOb : ∀ p ∈ O, p.1 ≠ b := fun p hp q => by have := (N p hp).1; rw [q, hb] at this; cases this
  have hnew : h1.get? h1.objs.size = none := by
    cases hq : h1.get? h1.objs.size with
    | none => rfl
    | some o => exact absurd (Heap.lt_size hq) (Nat.lt_irrefl _)
  have hne2 := new_ne (s := { s with heap := h1, toks := t1 }) (h' := h1) F1 hnew
  have g2 : Grow h1 (h1.push (listOf #[.ref b] 0)) := Grow.push _ _
  have N2 : News h₀ L (h1.push (listOf #[.ref b] 0)) ((h1.objs.size, listOf #[.ref b] 0) :: (b, listOf us.toArray 0) :: O) := fun p hp => by
    rcases List.mem_cons.mp hp with rfl | hp
    · exact ⟨Heap.get?_push_size _ rfl, hne2⟩
    rcases List.mem_cons.mp hp with rfl | hp
    · exact ⟨g2 _ _ hb1, hne⟩
    · exact News.grow N1 g2 p hp
  exact stN (Fr.grow F1 g2) N2 (fun h' F' N' => k us _ b h' _ hus (mv_set hn hi hlen ▸ F') N' (fun p hp => ⟨Nat.ne_of_lt (Heap.lt_size (N1 p hp).1), hOb p hp⟩) (Nat.ne_of_gt (Heap.lt_size hb1))) hk hl
end
end Mine
end
section
open PySem PySem.W PyProof.Rows StrLaws Builtin.Str
set_option maxRecDepth 100000
set_option maxHeartbeats 0
namespace Mine
section
variable {prog : Program} {w : World} {A : Around} {s : Shared} {h₀ : Heap} {L f : Addr} {cd : Value} {fname : Str} {scope : Scope} {ns : List Str} {vs : List (Option Value)} {O : List (Addr × Obj)} {Q : Flow → Shared → Prop} {x n : Str} {pos p px ap lp lp2 : Pos} {e o : PySem.Expr} {rest body : List Stmt}
/-- for x in e, e a new list -/
theorem s_for_new {items : Array Value} (hh : A.handled = none) (F : Fr h₀ L s.heap (mv ns vs)) (N : News h₀ L s.heap O) (hn : ns.Nodup) (ix : Nat) (J : Nat → List (Option Value) → List (Addr × Obj) → Prop)
    (he : EvH prog w A (envOf fname scope L f cd) s.heap e (fun v h' => ∃ D, v = .ref D ∧ h'.get? D = some (listOf items 0) ∧ s.heap.get? D = none)) (h0 : J 0 vs O) (hlen : ∀ i vs O, J i vs O → ix < vs.length)
    (turn : ∀ i v vs₁ O₁ h tk own, items[i]? = some v → J i vs₁ O₁ → (∀ p ∈ own, ∀ q ∈ O₁, p.1 ≠ q.1) → Fr h₀ L h (mv ns (vs₁.set ix (some v))) → News h₀ L h (own ++ O₁) →
      wpAny (model prog w) A (execs body (envOf fname scope L f cd)) (fun fl s₂ => fl = .next ∧ ∃ h' tk' vs₂ O₂, s₂ = { s with heap := h', toks := tk' } ∧ Fr h₀ L h' (mv ns vs₂) ∧ News h₀ L h' (own ++ O₂) ∧ (∀ p ∈ own, ∀ q ∈ O₂, p.1 ≠ q.1) ∧ J (i + 1) vs₂ O₂) No { s with heap := h, toks := tk })
    (done : ∀ vs₁ h tk O₁, J items.size vs₁ O₁ → Fr h₀ L h (mv ns vs₁) → News h₀ L h O₁ → wpAny (model prog w) A (execs rest (envOf fname scope L f cd)) Q No { s with heap := h, toks := tk })
    (hi : ns[ix]? = some x := by rfl) (hkind : scope.kind = .function := by rfl) (hl : (envOf fname scope L f cd).kindOf x = some .local := by rfl)
    (hs : ∀ x, foldedSetIterable e (envOf fname scope L f cd) x = pure x := by intro _; rfl) :
    wpAny (model prog w) A (execs (.For (.Name x px) e body [] pos :: rest) (envOf fname scope L f cd)) Q No s := by
  refine wpAny_execs_cons (wpAny_For ?_ hs)
  refine he s _ _ (Grow.refl _) fun v h1 t1 hv g1 => ?_
  obtain ⟨D, rfl, hD1, hD0⟩ := hv
  have F1 := Fr.grow F g1
  have hne := new_ne (h' := h1) F hD0
  have hD : ∀ p ∈ O, p.1 ≠ D := fun p hp q => by have := (N p hp).1; rw [q, hD0] at this; cases this
  have N1 : News h₀ L h1 ((D, listOf items 0) :: O) := fun p hp => (List.mem_cons.mp hp).elim (fun e => e ▸ ⟨hD1, hne⟩) (News.grow N g1 p)
  refine for_list (iter := e) (pos := pos) (s := { s with heap := h1, toks := t1 }) (h₀ := h₀) (env := envOf fname scope L f cd) (l := D) (lo := listOf items 0) (vs := items) (O := (D, listOf items 0) :: O)
    (fun i m O' => ∃ vs O'', m = mv ns vs ∧ O' = (D, listOf items 0) :: O'' ∧ (∀ p ∈ O'', p.1 ≠ D) ∧ J i vs O'') hh ⟨rfl, 0, rfl⟩ (by rintro i m O' ⟨vs, O'', rfl, rfl, _, _⟩; exact List.mem_cons_self ..) F1 N1 ⟨vs, O, rfl, rfl, hD, h0⟩ ?_ ?_
  · rintro i v m₁ O' h tk I it hv ⟨vs₁, O₁, rfl, rfl, hne, hJ⟩ hO F₁ N₁
    refine s_store F₁ N₁ hn ix (fun h' tk' F' N' => ?_) hi (hlen _ _ _ hJ) hkind hl
    refine wpAny_mono (turn i v vs₁ O₁ h' tk' [(I, it), (D, listOf items 0)] hv hJ ?_ F' N') (fun fl s₂ hfl => ?_) fun _ _ x => x
    · intro p hp q hq e
      rcases List.mem_cons.mp hp with rfl | hp
      · exact hO q (List.mem_cons_of_mem _ hq) e.symm
      · rw [List.mem_singleton.mp hp] at e
        exact hne q hq e.symm
    · obtain ⟨rfl, h'', tk'', vs₂, O₂, rfl, F₂, N₂, hap, hJ₂⟩ := hfl
      refine ⟨h'', tk'', _, _, rfl, F₂, N₂, ?_, vs₂, O₂, rfl, rfl, ?_, hJ₂⟩
      · intro p hp
        rcases List.mem_cons.mp hp with rfl | hp
        · exact hO _ (List.mem_cons_self ..)
        · exact fun q => hap (I, it) (by simp) p hp q.symm
      · exact fun p hp q => hap (D, listOf items 0) (by simp) p hp q.symm
  · rintro m₁ O' h tk ⟨vs₁, O₁, rfl, rfl, _, hJ⟩ F₁ N₁
    exact wpAny_execs_nil (done vs₁ h tk O₁ hJ F₁ fun p hp => N₁ p (List.mem_cons_of_mem _ hp))
end
end Mine
end
section
open PySem PySem.W PyProof.Rows StrLaws Builtin.Str
set_option maxRecDepth 100000
set_option maxHeartbeats 0
namespace Mine
/-- a row of the listing on the heap -/
structure RowE where
  a : Addr
  its : Array Value
  k : Nat
  ms : List Int
def led (es : List RowE) : List (Addr × Obj) := es.map fun e => (e.a, listOf e.its e.k)
def refs (es : List RowE) : Array Value := (es.map fun e => Value.ref e.a).toArray
structure RI (Rw : Addr) (R : List (List Int)) (O : List (Addr × Obj)) : Prop where
  ex : ∃ kR es, O = (Rw, listOf (refs es) kR) :: led es ∧ es.map (·.ms) = R ∧ (∀ e ∈ es, IntsAre e.its.toList e.ms) ∧ (Rw :: es.map (·.a)).Nodup
theorem led_mem {es : List RowE} {p : Addr × Obj} (h : p ∈ led es) : ∃ e ∈ es, p = (e.a, listOf e.its e.k) := by
  obtain ⟨e, he, rfl⟩ := List.mem_map.mp h
  exact ⟨e, he, rfl⟩
theorem refs_last {es : List RowE} {e : RowE} : (refs (es ++ [e])).toList.getLast? = some (.ref e.a) := by unfold refs; simp
theorem intsAre_push {its : Array Value} {ms : List Int} {m : Int} {t : Tok} (h : IntsAre its.toList ms) : IntsAre (its.push (.int m t)).toList (ms ++ [m]) := by
  rw [Array.toList_push]
  exact intsAre_append h (.cons m t .nil)
theorem upd_mid {own post : List (Addr × Obj)} {D : Addr} {o o' : Obj} (h : ∀ p ∈ own, p.1 ≠ D) (h2 : ∀ p ∈ post, p.1 ≠ D) : Upd D o o' (own ++ (D, o) :: post) (own ++ (D, o') :: post) := by
  induction own with
  | nil => exact .head h2
  | cons p r ih => exact .tail (h p (by simp)) (ih fun q hq => h q (by simp [hq]))
theorem ints_get : ∀ {vs : List Value} {ns : List Int}, IntsAre vs ns → ∀ {i : Nat} {v : Value}, vs[i]? = some v → ∃ y t, v = .int y t ∧ ns[i]? = some y
  | _, _, .nil, i, v, h => by simp at h
  | _, _, .cons n t r, 0, v, h => by simp at h; exact ⟨n, t, h.symm, rfl⟩
  | _, _, .cons n t r, i + 1, v, h => by simpa using ints_get r (by simpa using h)
theorem rowsFold (xs : List Int) : RowsOk (xs.foldl rowStep [[16877, 35305]]) xs.length := by
  suffices h : ∀ (xs : List Int) (R : List (List Int)) (i : Nat), RowsOk R i → RowsOk (xs.foldl rowStep R) (i + xs.length) by simpa using h xs _ 0 rows0
  intro xs
  induction xs with
  | nil => intro R i h; exact h
  | cons x r ih => intro R i h; have := ih _ _ (rowsStep h x); rw [List.length_cons]; rw [show i + (r.length + 1) = i + 1 + r.length by omega]; exact this
abbrev envL (L f : Addr) (c : Value) : Env := envOf (S "law") dL.1.2.2 L f c
section
variable {w : World} {A : Around} {s : Shared} {mg mb : Str → Option Value} {h₀ : Heap} {L f : Addr} {cd : Value} {Q : Flow → Shared → Prop}
theorem law_rows (hh : A.handled = none) {Rw sc : Addr} {vs : List Value} {xs : List Int} {a1 a2 a3 a4 : Option Value} {b1 b2 b3 b4 b5 b6 b7 b8 b9 b10 b11 b12 b13 b14 : Option Value} {O : List (Addr × Obj)} (hL : h₀.IsList sc vs.toArray) (hI : IntsAre vs xs) (hxl : xs.length ≤ 63)
    (F : Fr h₀ L s.heap (mv nsL [some (.ref sc), a1, a2, a3, a4, some (.ref Rw), b1, b2, b3, b4, b5, b6, b7, b8, b9, b10, b11, b12, b13, b14])) (N : News h₀ L s.heap O) (I : RI Rw [[16877, 35305]] O)
    (k : ∀ h' tk O' b1, Fr h₀ L h' (mv nsL [some (.ref sc), a1, a2, a3, a4, some (.ref Rw), b1, b2, b3, b4, b5, b6, b7, b8, b9, b10, b11, b12, b13, b14]) → News h₀ L h' O' → RI Rw (((xs.drop 1).take 16).foldl rowStep [[16877, 35305]]) O' →
      wpAny (model pN w) A (execs (dL.1.2.1.drop 7) (envL L f cd)) Q No { s with heap := h', toks := tk }) :
    wpAny (model pN w) A (execs (dL.1.2.1.drop 6) (envL L f cd)) Q No s := by
  have hsl := sizeLine_eq
  have hvl : vs.length ≤ 63 := by rw [hI.length]; exact hxl
  refine s_for_new (ix := 6) (items := ((vs.drop 1).take 16).toArray) hh F N ndL (fun i vs O => ∃ b1, vs = [some (.ref sc), a1, a2, a3, a4, some (.ref Rw), b1, b2, b3, b4, b5, b6, b7, b8, b9, b10, b11, b12, b13, b14] ∧ RI Rw ((((xs.drop 1).take 16).take i).foldl rowStep [[16877, 35305]]) O)
    (EvH.slice (a := 1) (b := 17) (Ev.var F ndL 0) Ev.int Ev.int (hL.at fun o e => F.keep _ _ e) (by decide) (by show vs.toArray.size ≤ _; rw [List.size_toArray]; omega)) ⟨_, rfl, I⟩ (by rintro _ _ _ ⟨b1, rfl, _⟩; exact Nat.le_of_ble_eq_true rfl) ?_ ?_
  · rintro i v vs₁ O₁ h tk own hv ⟨b1, rfl, I⟩ hown F N
    rw [List.getElem?_toArray] at hv
    obtain ⟨y, ty, rfl, hy⟩ := ints_get ((hI.drop 1).take 16) hv
    have hstep : (((xs.drop 1).take 16).take (i + 1)).foldl rowStep [[16877, 35305]] = rowStep ((((xs.drop 1).take 16).take i).foldl rowStep [[16877, 35305]]) y := by
      rw [List.take_succ, hy, List.foldl_append]; rfl
    have hok := rowsFold (((xs.drop 1).take 16).take i)
    have hil : (((xs.drop 1).take 16).take i).length ≤ 16 := by rw [List.length_take, List.length_take]; omega
    obtain ⟨kR, es, rfl, hR, hints, hnd⟩ := I.ex
    have hne : es ≠ [] := fun q => hok.ne (by rw [← hR, q]; rfl)
    have hRw : ∀ p ∈ led es, p.1 ≠ Rw := fun p hp q => by
      obtain ⟨e, he, rfl⟩ := led_mem hp
      exact (List.nodup_cons.mp hnd).1 (List.mem_map.mpr ⟨e, he, q⟩)
    have hesl : es.length ≤ 20 := by have := hok.len; rw [← hR, List.length_map] at this; omega
    have hownRw : ∀ p ∈ own, p.1 ≠ Rw := fun p hp => hown p hp (Rw, listOf (refs es) kR) (by simp)
    refine s_if F N (Te.eqI ((Ev.varI F ndL 6).mod Ev.int (by decide)) Ev.int) fun h tk F N => ?_
    by_cases h4 : Int.fmod y 4 = 0
    · rw [show (Int.fmod y 4 == 0) = true from beq_iff_eq.mpr h4]
      refine s_appendNil (D := Rw) (its := refs es) (k := kR) (O' := fun b => (b, listOf #[] 0) :: (own ++ (Rw, listOf ((refs es).push (.ref b)) (kR + 1)) :: led es)) F N (Ev.var F ndL 5) (fun b hb => .tail (fun q => hb (Rw, listOf (refs es) kR) (by simp) q.symm) (upd_mid hownRw hRw)) (by simp) (fun b h tk hb F N => ?_) (by unfold refs; rw [List.size_toArray, List.length_map]; omega)
      refine wpAny_execs_nil (wpAny_execs_nil ⟨rfl, h, tk, _, (Rw, listOf (refs (es ++ [⟨b, #[], 0, []⟩])) (kR + 1)) :: led (es ++ [⟨b, #[], 0, []⟩]), rfl, F, ?_, ?_, _, rfl, ?_⟩)
      · intro p hp
        have e : refs (es ++ [⟨b, #[], 0, []⟩]) = (refs es).push (.ref b) := by unfold refs; simp
        rw [e, show led (es ++ [⟨b, #[], 0, []⟩]) = led es ++ [(b, listOf #[] 0)] by unfold led; simp] at hp
        rcases List.mem_append.mp hp with hp | hp
        · exact N p (List.mem_cons_of_mem _ (List.mem_append_left _ hp))
        rcases List.mem_cons.mp hp with hp | hp
        · exact N p (List.mem_cons_of_mem _ (List.mem_append_right _ (by rw [hp]; exact List.mem_cons_self ..)))
        rcases List.mem_append.mp hp with hp | hp
        · exact N p (List.mem_cons_of_mem _ (List.mem_append_right _ (List.mem_cons_of_mem _ hp)))
        · exact N p (by rw [List.mem_singleton.mp hp]; exact List.mem_cons_self ..)
      · intro p hp q hq
        unfold led at hq
        simp at hq
        rcases hq with rfl | ⟨e, he, rfl⟩ | rfl
        · exact hownRw p hp
        · exact hown p hp (e.a, listOf e.its e.k) (List.mem_cons_of_mem _ (List.mem_map.mpr ⟨e, he, rfl⟩))
        · exact hb p (by simp [hp])
      · rw [hstep, ← hR, show rowStep (es.map (·.ms)) y = es.map (·.ms) ++ [[]] from if_pos h4]
        refine ⟨kR + 1, _, rfl, by simp, ?_, ?_⟩
        · intro e he
          rcases List.mem_append.mp he with he | he
          · exact hints e he
          · rw [List.mem_singleton.mp he]; exact .nil
        · have hbR : b ≠ Rw := fun q => hb (Rw, listOf (refs es) kR) (by simp) q.symm
          have hbe : b ∉ es.map (·.a) := fun q => by
            obtain ⟨e, he, q⟩ := List.mem_map.mp q
            exact hb (e.a, listOf e.its e.k) (List.mem_append_right _ (List.mem_cons_of_mem _ (List.mem_map.mpr ⟨e, he, rfl⟩))) q
          rw [List.map_append, List.map_cons, List.map_nil, ← List.cons_append, List.nodup_append]
          refine ⟨hnd, by simp, fun a ha c hc q => ?_⟩
          rw [List.mem_singleton.mp hc] at q
          rcases List.mem_cons.mp ha with rfl | ha
          · exact hbR q.symm
          · exact hbe ((show a = b from q) ▸ ha)
    · rw [show (Int.fmod y 4 == 0) = false from beq_eq_false_iff_ne.mpr h4]
      obtain ⟨es', e, rfl⟩ : ∃ es' e, es = es' ++ [e] := ⟨es.dropLast, es.getLast hne, (List.dropLast_concat_getLast hne).symm⟩
      have hled : led (es' ++ [e]) = led es' ++ [(e.a, listOf e.its e.k)] := by unfold led; simp
      have hRl : h.IsList Rw (refs (es' ++ [e])) := ⟨_, (N (Rw, listOf (refs (es' ++ [e])) kR) (by simp)).1, rfl, _, rfl⟩
      have hpre : ∀ p ∈ own ++ (Rw, listOf (refs (es' ++ [e])) kR) :: led es', p.1 ≠ e.a := by
        intro p hp q
        rcases List.mem_append.mp hp with hp | hp
        · exact hown p hp (e.a, listOf e.its e.k) (by rw [hled]; simp) q
        rcases List.mem_cons.mp hp with rfl | hp
        · exact (List.nodup_cons.mp hnd).1 (by rw [show Rw = e.a from q]; simp)
        · obtain ⟨e2, he2, rfl⟩ := led_mem hp
          have h2 := (List.nodup_cons.mp hnd).2
          rw [List.map_append, List.nodup_append] at h2
          exact h2.2.2 e2.a (List.mem_map.mpr ⟨e2, he2, rfl⟩) e.a (by simp) q
      have hil2 : e.its.size ≤ 40 := by
        have h1 := (hints e (by simp)).length
        have h2 := hok.short e.ms (by rw [← hR]; simp)
        simp at h1
        omega
      refine s_append (D := e.a) (its := e.its) (k := e.k) (O' := fun v => own ++ (Rw, listOf (refs (es' ++ [e])) kR) :: (led es' ++ [(e.a, listOf (e.its.push v) (e.k + 1))])) (V := IsI (modeOf y)) F N (Ev.listLast (Ev.var F ndL 5) (Ev.neg Ev.int) hRl refs_last) ((((((Ev.varI F ndL 6).fdiv Ev.int (by decide) (PyProof.noPylong_small (by decide))).mod Ev.int (by decide)).mul Ev.int (mulOk (by decide))).mod Ev.int (by decide))) (fun v _ => ?_) (by rw [hled]; simp) (fun v h tk hv F N => ?_) (by omega)
      · have := upd_in (own := own ++ (Rw, listOf (refs (es' ++ [e])) kR) :: led es') (o := listOf e.its e.k) (o' := listOf (e.its.push v) (e.k + 1)) hpre
        rw [hled]
        simpa using this
      · obtain ⟨tv, rfl⟩ := hv
        refine wpAny_execs_nil (wpAny_execs_nil ⟨rfl, h, tk, _, (Rw, listOf (refs (es' ++ [⟨e.a, e.its.push (.int (modeOf y) tv), e.k + 1, e.ms ++ [modeOf y]⟩])) kR) :: led (es' ++ [⟨e.a, e.its.push (.int (modeOf y) tv), e.k + 1, e.ms ++ [modeOf y]⟩]), rfl, F, ?_, ?_, _, rfl, ?_⟩)
        · have e1 : refs (es' ++ [⟨e.a, e.its.push (.int (modeOf y) tv), e.k + 1, e.ms ++ [modeOf y]⟩]) = refs (es' ++ [e]) := by unfold refs; simp
          have e2 : led (es' ++ [⟨e.a, e.its.push (.int (modeOf y) tv), e.k + 1, e.ms ++ [modeOf y]⟩]) = led es' ++ [(e.a, listOf (e.its.push (.int (modeOf y) tv)) (e.k + 1))] := by unfold led; simp
          rw [e1, e2]; exact N
        · intro p hp q hq
          rcases List.mem_cons.mp hq with rfl | hq
          · exact hownRw p hp
          obtain ⟨e2, he2, rfl⟩ := led_mem hq
          rcases List.mem_append.mp he2 with he2 | he2
          · exact hown p hp (e2.a, listOf e2.its e2.k) (List.mem_cons_of_mem _ (List.mem_map.mpr ⟨e2, List.mem_append_left _ he2, rfl⟩))
          · rw [List.mem_singleton.mp he2]
            exact hown p hp (e.a, listOf e.its e.k) (by rw [hled]; simp)
        · rw [hstep, ← hR, show rowStep ((es' ++ [e]).map (·.ms)) y = ((es' ++ [e]).map (·.ms)).dropLast ++ [((es' ++ [e]).map (·.ms)).getLastD [] ++ [modeOf y]] from if_neg h4]
          refine ⟨kR, _, rfl, by rw [List.getLastD_eq_getLast?]; simp, ?_, by simpa using hnd⟩
          intro e2 he2
          rcases List.mem_append.mp he2 with he2 | he2
          · exact hints e2 (List.mem_append_left _ he2)
          · rw [List.mem_singleton.mp he2]; exact intsAre_push (hints e (by simp))
  · rintro vs₁ h tk O₁ ⟨b1, rfl, I⟩ F N
    refine k h tk O₁ b1 F N ?_
    have hl : ((vs.drop 1).take 16).toArray.size = ((xs.drop 1).take 16).length := by rw [List.size_toArray]; exact ((hI.drop 1).take 16).length
    rw [hl, List.take_length] at I
    exact I
end
end Mine
end
section
open PySem PySem.W PyProof.Rows StrLaws Builtin.Str
set_option maxRecDepth 100000
set_option maxHeartbeats 0
namespace Mine
/-- a row's text -/
def rowJ (ms : List Int) : Str := Txt.join (S "") (ms.map fun m => sigs m 3)
theorem tl_rowJ (ms : List Int) : tl (rowJ ms) = rowS ms := by
  unfold rowJ rowS
  rw [join0, List.map_map, List.flatMap_def]; rfl
theorem rowJ_len (ms : List Int) : (rowJ ms).length = 10 * ms.length := by rw [← tl_length, tl_rowJ, rowS_len]
theorem ints_map {F : Value → Value → Prop} {f : Int → Str} (hF : ∀ m t y, F (.int m t) y → IsS (f m) y) : ∀ {vs ys : List Value} {ms : List Int}, IntsAre vs ms → Paired F vs ys → StrsAre ys (ms.map f)
  | _, _, _, .nil, .nil => .nil
  | _, _, _, .cons m t r, .cons h p => by
    obtain ⟨t', rfl⟩ := hF m t _ h
    exact .cons _ t' (ints_map hF r p)
theorem ints_map0 {F : Value → Value → Prop} {f : Int → Str} (hF : ∀ m t y, 0 ≤ m → F (.int m t) y → IsS (f m) y) : ∀ {vs ys : List Value} {ms : List Int}, IntsAre vs ms → (∀ m ∈ ms, 0 ≤ m) → Paired F vs ys → StrsAre ys (ms.map f)
  | _, _, _, .nil, _, .nil => .nil
  | _, _, _, .cons m t r, h0, .cons h p => by
    obtain ⟨t', rfl⟩ := hF m t _ (h0 m (by simp)) h
    exact .cons _ t' (ints_map0 hF r (fun m hm => h0 m (by simp [hm])) p)
theorem rows_map {F : Value → Value → Prop} {f : List Int → Str} : ∀ {es : List RowE} {ys : List Value}, (∀ e ∈ es, ∀ y, F (.ref e.a) y → IsS (f e.ms) y) → Paired F (es.map fun e => Value.ref e.a) ys → StrsAre ys (es.map fun e => f e.ms)
  | [], _, _, .nil => .nil
  | e :: r, _, hF, .cons h p => by
    obtain ⟨t', rfl⟩ := hF e (by simp) _ h
    exact .cons _ t' (rows_map (fun e he => hF e (by simp [he])) p)
theorem uniqE : ∀ {es : List RowE}, (es.map (·.a)).Nodup → ∀ {e e' : RowE}, e ∈ es → e' ∈ es → e.a = e'.a → e = e'
  | [], _, _, _, h, _, _ => nomatch h
  | x :: r, hn, e, e', h, h', q => by
    rw [List.map_cons, List.nodup_cons] at hn
    rcases List.mem_cons.mp h with rfl | h
    · rcases List.mem_cons.mp h' with rfl | h'
      · rfl
      · exact absurd (List.mem_map.mpr ⟨e', h', q.symm⟩) hn.1
    · rcases List.mem_cons.mp h' with h'' | h'
      · exact absurd (List.mem_map.mpr ⟨e, h, by rw [q, h'']⟩) hn.1
      · exact uniqE hn.2 h h' q
theorem EvH.mono {prog : Program} {w : World} {A : Around} {env : Env} {h : Heap} {e : PySem.Expr} {V V' : Value → Heap → Prop} (H : EvH prog w A env h e V) (hv : ∀ v h', V v h' → V' v h') : EvH prog w A env h e V' := fun s Q E g k => H s Q E g fun v h' tk hV g' => k v h' tk (hv v h' hV) g'
theorem sgs_mode {m : Int} (h : 0 ≤ m) : Txt.join (S "") (picks m 10) = sigs m 3 := mode_sigs h
theorem rows_sum {R : List (List Int)} {B : Nat} (h : ∀ r ∈ R, r.length ≤ B) : ((R.map rowJ).map (·.length)).sum ≤ R.length * (10 * B) := by
  have := StrLaws.sumLen_le (B := 10 * B) (R.map rowJ) (fun y hy => by
    obtain ⟨r, hr, rfl⟩ := List.mem_map.mp hy
    rw [rowJ_len]
    have := h r hr
    omega)
  rwa [List.length_map] at this
theorem ms_sum (ms : List Int) : ((ms.map fun m => sigs m 3).map (·.length)).sum = 10 * ms.length := by
  induction ms with
  | nil => rfl
  | cons m r ih => rw [List.map_cons, List.map_cons, List.sum_cons, ih, sigs_len, List.length_cons]; omega
section
variable {w : World} {A : Around} {s : Shared} {mg mb : Str → Option Value} {h₀ : Heap} {L f : Addr} {cd : Value} {Q : Flow → Shared → Prop}
theorem law_body (W : Wd w mg mb h₀) (hh : A.handled = none) (hroom : A.depth + 1 < recursionLimit) {Rw : Addr} {R : List (List Int)} {a0 a1 a2 a3 a4 : Option Value} {b1 b2 b3 b4 b5 b6 b7 b8 b9 b10 b11 b12 b13 b14 : Option Value} {O : List (Addr × Obj)}
    (F : Fr h₀ L s.heap (mv nsL [a0, a1, a2, a3, a4, some (.ref Rw), b1, b2, b3, b4, b5, b6, b7, b8, b9, b10, b11, b12, b13, b14])) (N : News h₀ L s.heap O) (I : RI Rw R O) (hok : RowsOk R 16)
    (k : ∀ h' tk t, Fr h₀ L h' (mv nsL [a0, a1, a2, a3, a4, some (.ref Rw), b1, some (.str (Txt.join (S "\n") (R.map rowJ)) t), b3, b4, b5, b6, b7, b8, b9, b10, b11, b12, b13, b14]) → News h₀ L h' O →
      wpAny (model pN w) A (execs (dL.1.2.1.drop 8) (envL L f cd)) Q No { s with heap := h', toks := tk }) :
    wpAny (model pN w) A (execs (dL.1.2.1.drop 7) (envL L f cd)) Q No s := by
  have hsl := sizeLine_eq
  obtain ⟨kR, es, rfl, hR, hints, hnd⟩ := I.ex
  have hRl : s.heap.IsList Rw (refs es) := ⟨_, (N (Rw, listOf (refs es) kR) (by simp)).1, rfl, _, rfl⟩
  have hel : es.length ≤ 17 := by have := hok.len; rw [← hR, List.length_map] at this; omega
  have hrl : ∀ r ∈ R, r.length ≤ 18 := fun r hr => hok.short r hr
  have hsum := rows_sum hrl
  have hRlen : R.length ≤ 17 := hok.len
  have hmul : R.length * (10 * 18) ≤ 17 * (10 * 18) := Nat.mul_le_mul_right _ hRlen
  refine s_assign (i := 7) (V := IsS (Txt.join (S "\n") (R.map rowJ))) F N ndL (Ev.join Ev.str ((EvH.comp (F := fun v y => ∀ e ∈ es, v = .ref e.a → IsS (rowJ e.ms) y) hh (Ev.var F ndL 5) hRl (by unfold refs; rw [List.size_toArray, List.length_map]; omega) (fun C h₂ m₂ v hv g hn hm => ?_)).mono fun v h' hv => ?_) (by decide +kernel) ?_) ?_
  · have hv' : ∃ e ∈ es, v = .ref e.a := by
      unfold refs at hv
      rw [List.mem_toArray] at hv
      obtain ⟨e, he, q⟩ := List.mem_map.mp hv
      exact ⟨e, he, q.symm⟩
    obtain ⟨e, he, rfl⟩ := hv'
    have hel2 : h₂.IsList e.a e.its := ⟨_, g _ _ (N (e.a, listOf e.its e.k) (List.mem_cons_of_mem _ (List.mem_map.mpr ⟨e, he, rfl⟩))).1, rfl, _, rfl⟩
    have hems : e.ms ∈ R := by rw [← hR]; exact List.mem_map.mpr ⟨e, he, rfl⟩
    have hml := hok.short _ hems
    have hil := (hints e he).length
    rw [Array.length_toList] at hil
    have W2 : Wd w mg mb h₂ := W.grow (Grow.trans F.keep g)
    refine (Ev.join (ys := e.ms.map fun m => sigs m 3) Ev.str ((EvH.comp (F := fun v y => ∀ m t, v = .int m t → 0 ≤ m → IsS (sigs m 3) y) hh (Ev.loc hn hm) hel2 (by omega) (fun C' h₃ m₃ v' hv' g' hn' hm' => ?_)).mono fun v' h' hv' => ?_) (by decide +kernel) ?_).mono fun y hy e' he' q => ?_
    · obtain ⟨i, hi, q⟩ := Array.mem_iff_getElem.mp hv'
      obtain ⟨m, t, rfl, hmm⟩ := ints_get (hints e he) (i := i) (v := v') (by rw [Array.getElem?_toList, Array.getElem?_eq_getElem hi, q])
      have h0 : 0 ≤ m := hok.nn _ hems m (List.mem_of_getElem? hmm)
      have W3 : Wd w mg mb h₃ := W2.grow g'
      refine (Ev.callD (V := IsS (sigs m 3)) W3.X (K112 w) (Ev.glob W3 (glob_mode w)) (Evs.cons (Ev.loc hn' hm') Evs.nil) (fun s vs Q E hvs g k => ?_)).mono fun y hy m' t' q _ => ?_
      · obtain ⟨_, rfl, rfl⟩ := all1 hvs
        exact mode_call (W3.grow g) hh hroom m t fun t' h' tk g => k _ _ _ ⟨t', by rw [mode_sigs h0]⟩ g
      · cases q; exact hy
    · obtain ⟨D, ys, rfl, hl', hP⟩ := hv'
      refine ⟨D, ys, rfl, hl', ?_⟩
      exact ints_map0 (fun m t y h0 h => h m t rfl h0) (hints e he) (hok.nn _ hems) hP
    · have := ms_sum e.ms
      rw [this, List.length_map]
      omega
    · have := uniqE (List.nodup_cons.mp hnd).2 he he' (Value.ref.inj q)
      subst this
      exact hy
  · obtain ⟨D, ys, rfl, hl', hP⟩ := hv
    refine ⟨D, ys, rfl, hl', ?_⟩
    have hP' : Paired (fun v y => ∀ e ∈ es, v = .ref e.a → IsS (rowJ e.ms) y) (es.map fun e => Value.ref e.a) ys.toList := by
      have e : (refs es).toList = es.map fun e => Value.ref e.a := by unfold refs; rfl
      rw [← e]; exact hP
    have := rows_map (f := rowJ) (fun e he y h => h e he rfl) hP'
    rw [← hR, List.map_map]
    exact this
  · rw [List.length_map]
    omega
  · rintro v h tk ⟨t, rfl⟩ F N
    exact k h tk t F N
end
end Mine
end
section
open PySem PySem.W PyProof.Rows StrLaws Builtin.Str
set_option maxRecDepth 100000
set_option maxHeartbeats 0
namespace Mine
theorem all3 {V V' V'' : Value → Prop} {vs : List Value} (H : All2 [V, V', V''] vs) : ∃ v v' v'', vs = [v, v', v''] ∧ V v ∧ V' v' ∧ V'' v'' := by
  cases H with
  | cons hv hn =>
    obtain ⟨v', v'', rfl, hv', hv''⟩ := all2 hn
    exact ⟨_, _, _, rfl, hv, hv', hv''⟩
theorem Te.boolE {prog : Program} {w : World} {A : Around} {env : Env} {h : Heap} {e : PySem.Expr} {b : Bool} (he : Ev prog w A env h e (· = .bool b)) (hp : PySem.isTrue e env (eval e env) = (do let v ← eval e env; standAt e.pos; holding [v] (truthy v)) := by rfl) : Te prog w A env h e b :=
  fun s Q E g k => isTrue_plain (he s _ _ g fun u h1 t1 hu g1 => by subst hu; exact wpAny_truthy_bool (k h1 _ g1)) hp
section
variable {w : World} {A₀ : Around} {s : Shared} {mg mb : Str → Option Value} {h₀ base : Heap} {L f : Addr} {cd : Value} {Q : Flow → Shared → Prop}
theorem law_try (W : Wd w mg mb h₀) (hh : A₀.handled = none) (hroom : A₀.depth + 1 < recursionLimit) (K : Below A₀ base [] h₀) {fi : Int} {tf tb te : Tok} {bd eo : Str} {a0 a2 a4 : Option Value} {b0 b1 b3 b4 b5 b6 b7 b8 b9 b10 b11 b12 b13 b14 : Option Value} {O : List (Addr × Obj)}
    (F : Fr h₀ L s.heap (mv nsL [a0, some (.int fi tf), a2, some (.str eo te), a4, b0, b1, some (.str bd tb), b3, b4, b5, b6, b7, b8, b9, b10, b11, b12, b13, b14])) (N : News h₀ L s.heap O)
    (k : ∀ h' tk, Fr h₀ L h' (mv nsL [a0, some (.int fi tf), a2, some (.str eo te), a4, b0, b1, some (.str bd tb), some (.bool true), b4, b5, b6, b7, b8, b9, b10, b11, b12, b13, b14]) → News h₀ L h' O →
      wpAny (model pN w) (A₀.deeper (envL L f cd)) (execs (dL.1.2.1.drop 11) (envL L f cd)) Q No { s with heap := h', toks := tk }) :
    wpAny (model pN w) (A₀.deeper (envL L f cd)) (execs (dL.1.2.1.drop 8) (envL L f cd)) Q No s := by
  refine s_assign (i := 8) F N ndL Ev.bool ?_
  rintro v h tk rfl F N
  have W1 : Wd w mg mb h := W.grow F.keep
  refine wpAny_execs_cons (wpAny_Try_except (wpAny_execs_cons (wpAny_Expr_any (Call_ ?_))))
  refine (Ev.glob W1 (glob_enc w)) _ _ _ (Grow.refl _) fun fv h1 t1 hf g1 => ?_
  subst hf
  have hb := fmod_bounds (if fi < 0 then -fi else fi) (b := 1000) (by decide)
  refine callWith_def (o := fn (S "body_encode") d57.1 (.ref 50) (.str ⟨#[99, 112, 121, 51, 49, 51, 46, 101, 109, 97, 105, 108, 46, 113, 117, 111, 112, 114, 105, 109, 105, 109, 101]⟩ 1234) 56) rfl ((Evs.cons (Ev.varS F ndL 7) (Evs.cons (Ev.sub Ev.int ((Ev.absI (Ev.blt W1 (glob_abs w) boot_abs (by decide +kernel)) (Ev.varI F ndL 1)).mod Ev.int (by decide))) (Evs.cons (Ev.varS F ndL 3) Evs.nil))) _ _ _ _ g1 fun vs h2 t2 hvs g2 => ⟨(W1.grow (g1.trans g2)).X _ _ (K57 w), ?_⟩)
  obtain ⟨_, _, _, rfl, ⟨u1, rfl⟩, ⟨u2, rfl⟩, ⟨u3, rfl⟩⟩ := all3 hvs
  have F2 := Fr.grow F (g1.trans g2)
  have N2 := News.grow N (g1.trans g2)
  refine enc_raises (A := A₀.deeper (envL L f cd)) (base := base) (outer := [envL L f cd]) (s := { s with heap := h2, toks := t2 }) (W1.grow (g1.trans g2)) hh hroom (K.push F2) (by omega) fun e h' tk t vs R U => ?_
  refine caughtL R F2 N2 K U W fun h3 F3 N3 => ?_
  refine s_assign (i := 8) F3 N3 ndL Ev.bool ?_
  rintro v h4 tk4 rfl F4 N4
  refine wpAny_execs_nil ?_
  refine s_if F4 N4 (Te.not (Te.boolE (Ev.var F4 ndL 8))) fun h tk F N => ?_
  exact wpAny_execs_nil (k h tk F N)
end
end Mine
end
section
open PySem PySem.W PyProof.Rows StrLaws Builtin.Str
set_option maxRecDepth 100000
set_option maxHeartbeats 0
namespace Mine
section
variable {prog : Program} {w : World} {A : Around} {env : Env} {h : Heap} {l r e : PySem.Expr} {pos p : Pos} {x y n : Str}
theorem Ev.lenL {D : Addr} {items : Array Value} (hf : Ev prog w A env h (.Name n p) (· = .builtin "len")) (he : Ev prog w A env h e (· = .ref D)) (hl : h.IsList D items) (hx : (items.size : Int) < 2 ^ 63) (hst : starEach [e] env = (false, eval e env) :: starEach [] env := by rfl)
    (hc : eval (.Call (.Name n p) [e] [] pos) env = (do let f ← eval (.Name n p) env; callWith pos f [] (backTo pos (starEach [e] env)) (backToKw pos (keywordEach [] env))) := by rfl) : Ev prog w A env h (.Call (.Name n p) [e] [] pos) (IsI items.size) :=
  Ev.callB hf (Evs.cons he Evs.nil hst) (fun s vs Q E hvs g k => by obtain ⟨_, rfl, rfl⟩ := all1 hvs; exact PyProof.Rows.len_list (hl.at fun o e => g _ _ e) hx (k _ s.heap _ ⟨_, rfl⟩ (Grow.refl _))) hst rfl hc
theorem Ev.eqS (hl : Ev prog w A env h l (IsS x)) (hr : Ev prog w A env h r (IsS y)) (hb : behindInMarks .Eq r = false := by rfl) : Ev prog w A env h (.Compare l [.Eq] [r] pos) (· = .bool (x == y)) :=
  fun s Q E g k => wpAny_Compare1 (hl s _ _ g fun u h1 t1 hu g1 => hr _ _ _ (g.trans g1) fun v h2 t2 hv g2 => by
    obtain ⟨t, rfl⟩ := hu; obtain ⟨t', rfl⟩ := hv
    exact eq_str (k _ h2 _ rfl (g1.trans g2))) hb
end
section
variable {prog : Program} {w : World} {A : Around} {s : Shared} {h₀ : Heap} {L f : Addr} {cd : Value} {fname : Str} {scope : Scope} {ns : List Str} {vs : List (Option Value)} {O : List (Addr × Obj)} {Q : Flow → Shared → Prop} {x n : Str} {pos p px : Pos} {e : PySem.Expr} {rest body : List Stmt}
/-- for x in e, e a list of the ledger -/
theorem s_for_var {D : Addr} {items : Array Value} {kk : Nat} (hh : A.handled = none) (F : Fr h₀ L s.heap (mv ns vs)) (N : News h₀ L s.heap O) (hn : ns.Nodup) (ix : Nat) (J : Nat → List (Option Value) → List (Addr × Obj) → Prop)
    (he : Ev prog w A (envOf fname scope L f cd) s.heap e (· = .ref D)) (hstay : ∀ i vs O, J i vs O → (D, listOf items kk) ∈ O) (h0 : J 0 vs O) (hlen : ∀ i vs O, J i vs O → ix < vs.length)
    (turn : ∀ i v vs₁ O₁ h tk I it, items[i]? = some v → J i vs₁ O₁ → (∀ p ∈ O₁, p.1 ≠ I) → Fr h₀ L h (mv ns (vs₁.set ix (some v))) → News h₀ L h ((I, it) :: O₁) →
      wpAny (model prog w) A (execs body (envOf fname scope L f cd)) (TV ns h₀ L I it (J (i + 1)) s (fun fl s' => match fl with | .next => wpAny (model prog w) A (execs rest (envOf fname scope L f cd)) Q No s' | fl => Q fl s')) No { s with heap := h, toks := tk })
    (done : ∀ vs₁ h tk O₁, J items.size vs₁ O₁ → Fr h₀ L h (mv ns vs₁) → News h₀ L h O₁ → wpAny (model prog w) A (execs rest (envOf fname scope L f cd)) Q No { s with heap := h, toks := tk })
    (hi : ns[ix]? = some x := by rfl) (hkind : scope.kind = .function := by rfl) (hl : (envOf fname scope L f cd).kindOf x = some .local := by rfl)
    (hs : ∀ x, foldedSetIterable e (envOf fname scope L f cd) x = pure x := by intro _; rfl) :
    wpAny (model prog w) A (execs (.For (.Name x px) e body [] pos :: rest) (envOf fname scope L f cd)) Q No s := by
  refine wpAny_execs_cons (wpAny_For ?_ hs)
  refine he s _ _ (Grow.refl _) fun v h1 t1 hv g1 => ?_
  subst hv
  refine for_list (iter := e) (pos := pos) (s := { s with heap := h1, toks := t1 }) (h₀ := h₀) (env := envOf fname scope L f cd) (l := D) (lo := listOf items kk) (vs := items) (O := O)
    (fun i m O => ∃ vs, m = mv ns vs ∧ J i vs O) hh ⟨rfl, kk, rfl⟩ (by rintro i m O ⟨vs, rfl, hJ⟩; exact hstay _ _ _ hJ) (Fr.grow F g1) (News.grow N g1) ⟨vs, rfl, h0⟩ ?_ ?_
  · rintro i v m₁ O₁ h tk I it hv ⟨vs₁, rfl, hJ⟩ hO F₁ N₁
    exact s_store F₁ N₁ hn ix (fun h' tk' F' N' => turn i v vs₁ O₁ h' tk' I it hv hJ hO F' N') hi (hlen _ _ _ hJ) hkind hl
  · rintro m₁ O₁ h tk ⟨vs₁, rfl, hJ⟩ F₁ N₁
    exact wpAny_execs_nil (done vs₁ h tk O₁ hJ F₁ N₁)
end
end Mine
end
section
open PySem PySem.W PyProof.Rows StrLaws Builtin.Str
set_option maxRecDepth 100000
set_option maxHeartbeats 0
namespace Mine
def mailL (wd : Nat) (eo : Str) (R : List (List Int)) : List Nat := List.intercalate (tl eo) ((R.map rowS).flatMap (pieces wd))
theorem tl_body (R : List (List Int)) : tl (Txt.join (S "\n") (R.map rowJ)) = List.intercalate [10] (R.map rowS) := by
  rw [tl_join, List.map_map, show tl (S "\n") = [10] by decide +kernel]
  congr 1
  exact List.map_congr_left fun r _ => tl_rowJ r
theorem rows_first {R : List (List Int)} {i : Nat} (h : RowsOk R i) : ∃ r rs, R = r :: rs ∧ r ≠ [] := by
  cases hR : R with
  | nil => exact absurd hR h.ne
  | cons r rs => exact ⟨r, rs, rfl, fun q => h.head (by rw [hR, q]; rfl)⟩
theorem inter_ne {sep p : List Nat} (ps : List (List Nat)) (h : p ≠ []) : List.intercalate sep (p :: ps) ≠ [] := by
  cases ps with
  | nil => rw [inter_one]; exact h
  | cons q r => rw [inter_cons]; simp [h]
theorem rowS_ne {r : List Int} (h : r ≠ []) : rowS r ≠ [] := fun q => by
  have := congrArg List.length q
  rw [rowS_len] at this
  have := List.length_pos_iff.mpr h
  simp at *
  omega
theorem rows_sgL {R : List (List Int)} {i : Nat} (h : RowsOk R i) : ∀ r ∈ R.map rowS, ∀ c ∈ r, c ∈ sgL := by
  intro r hr
  obtain ⟨q, hq, rfl⟩ := List.mem_map.mp hr
  exact rowS_sg (h.nn q hq)
theorem rows_short {R : List (List Int)} (h : RowsOk R 16) : ∀ r ∈ R.map rowS, r.length ≤ 180 := by
  intro r hr
  obtain ⟨q, hq, rfl⟩ := List.mem_map.mp hr
  rw [rowS_len]
  have := h.short q hq
  omega
section
variable {w : World} {A : Around} {s : Shared} {mg mb : Str → Option Value} {h₀ : Heap} {L f : Addr} {cd : Value} {Q : Flow → Shared → Prop}
theorem law_mail (W : Wd w mg mb h₀) (hh : A.handled = none) (hroom : A.depth + 1 < recursionLimit) {wd : Nat} (hw : 4 ≤ wd) (hw2 : wd ≤ 2000) {R : List (List Int)} (hok : RowsOk R 16) {eo : Str} (he : IsEol (tl eo)) {tw te tb : Tok} {a0 a1 a4 : Option Value} {b0 b1 b3 b4 b5 b6 b7 b8 b9 b10 b11 b12 b13 b14 : Option Value} {O : List (Addr × Obj)}
    (F : Fr h₀ L s.heap (mv nsL [a0, a1, some (.int (wd : Nat) tw), some (.str eo te), a4, b0, b1, some (.str (Txt.join (S "\n") (R.map rowJ)) tb), b3, b4, b5, b6, b7, b8, b9, b10, b11, b12, b13, b14])) (N : News h₀ L s.heap O)
    (k : ∀ h' tk mail tm ts ta P, tl mail = mailL wd eo R → (∀ p ∈ O, p.1 ≠ P) → Fr h₀ L h' (mv nsL [a0, a1, some (.int (wd : Nat) tw), some (.str eo te), a4, b0, b1, some (.str (Txt.join (S "\n") (R.map rowJ)) tb), b3, some (.str mail tm), some (.int (1 + (eo.length : Nat)) ts), some (.int 0 ta), some (.ref P), b8, b9, b10, b11, b12, b13, b14]) → News h₀ L h' ((P, listOf #[] 0) :: O) →
      wpAny (model pN w) A (execs (dL.1.2.1.drop 15) (envL L f cd)) Q No { s with heap := h', toks := tk }) :
    wpAny (model pN w) A (execs (dL.1.2.1.drop 11) (envL L f cd)) Q No s := by
  have hsl := sizeLine_eq
  have W1 : Wd w mg mb s.heap := W.grow F.keep
  obtain ⟨r0, rs, hR0, hr0⟩ := rows_first hok
  have hel : eo.length ≤ 2 := by rw [← tl_length]; exact eol_len he
  refine s_assign (i := 9) (V := fun v => ∃ y, tl y = mailL wd eo R ∧ IsS y v) F N ndL (Ev.callD W1.X (K57 w) (Ev.glob W1 (glob_enc w)) (Evs.cons (Ev.varS F ndL 7) (Evs.cons (Ev.varI F ndL 2) (Evs.cons (Ev.varS F ndL 3) Evs.nil))) (fun s vs Q E hvs g k => ?_)) ?_
  · obtain ⟨_, _, _, rfl, ⟨u1, rfl⟩, ⟨u2, rfl⟩, ⟨u3, rfl⟩⟩ := all3 hvs
    refine enc_call (rows := R.map rowS) (W1.grow g) hh (Nat.lt_of_succ_lt hroom) hw hw2 ?_ ?_ (tl_body R) (rows_sgL hok) ?_ ?_ he fun y t' h' tk hy g => k _ _ _ ⟨y, hy, t', rfl⟩ g
    · rw [tl_body, hR0]
      exact inter_ne _ (rowS_ne hr0)
    · simpa using hok.ne
    · rw [List.length_map]; have := hok.len; omega
    · intro r hr; have := rows_short hok r hr; omega
  rintro v h tk ⟨mail, hmail, tm, rfl⟩ F N
  have W2 : Wd w mg mb h := W.grow F.keep
  refine s_assign (i := 10) F N ndL (Ev.add Ev.int (Ev.lenS (Ev.blt W2 (glob_len w) boot_len (by decide +kernel)) (Ev.varS F ndL 3) (by omega))) ?_
  rintro v h tk ⟨ts, rfl⟩ F N
  refine s_assign (i := 11) F N ndL Ev.int ?_
  rintro v h tk ⟨ta, rfl⟩ F N
  refine s_assignL (i := 12) F N ndL Evs.nil (by decide) ?_
  rintro us P h tk hus F N hP
  cases hus
  exact k h tk mail tm ts ta P hmail hP F N
end
end Mine
end
section
open PySem PySem.W PyProof.Rows StrLaws Builtin.Str
set_option maxRecDepth 100000
set_option maxHeartbeats 0
namespace Mine
theorem inter_at (eol : List Nat) : ∀ (Ts : List (List Nat)) (j : Nat) (T : List Nat), Ts[j]? = some T → List.intercalate eol Ts = (Ts.take j).flatMap (· ++ eol) ++ (T ++ (if j + 1 < Ts.length then eol ++ List.intercalate eol (Ts.drop (j + 1)) else []))
  | [], j, T, h => by simp at h
  | [q], 0, T, h => by simp at h; subst h; simp [inter_one]
  | [q], j + 1, T, h => by simp at h
  | q :: p :: r, 0, T, h => by simp at h; subst h; rw [inter_cons]; simp
  | q :: p :: r, j + 1, T, h => by
    have := inter_at eol (p :: r) j T (by simpa using h)
    rw [inter_cons, this]
    simp [List.append_assoc]
/-- the rows' texts in the mail -/
def rT (wd : Nat) (eo : Str) (r : List Int) : List Nat := rowT (wd - 1) (tl eo) (brk wd (10 * r.length)) (rowS r)
theorem mail_rows (wd : Nat) (eo : Str) {R : List (List Int)} (h : R ≠ []) : mailL wd eo R = List.intercalate (tl eo) (R.map (rT wd eo)) := by
  unfold mailL
  rw [inter_rows wd (tl eo) (by simpa using h), List.map_map]
  congr 1
  apply List.map_congr_left
  intro r _
  show rowT _ _ (brk wd (rowS r).length) _ = _
  rw [rowS_len]; rfl
/-- where a row begins -/
def preN (wd : Nat) (eo : Str) (R : List (List Int)) (j : Nat) : Nat := (((R.map (rT wd eo)).take j).flatMap (· ++ tl eo)).length
def atN (wd : Nat) (eo : Str) (R : List (List Int)) (j : Nat) : Nat := if j < R.length then preN wd eo R j else (mailL wd eo R).length
theorem brk_row {wd n : Nat} : brk wd n * (wd - 1) ≤ n := Nat.le_trans (brk_mul wd n) (Nat.sub_le _ _)
theorem rT_len (wd : Nat) (eo : Str) (r : List Int) : (rT wd eo r).length = 10 * r.length + brk wd (10 * r.length) * (1 + eo.length) := by
  unfold rT
  rw [rowT_len (by rw [rowS_len]; exact brk_row), rowS_len, tl_length]
section
variable {wd : Nat} {eo : Str} {R : List (List Int)} {r : List Int} {j : Nat}
theorem mail_cut (hj : R[j]? = some r) : ∃ pre post, pre.length = preN wd eo R j ∧ mailL wd eo R = pre ++ (rT wd eo r ++ post) ∧ (j + 1 < R.length → post.take eo.length = tl eo ∧ preN wd eo R (j + 1) = preN wd eo R j + (rT wd eo r).length + eo.length) ∧ (¬ j + 1 < R.length → post = []) := by
  have hne : R ≠ [] := fun q => by rw [q] at hj; simp at hj
  have hT : (R.map (rT wd eo))[j]? = some (rT wd eo r) := by rw [List.getElem?_map, hj]; rfl
  refine ⟨_, _, rfl, (mail_rows wd eo hne).trans (inter_at (tl eo) _ j _ hT), fun h => ⟨?_, ?_⟩, fun h => ?_⟩
  · rw [if_pos (by rw [List.length_map]; exact h), ← tl_length, List.take_left]
  · unfold preN
    rw [List.take_succ, hT, List.flatMap_append, List.length_append]
    simp
    rw [tl_length]; omega
  · rw [if_neg (by rw [List.length_map]; exact h)]
theorem get_mid {pre T post : List Nat} {q c : Nat} (h : T[q]? = some c) : (pre ++ (T ++ post))[pre.length + q]? = some c := by
  rw [List.getElem?_append_right (Nat.le_add_right _ _), Nat.add_sub_cancel_left, List.getElem?_append_left (List.getElem?_eq_some_iff.mp h).1, h]
theorem take_mid {pre T post : List Nat} {q n : Nat} {l : List Nat} (h : (T.drop q).take n = l) (hl : l.length = n) : ((pre ++ (T ++ post)).drop (pre.length + q)).take n = l := by
  by_cases h0 : n = 0
  · subst h0
    rw [List.eq_nil_of_length_eq_zero hl]; simp
  have hlen := congrArg List.length h
  rw [List.length_take, List.length_drop, hl] at hlen
  rw [← List.drop_drop, List.drop_left, List.drop_append_of_le_length (by omega), List.take_append_of_le_length (by rw [List.length_drop]; omega), h]
theorem row_sign (hw : 4 ≤ wd) (hj : R[j]? = some r) {i c : Nat} (hc : (rowS r)[i]? = some c) : (mailL wd eo R)[preN wd eo R j + (i + (1 + eo.length) * min (i / (wd - 1)) (brk wd (10 * r.length)))]? = some c := by
  obtain ⟨pre, post, hp, hM, _⟩ := mail_cut (wd := wd) (eo := eo) hj
  rw [hM, ← hp]
  refine get_mid ?_
  unfold rT
  rw [← tl_length eo, rowT_sign (by omega) (by rw [rowS_len]; exact brk_row) (List.getElem?_eq_some_iff.mp hc).1, hc]
theorem row_brk (hj : R[j]? = some r) {k : Nat} (hk : k < brk wd (10 * r.length)) : ((mailL wd eo R).drop (preN wd eo R j + ((k + 1) * (wd - 1) + k * (1 + eo.length)))).take (1 + eo.length) = 61 :: tl eo := by
  obtain ⟨pre, post, hp, hM, _⟩ := mail_cut (wd := wd) (eo := eo) hj
  rw [hM, ← hp]
  refine take_mid ?_ (by rw [List.length_cons, tl_length]; omega)
  unfold rT
  rw [← tl_length eo]
  exact rowT_brk (by rw [rowS_len]; exact brk_row) hk
theorem row_next (hj : R[j]? = some r) (h : j + 1 < R.length) : ((mailL wd eo R).drop (preN wd eo R j + (10 * r.length + brk wd (10 * r.length) * (1 + eo.length)))).take eo.length = tl eo ∧ preN wd eo R (j + 1) = preN wd eo R j + (10 * r.length + brk wd (10 * r.length) * (1 + eo.length)) + eo.length := by
  obtain ⟨pre, post, hp, hM, h1, _⟩ := mail_cut (wd := wd) (eo := eo) hj
  obtain ⟨h1, h2⟩ := h1 h
  rw [← rT_len]
  refine ⟨?_, h2⟩
  rw [hM, ← hp, ← List.drop_drop, List.drop_left, List.drop_left, h1]
theorem row_last (hj : R[j]? = some r) (h : ¬ j + 1 < R.length) : (mailL wd eo R).length = preN wd eo R j + (10 * r.length + brk wd (10 * r.length) * (1 + eo.length)) := by
  obtain ⟨pre, post, hp, hM, _, h1⟩ := mail_cut (wd := wd) (eo := eo) hj
  rw [hM, h1 h, ← hp, ← rT_len, List.append_nil, List.length_append]
end
/-- a slice that is so -/
theorem slice_is {x z : Str} {a n : Nat} {b : Int} (h : ((tl x).drop a).take n = tl z) (hn : z.length = n) (h0 : 0 < n) (hb : b = (a : Int) + n) : (Txt.slice x (some (a : Int)) (some b) != z) = false := by
  have hl := congrArg List.length h
  rw [List.length_take, List.length_drop, tl_length z] at hl
  have e : Txt.slice x (some (a : Int)) (some b) = z := by
    apply tl_ext
    rw [tl_slice (by omega) (by omega) (by omega), ← h, hb]
    congr 1
    omega
  rw [e]; simp
theorem take_one {l : List Nat} {a c : Nat} (h : l[a]? = some c) : (l.drop a).take 1 = [c] := by
  obtain ⟨ha, e⟩ := List.getElem?_eq_some_iff.mp h
  rw [List.drop_eq_getElem_cons ha, e]; rfl
end Mine
end
section
open PySem PySem.W PyProof.Rows StrLaws Builtin.Str
set_option maxRecDepth 100000
set_option maxHeartbeats 0
namespace Mine
theorem rT_short {wd : Nat} {eo : Str} (hw : 4 ≤ wd) (he : eo.length ≤ 2) {R : List (List Int)} (hok : RowsOk R 16) : ∀ l ∈ R.map (rT wd eo), l.length ≤ 720 := by
  intro l hl
  obtain ⟨r, hr, rfl⟩ := List.mem_map.mp hl
  rw [rT_len]
  have h1 := hok.short r hr
  have h2 := brk_le (n := 10 * r.length) hw
  have h3 : brk wd (10 * r.length) * (1 + eo.length) ≤ 180 * 3 := Nat.mul_le_mul (by omega) (by omega)
  omega
theorem mail_len {wd : Nat} {eo : Str} (hw : 4 ≤ wd) (he : eo.length ≤ 2) {R : List (List Int)} (hok : RowsOk R 16) : (mailL wd eo R).length ≤ 17 * 722 := by
  rw [mail_rows wd eo hok.ne]
  have h1 := inter_len (tl eo) _ (rT_short hw he hok)
  rw [List.length_map, tl_length] at h1
  have h2 := hok.len
  exact Nat.le_trans h1 (Nat.mul_le_mul (by omega) (by omega))
theorem brk_int {wd n : Nat} (hw : 4 ≤ wd) (hn : n = 0 ∨ 2 ≤ n) : (if decide (((n : Nat) : Int) > 0) then Int.fdiv (((n : Nat) : Int) - 2) (((wd : Nat) : Int) - 1) else 0) = ((brk wd n : Nat) : Int) := by
  rcases hn with rfl | hn
  · simp [brk]
  · rw [if_pos (decide_eq_true (by omega)), show ((n : Nat) : Int) - 2 = ((n - 2 : Nat) : Int) by omega, show ((wd : Nat) : Int) - 1 = ((wd - 1 : Nat) : Int) by omega]
    rw [Int.fdiv_eq_ediv_of_nonneg _ (by omega)]
    rfl
theorem div_int {wd i : Nat} (hw : 4 ≤ wd) : Int.fdiv ((i : Nat) : Int) (((wd : Nat) : Int) - 1) = ((i / (wd - 1) : Nat) : Int) := by
  rw [show ((wd : Nat) : Int) - 1 = ((wd - 1 : Nat) : Int) by omega, Int.fdiv_eq_ediv_of_nonneg _ (by omega)]
  rfl
theorem min_int (a b : Nat) : (if ((b : Nat) : Int) < ((a : Nat) : Int) then ((b : Nat) : Int) else ((a : Nat) : Int)) = ((min a b : Nat) : Int) := by
  by_cases h : b < a
  · rw [if_pos (by omega), Nat.min_eq_right (by omega)]
  · rw [if_neg (by omega), Nat.min_eq_left (by omega)]
section
variable {w : World} {A : Around} {s : Shared} {mg mb : Str → Option Value} {h₀ : Heap} {L f : Addr} {cd : Value} {Q : Flow → Shared → Prop}
theorem law_check (W : Wd w mg mb h₀) (hh : A.handled = none) (hroom : A.depth + 1 < recursionLimit) {wd : Nat} (hw : 4 ≤ wd) (hw2 : wd ≤ 2000) {R : List (List Int)} (hok : RowsOk R 16) {eo mail : Str} (he : IsEol (tl eo)) (hmail : tl mail = mailL wd eo R) {Rw P : Addr} {tw te tm ts ta : Tok} {a0 a1 a4 : Option Value} {b1 b2 b3 c0 c1 c2 c3 c4 c5 c6 : Option Value} {O : List (Addr × Obj)}
    (F : Fr h₀ L s.heap (mv nsL [a0, a1, some (.int (wd : Nat) tw), some (.str eo te), a4, some (.ref Rw), b1, b2, b3, some (.str mail tm), some (.int (1 + (eo.length : Nat)) ts), some (.int 0 ta), some (.ref P), c0, c1, c2, c3, c4, c5, c6])) (N : News h₀ L s.heap ((P, listOf #[] 0) :: O)) (I : RI Rw R O) (hP : ∀ p ∈ O, p.1 ≠ P)
    (k : ∀ h' tk ta kP its c0 c1 c2 c3 c4 c5 c6, StrsAre its.toList (R.map rowJ) → Fr h₀ L h' (mv nsL [a0, a1, some (.int (wd : Nat) tw), some (.str eo te), a4, some (.ref Rw), b1, b2, b3, some (.str mail tm), some (.int (1 + (eo.length : Nat)) ts), some (.int ((mail.length : Nat)) ta), some (.ref P), c0, c1, c2, c3, c4, c5, c6]) → News h₀ L h' ((P, listOf its kP) :: O) →
      wpAny (model pN w) A (execs (dL.1.2.1.drop 16) (envL L f cd)) Q No { s with heap := h', toks := tk }) :
    wpAny (model pN w) A (execs (dL.1.2.1.drop 15) (envL L f cd)) Q No s := by
  have hsl := sizeLine_eq
  obtain ⟨kR, es, rfl, hR, hints, hnd⟩ := I.ex
  have hel : eo.length ≤ 2 := by rw [← tl_length]; exact eol_len he
  have hep : 0 < eo.length := by rw [← tl_length]; exact eol_pos he
  have hml : mail.length ≤ 17 * 722 := by rw [← tl_length, hmail]; exact mail_len hw hel hok
  have hRl := hok.len
  have hRe : R.length = es.length := by rw [← hR, List.length_map]
  have hR0 : 0 < R.length := List.length_pos_iff.mpr hok.ne
  have hsz : (refs es).size = R.length := by unfold refs; rw [List.size_toArray, List.length_map, hRe]
  refine s_for_var (D := Rw) (items := refs es) (kk := kR) (ix := 13) hh F N ndL
    (fun j vs O' => ∃ ta kP its c0 c1 c2 c3 c4 c5 c6, vs = [a0, a1, some (.int (wd : Nat) tw), some (.str eo te), a4, some (.ref Rw), b1, b2, b3, some (.str mail tm), some (.int (1 + (eo.length : Nat)) ts), some (.int ((atN wd eo R j : Nat)) ta), some (.ref P), c0, c1, c2, c3, c4, c5, c6] ∧ O' = (P, listOf its kP) :: (Rw, listOf (refs es) kR) :: led es ∧ StrsAre its.toList ((R.take j).map rowJ))
    (Ev.var F ndL 5) (by rintro _ _ _ ⟨ta, kP, its, c0, c1, c2, c3, c4, c5, c6, rfl, rfl, _⟩; simp) ⟨ta, 0, #[], c0, c1, c2, c3, c4, c5, c6, ?_, rfl, .nil⟩ (by rintro _ _ _ ⟨ta, kP, its, c0, c1, c2, c3, c4, c5, c6, rfl, rfl, _⟩; exact Nat.le_of_ble_eq_true rfl) ?_ ?_
  · have : atN wd eo R 0 = 0 := by unfold atN; rw [if_pos hR0]; rfl
    rw [this]; rfl
  · rintro j v vs₁ O₁ h tk I it hv ⟨ta, kP, its, c0, c1, c2, c3, c4, c5, c6, rfl, rfl, hits⟩ hO F N
    obtain ⟨e, hej, rfl⟩ : ∃ e, es[j]? = some e ∧ v = .ref e.a := by
      unfold refs at hv
      rw [List.getElem?_toArray, List.getElem?_map] at hv
      cases hq : es[j]? with
      | none => rw [hq] at hv; cases hv
      | some e => rw [hq] at hv; exact ⟨e, rfl, (Option.some.inj hv).symm⟩
    have hee : e ∈ es := List.mem_of_getElem? hej
    have hRj : R[j]? = some e.ms := by rw [← hR, List.getElem?_map, hej]; rfl
    have hjl : j < R.length := (List.getElem?_eq_some_iff.mp hRj).1
    have hems : e.ms ∈ R := List.mem_of_getElem? hRj
    have hms := hok.short _ hems
    have hat : atN wd eo R j = preN wd eo R j := if_pos hjl
    rw [hat] at F
    have hel2 : h.IsList e.a e.its := ⟨_, (N (e.a, listOf e.its e.k) (List.mem_cons_of_mem _ (List.mem_cons_of_mem _ (List.mem_cons_of_mem _ (List.mem_map.mpr ⟨e, hee, rfl⟩))))).1, rfl, _, rfl⟩
    have hil := (hints e hee).length
    rw [Array.length_toList] at hil
    have W1 : Wd w mg mb h := W.grow F.keep
    refine s_assign (i := 14) (V := IsS (rowJ e.ms)) F N ndL (Ev.join (ys := e.ms.map fun m => sigs m 3) Ev.str ((EvH.comp (F := fun v y => ∀ m t, v = .int m t → IsS (sigs m 3) y) hh (Ev.var F ndL 13) hel2 (by omega) (fun C' h₃ m₃ v' hv' g' hn' hm' => ?_)).mono fun v' h' hv' => ?_) (by decide +kernel) ?_) ?_
    · obtain ⟨i, hi, q⟩ := Array.mem_iff_getElem.mp hv'
      obtain ⟨m, t, rfl, hmm⟩ := ints_get (hints e hee) (i := i) (v := v') (by rw [Array.getElem?_toList, Array.getElem?_eq_getElem hi, q])
      have W3 : Wd w mg mb h₃ := W1.grow g'
      refine (Ev.callD (V := IsS (sigs m 3)) W3.X (K119 w) (Ev.glob W3 (glob_signs w)) (Evs.cons (Ev.loc hn' hm') Evs.nil) (fun s vs Q E hvs g k => ?_)).mono fun y hy m' t' q => ?_
      · obtain ⟨_, rfl, rfl⟩ := all1 hvs
        exact signs_call (W3.grow g) hh (Nat.lt_of_succ_lt hroom) m t fun t' h' tk g => k _ _ _ ⟨t', rfl⟩ g
      · cases q; exact hy
    · obtain ⟨D, ys, rfl, hl', hP⟩ := hv'
      exact ⟨D, ys, rfl, hl', ints_map (fun m t y h => h m t rfl) (hints e hee) hP⟩
    · rw [ms_sum e.ms, List.length_map]
      omega
    rintro v h tk ⟨t14, rfl⟩ F N
    have hrl : (rowJ e.ms).length = 10 * e.ms.length := rowJ_len e.ms
    generalize hn : 10 * e.ms.length = n at hrl
    have hnl : n ≤ 180 := by omega
    have hn2 : n = 0 ∨ 2 ≤ n := by omega
    have W1 : Wd w mg mb h := W.grow F.keep
    refine s_assign (i := 15) F N ndL (Ev.lenS (Ev.blt W1 (glob_len w) boot_len (by decide +kernel)) (Ev.varS F ndL 14) (by omega)) ?_
    rw [hrl]
    rintro v h tk ⟨t15, rfl⟩ F N
    refine s_assign (i := 16) F N ndL (Ev.iteI (Te.gtI (Ev.varI F ndL 15) Ev.int) (Ev.fdiv (Ev.sub (Ev.varI F ndL 15) Ev.int) (Ev.sub (Ev.varI F ndL 2) Ev.int) (by omega) (PyProof.noPylong_small (by omega))) Ev.int) ?_
    rw [brk_int hw hn2]
    rintro v h tk ⟨t16, rfl⟩ F N
    generalize hb : brk wd n = b
    rw [hb] at F
    have hbl : b ≤ 180 := by rw [← hb]; exact Nat.le_trans (brk_le hw) hnl
    have W1 : Wd w mg mb h := W.grow F.keep
    generalize hpo : preN wd eo R j = po at F
    refine s_for_range (k := n) (ix := 17) hh F N ndL
      (fun i vs O' => ∃ c4 c5 c6, vs = [a0, a1, some (.int (wd : Nat) tw), some (.str eo te), a4, some (.ref Rw), b1, b2, b3, some (.str mail tm), some (.int (1 + (eo.length : Nat)) ts), some (.int ((po : Nat)) ta), some (.ref P), some (.ref e.a), some (.str (rowJ e.ms) t14), some (.int (n : Nat) t15), some (.int (b : Nat) t16), c4, c5, c6] ∧ O' = (I, it) :: (P, listOf its kP) :: (Rw, listOf (refs es) kR) :: led es)
      (Ev.blt W1 (glob_range w) boot_range (by decide +kernel)) (Ev.varI F ndL 15) (by omega) ⟨_, _, _, rfl, rfl⟩ (by rintro _ _ _ ⟨_, _, _, rfl, _⟩; exact Nat.le_of_ble_eq_true rfl) ?_ ?_
    · rintro i ti vs₁ O₁ h tk I2 it2 hi ⟨c4, c5, c6, rfl, rfl⟩ hO2 F N
      have W1 : Wd w mg mb h := W.grow F.keep
      have hmn : min (i / (wd - 1)) b ≤ 180 := Nat.le_trans (Nat.min_le_right _ _) hbl
      refine s_assign (i := 18) (V := IsI ((po + (i + (1 + eo.length) * min (i / (wd - 1)) b) : Nat) : Int)) F N ndL ((Ev.add (Ev.add (Ev.varI F ndL 11) (Ev.varI F ndL 17)) (Ev.mul (Ev.varI F ndL 10) (Ev.minI hh (Ev.blt W1 (glob_min w) boot_min (by decide +kernel)) (Ev.fdiv (Ev.varI F ndL 17) (Ev.sub (Ev.varI F ndL 2) Ev.int) (by omega) (PyProof.noPylong_small (by omega))) (Ev.varI F ndL 16)) (by rw [div_int hw, min_int]; exact mulOk (by rw [Int.natAbs_natCast]; exact Nat.lt_of_le_of_lt hmn (by decide))))).mono fun v hv => ?_) ?_
      · rw [div_int hw, min_int] at hv
        obtain ⟨t, rfl⟩ := hv
        exact ⟨t, by congr 1; push_cast; omega⟩
      rintro v h tk ⟨t18, rfl⟩ F N
      have hil : i < (rowS e.ms).length := by rw [rowS_len, hn]; exact hi
      have hci : (rowS e.ms)[i]? = some (rowS e.ms)[i] := List.getElem?_eq_getElem hil
      have hsg := row_sign (eo := eo) hw hRj hci
      rw [hn, hb, hpo, ← hmail] at hsg
      generalize hth : po + (i + (1 + eo.length) * min (i / (wd - 1)) b) = th at F hsg
      have hitem : Txt.item (rowJ e.ms) ((i : Nat) : Int) = ⟨#[(rowS e.ms)[i]]⟩ := item_at (by rw [tl_rowJ]; exact hci)
      refine s_if F N (Te.neS (Ev.slice2 (l2 := .Constant .none 0 default) (Ev.varS F ndL 9) (Ev.varI F ndL 18) (Ev.add (Ev.varI F ndL 18) Ev.int) (by omega)) (Ev.strAt (Ev.varS F ndL 14) (Ev.varI F ndL 17) (fits_small (by omega) (by omega)) (by omega) (by omega))) fun h tk F N => ?_
      rw [hitem, slice_is (b := (th : Int) + 1) (n := 1) (take_one hsg) rfl (by decide) rfl]
      exact wpAny_execs_nil (wpAny_execs_nil (TV.next F N hO2 ⟨_, _, _, rfl, rfl⟩))
    rintro vs₁ h tk O₁ ⟨c4, c5, c6, rfl, rfl⟩ F N
    have W1 : Wd w mg mb h := W.grow F.keep
    refine s_for_range (k := b) (ix := 19) hh F N ndL
      (fun i vs O' => ∃ c4 c5 c6, vs = [a0, a1, some (.int (wd : Nat) tw), some (.str eo te), a4, some (.ref Rw), b1, b2, b3, some (.str mail tm), some (.int (1 + (eo.length : Nat)) ts), some (.int ((po : Nat)) ta), some (.ref P), some (.ref e.a), some (.str (rowJ e.ms) t14), some (.int (n : Nat) t15), some (.int (b : Nat) t16), c4, c5, c6] ∧ O' = (I, it) :: (P, listOf its kP) :: (Rw, listOf (refs es) kR) :: led es)
      (Ev.blt W1 (glob_range w) boot_range (by decide +kernel)) (Ev.varI F ndL 16) (by omega) ⟨_, _, _, rfl, rfl⟩ (by rintro _ _ _ ⟨_, _, _, rfl, _⟩; exact Nat.le_of_ble_eq_true rfl) ?_ ?_
    · rintro i ti vs₁ O₁ h tk I2 it2 hi ⟨c4, c5, c6, rfl, rfl⟩ hO2 F N
      refine s_assign (i := 18) (V := IsI ((po + ((i + 1) * (wd - 1) + i * (1 + eo.length)) : Nat) : Int)) F N ndL ((Ev.add (Ev.add (Ev.varI F ndL 11) (Ev.mul (Ev.add (Ev.varI F ndL 19) Ev.int) (Ev.sub (Ev.varI F ndL 2) Ev.int) (mulOk (by omega)))) (Ev.mul (Ev.varI F ndL 19) (Ev.varI F ndL 10) (mulOk (by omega)))).mono fun v hv => ?_) ?_
      · obtain ⟨t, rfl⟩ := hv
        refine ⟨t, ?_⟩
        congr 1
        rw [show ((wd : Nat) : Int) - 1 = ((wd - 1 : Nat) : Int) by omega]
        push_cast
        rw [Int.add_assoc]
      rintro v h tk ⟨t18, rfl⟩ F N
      have hbr := row_brk (wd := wd) (eo := eo) hRj (k := i) (by rw [hn, hb]; exact hi)
      rw [hpo, ← hmail] at hbr
      generalize hth : po + ((i + 1) * (wd - 1) + i * (1 + eo.length)) = th at F hbr
      have hS1 : (S "=").length = 1 := by decide +kernel
      have hz : (S "=" ++ eo).length = 1 + eo.length := by rw [len_app, hS1]
      refine s_if F N (Te.neS (Ev.slice2 (l2 := .Constant .none 0 default) (Ev.varS F ndL 9) (Ev.varI F ndL 18) (Ev.add (Ev.varI F ndL 18) (Ev.varI F ndL 10)) (by omega)) (Ev.cat Ev.str (Ev.varS F ndL 3) (by show (S "=").length + _ ≤ _; omega))) fun h tk F N => ?_
      rw [slice_is (x := mail) (z := S "=" ++ eo) (a := th) (b := (th : Int) + (1 + (eo.length : Nat))) (n := 1 + eo.length) (by rw [hbr, tl_append]; rfl) hz (by omega) (by omega)]
      exact wpAny_execs_nil (wpAny_execs_nil (TV.next F N hO2 ⟨_, _, _, rfl, rfl⟩))
    rintro vs₁ h tk O₁ ⟨c4, c5, c6, rfl, rfl⟩ F N
    refine s_assign (i := 11) (V := IsI ((po + (n + b * (1 + eo.length)) : Nat) : Int)) F N ndL ((Ev.add (Ev.add (Ev.varI F ndL 11) (Ev.varI F ndL 15)) (Ev.mul (Ev.varI F ndL 16) (Ev.varI F ndL 10) (mulOk (by omega)))).mono fun v hv => ?_) ?_
    · obtain ⟨t, rfl⟩ := hv
      refine ⟨t, ?_⟩
      congr 1
      push_cast
      rw [Int.add_assoc]
    rintro v h tk ⟨t11, rfl⟩ F N
    have hPI : P ≠ I := hO (P, listOf its kP) (by simp)
    have hitl : its.size = j := by
      have := hits.length
      rw [Array.length_toList, List.length_map, List.length_take] at this
      omega
    refine s_append (D := P) (its := its) (k := kP) (V := IsS (rowJ e.ms)) (O' := fun v => (I, it) :: (P, listOf (its.push v) (kP + 1)) :: (Rw, listOf (refs es) kR) :: led es) F N (Ev.var F ndL 12) (Ev.varS F ndL 14) (fun v _ => upd_mid (own := [(I, it)]) (fun p hp q => by rw [List.mem_singleton.mp hp] at q; exact hPI q.symm) hP) (by simp) (fun v h tk hv F N => ?_) (by omega)
    obtain ⟨tv, rfl⟩ := hv
    have hits' : StrsAre (its.push (.str (rowJ e.ms) tv)).toList ((R.take (j + 1)).map rowJ) := by
      rw [Array.toList_push, List.take_succ, hRj, List.map_append]
      exact hits.append' (.cons _ tv .nil)
    have W1 : Wd w mg mb h := W.grow F.keep
    have hPl : h.IsList P (its.push (.str (rowJ e.ms) tv)) := ⟨_, (N (P, listOf (its.push (.str (rowJ e.ms) tv)) (kP + 1)) (by simp)).1, rfl, _, rfl⟩
    have hRwl : h.IsList Rw (refs es) := ⟨_, (N (Rw, listOf (refs es) kR) (by simp)).1, rfl, _, rfl⟩
    refine s_if F N (Te.ltI (Ev.lenL (Ev.blt W1 (glob_len w) boot_len (by decide +kernel)) (Ev.var F ndL 12) hPl (by rw [Array.size_push]; omega)) (Ev.lenL (Ev.blt W1 (glob_len w) boot_len (by decide +kernel)) (Ev.var F ndL 5) hRwl (by omega))) fun h tk F N => ?_
    rw [Array.size_push, hitl, hsz]
    have hO3 : ∀ p ∈ (P, listOf (its.push (.str (rowJ e.ms) tv)) (kP + 1)) :: (Rw, listOf (refs es) kR) :: led es, p.1 ≠ I := fun p hp => by
      rcases List.mem_cons.mp hp with rfl | hp
      · exact hPI
      · exact hO p (List.mem_cons_of_mem _ hp)
    by_cases hlt : j + 1 < R.length
    · rw [if_pos (decide_eq_true (by omega))]
      have hnx := row_next (wd := wd) (eo := eo) hRj hlt
      rw [hn, hb, hpo, ← hmail] at hnx
      have W1 : Wd w mg mb h := W.grow F.keep
      generalize hth : po + (n + b * (1 + eo.length)) = th at F hnx
      refine s_if F N (Te.neS (Ev.slice2 (l2 := .Constant .none 0 default) (Ev.varS F ndL 9) (Ev.varI F ndL 11) (Ev.add (Ev.varI F ndL 11) (Ev.lenS (Ev.blt W1 (glob_len w) boot_len (by decide +kernel)) (Ev.varS F ndL 3) (by omega))) (by omega)) (Ev.varS F ndL 3)) fun h tk F N => ?_
      rw [slice_is (x := mail) (z := eo) (a := th) (b := (th : Int) + (eo.length : Nat)) (n := eo.length) hnx.1 rfl hep rfl]
      refine wpAny_execs_nil ?_
      have W1 : Wd w mg mb h := W.grow F.keep
      refine s_assign (i := 11) F N ndL (Ev.add (Ev.varI F ndL 11) (Ev.lenS (Ev.blt W1 (glob_len w) boot_len (by decide +kernel)) (Ev.varS F ndL 3) (by omega))) ?_
      rintro v h tk ⟨t11, rfl⟩ F N
      have hat : atN wd eo R (j + 1) = th + eo.length := (if_pos hlt).trans hnx.2
      refine wpAny_execs_nil (wpAny_execs_nil (TV.next F N hO3 ⟨t11, kP + 1, _, some (.ref e.a), some (.str (rowJ e.ms) t14), some (.int (n : Nat) t15), some (.int (b : Nat) t16), c4, c5, c6, ?_, rfl, hits'⟩))
      rw [hat]; push_cast; rfl
    · rw [if_neg (by rw [decide_eq_true_eq]; omega)]
      have hla := row_last (wd := wd) (eo := eo) hRj hlt
      rw [hn, hb, hpo] at hla
      have hat : atN wd eo R (j + 1) = po + (n + b * (1 + eo.length)) := (if_neg hlt).trans hla
      refine wpAny_execs_nil (wpAny_execs_nil (TV.next F N hO3 ⟨t11, kP + 1, _, some (.ref e.a), some (.str (rowJ e.ms) t14), some (.int (n : Nat) t15), some (.int (b : Nat) t16), c4, c5, c6, ?_, rfl, hits'⟩))
      rw [hat]; rfl
  · rintro vs₁ h tk O₁ ⟨ta, kP, its, c0, c1, c2, c3, c4, c5, c6, rfl, rfl, hits⟩ F N
    rw [hsz, List.take_length] at hits
    have hat : atN wd eo R (refs es).size = mail.length := by rw [hsz, ← tl_length mail, hmail]; exact if_neg (Nat.lt_irrefl _)
    rw [hat] at F
    exact k h tk ta kP its c0 c1 c2 c3 c4 c5 c6 hits F N
end
end Mine
end
section
open PySem PySem.W PyProof.Rows StrLaws Builtin.Str
set_option maxRecDepth 100000
set_option maxHeartbeats 0
namespace Mine
theorem mail_ne {wd : Nat} {eo : Str} {R : List (List Int)} (hok : RowsOk R 16) : mailL wd eo R ≠ [] := by
  obtain ⟨r0, rs, rfl, h0⟩ := rows_first hok
  rw [mail_rows wd eo (by simp), List.map_cons]
  refine inter_ne _ fun q => ?_
  have h1 := congrArg List.length q
  rw [rT_len] at h1
  have h2 := List.length_pos_iff.mpr h0
  rw [List.length_nil] at h1
  omega
section
variable {w : World} {A : Around} {s : Shared} {mg mb : Str → Option Value} {h₀ : Heap} {L f : Addr} {cd : Value} {Q : Flow → Shared → Prop}
theorem law_end (W : Wd w mg mb h₀) (hh : A.handled = none) (hroom : A.depth + 1 < recursionLimit) {wd : Nat} (hw : 4 ≤ wd) {R : List (List Int)} (hok : RowsOk R 16) {eo mail mk : Str} (he : IsEol (tl eo)) (hm0 : 0 < mk.length) (hm2 : mk.length ≤ 2) (hmail : tl mail = mailL wd eo R) {P : Addr} {tm ta tk4 : Tok} {a0 a1 a2 a3 : Option Value} {b0 b1 b2 b3 b5 c0 c1 c2 c3 c4 c5 c6 : Option Value} {O : List (Addr × Obj)} {its : Array Value} {kP : Nat} (hits : StrsAre its.toList (R.map rowJ))
    (F : Fr h₀ L s.heap (mv nsL [a0, a1, a2, a3, some (.str mk tk4), b0, b1, b2, b3, some (.str mail tm), b5, some (.int ((mail.length : Nat)) ta), some (.ref P), c0, c1, c2, c3, c4, c5, c6])) (N : News h₀ L s.heap ((P, listOf its kP) :: O))
    (k : ∀ h' tk, Grow h₀ h' → Q (.ret (.bool true)) { s with heap := h', toks := tk }) :
    wpAny (model pN w) A (execs (dL.1.2.1.drop 16) (envL L f cd)) Q No s := by
  have hsl := sizeLine_eq
  have hel : eo.length ≤ 2 := by rw [← tl_length]; exact eol_len he
  have hml : mail.length ≤ 17 * 722 := by rw [← tl_length, hmail]; exact mail_len hw hel hok
  have W1 : Wd w mg mb s.heap := W.grow F.keep
  refine s_if F N (Te.neI (Ev.lenS (Ev.blt W1 (glob_len w) boot_len (by decide +kernel)) (Ev.varS F ndL 9) (by omega)) (Ev.varI F ndL 11)) fun h tk F N => ?_
  rw [show (((mail.length : Nat) : Int) != ((mail.length : Nat) : Int)) = false by simp]
  refine wpAny_execs_nil ?_
  have W1 : Wd w mg mb h := W.grow F.keep
  have hPl : h.IsList P its := ⟨_, (N (P, listOf its kP) (by simp)).1, rfl, _, rfl⟩
  have hRl := hok.len
  have hne : R ≠ [] := hok.ne
  refine s_ret (Ev.eqS (x := Txt.join mk (R.map rowJ)) (y := Txt.join mk (R.map rowJ)) (Ev.callD W1.X (K65 w) (Ev.glob W1 (glob_dec w)) (Evs.cons (Ev.varS F ndL 9) (Evs.cons (Ev.varS F ndL 4) Evs.nil)) (fun s vs Q E hvs g k => ?_)) (Ev.join (Ev.varS F ndL 4) (Ev.toH (Ev.var F ndL 12) fun v h' hv g => ⟨P, its, hv, hPl.at fun o e => g _ _ e, hits⟩) (by omega) ?_)) ?_
  · obtain ⟨_, _, rfl, ⟨u1, rfl⟩, ⟨u2, rfl⟩⟩ := all2 hvs
    have hrows := rows_short hok
    refine dec_call (eol := tl eo) (ps := (R.map rowS).flatMap (pieces wd)) (res := List.intercalate (tl mk) (R.map rowS)) (W1.grow g) hh (Nat.lt_of_succ_lt hroom) he (by rw [hmail]; exact mail_ne hok) ?_ hmail ?_ ?_ ?_ (by omega) hm0 hm2 (dec_mail hw (by simpa using hne) ?_ (rows_sgL hok)) fun y t' h' tk hy g => k _ _ _ ⟨t', ?_⟩ g
    · obtain ⟨r0, rs, rfl, h0⟩ := rows_first hok
      rw [List.map_cons, List.flatMap_cons]
      intro q
      exact pieces_ne wd _ (List.append_eq_nil_iff.mp q).1
    · intro p hp
      obtain ⟨l, hl, hp⟩ := List.mem_flatMap.mp hp
      exact pieces_pc (rows_sgL hok l hl) p hp
    · have h1 := flat_len (f := pieces wd) (B := 181) (R.map rowS) (fun l hl => by
        rw [pieces_len]
        have := brk_le (n := l.length) hw
        have := hrows l hl
        omega)
      rw [List.length_map] at h1
      have h2 : R.length * 181 ≤ 17 * 181 := Nat.mul_le_mul_right _ (by omega)
      omega
    · intro p hp
      obtain ⟨l, hl, hp⟩ := List.mem_flatMap.mp hp
      have := piece_le hp
      have := hrows l hl
      omega
    · obtain ⟨r0, rs, rfl, h0⟩ := rows_first hok
      intro q
      rw [List.map_cons] at q
      exact rowS_ne h0 (List.cons.inj q).1
    · congr 1
      apply tl_ext
      rw [hy, tl_join, List.map_map]
      congr 1
      exact (List.map_congr_left fun r _ => tl_rowJ r).symm
  · have h1 := rows_sum hok.short
    rw [List.length_map]
    have h2 : R.length * (10 * 18) ≤ 17 * (10 * 18) := Nat.mul_le_mul_right _ (by omega)
    omega
  · rintro v h' tk rfl g
    rw [beq_self_eq_true]
    exact k h' tk (Grow.trans F.keep g)
end
end Mine
end
section
open PySem PySem.W PyProof.Rows StrLaws Builtin.Str
set_option maxRecDepth 100000
set_option maxHeartbeats 0
namespace Mine
theorem RowsOk.up {R : List (List Int)} {i j : Nat} (h : RowsOk R i) (hij : i ≤ j) : RowsOk R j :=
  ⟨Nat.le_trans h.len (by omega), h.ne, h.head, h.nn, fun r hr => Nat.le_trans (h.short r hr) (by omega)⟩
theorem eolV {a : Int} (h0 : 0 ≤ a) (h1 : a < 3) : ∃ eo, IsEol (tl eo) ∧ [IsS (S "\n"), IsS (S "\r\n"), IsS (S "\r")][a.toNat]? = some (IsS eo) := by
  rcases (by omega : a = 0 ∨ a = 1 ∨ a = 2) with rfl | rfl | rfl
  · exact ⟨S "\n", by rw [show tl (S "\n") = [10] by decide +kernel]; exact .lf, rfl⟩
  · exact ⟨S "\r\n", by rw [show tl (S "\r\n") = [13, 10] by decide +kernel]; exact .crlf, rfl⟩
  · exact ⟨S "\r", by rw [show tl (S "\r") = [13] by decide +kernel]; exact .cr, rfl⟩
theorem markV {a : Int} (h0 : 0 ≤ a) (h1 : a < 2) : ∃ mk : Str, 0 < mk.length ∧ mk.length ≤ 2 ∧ [IsS (S "\n"), IsS (S "; ")][a.toNat]? = some (IsS mk) := by
  rcases (by omega : a = 0 ∨ a = 1) with rfl | rfl
  · exact ⟨S "\n", by decide +kernel, by decide +kernel, rfl⟩
  · exact ⟨S "; ", by decide +kernel, by decide +kernel, rfl⟩
section
variable {w : World} {A₀ : Around} {s : Shared} {mg mb : Str → Option Value} {h₀ base : Heap} {L f : Addr} {cd : Value} {Q : Flow → Shared → Prop}
theorem law_front (W : Wd w mg mb h₀) {A : Around} (hu : A.units < cLine) {sc : Addr} {vs : List Value} {xs : List Int} (hL : h₀.IsList sc vs.toArray) (hI : IntsAre vs xs) {a1 a2 a3 a4 b0 b1 b2 b3 b4 b5 b6 b7 b8 b9 b10 b11 b12 b13 b14 : Option Value}
    (F : Fr h₀ L s.heap (mv nsL [some (.ref sc), a1, a2, a3, a4, b0, b1, b2, b3, b4, b5, b6, b7, b8, b9, b10, b11, b12, b13, b14]))
    (k : ∀ h' tk fi tf wd tw, 4 ≤ wd → wd ≤ 2000 → Fr h₀ L h' (mv nsL [some (.ref sc), some (.int fi tf), some (.int (wd : Nat) tw), a3, a4, b0, b1, b2, b3, b4, b5, b6, b7, b8, b9, b10, b11, b12, b13, b14]) →
      wpAny (model pN w) A (execs (dL.1.2.1.drop 3) (envL L f cd)) Q No { s with heap := h', toks := tk }) :
    wpAny (model pN w) A (execs (dL.1.2.1.drop 0) (envL L f cd)) Q No s := by
  have hL' : s.heap.IsList sc vs.toArray := hL.at fun o e => F.keep _ _ e
  refine s_assign (i := 1) (V := fun v => ∃ fi, IsI fi v) F News.nil ndL (Ev.ite (Te.neNil hu (Ev.var F ndL 0) hL') (fun hc => ?_) (fun _ => Ev.int.mono fun v hv => ⟨0, hv⟩)) ?_
  · cases hI with
    | nil => simp at hc
    | cons n t r => exact (Ev.listIdx (a := 0) (v := .int n t) (Ev.var F ndL 0) Ev.int hL' rfl (by decide)).mono fun v hv => ⟨n, t, hv⟩
  rintro v h tk ⟨fi, tf, rfl⟩ F N
  refine s_assign (i := 2) F N ndL (Ev.add Ev.int ((Ev.varI F ndL 1).mod Ev.int (by decide))) ?_
  rintro v h tk ⟨tw, rfl⟩ F N
  have hb1 := fmod_bounds fi (b := 20) (by decide)
  have hb2 := fmod_bounds (if fi < 0 then -fi else fi) (b := 1000) (by decide)
  have W1 : Wd w mg mb h := W.grow F.keep
  refine s_if F N (Te.eqI (((Ev.varI F ndL 1).fdiv Ev.int (by decide) (PyProof.noPylong_small (by decide))).mod Ev.int (by decide)) Ev.int) fun h tk F N => ?_
  split
  · have W1 : Wd w mg mb h := W.grow F.keep
    refine s_assign (i := 2) (V := IsI (((4 + Int.fmod (if fi < 0 then -fi else fi) 1000).toNat : Nat) : Int)) F N ndL ((Ev.add Ev.int ((Ev.absI (Ev.blt W1 (glob_abs w) boot_abs (by decide +kernel)) (Ev.varI F ndL 1)).mod Ev.int (by decide))).mono fun v hv => ?_) ?_
    · rwa [Int.toNat_of_nonneg (by omega)]
    rintro v h tk ⟨tw, rfl⟩ F N
    exact wpAny_execs_nil (k h tk fi tf _ tw (by omega) (by omega) F)
  · refine wpAny_execs_nil ?_
    have e : 4 + Int.fmod fi 20 = (((4 + Int.fmod fi 20).toNat : Nat) : Int) := by rw [Int.toNat_of_nonneg (by omega)]
    generalize hwd : (4 + Int.fmod fi 20).toNat = wd at e
    rw [e] at F
    exact k h tk fi tf wd tw (by omega) (by omega) F
theorem law_walk (W : Wd w mg mb h₀) (hh : A₀.handled = none) (hroom : (A₀.deeper (envL L f cd)).depth + 1 < recursionLimit) (hu : (A₀.deeper (envL L f cd)).units < cLine) (K : Below A₀ base [] h₀) {sc : Addr} {vs : List Value} {xs : List Int} (hL : h₀.IsList sc vs.toArray) (hI : IntsAre vs xs) (hxl : xs.length ≤ 63)
    (F : Fr h₀ L s.heap (mv nsL [some (.ref sc), none, none, none, none, none, none, none, none, none, none, none, none, none, none, none, none, none, none, none]))
    (k : ∀ h' tk, Grow h₀ h' → Q (.ret (.bool true)) { s with heap := h', toks := tk }) :
    wpAny (model pN w) (A₀.deeper (envL L f cd)) (execs dL.1.2.1 (envL L f cd)) Q No s := by
  refine law_front W hu hL hI F fun h tk fi tf wd tw hw hw2 F => ?_
  have hb3 := fmod_bounds (Int.fdiv fi 40) (b := 3) (by decide)
  have hb4 := fmod_bounds (Int.fdiv fi 120) (b := 2) (by decide)
  obtain ⟨eo, he, hVe⟩ := eolV hb3.1 hb3.2
  obtain ⟨mk, hm0, hm2, hVm⟩ := markV hb4.1 hb4.2
  refine s_assign (i := 3) F News.nil ndL (Ev.listAt (Evs.cons Ev.str (Evs.cons Ev.str (Evs.cons Ev.str Evs.nil))) (((Ev.varI F ndL 1).fdiv Ev.int (by decide) (PyProof.noPylong_small (by decide))).mod Ev.int (by decide)) hb3.1 (by omega) hVe (by decide)) ?_
  rintro v h tk ⟨te, rfl⟩ F N
  refine s_assign (i := 4) F N ndL (Ev.listAt (Evs.cons Ev.str (Evs.cons Ev.str Evs.nil)) (((Ev.varI F ndL 1).fdiv Ev.int (by decide) (PyProof.noPylong_small (by decide))).mod Ev.int (by decide)) hb4.1 (by omega) hVm (by decide)) ?_
  rintro v h tk ⟨tmk, rfl⟩ F N
  refine s_assignLL (i := 5) F N ndL (Evs.cons Ev.int (Evs.cons Ev.int Evs.nil)) (by decide) ?_
  rintro us Rw b h tk hus F N _ hab
  obtain ⟨_, _, rfl, ⟨u1, rfl⟩, ⟨u2, rfl⟩⟩ := all2 hus
  refine law_rows hh hL hI hxl F N ⟨0, [⟨b, #[.int 16877 u1, .int 35305 u2], 0, [16877, 35305]⟩], rfl, rfl, ?_, ?_⟩ fun h tk O bx F N I => ?_
  · intro e he
    rw [List.mem_singleton.mp he]
    exact .cons _ _ (.cons _ _ .nil)
  · simpa using hab
  have hok : RowsOk (((xs.drop 1).take 16).foldl rowStep [[16877, 35305]]) 16 := (rowsFold _).up (by rw [List.length_take]; omega)
  generalize (((xs.drop 1).take 16).foldl rowStep [[16877, 35305]]) = R at I hok
  refine law_body W hh hroom F N I hok fun h tk tb F N => ?_
  refine law_try W hh (Nat.lt_of_succ_lt hroom) K F N fun h tk F N => ?_
  refine law_mail W hh hroom hw hw2 hok he F N fun h tk mail tm ts ta P hmail hP F N => ?_
  refine law_check W hh hroom hw hw2 hok he hmail F N I hP fun h tk ta kP its c0 c1 c2 c3 c4 c5 c6 hits F N => ?_
  exact law_end W hh hroom hw hok he hm0 hm2 hmail hits F N fun h tk g => k h tk g
end
end Mine
end
section
open PySem PySem.W PyProof.Rows StrLaws Builtin.Str
set_option maxRecDepth 100000
set_option maxHeartbeats 0
namespace Mine
theorem good_fin {cl : Str → Option Addr} {mean : ExcName → Option Value} {xs : List Int} {s₁ s' : Shared} (g : Grow s₁.heap s'.heap) (ho : s'.os = s₁.os) (hg : s'.gens = #[]) : GoodW PySem.Challenge.rw_ny0222_01.row.claim cl mean [ofPy (.list (xs.map .int))] s₁ (.ok (.ret (.bool true))) s' :=
  ⟨.inl ⟨.bool true, ofPy (.bool true), [], rfl, fun _ => rfl, by constructor, postW_of (X := true) rfl (by simp [OpenLaw.row, PySem.Challenge.rw_ny0222_01, WTm.value, ofPy, same]) rfl, fun _ => ⟨List.nodup_nil, by intro a h; cases h⟩⟩, g, ho, hg⟩
theorem fr_script {h₀ h : Heap} {L sc : Addr} (F : Fr h₀ L h (fun x => List.lookup x [(S "script", Value.ref sc)])) : Fr h₀ L h (mv nsL [some (.ref sc), none, none, none, none, none, none, none, none, none, none, none, none, none, none, none, none, none, none, none]) := by
  rw [← show (fun y => List.lookup y [(S "script", Value.ref sc)]) = mv nsL [some (.ref sc), none, none, none, none, none, none, none, none, none, none, none, none, none, none, none, none, none, none, none] from mv_arg1 _ _ _ 19]
  exact F
end Mine
end
section
open PySem PySem.W PyProof.Rows
set_option maxRecDepth 100000
set_option maxHeartbeats 0
namespace Mine
theorem leftM : LeftO PySem.Challenge.pw_ny0222_01 qM looseM XtM (Hook.obs hookM) (Hook.val hookM) 90000 :=
  LeftO.of_pieces (H₀ := boot_heap) (H₁ := H1) (gs₀ := #[]) (gs₁ := #[]) (d₀ := boot_drawn) (d₁ := {}) (k₀ := boot_toks) (k₁ := 1892) (m₀ := 11) (ann := annM) (M := 80000) openM sizeM
    (fun w os => by rw [te_p, te_t]; have h := run w os; unfold boot at h; with_reducible exact h) (by decide)
    (fun w => funext fun os => looks_pair (look0 w os) (looks_pair (look1 w os) (keptM w)))
end Mine
end
open PySem PySem.W PyProof.Rows
set_option maxRecDepth 100000
set_option maxHeartbeats 0
theorem PySem.Challenge.cw_ny0222_01_holds : PySem.Challenge.rw_ny0222_01.Holds := by
  w_on
  o_law
  refine holds_open (q := Mine.qM) (loose := Mine.looseM) (Xt := Mine.XtM) (XP := XL Mine.qM []) (Yf := Hook.obs Mine.hookM) (Ya := Hook.val Mine.hookM) (YP := Hook.says Mine.hookM) (N := 90000) Mine.leftM (Hook.of Mine.hookM) (Hook.keeps Mine.hookM) (fun s e => xl_of s (Bool.and_eq_true_iff.mp e).1) XL.keeps (by rfl) (by rfl) (by rfl) (fun s e => recFacts_of (Bool.and_eq_true_iff.mp e).2) (by rfl) (by first | assumption | decide +kernel) (by decide +kernel) ⟨rfl, rfl, rfl, rfl, rfl, by decide +kernel⟩ ?hw ?hc
  case hw => w_witness2
  unfold Mine.hookM
  w_strict (k_go0; (all_goals try k_fold); rename_i h1 F N0; refine wpAny_mono (Mine.law_walk (W := ⟨by assumption, topRead_of (by assumption)⟩) rfl (Mine.roomL _) (Mine.unitsL _) (by assumption) (by assumption) (by assumption) (by omega) (Mine.fr_script F) (fun h tk g => Mine.good_fin (s' := ⟨h, _, _, tk, _⟩) g rfl (by assumption))) (fun _ _ x => x) (fun _ _ x => x.elim))
