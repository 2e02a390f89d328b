import PyProof.Rows.All
import Wide.All
import OpenK.AllK
import Wide.FinOn
import PySem.Challenge.RW_pg0042_01
open PySem PySem.W PyProof.Rows
set_option Elab.async false
set_option maxRecDepth 100000
set_option maxHeartbeats 8000000
set_option rowWalk.seconds 0
set_option linter.unusedSimpArgs false
set_option linter.unusedVariables false
set_option compiler.extract_closed false

namespace Mine
/-- the head asks for goals by these names; laid out ahead, they stand aside until they are proved on their own -/
theorem aside {a b c d : Prop} (main : d) (hl : a) (hw : b) (hc : c) : d := main
theorem aside1 {a d : Prop} (main : d) (hl : a) : d := main
/-- says nothing: its making leaves the written part of the heap and the text's view as constants -/
theorem hd (h : False) : (PySem.Challenge.rw_pg0042_01.row).Holds := by
  apply aside
  case main => k_head
  all_goals exact h.elim
end Mine

namespace Mine
noncomputable def seenAt : List Addr := [2,3,15,17,18,20,21,22,24,25,27,28,36,38,39,41,42,43,45,46,48,49,50,52,53,55,56,57,59,60,62,63,64,65,66,67,68,71,73,74,76,77,78,80,81,83,84,85,87,88,90,91,92,94,95,97,98,99,102,103,104,107,108,109,112,113,114,116,117,119,120,121,123,124,126,127,128,130,131,133,134,135,138,139,140,142,143,145,146,147,150,151]
/-- a run of steps, over any step -/
noncomputable def runG (ok : Thread → Bool) (st : SharedT → Thread → Option (SharedT × Thread)) : Nat → SharedT → Thread → Option SharedT
  | 0, _, _ => none
  | n + 1, s, t => match through t with
    | true => some s
    | false => match ok t with
      | false => none
      | true => match st s t with
        | some (s', t') => runG ok st n s' t'
        | none => none
theorem runG_spec {tb : String → Option Builtin} {p : Program} {w : World} {n₀ : Nat} {ann : Option Value} : ∀ {n : Nat} {s s' : SharedT} {t : Thread}, runG (stepOk n₀ ann) (stepT (denote tb) p w) n s t = some s' → topRun tb p w n₀ ann n s.abs t = some s'.abs
  | 0, _, _, _, h => by cases h
  | n + 1, s, s', t, h => by
    unfold runG at h
    unfold topRun
    cases he : through t with
    | true => rw [he] at h; cases h; rfl
    | false =>
      rw [he] at h
      cases hk : stepOk n₀ ann t with
      | false => rw [hk] at h; cases h
      | true =>
        rw [hk] at h
        cases hs : stepT (denote tb) p w s t with
        | none => rw [hs] at h; cases h
        | some r => obtain ⟨s₂, t₂⟩ := r; rw [hs] at h; rw [stepT_spec hs]; exact runG_spec h
/-- the heap at the start, as a tree -/
noncomputable def bootT (P : Params) : BT := (boot_heap P).objs.toList.zipIdx.foldl (fun t x => t.ins x.2 x.1) BT.nil
noncomputable def bootS (w : World) (os : OsState) : SharedT := ⟨bootT w.params, 11, (boot_heap w.params).life, Array.mk [], boot_drawn, boot_toks, os⟩
noncomputable def bootF (w : World) (os : OsState) : Shared := Shared.mk (boot_heap w.params) (Array.mk []) boot_drawn boot_toks os
theorem boot_abs (w : World) (os : OsState) : (bootS w os).abs = bootF w os := by kernel_rfl
theorem boot_size (w : World) (os : OsState) : (bootF w os).heap.objs.size = 11 := by kernel_rfl
noncomputable abbrev bootA (w : World) (os : OsState) : Option Value := (bootF w os).heap.nsMap mainGlobals "__annotations__"
theorem boot_ns (w : World) (os : OsState) : ((bootF w os).heap.isNs mainGlobals && (bootF w os).gens.size == 0) = true := by kernel_rfl
/-- the top's tests behind the run, and what is looked at -/
noncomputable def behind {β : Type} (p : Program) (f : Shared → β) (s₀ : Shared) (s : Shared) : Option β :=
  match staticsOk (importedModules p.main.body) s₀.heap s.heap && namesBound p s.heap && gensDone s && laidKept s₀.heap s.heap with
  | true => some (f s)
  | false => none
theorem top_of {β : Type} {p : Program} {w : World} {os : OsState} {N : Nat} {f : Shared → β} {r : β}
    (h : (runG (stepOk 11 (bootA w os)) (stepT (denote treeTable) p w) N (bootS w os) (topStub p)).map (fun s => behind p f (bootF w os) s.abs) = some (some r)) : (topFrom treeTable p w N (bootF w os)).map f = some r := by
  obtain ⟨s, hs, hv⟩ := Option.map_eq_some_iff.mp h
  unfold topFrom
  rw [boot_ns, boot_size]
  dsimp only
  have e := runG_spec hs
  rw [boot_abs] at e
  rw [e, Option.bind_some]
  unfold behind at hv
  split at hv
  · rename_i e
    rw [e]
    exact hv
  · cases hv
/-- (its making leaves the text's quick twin as a constant) -/
theorem body_long : (PySem.Challenge.rw_pg0042_01.row.prog.main.body.length == 19) = true := by k_qdec
noncomputable abbrev PQ : Program := PySem.W.Fast.tw9107243402239339134.row.prog
theorem prog_quick : PySem.Challenge.rw_pg0042_01.row.prog = PQ := by rw [PySem.W.Fast.te9107243402239339134]
theorem step_quick (w : World) : stepT (denote treeTable) PySem.Challenge.rw_pg0042_01.row.prog w = PySem.W.Fast.tw10156331382660048174 (PySem.W.Fast.tw11892475500146522536 PySem.W.Fast.tw14364793385576792824) PQ w := by
  rw [PySem.W.Fast.te10156331382660048174, PySem.W.Fast.te11892475500146522536, PySem.W.Fast.te14364793385576792824, prog_quick]
noncomputable abbrev lookT (s : Shared) := (openSeen hd.view_1 [] (importedModules PySem.Challenge.rw_pg0042_01.row.prog.main.body) (fun s => xlAt hd.view_1 [] s && recOk (RowW.records PySem.Challenge.rw_pg0042_01.row.toRowW) s) true s,
  Hook.obs (kmHook hd.heap_1 seenAt (fun _ => by kernel_rfl) [72]) s)
/-- the top's run behind the start, and what stands then -/
theorem top_quick (w : World) (os : OsState) : (runG (PySem.W.Fast.tw6613529449190102663 11 (bootA w os)) (PySem.W.Fast.tw10156331382660048174 (PySem.W.Fast.tw11892475500146522536 PySem.W.Fast.tw14364793385576792824) PQ w) 1730 (bootS w os) (topStub PQ)).map
    (fun s => behind PySem.Challenge.rw_pg0042_01.row.prog lookT (bootF w os) s.abs) = some (some (openGood hd.view_1 [], Hook.val (kmHook hd.heap_1 seenAt (fun _ => by kernel_rfl) [72]) w)) := by kernel_rfl
theorem top_whole (w : World) (os : OsState) : (topFrom treeTable PySem.Challenge.rw_pg0042_01.row.prog w 1730 (bootF w os)).map lookT = some (openGood hd.view_1 [], Hook.val (kmHook hd.heap_1 seenAt (fun _ => by kernel_rfl) [72]) w) := by
  refine top_of ?_
  have e : topStub PySem.Challenge.rw_pg0042_01.row.prog = topStub PQ := congrArg topStub prog_quick
  rw [step_quick, PySem.W.Fast.te6613529449190102663, e]
  exact top_quick w os
theorem opening_is : opening PySem.Challenge.rw_pg0042_01.row.prog = plainProg PySem.Challenge.rw_pg0042_01.row.prog.main.scope.names := by kernel_rfl
theorem fence_is (s : Shared) : fenceModules? PySem.Challenge.rw_pg0042_01.row.prog s = some s := by kernel_rfl
theorem open_is {w : World} {s : Shared} {N : Nat} (hs : fencedOpening treeTable PySem.Challenge.rw_pg0042_01.row.prog w N = some s) : openEnds treeTable PySem.Challenge.rw_pg0042_01.row.prog w N = topFrom treeTable PySem.Challenge.rw_pg0042_01.row.prog w N s := by
  unfold openEnds; rw [hs, Option.bind_some]
theorem left_whole : LeftO PySem.Challenge.rw_pg0042_01.row.prog hd.view_1 [] (fun s => xlAt hd.view_1 [] s && recOk (RowW.records PySem.Challenge.rw_pg0042_01.row.toRowW) s)
    (Hook.obs (kmHook hd.heap_1 seenAt (fun _ => by kernel_rfl) [72]))
    (Hook.val (kmHook hd.heap_1 seenAt (fun _ => by kernel_rfl) [72])) 1730 := fun w => by
  obtain ⟨s, hs, hv⟩ := Option.map_eq_some_iff.mp (boot_open (p := PySem.Challenge.rw_pg0042_01.row.prog) (N := 1730) opening_is (by decide) fence_is w)
  obtain ⟨h, gs, d, k, os⟩ := s
  obtain ⟨rfl, hv⟩ := Prod.mk.inj hv
  obtain ⟨rfl, hv⟩ := Prod.mk.inj hv
  obtain ⟨rfl, rfl⟩ := Prod.mk.inj hv
  rw [open_is hs]
  exact top_whole w os
end Mine

namespace Mine

abbrev PR : Program := PySem.Challenge.rw_pg0042_01.row.prog

/-- what is known of the place of a call: a level -/
@[reducible] def Lv (k : Nat) : Around := { handled := none, depth := 500 - 10 * k, frames := none, guards := none, units := 2000 - 100 * k }

theorem weaken {α : Type} {M : Model} {A B : Around} {t : Sem α} {Q : α → Shared → Prop} {E : Value → Shared → Prop} {s : Shared} (h : wpAny M B t Q E s)
    (hh : A.handled = B.handled) (hd : A.depth ≤ B.depth) (hu : A.units ≤ B.units) (hf : B.frames = none) (hg : B.guards = none) : wpAny M A t Q E s :=
  fun Γ p hΓ => h Γ p ⟨hΓ.1.trans hh, Nat.le_trans hΓ.2.1 hd, fun l hl => by rw [hf] at hl; (cases hl), fun l hl => by rw [hg] at hl; (cases hl), Nat.le_trans hΓ.2.2.2.2 hu⟩

structure At (k : Nat) (A : Around) : Prop where
  h : A.handled = none
  d : A.depth ≤ 500 - 10 * k
  u : A.units ≤ 2000 - 100 * k

theorem At.use {k : Nat} {A : Around} (a : At k A) {α : Type} {M : Model} {t : Sem α} {Q : α → Shared → Prop} {E : Value → Shared → Prop} {s : Shared} (h : wpAny M (Lv k) t Q E s) : wpAny M A t Q E s :=
  weaken h a.h a.d a.u rfl rfl

/-- the walk stands still here -/
noncomputable def Halt (P : Prop) : Prop := P
theorem halt {P : Prop} (h : Halt P) : P := h
theorem unhalt {P : Prop} (h : P) : Halt P := h

theorem absQ {α : Type} {M : Model} {A : Around} {t : Sem α} {Q : α → Shared → Prop} {E : Value → Shared → Prop} {s : Shared} (h : ∀ Q' : α → Shared → Prop, (∀ v s', Q v s' → Q' v s') → wpAny M A t Q' E s) : wpAny M A t Q E s := h Q fun _ _ q => q

theorem execs_abs {M : Model} {A : Around} {st : Stmt} {rest : List Stmt} {env : Env} {Q : Flow → Shared → Prop} {E : Value → Shared → Prop} {s : Shared}
    (h : ∀ Q' : Flow → Shared → Prop, (∀ s', wpAny M A (execs rest env) Q E s' → Q' .next s') → (∀ f s', f ≠ .next → Q f s' → Q' f s') → wpAny M A (exec st env) Q' E s) : wpAny M A (execs (st :: rest) env) Q E s :=
  wpAny_execs_cons (h _ (fun _ q => q) fun f s' hf q => by cases f <;> first | exact absurd rfl hf | exact q)

theorem enter_def {w : World} {A : Around} {s : Shared} {K : Frag} {Q : Value → Shared → Prop} {E : Value → Shared → Prop} {name qual : Str} {params : Arguments} {body : List Stmt} {scope : Scope} {dV kV doc pm cdv ct oc : Value} {an od : Option Addr} {osl : Array (Option Value)} {f : Addr} {args : List Value} {binds : List (Str × Value)}
    {p : Program} {loose : List Str} {mean : ExcName → Option Value} {mg mb : Str → Option Value}
    (X : K.In s.heap) (T : Top p loose mean mg mb s.heap)
    (ho : K.lookup f = some ⟨oc, od, .func (fnOf name qual params body scope dV kV doc pm an cdv ct), osl⟩) (hcd : codeIn K cdv qual = true) (hroom : A.depth < recursionLimit)
    (hbind : BindsTo s (fnOf name qual params body scope dV kV doc pm an cdv ct) ⟨args, []⟩ binds) (hloc : ∀ y ∈ binds, scope.names.lookup y.1 = some .local)
    (h : ∀ h₁, Fr s.heap s.heap.objs.size h₁ (fun y => binds.reverse.lookup y) → News s.heap s.heap.objs.size h₁ [] →
      wpAny (model PR w) (A.deeper (envOf qual scope s.heap.objs.size f cdv)) (execs body (envOf qual scope s.heap.objs.size f cdv))
        (fun fl s' => Q (match fl with | .ret v => v | _ => .none) s') (fun _ _ => False) { s with heap := h₁, toks := s.toks + binds.length })
    (hco : scope.isCoroutine = false) (hgen : scope.isGenerator = false) (hk : scope.kind = .function)
    (hcell : ∀ x ∈ scope.names, x.2 ≠ .cell) : wpAny (model PR w) A (call (.ref f) args) Q E s := by
  refine wpAny_call (codeAny_call_def (fd := fnOf name qual params body scope dV kV doc pm an cdv ct) (body := body) (binds := binds) hroom (X _ _ ho) rfl T.nolimit (codeRec_of X hcd) rfl hbind hcell hloc (fun h₁ hns hk₁ => ?_) hco hgen hk)
  exact wpAny_mono (h h₁ ⟨hns, hk₁, Nat.le_refl _⟩ News.nil) (fun fl s' q => q) fun _ _ q => q.elim

end Mine

namespace Mine
/-! the plain reading of the text's defs, over lists of signs' numbers -/
abbrev Tx := List Nat
noncomputable def S (l : Tx) : Str := ⟨l.toArray⟩
noncomputable def wh (c : Nat) : Bool := Unicode.isSpace c
structure Wd where
  ps : List (Nat × Bool)
  kind : Nat
  beh : Nat
noncomputable def rstr (l : Tx) : Tx := (l.reverse.dropWhile wh).reverse
noncomputable def comL (l : Tx) : Tx := if rstr l = [] then [35] else 35 :: 32 :: rstr l
noncomputable def signs (ps : List (Nat × Bool)) : Tx := ps.map (·.1)
noncomputable def enc1 (p : Nat × Bool) : Tx := if p.2 then [92, p.1] else [p.1]
noncomputable def enc (ps : List (Nat × Bool)) : Tx := ps.flatMap enc1
noncomputable def opn (k : Nat) : Tx := if k = 0 then [] else [34]
noncomputable def shut (k : Nat) : Tx := if k = 1 then [34] else []
noncomputable def spelled (w : Wd) : Tx := opn w.kind ++ enc w.ps ++ shut w.kind
noncomputable def sep (b : Nat) : Tx := if b = 0 then [32] else if b = 1 then [9] else [13, 32]
noncomputable def tail (b : Nat) : Tx := if b = 0 then [] else if b = 1 then [32] else [160, 9]
noncomputable def part (w : Wd) : Tx := spelled w ++ sep w.beh
/-- a row: the words ahead of its last one, and that one -/
noncomputable def rowT (r : List Wd) (z : Wd) : Tx := r.flatMap part ++ spelled z
noncomputable def noteT (r : List Wd) (z : Wd) (times : Nat) : Tx := if times = 1 then comL (rowT r z ++ tail z.beh) else comL (comL (rowT r z ++ tail z.beh))
/-- netrc's own white signs -/
noncomputable def nw (c : Nat) : Bool := c == 10 || c == 9 || c == 13 || c == 32
/-- by a flag: the sign ahead was a backslash -/
noncomputable def bareG : Bool → Tx → Tx → Tx × Tx
  | _, tok, [] => (tok, [])
  | true, tok, d :: r => bareG false (tok ++ [d]) r
  | false, tok, c :: r => if nw c then (tok, r) else if c = 92 then bareG true tok r else bareG false (tok ++ [c]) r
noncomputable def bareGo (tok r : Tx) : Tx × Tx := bareG false tok r
noncomputable def quoG : Bool → Tx → Tx → Tx × Tx
  | _, tok, [] => (tok, [])
  | true, tok, d :: r => quoG false (tok ++ [d]) r
  | false, tok, c :: r => if c = 34 then (tok, r) else if c = 92 then quoG true tok r else quoG false (tok ++ [c]) r
noncomputable def quoGo (tok r : Tx) : Tx × Tx := quoG false tok r
noncomputable def outGo : Tx → Tx × Tx
  | [] => ([], [])
  | c :: r => if nw c then outGo r else if c = 34 then quoGo [] r else if c = 92 then (match r with | [] => ([], []) | d :: r' => bareGo [d] r') else bareGo [c] r
/-- the words that a reader takes, at most n of them, up to the empty one; what is left behind -/
noncomputable def readW : Nat → Tx → List Tx × Option Tx
  | 0, _ => ([], none)
  | n + 1, r => if (outGo r).1 = [] then ([], some (outGo r).2) else ((outGo r).1 :: (readW n (outGo r).2).1, (readW n (outGo r).2).2)
/-- a word's pairs without the white ones at their end; told from behind -/
noncomputable def strip1 : List (Nat × Bool) → List (Nat × Bool) × Bool
  | [] => ([], false)
  | p :: r => if wh p.1 then (if p.2 then (r, true) else strip1 r) else (p :: r, false)
noncomputable def left1 (w : Wd) : List (Nat × Bool) × Bool := if w.kind = 1 then (w.ps, false) else ((strip1 w.ps.reverse).1.reverse, (strip1 w.ps.reverse).2)
/-- the row's words, told from behind -/
noncomputable def tornR : List Wd → List Tx × Bool
  | [] => ([], false)
  | w :: r => if w.kind > 0 ∨ (left1 w).1 ≠ [] ∨ (left1 w).2 = true then (r.reverse.map (fun v => signs v.ps) ++ [signs (left1 w).1], (left1 w).2) else tornR r
noncomputable def hash : Tx := [35]
noncomputable def joinNL : List Tx → Tx
  | [] => []
  | [x] => x
  | x :: r => x ++ 10 :: joinNL r
/-! how a number tells a word -/
noncomputable def stock (n : Nat) : Tx := [97, 35, 34, 92, 32, 9, 10, 11, 160, 8195, 8203, 33 + n / 5616 % 55000]
noncomputable def kindOf (n : Nat) (last : Bool) : Nat := if n / 156 % 6 % 3 = 2 ∧ last = false then 1 else n / 156 % 6 % 3
noncomputable def must (kind place c : Nat) : Bool := c == 92 || ((c == 32 || c == 9 || c == 10) && kind == 0) || (c == 34 && (decide (0 < kind) || place == 0))
noncomputable def drawnSigns (n : Nat) : Tx := (stock n).getD (n % 12) 0 :: (if n / 12 % 13 < 12 then [(stock n).getD (n / 12 % 13) 0] else [])
noncomputable def pairsOf (n : Nat) (last : Bool) : List (Nat × Bool) := (drawnSigns n).zipIdx.map fun p => (p.1, decide (n / 156 % 6 < 3) || must (kindOf n last) p.2 p.1)
noncomputable def wordOf (n : Nat) (last : Bool) : Wd := ⟨pairsOf n last, kindOf n last, n / 1872 % 3⟩
end Mine

namespace Mine

theorem S_len (l : Tx) : (S l).length = l.length := by simp [S, Str.length]
theorem S_app (a b : Tx) : S a ++ S b = S (a ++ b) := by
  show Str.mk _ = Str.mk _
  simp [S]
theorem S_inj {a b : Tx} (h : S a = S b) : a = b := by
  have := congrArg (fun x : Str => x.cps.toList) h
  simpa [S] using this
theorem S_iff {a b : Tx} : S a = S b ↔ a = b := ⟨S_inj, fun h => by rw [h]⟩
theorem lit (s : String) : Str.ofString s = S (s.toList.map Char.toNat) := by rw [Str.ofString_eq_toList]; rfl
theorem of_lit {s : String} {l : Tx} (h : s.toList.map Char.toNat = l) : Str.ofString s = S l := by rw [lit, h]
theorem S_cps (l : Tx) : (S l).cps.toList = l := by simp [S]

theorem drop_takeWhile {α : Type} (p : α → Bool) : ∀ l : List α, l.drop (l.takeWhile p).length = l.dropWhile p
  | [] => rfl
  | a :: r => by
    by_cases h : p a = true
    · simp [List.takeWhile_cons, List.dropWhile_cons, h, drop_takeWhile p r]
    · simp [List.takeWhile_cons, List.dropWhile_cons, h]
theorem rstrip_S (l : Tx) : Txt.rstrip (S l) = S (rstr l) := by
  unfold Txt.rstrip
  rw [PyProof.Rows.stripBy_eq]
  have h : ∀ x y : Str, x.cps.toList = y.cps.toList → x = y := fun x y e => by cases x; cases y; simp at e; rw [e]
  apply h
  rw [StrLaws.strSub_toList]
  simp only [stripLo, Bool.false_eq_true, if_false, stripHi, if_true, List.drop_zero, Nat.sub_zero, S_cps, S_len, rstr]
  have e := drop_takeWhile Unicode.isSpace l.reverse
  have e2 : (l.reverse.dropWhile wh) = l.reverse.drop (l.reverse.takeWhile Unicode.isSpace).length := by rw [e]; rfl
  rw [e2, List.reverse_drop]
  simp

/-- all that the walk leans on -/
structure Gd (w : World) (h : Heap) : Prop where
  X : (hd.heap_1 w.params).In h
  T : ∃ loose mean mg mb, Top topProg loose mean mg mb h
noncomputable def Kp (h h' : Heap) : Prop := ∀ b o, h.get? b = some o → h'.get? b = some o
theorem Kp.refl (h : Heap) : Kp h h := fun _ _ e => e
theorem Kp.trans {a b c : Heap} (x : Kp a b) (y : Kp b c) : Kp a c := fun b o e => y b o (x b o e)
theorem Gd.keeps {w : World} {h h' : Heap} (g : Gd w h) (k : Kp h h') : Gd w h' := ⟨g.X.keeps k, let ⟨a, b, c, d, t⟩ := g.T; ⟨a, b, c, d, t.keeps k⟩⟩

section
variable {w : World} {A : Around} {s : Shared} {Q : Value → Shared → Prop} {E : Value → Shared → Prop}

theorem comment_spec (G : Gd w s.heap) (a : At 1 A) (l : Tx) (t : Tok) (hx : l.length ≤ 10000)
    (h : ∀ h' tk t', Kp s.heap h' → Q (.str (S (comL l)) t') { s with heap := h', toks := tk }) :
    wpAny (model PySem.Challenge.rw_pg0042_01.row.prog w) A (call (.ref 28) [.str (S l) t]) Q E s := by
  obtain ⟨X, loose, mean, mg, mb, T⟩ := G
  revert X
  k_fill
  intro X
  refine a.use ?_
  refine enter_def X T (by k_is) (by k_is) (by decide) (BindsTo.of_eq rfl) (locs rfl) ?_ rfl rfl rfl (by decide)
  intro h₁ F N
  have hl : (S l).length ≤ 10000 := by rw [S_len]; exact hx
  w_on
  k_steps
  · with_reducible rename Fr _ _ _ _ => F'
    with_reducible rename (_ : Int) ≠ 0 => hne
    rw [rstrip_S, S_len] at hne
    have e : S (comL l) = Str.ofString "# " ++ Txt.rstrip (S l) := by
      rw [rstrip_S, of_lit (l := [35, 32]) (by decide), S_app, S_iff]
      unfold comL
      rw [if_neg (by intro z; rw [z] at hne; simp at hne)]
      rfl
    rw [← e]
    exact h _ _ _ F'.keep
  · with_reducible rename Fr _ _ _ _ => F'
    with_reducible rename (_ : Int) = 0 => hz
    rw [rstrip_S, S_len] at hz
    have e : S (comL l) = Str.ofString "#" := by
      rw [of_lit (l := [35]) (by decide), S_iff]
      unfold comL
      rw [if_pos (List.eq_nil_of_length_eq_zero (by omega))]
    rw [← e]
    exact h _ _ _ F'.keep
end
end Mine

namespace Mine
theorem in_S (x : Tx) (c : Nat) : (!(Builtin.Str.occurrences (S x) (S [c]) 0 (S x).length 1).isEmpty) = decide (c ∈ x) := by
  have := StrLaws.found_one (S x) c
  rw [S_cps] at this
  exact this
noncomputable def whL : Tx := [9, 10, 11, 12, 13, 28, 29, 30, 31, 32, 133, 160, 5760, 8192, 8193, 8194, 8195, 8196, 8197, 8198, 8199, 8200, 8201, 8202, 8232, 8233, 8239, 8287, 12288]
noncomputable def expd (rs : List (Nat × Nat)) : List Nat := rs.flatMap fun p => List.range' p.1 (p.2 + 1 - p.1)
noncomputable def sorted : List (Nat × Nat) → Bool
  | [] => true
  | p :: r => decide (p.1 ≤ p.2) && r.all (fun q => decide (p.2 < q.1)) && sorted r
theorem mem_expd {c : Nat} {rs : List (Nat × Nat)} : c ∈ expd rs ↔ ∃ p ∈ rs, p.1 ≤ c ∧ c ≤ p.2 := by
  unfold expd
  rw [List.mem_flatMap]
  constructor
  · rintro ⟨p, hp, hc⟩
    rw [List.mem_range'_1] at hc
    exact ⟨p, hp, hc.1, by omega⟩
  · rintro ⟨p, hp, h1, h2⟩
    exact ⟨p, hp, by rw [List.mem_range'_1]; omega⟩
theorem within_expd : ∀ {rs : List (Nat × Nat)} (c : Nat), sorted rs = true → (Unicode.within rs c = true ↔ ∃ p ∈ rs, p.1 ≤ c ∧ c ≤ p.2)
  | [], c, _ => by simp [Unicode.within]
  | (a, b) :: r, c, h => by
    simp only [sorted, Bool.and_eq_true, decide_eq_true_eq, List.all_eq_true] at h
    obtain ⟨⟨h1, h2⟩, h3⟩ := h
    have ih := within_expd (rs := r) c h3
    simp only [Unicode.within]
    split
    · rename_i hc
      refine ⟨fun q => absurd q Bool.false_ne_true, ?_⟩
      rintro ⟨p, hp, q1, q2⟩
      rcases List.mem_cons.mp hp with rfl | hp
      · exact absurd hc (Nat.not_lt.mpr q1)
      · have := h2 p hp; omega
    · rename_i hc
      rw [Bool.or_eq_true, ih, decide_eq_true_eq]
      constructor
      · rintro (q | ⟨p, hp, q⟩)
        · exact ⟨(a, b), .head _, Nat.le_of_not_lt hc, q⟩
        · exact ⟨p, .tail _ hp, q⟩
      · rintro ⟨p, hp, q1, q2⟩
        rcases List.mem_cons.mp hp with rfl | hp
        · exact .inl q2
        · exact .inr ⟨p, hp, q1, q2⟩
theorem wh_is (c : Nat) : wh c = decide (c ∈ whL) := by
  have e : whL = expd UnicodeData.space := by decide
  rw [Bool.eq_iff_iff, decide_eq_true_eq, e, mem_expd]
  exact within_expd c (by decide)
section
variable {w : World} {A : Around} {s : Shared} {Q : Value → Shared → Prop} {E : Value → Shared → Prop}
theorem white_spec (G : Gd w s.heap) (a : At 1 A) (c : Nat) (t : Tok)
    (h : ∀ h' tk, Kp s.heap h' → Q (.bool (wh c)) { s with heap := h', toks := tk }) :
    wpAny (model PySem.Challenge.rw_pg0042_01.row.prog w) A (call (.ref 84) [.str (S [c]) t]) Q E s := by
  obtain ⟨X, loose, mean, mg, mb, T⟩ := G
  revert X
  k_fill
  intro X
  refine a.use ?_
  refine enter_def (binds := [(Str.ofString "sign", .str (S [c]) t)]) X T (by k_is) (by k_is) (by decide) (BindsTo.of_eq rfl) (locs rfl) ?_ rfl rfl rfl (by decide)
  intro h₁ F N
  have hl : (S [c]).length ≤ 10000 := by rw [S_len]; simp
  w_on
  k_steps
  · rw [of_lit (s := "\t\n\x0b\x0c\x0d\x1c\x1d\x1e\x1f \u0085\u00a0\u1680\u2000\u2001\u2002\u2003\u2004\u2005\u2006\u2007\u2008\u2009\u200a\u2028\u2029\u202f\u205f\u3000") (l := whL) (by decide), in_S, ← wh_is]
    exact h _ _ F.keep
end
end Mine

namespace Mine

/-! targets, and what is walked over -/
inductive Tg where
  | one (x : Str) (p : Pos)
  | two (a b : Str) (pa pb tp : Pos) (k : Nat)
noncomputable def Tg.expr : Tg → Expr
  | .one x p => .Name x p
  | .two a b pa pb tp k => .Tuple [.Name a pa, .Name b pb] k tp
noncomputable def Tg.Ok (env : Env) : Tg → Prop
  | .one x _ => env.kindOf x = some .local ∧ (env.scope.kind == .class || (env.scope.kind == .module && env.locals != env.globals)) = false
  | .two a b _ _ _ _ => (env.kindOf a = some .local ∧ env.kindOf b = some .local) ∧ (env.scope.kind == .class || (env.scope.kind == .module && env.locals != env.globals)) = false

structure Src (prog : Program) (w : World) (A : Around) (I : Addr) (t : Tg) (fp wr : List Addr) (n : Nat) (Pm : Nat → (Str → Option Value) → (Str → Option Value) → Prop) (St : Nat → Heap → Prop) : Prop where
  sub : ∀ b ∈ wr, b ∈ fp
  frame : ∀ i h h', St i h → (∀ b ∈ fp, ∀ o, h.get? b = some o → h'.get? b = some o) → St i h'
  turn : ∀ (env : Env) i (s : Shared) (m : Str → Option Value) (Q : Unit → Shared → Prop) (E : Value → Shared → Prop), t.Ok env → env.locals ∉ fp → i < n → St i s.heap → s.heap.Ns env.locals m →
    (∀ h' tk m', St (i + 1) h' → h'.Ns env.locals m' → Pm i m m' → (∀ b o, b ∉ wr → b ≠ env.locals → s.heap.get? b = some o → h'.get? b = some o) → Q () { s with heap := h', toks := tk }) →
    wpAny (model prog w) A (pyNext (.ref I)) (fun r s₁ => ∃ v, r = some v ∧ wpAny (model prog w) A (letOwnedTupleGo t.expr (.ref I) v) (fun _ s₂ => wpAny (model prog w) A (assign t.expr env v) Q E s₂) E s₁) E s
  done : ∀ (s : Shared) (Q : Option Value → Shared → Prop) (E : Value → Shared → Prop), St n s.heap →
    (∀ h' tk, (∀ b o, b ∉ wr → s.heap.get? b = some o → h'.get? b = some o) → Q none { s with heap := h', toks := tk }) → wpAny (model prog w) A (pyNext (.ref I)) Q E s
  self : ∀ i (s : Shared) (Q : Value → Shared → Prop) (E : Value → Shared → Prop), St i s.heap → Q (.ref I) s → wpAny (model prog w) A (pyIter (.ref I)) Q E s

section
variable {prog : Program} {w : World} {A : Around} {E : Value → Shared → Prop} {env : Env}

theorem Src.names {I : Addr} {x : Str} {p : Pos} {fp wr : List Addr} {n : Nat} {P : Nat → Value → Prop} {St : Nat → Heap → Prop} (W : Walks prog w A I fp wr n P St) :
    Src prog w A I (.one x p) fp wr n (fun i m m' => ∃ v, P i v ∧ m' = fun z => if z = x then some v else m z) St where
  sub := W.sub
  frame := W.frame
  turn := fun env i s m Q E ht hL hi st hn hQ => by
    refine W.item i s _ _ hi st fun v h₁ tk₁ hP st₁ hk₁ => ⟨v, rfl, ?_⟩
    have hLw : env.locals ∉ wr := fun z => hL (W.sub _ z)
    show wpAny _ A (pure ()) _ _ _
    refine wpAny_pure ?_
    refine wpAny_assign_Name (wpAny_storeName_local ht.1 (hn.at' fun o e => hk₁ _ o hLw e) (fun h₂ hn₂ hs₂ => ?_) ht.2)
    exact hQ h₂ _ _ (W.frame _ _ _ st₁ fun b hb o e => hs₂.extBut b o (fun z => hL (z ▸ hb)) e) hn₂ ⟨v, hP, rfl⟩ fun b o h1 h2 e => hs₂.extBut b o h2 (hk₁ b o h1 e)
  done := W.done
  self := W.self

theorem Src.pairs {I : Addr} {a b : Str} {pa pb tp : Pos} {k : Nat} {fp wr : List Addr} {n : Nat} {Pt : Nat → Array Value → Prop} {St : Nat → Heap → Prop} {Mid : Nat → Addr → Heap → Prop} (W : WalksU prog w A I fp wr n Pt St Mid) (hh : A.handled = none)
    (hP : ∀ i vs, Pt i vs → ∃ x y, vs = #[x, y]) :
    Src prog w A I (.two a b pa pb tp k) fp wr n (fun i m m' => ∃ x y, Pt i #[x, y] ∧ m' = fun z => if z = b then some y else if z = a then some x else m z) St where
  sub := W.sub
  frame := W.frame
  turn := fun env i s m Q E ht hL hi st hn hQ => by
    refine W.item i s _ _ hi st fun T vals h₁ tk₁ hPt hT₁ hM₁ hk₁ => ⟨_, rfl, ?_⟩
    have hLw : env.locals ∉ wr := fun z => hL (W.sub _ z)
    refine W.go _ _ _ i T _ _ _ hM₁ fun h₂ hst₂ hk₂ => ?_
    obtain ⟨x, y, rfl⟩ := hP _ _ hPt
    have hT₂ : h₂.IsTuple T #[x, y] := hT₁.at fun o e => hk₂ T o (W.apart _ _ _ hM₁) e
    refine PySem.W.kcp_assign hh hT₂ ht.1.1 ht.1.2 ht.2 (hn.at' fun o e => hk₂ _ o hLw (hk₁ _ o hLw e)) fun h₃ tk₃ hn₃ hk₃ => ?_
    exact hQ h₃ tk₃ _ (W.frame _ _ _ hst₂ fun c hc o e => hk₃ c o (fun z => hL (z ▸ hc)) e) hn₃ ⟨x, y, hPt, rfl⟩ fun c o h1 h2 e => hk₃ c o h2 (hk₂ c o h1 (hk₁ c o h1 e))
  done := W.done
  self := W.self

theorem Src.step {I : Addr} {t : Tg} {fp wr : List Addr} {n : Nat} {Pm : Nat → (Str → Option Value) → (Str → Option Value) → Prop} {St : Nat → Heap → Prop} (W : Src prog w A I t fp wr n Pm St)
    {i : Nat} {s : Shared} {m : Str → Option Value} {Q : Unit → Shared → Prop} {Rn : Shared → Prop} (ht : t.Ok env) (hL : env.locals ∉ fp) (hi : i < n) (st : St i s.heap) (hn : s.heap.Ns env.locals m)
    (hQ : ∀ h' tk m', St (i + 1) h' → h'.Ns env.locals m' → Pm i m m' → (∀ b o, b ∉ wr → b ≠ env.locals → s.heap.get? b = some o → h'.get? b = some o) → Q () { s with heap := h', toks := tk }) :
    wpAny (model prog w) A (pyNext (.ref I)) (fun r s₁ => match r with
      | none => Rn s₁
      | some v => wpAny (model prog w) A (letOwnedTupleGo t.expr (.ref I) v) (fun _ s₂ => wpAny (model prog w) A (assign t.expr env v) Q E s₂) E s₁) E s := by
  refine wpAny_mono (W.turn env i s m Q E ht hL hi st hn hQ) (fun r s₁ h₁ => ?_) fun _ _ e => e
  obtain ⟨v, rfl, h₁⟩ := h₁
  exact h₁

/-- a turn's end of a list that is gathered -/
noncomputable def Got (F : Nat → Value → Prop) (ys : Array Value) : Prop := ∀ i v, ys[i]? = some v → F i v
theorem Got.nil {F : Nat → Value → Prop} : Got F #[] := fun i v h => by simp at h
theorem Got.push {F : Nat → Value → Prop} {ys : Array Value} {v : Value} (h : Got F ys) (k : F ys.size v) : Got F (ys.push v) := fun i u e => by
  rw [Array.getElem?_push] at e
  split at e
  · rename_i q; cases e; rw [q]; exact k
  · exact h i u e

theorem compTurn_any (elt iter target : Expr) (scope : Scope) (pos : Pos) (it acc : Value) (env : Env) :
    compTurn (.ListComp elt [⟨target, iter, [], 0⟩] scope pos) 0 it acc env = (standAt iter.pos >>= fun _ => pyNext it >>= fun r => match r with
      | none => pure (.done .next)
      | some v => letOwnedTupleGo target it v >>= fun _ => assign target env v >>= fun _ =>
        (eval elt env >>= fun x => call (.builtin "list.append") [acc, x] >>= fun _ => pure ()) >>= fun _ =>
          again (.compLoop (.ListComp elt [⟨target, iter, [], 0⟩] scope pos) 0 it acc env)) := by rfl

theorem loop_any {elt iter target : Expr} {scope : Scope} {pos : Pos} {it acc : Value} {env : Env} {R : Result → Shared → Prop} {s : Shared} (I : Nat → Shared → Prop)
    (turn : ∀ n s, I n s → wpAny (model prog w) A (pyNext it) (fun r s₁ => match r with
      | none => R (.ok .next) s₁
      | some v => wpAny (model prog w) A (letOwnedTupleGo target it v) (fun _ s₁' => wpAny (model prog w) A (assign target env v) (fun _ s₂ =>
          wpAny (model prog w) A (eval elt env) (fun x s₄ =>
              wpAny (model prog w) A (call (.builtin "list.append") [acc, x]) (fun _ s₅ => ∃ m, m < n ∧ I m s₅) (notedBy (model prog w) A env fun e s' => R (.error e) s') s₄) (notedBy (model prog w) A env fun e s' => R (.error e) s') s₂)
          (notedBy (model prog w) A env fun e s' => R (.error e) s') s₁') (notedBy (model prog w) A env fun e s' => R (.error e) s') s₁) (notedBy (model prog w) A env fun e s' => R (.error e) s') s)
    (n : Nat) (h : I n s) : codeAny (model prog w) A (.compLoop (.ListComp elt [⟨target, iter, [], 0⟩] scope pos) 0 it acc env) R s := by
  refine codeAny_loop rfl I (fun n s hI => ?_) n h
  show wpAny _ A ((compTurn (.ListComp elt [⟨target, iter, [], 0⟩] scope pos) 0 it acc env).onRaise (fun x => do noteFrame x env; theTreesLotGoes x)) _ _ s
  refine wpAny_noted ?_
  rw [compTurn_any]
  refine wpAny_bind (wpAny_standAt (wpAny_bind (wpAny_mono (turn n s hI) (fun r s₁ h₁ => ?_) fun _ _ h' => h')))
  cases r with
  | none => exact wpAny_pure h₁
  | some v =>
    refine wpAny_bind (wpAny_mono h₁ (fun _ s₁' h₁' => ?_) fun _ _ h' => h')
    refine wpAny_bind (wpAny_mono h₁' (fun _ s₂ h₂ => ?_) fun _ _ h' => h')
    exact wpAny_bind (wpAny_bind (wpAny_mono h₂ (fun x s₄ h₄ => wpAny_bind (wpAny_mono h₄ (fun _ s₅ h₅ => wpAny_pure (wpAny_pure ⟨rfl, h₅⟩)) fun _ _ h' => h')) fun _ _ h' => h'))

/-- a heap's older part -/
noncomputable def cut (h : Heap) (n : Nat) : Heap := ⟨h.objs.extract 0 n, h.life⟩
theorem cut_get {h : Heap} {n : Nat} {b : Addr} {o : Obj} (e : (cut h n).get? b = some o) : h.get? b = some o := by
  unfold Heap.get? cut at e
  unfold Heap.get?
  simp only [Array.getElem?_extract, Nat.zero_add] at e
  split at e <;> simp_all
theorem get_cut {h : Heap} {n : Nat} {b : Addr} {o : Obj} (e : h.get? b = some o) (hb : b < n) : (cut h n).get? b = some o := by
  have hs := Heap.lt_size e
  unfold Heap.get? at e
  unfold Heap.get? cut
  have : (h.objs.extract 0 n)[b]? = h.objs[b]? := by
    rw [Array.getElem?_extract]
    simp [Nat.lt_min, hs, hb]
  simp only [this]
  exact e
theorem cut_size (h : Heap) (n : Nat) : (cut h n).objs.size ≤ n := by simp [cut]; omega

theorem gather {elt iter : Expr} {t : Tg} {scope : Scope} {pos : Pos} {s : Shared} {I D : Addr} {fp wr : List Addr} {n : Nat} {Pm : Nat → (Str → Option Value) → (Str → Option Value) → Prop} {St : Nat → Heap → Prop}
    {cenv : Env} {m : Str → Option Value} {R : Result → Shared → Prop} (W : Src prog w A I t fp wr n Pm St) (F : Nat → Value → Prop)
    (ht : t.Ok cenv) (hDC : D < cenv.locals) (hDf : D ∉ fp) (hfC : ∀ b ∈ fp, b < cenv.locals)
    (hst : St 0 s.heap) (hacc : s.heap.PlainList D #[]) (hn : s.heap.Ns cenv.locals m)
    (helt : ∀ i s₂ m₁ m₂ g, i < n → Pm i m₁ m₂ → Fr g cenv.locals s₂.heap m₂ → (∀ c o, c < cenv.locals → c ∉ wr → c ≠ D → s.heap.get? c = some o → g.get? c = some o) →
      wpAny (model prog w) A (eval elt cenv) (fun v s₃ => F i v ∧ ∃ h' tk, s₃ = { s₂ with heap := h', toks := tk } ∧ Fr g cenv.locals h' m₂) (notedBy (model prog w) A cenv fun e s' => R (.error e) s') s₂)
    (hR : ∀ h' tk m' ys, h'.Ns cenv.locals m' → h'.IsList D ys → ys.size = n → Got F ys →
      (∀ c o, c < cenv.locals → c ∉ wr → c ≠ D → s.heap.get? c = some o → h'.get? c = some o) → R (.ok .next) { s with heap := h', toks := tk })
    (hsz : n ≤ sizeLine) :
    codeAny (model prog w) A (.compLoop (.ListComp elt [⟨t.expr, iter, [], 0⟩] scope pos) 0 (.ref I) (.ref D) cenv) R s := by
  have hCf : cenv.locals ∉ fp := fun z => Nat.lt_irrefl _ (hfC _ z)
  refine loop_any
    (fun k s' => ∃ h' tk m' ys, s' = { s with heap := h', toks := tk } ∧ St ys.size h' ∧ h'.PlainList D ys ∧ h'.Ns cenv.locals m' ∧ Got F ys ∧ ys.size ≤ n ∧ k = n + 1 - ys.size ∧
      (∀ c o, c < cenv.locals → c ∉ wr → c ≠ D → s.heap.get? c = some o → h'.get? c = some o)) ?_ (n + 1)
    ⟨s.heap, s.toks, m, #[], rfl, hst, hacc, hn, Got.nil, Nat.zero_le _, rfl, fun _ _ _ _ _ e => e⟩
  rintro k s' ⟨H, tk, m', ys, rfl, hst', hacc', hn', hF, hi, rfl, hk⟩
  have hCw : cenv.locals ∉ wr := fun h => hCf (W.sub _ h)
  have hDw : D ∉ wr := fun h => hDf (W.sub _ h)
  by_cases hlt : ys.size < n
  · refine W.step ht hCf hlt hst' hn' fun h₃ tk₃ m₃ hst₃ hn₃ hPm hk₃ => ?_
    have up₃ : ∀ c o, c < cenv.locals → c ∉ wr → H.get? c = some o → h₃.get? c = some o := fun c o h1 h2 e => hk₃ c o h2 (Nat.ne_of_lt h1) e
    have F₃ : Fr (cut h₃ cenv.locals) cenv.locals h₃ m₃ := ⟨hn₃, fun b o e => cut_get e, cut_size _ _⟩
    refine wpAny_mono (helt ys.size _ _ _ (cut h₃ cenv.locals) hlt hPm F₃ (fun c o h1 h2 h3 e => get_cut (up₃ c o h1 h2 (hk c o h1 h2 h3 e)) h1)) (fun v s₄ h₄ => ?_) fun _ _ e => e
    obtain ⟨hFv, h₄, tk₄, rfl, F₄⟩ := h₄
    have up₄ : ∀ c o, c < cenv.locals → h₃.get? c = some o → h₄.get? c = some o := fun c o h1 e => F₄.keep c o (get_cut e h1)
    have hacc₄ : h₄.PlainList D ys := hacc'.at fun o e => up₄ _ o hDC (up₃ D o hDC hDw e)
    refine wpAny_list_append_plain (hsz := by omega) hacc₄ fun h₅ hl₅ hs₅ => ?_
    refine ⟨n + 1 - (ys.size + 1), by omega, h₅, tk₄, _, ys.push v, rfl, ?_, hl₅, F₄.ns.sameBut hs₅ (Ne.symm (Nat.ne_of_lt hDC)), hF.push hFv, (by rw [Array.size_push]; exact hlt), (by rw [Array.size_push]), fun c o h1 h2 h3 e => hs₅.extBut c o h3 (up₄ c o h1 (up₃ c o h1 h2 (hk c o h1 h2 h3 e)))⟩
    rw [Array.size_push]
    exact W.frame _ _ h₅ hst₃ fun c hc o e => hs₅.extBut c o (fun h => hDf (h ▸ hc)) (up₄ c o (hfC c hc) e)
  · have hin : ys.size = n := by omega
    refine W.done _ _ _ (hin ▸ hst') fun h₁ tk₁ hk₁ => ?_
    exact hR h₁ tk₁ m' ys (hn'.at' fun o e => hk₁ _ o hCw e) (hacc'.at fun o e => hk₁ _ o hDw e).isList hin hF fun c o h1 h2 h3 e => hk₁ c o h2 (hk c o h1 h2 h3 e)

/-- the block of a comprehension, from its iterator on -/
theorem block {elt iter : Expr} {t : Tg} {scope : Scope} {cl : List (Str × Addr)} {pos : Pos} {s₂ : Shared} {I : Addr} {fp wr : List Addr} {n : Nat} {Pm : Nat → (Str → Option Value) → (Str → Option Value) → Prop} {St : Nat → Heap → Prop}
    (W : Src prog w A I t fp wr n Pm St) (hsz : n ≤ sizeLine) (F : Nat → Value → Prop) {RR : Value → Addr → Result → Shared → Prop}
    (hcell : ∀ y ∈ scope.names, y.2 ≠ .cell) (hkind : scope.kind = .function) (ht : ∀ C, t.Ok (compEnvC scope cl C env)) (hst : St 0 s₂.heap) (hfp : ∀ b ∈ fp, b < s₂.heap.objs.size)
    (helt : ∀ C i s₃ m₁ m₃ g E', s₂.heap.objs.size ≤ C → i < n → Pm i m₁ m₃ → Fr g C s₃.heap m₃ → (∀ c o, c ∉ wr → s₂.heap.get? c = some o → g.get? c = some o) →
        wpAny (model prog w) A (eval elt (compEnvC scope cl C env)) (fun v s₄ => F i v ∧ ∃ h' tk, s₄ = { s₃ with heap := h', toks := tk } ∧ Fr g C h' m₃) E' s₃)
    (hRR : ∀ D C h' tk m' ys, s₂.heap.get? D = none → s₂.heap.get? C = none → D ≠ C → h'.Ns C m' → h'.IsList D ys → ys.size = n → Got F ys →
      (∀ b o, b ∉ wr → s₂.heap.get? b = some o → h'.get? b = some o) → RR (.ref D) C (.ok .next) { s₂ with heap := h', toks := tk }) :
    wpAny (model prog w) A (newList []) (fun acc s₃ => wpAny (model prog w) A (newFunctionEnv scope env.globals cl [] env.qual none .none (some env)) (fun cenv s₄ =>
      codeAny (model prog w) A (.compStart (.ListComp elt [⟨t.expr, iter, [], 0⟩] scope pos) 0 (.ref I) acc { cenv with scope := relabel scope env }) (RR acc cenv.locals) s₄) E s₃) E s₂ := by
  refine wpAny_newObj_type (wpAny_newFunctionEnv hcell (by intro y hy; simp at hy) (fun h₁ hns₁ hsb₁ => ?_) hkind)
  dsimp only at hns₁ hsb₁ ⊢
  generalize hH2 : s₂.heap.push { cls := .type "list", dict := none, data := .seq ([] : List Value).toArray } = H2 at hns₁ hsb₁ ⊢
  have hC : H2.objs.size = s₂.heap.objs.size + 1 := by rw [← hH2, Heap.size_push]
  have hDC : s₂.heap.objs.size ≠ H2.objs.size := by rw [hC]; exact Nat.ne_of_lt (Nat.lt_succ_self _)
  have hCle : s₂.heap.objs.size ≤ H2.objs.size := by rw [hC]; exact Nat.le_succ _
  have below : ∀ b, b < s₂.heap.objs.size → b < H2.objs.size ∧ b ≠ s₂.heap.objs.size := fun b hb => ⟨by rw [hC]; exact Nat.lt_succ_of_lt hb, Nat.ne_of_lt hb⟩
  have hDf : s₂.heap.objs.size ∉ fp := fun hm => Nat.lt_irrefl _ (hfp _ hm)
  have old : ∀ b o, s₂.heap.get? b = some o → h₁.get? b = some o := fun b o e => hsb₁.extBut b o (Nat.ne_of_lt (below b (Heap.lt_size e)).1) (Heap.get?_push_of_some _ (hH2 ▸ Heap.get?_push_of_some _ e))
  have hacc : h₁.PlainList s₂.heap.objs.size #[] := ⟨_, hsb₁.extBut _ _ hDC (Heap.get?_push_of_some _ (hH2 ▸ Heap.get?_push_size _ rfl))⟩
  have hst₁ : St 0 h₁ := W.frame _ _ _ hst fun b _ o e => old b o e
  have fresh : ∀ a, s₂.heap.objs.size ≤ a → s₂.heap.get? a = none := fun a ha => by
    cases e : s₂.heap.get? a with
    | none => rfl
    | some o' => exact absurd (Heap.lt_size e) (Nat.not_lt.mpr ha)
  have loop : ∀ s₃ : Shared, s₃ = { s₂ with heap := h₁, toks := s₂.toks + ([] : List (Str × Value)).length } →
      codeAny (model prog w) A (.compLoop (.ListComp elt [⟨t.expr, iter, [], 0⟩] scope pos) 0 (.ref I) (.ref s₂.heap.objs.size) (compEnvC scope cl H2.objs.size env))
        (RR (.ref s₂.heap.objs.size) H2.objs.size) s₃ := by
    rintro s₃ rfl
    refine gather (cenv := compEnvC scope cl H2.objs.size env) W F (ht _) (by show s₂.heap.objs.size < H2.objs.size; omega) hDf (fun b hb => (below b (hfp b hb)).1) hst₁ hacc hns₁
      (fun i s₃ m₁ m₃ g hi hPm hF hk => helt _ i s₃ m₁ m₃ g _ hCle hi hPm hF (fun b o hbf e => hk b o (below b (Heap.lt_size e)).1 hbf (below b (Heap.lt_size e)).2 (old b o e)))
      (fun h' tk m' ys hn hl hlen hF hk => ?_) hsz
    exact hRR _ _ h' tk m' ys (fresh _ (Nat.le_refl _)) (fresh _ hCle) hDC hn hl hlen hF fun b o hbf e => hk b o (below b (Heap.lt_size e)).1 hbf (below b (Heap.lt_size e)).2 (old b o e)
  cases t with
  | one x p => exact codeAny_compStart_list (loop _ rfl) (W.self 0 _ _ _ hst₁ (loop _ rfl))
  | two a b pa pb tp k => exact codeAny_compStart_list (loop _ rfl) (W.self 0 _ _ _ hst₁ (loop _ rfl))

theorem comp_eval {elt iter : Expr} {t : Tg} {scope : Scope} {cl : List (Str × Addr)} {pos : Pos} {s : Shared} {Q : Value → Shared → Prop} (F : Nat → Value → Prop)
    (hclos : closureFor scope env = pure cl) (hcell : ∀ y ∈ scope.names, y.2 ≠ .cell) (hkind : scope.kind = .function)
    (hnames : ∀ y ∈ scope.names, y.2 = .local → scope.names.lookup y.1 = some .local) (ht : ∀ C, t.Ok (compEnvC scope cl C env))
    (h : wpAny (model prog w) A (eval iter env) (fun xv s₁ => wpAny (model prog w) A (pyIter xv) (fun it s₂ => Halt <| ∃ I fp wr n Pm St, it = .ref I ∧ Src prog w A I t fp wr n Pm St ∧ n ≤ sizeLine ∧ St 0 s₂.heap ∧ (∀ b ∈ fp, b < s₂.heap.objs.size) ∧
      (∀ C i s₃ m₁ m₃ g E', s₂.heap.objs.size ≤ C → i < n → Pm i m₁ m₃ → Fr g C s₃.heap m₃ → (∀ c o, c ∉ wr → s₂.heap.get? c = some o → g.get? c = some o) →
        wpAny (model prog w) A (eval elt (compEnvC scope cl C env)) (fun v s₄ => F i v ∧ ∃ h' tk, s₄ = { s₃ with heap := h', toks := tk } ∧ Fr g C h' m₃) E' s₃) ∧
      (∀ D h' tk ys, s₂.heap.get? D = none → h'.IsList D ys → ys.size = n → Got F ys → (∀ c o, c ∉ wr → s₂.heap.get? c = some o → h'.get? c = some o) → Q (.ref D) { s₂ with heap := h', toks := tk })) E s₁) E s)
    (hs : ∀ x, foldedSetIterable iter env x = pure x) :
    wpAny (model prog w) A (eval (.ListComp elt [⟨t.expr, iter, [], 0⟩] scope pos) env) Q E s := by
  rw [eval_ListComp]
  refine wpAny_comprehension_free (use := none) rfl hs hclos hkind hnames (wpAny_mono h (fun xv s₁ h₁ => wpAny_mono h₁ (fun it s₂ h₂ => ?_) fun _ _ e => e) fun _ _ e => e)
  obtain ⟨I, fp, wr, n, Pm, St, rfl, W, hsz, hst, hfp, helt, hQ⟩ := h₂
  refine block (RR := fun acc C => compPost (model prog w) A E none Q acc C) W hsz F hcell hkind ht hst hfp helt ?_
  intro D C h' tk m' ys hD hC hDC hn hl hlen hF hk
  exact ⟨m', hn, fun h'' hs'' => hQ D h'' tk ys hD (hl.extBut hs''.extBut hDC) hlen hF fun b o hbf e => hs''.extBut b o (by rintro rfl; rw [hC] at e; cases e) (hk b o hbf e)⟩

theorem comp_store {elt iter : Expr} {t : Tg} {y : Str} {py : Pos} {scope : Scope} {cl : List (Str × Addr)} {pos spos : Pos} {s : Shared} {Q : Flow → Shared → Prop} (F : Nat → Value → Prop)
    (hsw : swapsWith (.ListComp elt [⟨t.expr, iter, [], 0⟩] scope pos) (some (.Name y py)) spos.line env = pure true)
    (hclos : closureFor scope env = pure cl) (hcell : ∀ y ∈ scope.names, y.2 ≠ .cell) (hkind : scope.kind = .function)
    (hnames : ∀ y ∈ scope.names, y.2 = .local → scope.names.lookup y.1 = some .local) (ht : ∀ C, t.Ok (compEnvC scope cl C env))
    (hy : env.kindOf y = some .local) (hp : (env.scope.kind == .class || (env.scope.kind == .module && env.locals != env.globals)) = false)
    (h : wpAny (model prog w) A (eval iter env) (fun xv s₁ => wpAny (model prog w) A (pyIter xv) (fun it s₂ => Halt <| ∃ I fp wr n Pm St m, it = .ref I ∧ Src prog w A I t fp wr n Pm St ∧ n ≤ sizeLine ∧ St 0 s₂.heap ∧ (∀ b ∈ fp, b < s₂.heap.objs.size) ∧ env.locals ∉ wr ∧ s₂.heap.Ns env.locals m ∧
      (∀ C i s₃ m₁ m₃ g E', s₂.heap.objs.size ≤ C → i < n → Pm i m₁ m₃ → Fr g C s₃.heap m₃ → (∀ c o, c ∉ wr → s₂.heap.get? c = some o → g.get? c = some o) →
        wpAny (model prog w) A (eval elt (compEnvC scope cl C env)) (fun v s₄ => F i v ∧ ∃ h' tk, s₄ = { s₃ with heap := h', toks := tk } ∧ Fr g C h' m₃) E' s₃) ∧
      (∀ D h' tk ys, s₂.heap.get? D = none → h'.IsList D ys → ys.size = n → Got F ys → h'.Ns env.locals (fun z => if z = y then some (.ref D) else m z) →
        (∀ c o, c ≠ env.locals → c ∉ wr → s₂.heap.get? c = some o → h'.get? c = some o) → Q .next { s₂ with heap := h', toks := tk })) E s₁) E s)
    (hs : ∀ x, foldedSetIterable iter env x = pure x) :
    wpAny (model prog w) A (exec (.Assign [.Name y py] (.ListComp elt [⟨t.expr, iter, [], 0⟩] scope pos) spos) env) Q E s := by
  rw [exec_Assign_Name_used _ _ _ _ hsw]
  refine wpAny_bind (wpAny_standAt (wpAny_bind ?_))
  show wpAny _ A (do let _ ← comprehension (.ListComp elt [⟨t.expr, iter, [], 0⟩] scope pos) scope env _ (newList []) false (eval iter env) (some (assign (.Name y py) env))) _ _ s
  refine wpAny_bind (wpAny_mono (wpAny_comprehension_free (use := some (assign (.Name y py) env)) (Q := fun _ s' => Q .next s') rfl hs hclos hkind hnames
    (wpAny_mono h (fun xv s₁ h₁ => wpAny_mono h₁ (fun it s₂ h₂ => ?_) fun _ _ e => e) fun _ _ e => e)) (fun _ s' hq => wpAny_pure (wpAny_pure hq)) fun _ _ e => e)
  obtain ⟨I, fp, wr, n, Pm, St, m, rfl, W, hsz, hst, hfp, hLf, hn, helt, hQ⟩ := h₂
  refine block (RR := fun acc C => compPost (model prog w) A E (some (assign (.Name y py) env)) (fun _ s' => Q .next s') acc C) W hsz F hcell hkind ht hst hfp helt ?_
  intro D C h' tk m' ys hD hC hDC hnC hlD hlen hF hk
  have hLC : env.locals ≠ C := by rintro rfl; obtain ⟨o, _, _, ho, _⟩ := hn; rw [hC] at ho; cases ho
  have hLD : env.locals ≠ D := by rintro rfl; obtain ⟨o, _, _, ho, _⟩ := hn; rw [hD] at ho; cases ho
  show wpAny _ A (assign (.Name y py) env (.ref D)) _ _ _
  refine wpAny_assign_Name (wpAny_storeName_local hy (hn.at' fun o e => hk _ o hLf e) (fun h₂ hn₂ hs₂ => ?_) hp)
  refine ⟨m', hnC.sameBut hs₂ (Ne.symm hLC), fun h₃ hs₃ => ?_⟩
  exact hQ D h₃ _ ys hD ((hlD.extBut hs₂.extBut (Ne.symm hLD)).extBut hs₃.extBut hDC) hlen hF (hn₂.sameBut hs₃ hLC) fun b o hbL hbf e =>
    hs₃.extBut b o (by rintro rfl; rw [hC] at e; cases e) (hs₂.extBut b o hbL (hk b o hbf e))
end
end Mine

namespace Mine
section
variable {prog : Program} {w : World} {A : Around} {E : Value → Shared → Prop} {env : Env} {s : Shared}

theorem isTuple_keeps {h h' : Heap} {a : Addr} {vs : Array Value} (x : h.IsTuple a vs) (k : Kp h h') : h'.IsTuple a vs := let ⟨o, ho, r⟩ := x; ⟨o, k _ _ ho, r⟩
theorem isList_keeps {h h' : Heap} {a : Addr} {vs : Array Value} (x : h.IsList a vs) (k : Kp h h') : h'.IsList a vs := let ⟨o, ho, r⟩ := x; ⟨o, k _ _ ho, r⟩
theorem kp_push (h : Heap) (o : Obj) : Kp h (h.push o) := fun _ _ e => Heap.get?_push_of_some _ e
theorem isList_lt {h : Heap} {a : Addr} {vs : Array Value} (x : h.IsList a vs) : a < h.objs.size := let ⟨_, ho, _⟩ := x; Heap.lt_size ho
theorem isTuple_lt {h : Heap} {a : Addr} {vs : Array Value} (x : h.IsTuple a vs) : a < h.objs.size := let ⟨_, ho, _⟩ := x; Heap.lt_size ho
theorem frNil {g h : Heap} {L : Addr} {m : Str → Option Value} (_ : Fr g L h m) : News g L h [] := News.nil

/-- past the iterator alone -/
theorem kp_past {h h' : Heap} {o : Obj} (hk : ∀ c o', c ∉ [h.objs.size] → (h.push o).get? c = some o' → h'.get? c = some o') : Kp h h' := fun c o' e =>
  hk c o' (fun hm => by rcases List.mem_cons.mp hm with rfl | hm; exact Nat.lt_irrefl _ (Heap.lt_size e); cases hm) (Heap.get?_push_of_some _ e)
theorem none_push {h : Heap} {o : Obj} {D : Addr} (hD : (h.push o).get? D = none) : h.get? D = none := by
  cases e : h.get? D with
  | none => rfl
  | some o => rw [Heap.get?_push_of_some _ e] at hD; cases hD
theorem fp_list {h : Heap} {l : Addr} {o : Obj} (hl : l < h.objs.size) : ∀ b ∈ [h.objs.size, l], b < (h.push o).objs.size := by
  intro b hb
  rw [Heap.size_push]
  rcases List.mem_cons.mp hb with rfl | hb
  · exact Nat.lt_succ_self _
  · rcases List.mem_cons.mp hb with rfl | hb
    · exact Nat.lt_succ_of_lt hl
    · cases hb

theorem comp_list {elt iter : Expr} {x : Str} {px : Pos} {scope : Scope} {cl : List (Str × Addr)} {pos : Pos} {Q : Value → Shared → Prop} (F : Nat → Value → Prop) (hh : A.handled = none)
    (hclos : closureFor scope env = pure cl) (hcell : ∀ y ∈ scope.names, y.2 ≠ .cell) (hkind : scope.kind = .function)
    (hnames : ∀ y ∈ scope.names, y.2 = .local → scope.names.lookup y.1 = some .local) (hx : scope.names.lookup x = some .local)
    (h : wpAny (model prog w) A (eval iter env) (fun xv s₁ => Halt <| ∃ l, ∃ vs : List Value, xv = .ref l ∧ s₁.heap.IsList l vs.toArray ∧ vs.length ≤ sizeLine ∧
      (∀ C i v s₃ m₃ g E', vs[i]? = some v → Fr g C s₃.heap m₃ → News g C s₃.heap [] → Kp s₁.heap g → m₃ x = some v →
        wpAny (model prog w) A (eval elt (compEnvC scope cl C env)) (fun y s₄ => Halt (F i y ∧ ∃ h' tk, s₄ = { s₃ with heap := h', toks := tk } ∧ Fr g C h' m₃)) E' s₃) ∧
      (∀ D h' tk zs, s₁.heap.get? D = none → h'.IsList D zs → zs.size = vs.length → Got F zs → Kp s₁.heap h' → Q (.ref D) { s₁ with heap := h', toks := tk })) E s)
    (hs : ∀ x, foldedSetIterable iter env x = pure x := by intro _; rfl) :
    wpAny (model prog w) A (eval (.ListComp elt [⟨.Name x px, iter, [], 0⟩] scope pos) env) Q E s := by
  refine comp_eval (t := .one x px) F hclos hcell hkind hnames (fun C => ⟨lookup_relabel_local hx, by simp [compEnvC, relabel, hkind]⟩) (wpAny_mono h (fun xv s₁ h₁ => ?_) fun _ _ e => e) hs
  obtain ⟨l, vs, rfl, hl, hsz, helt, hQ⟩ := h₁
  have hlt := isList_lt hl
  refine wpAny_pyIter_list hl (unhalt ⟨s₁.heap.objs.size, [s₁.heap.objs.size, l], [s₁.heap.objs.size], vs.toArray.size, _, _, rfl, Src.names (Walks.list hh _ _ (Nat.ne_of_lt hlt) vs.toArray), (by rw [List.size_toArray]; exact hsz), ⟨⟨_, Heap.get?_push_size _ rfl, rfl, rfl⟩, hl.push _⟩, fp_list hlt, ?_, ?_⟩)
  · rintro C i s₃ m₁ m₃ g E' hC hi ⟨v, hv, rfl⟩ F' hk
    exact helt C i v s₃ _ g E' (by simpa using hv) F' News.nil (kp_past hk) (by simp)
  · intro D h' tk zs hD hlD hlen hG hk
    exact hQ D h' tk zs (none_push hD) hlD (by simpa using hlen) hG (kp_past hk)

theorem comp_listS {elt iter : Expr} {x y : Str} {px py : Pos} {scope : Scope} {cl : List (Str × Addr)} {pos spos : Pos} {Q : Flow → Shared → Prop} {g₀ : Heap} {L : Addr} {m : Str → Option Value} (F00 : Fr g₀ L s.heap m) (F : Nat → Value → Prop) (hh : A.handled = none)
    (hsw : swapsWith (.ListComp elt [⟨.Name x px, iter, [], 0⟩] scope pos) (some (.Name y py)) spos.line env = pure true) (hL : env.locals = L)
    (hclos : closureFor scope env = pure cl) (hcell : ∀ y ∈ scope.names, y.2 ≠ .cell) (hkind : scope.kind = .function)
    (hnames : ∀ y ∈ scope.names, y.2 = .local → scope.names.lookup y.1 = some .local) (hx : scope.names.lookup x = some .local)
    (hy : env.kindOf y = some .local) (hp : (env.scope.kind == .class || (env.scope.kind == .module && env.locals != env.globals)) = false)
    (h : wpAny (model prog w) A (eval iter env) (fun xv s₁ => Halt <| ∃ l, ∃ vs : List Value, xv = .ref l ∧ s₁.heap.IsList l vs.toArray ∧ vs.length ≤ sizeLine ∧ Fr g₀ L s₁.heap m ∧
      (∀ C i v s₃ m₃ g E', vs[i]? = some v → Fr g C s₃.heap m₃ → News g C s₃.heap [] → Kp s₁.heap g → m₃ x = some v →
        wpAny (model prog w) A (eval elt (compEnvC scope cl C env)) (fun y s₄ => Halt (F i y ∧ ∃ h' tk, s₄ = { s₃ with heap := h', toks := tk } ∧ Fr g C h' m₃)) E' s₃) ∧
      (∀ D h' tk zs, s₁.heap.get? D = none → h'.IsList D zs → zs.size = vs.length → Got F zs → Fr g₀ L h' (fun z => if z = y then some (.ref D) else m z) → (∀ b o, b ≠ L → s₁.heap.get? b = some o → h'.get? b = some o) → Q .next { s₁ with heap := h', toks := tk })) E s)
    (hs : ∀ x, foldedSetIterable iter env x = pure x := by intro _; rfl) :
    wpAny (model prog w) A (exec (.Assign [.Name y py] (.ListComp elt [⟨.Name x px, iter, [], 0⟩] scope pos) spos) env) Q E s := by
  subst hL
  refine comp_store (t := .one x px) F hsw hclos hcell hkind hnames (fun C => ⟨lookup_relabel_local hx, by simp [compEnvC, relabel, hkind]⟩) hy hp (wpAny_mono h (fun xv s₁ h₁ => ?_) fun _ _ e => e) hs
  obtain ⟨l, vs, rfl, hl, hsz, F₁, helt, hQ⟩ := h₁
  have hlt := isList_lt hl
  have hLw : env.locals ∉ [s₁.heap.objs.size] := fun hm => by
    rcases List.mem_cons.mp hm with e | hm
    · exact Nat.lt_irrefl _ (e ▸ F₁.ns.lt)
    · cases hm
  refine wpAny_pyIter_list hl (unhalt ⟨s₁.heap.objs.size, [s₁.heap.objs.size, l], [s₁.heap.objs.size], vs.toArray.size, _, _, m, rfl, Src.names (Walks.list hh _ _ (Nat.ne_of_lt hlt) vs.toArray), (by rw [List.size_toArray]; exact hsz), ⟨⟨_, Heap.get?_push_size _ rfl, rfl, rfl⟩, hl.push _⟩, fp_list hlt, hLw, F₁.ns.push _, ?_, ?_⟩)
  · rintro C i s₃ m₁ m₃ g E' hC hi ⟨v, hv, rfl⟩ F' hk
    exact helt C i v s₃ _ g E' (by simpa using hv) F' News.nil (kp_past hk) (by simp)
  · intro D h' tk zs hD hlD hlen hG hn' hk
    have keep : ∀ b o, b ≠ env.locals → s₁.heap.get? b = some o → h'.get? b = some o := fun b o hb e =>
      hk b o hb (fun hm => by rcases List.mem_cons.mp hm with rfl | hm; exact Nat.lt_irrefl _ (Heap.lt_size e); cases hm) (Heap.get?_push_of_some _ e)
    exact hQ D h' tk zs (none_push hD) hlD (by simpa using hlen) hG
      ⟨hn', fun b o e => keep b o (Nat.ne_of_lt (Nat.lt_of_lt_of_le (Heap.lt_size e) F₁.above)) (F₁.keep b o e), F₁.above⟩ keep

theorem comp_pairsL {elt iter : Expr} {a b : Str} {pa pb tp : Pos} {kk : Nat} {scope : Scope} {cl : List (Str × Addr)} {pos : Pos} {Q : Value → Shared → Prop} (F : Nat → Value → Prop) (hh : A.handled = none)
    (hclos : closureFor scope env = pure cl) (hcell : ∀ y ∈ scope.names, y.2 ≠ .cell) (hkind : scope.kind = .function)
    (hnames : ∀ y ∈ scope.names, y.2 = .local → scope.names.lookup y.1 = some .local) (ha : scope.names.lookup a = some .local) (hb : scope.names.lookup b = some .local) (hab : a ≠ b)
    (h : wpAny (model prog w) A (eval iter env) (fun xv s₁ => Halt <| ∃ l vs, ∃ Ts : Nat → Addr, ∃ xs ys : Nat → Value, xv = .ref l ∧ s₁.heap.IsList l vs ∧ vs.size ≤ sizeLine ∧
      (∀ j, j < vs.size → vs[j]? = some (.ref (Ts j)) ∧ s₁.heap.IsTuple (Ts j) #[xs j, ys j]) ∧
      (∀ C i s₃ m₃ g E', i < vs.size → Fr g C s₃.heap m₃ → News g C s₃.heap [] → Kp s₁.heap g → m₃ a = some (xs i) → m₃ b = some (ys i) →
        wpAny (model prog w) A (eval elt (compEnvC scope cl C env)) (fun v s₄ => Halt (F i v ∧ ∃ h' tk, s₄ = { s₃ with heap := h', toks := tk } ∧ Fr g C h' m₃)) E' s₃) ∧
      (∀ D h' tk zs, s₁.heap.get? D = none → h'.IsList D zs → zs.size = vs.size → Got F zs → Kp s₁.heap h' → Q (.ref D) { s₁ with heap := h', toks := tk })) E s)
    (hs : ∀ x, foldedSetIterable iter env x = pure x := by intro _; rfl) :
    wpAny (model prog w) A (eval (.ListComp elt [⟨.Tuple [.Name a pa, .Name b pb] kk tp, iter, [], 0⟩] scope pos) env) Q E s := by
  refine comp_eval (t := .two a b pa pb tp kk) F hclos hcell hkind hnames (fun C => ⟨⟨lookup_relabel_local ha, lookup_relabel_local hb⟩, by simp [compEnvC, relabel, hkind]⟩) (wpAny_mono h (fun xv s₁ h₁ => ?_) fun _ _ e => e) hs
  obtain ⟨l, vs, Ts, xs, ys, rfl, hl, hsz, hT, helt, hQ⟩ := h₁
  have hlt := isList_lt hl
  have hTlt : ∀ j, j < vs.size → Ts j < s₁.heap.objs.size := fun j hj => isTuple_lt (hT j hj).2
  refine wpAny_pyIter_list hl (unhalt ⟨s₁.heap.objs.size, _, _, vs.size, _, _, rfl,
    Src.pairs (WalksU.listOfTuples hh s₁.heap.objs.size l (Nat.ne_of_lt hlt) vs Ts (fun j => #[xs j, ys j]) (fun j hj => (hT j hj).1) (fun j hj => Nat.ne_of_lt (hTlt j hj))) hh (fun i vs' e => ⟨_, _, e⟩), hsz,
    ⟨⟨_, Heap.get?_push_size _ rfl, rfl, rfl⟩, hl.push _, fun k hk => isTuple_keeps (hT k hk).2 (kp_push _ _)⟩, ?_, ?_, ?_⟩)
  · intro c hc
    show c < (s₁.heap.push _).objs.size
    rw [Heap.size_push]
    rcases List.mem_cons.mp hc with rfl | hc
    · exact Nat.lt_succ_self _
    · rcases List.mem_cons.mp hc with rfl | hc
      · exact Nat.lt_succ_of_lt hlt
      · obtain ⟨k, hk, rfl⟩ := List.mem_map.mp hc
        exact Nat.lt_succ_of_lt (hTlt k (List.mem_range.mp hk))
  · rintro C i s₃ m₁ m₃ g E' hC hi ⟨x, y, hPt, rfl⟩ F' hk
    have e : #[x, y] = #[xs i, ys i] := hPt
    have e0 : [x, y] = [xs i, ys i] := congrArg Array.toList e
    have e1 : x = xs i := by injection e0
    have e2 : y = ys i := by injection e0 with _ q; injection q
    subst e1 e2
    exact helt C i s₃ _ g E' hi F' News.nil (kp_past hk) (by simp [hab]) (by simp)
  · intro D h' tk zs hD hlD hlen hG hk
    exact hQ D h' tk zs (none_push hD) hlD hlen hG (kp_past hk)
theorem at_of {k : Nat} {A : Around} (h : A.handled = none) (d : Nat.ble A.depth (500 - 10 * k) = true) (u : Nat.ble A.units (2000 - 100 * k) = true) : At k A := ⟨h, Nat.le_of_ble_eq_true d, Nat.le_of_ble_eq_true u⟩
end
end Mine

namespace Mine
noncomputable def Rd (h : Heap) (v : Value) (d : PyData) : Prop := ∃ as, Reads h v d as
theorem Rd.keeps {h h' : Heap} {v : Value} {d : PyData} (r : Rd h v d) (k : Kp h h') : Rd h' v d := let ⟨as, x⟩ := r; ⟨as, Reads.keeps k x⟩
theorem readsAll_len {h : Heap} : ∀ {vs : List Value} {ds : List PyData} {as : List Addr}, ReadsAll h vs ds as → vs.length = ds.length
  | _, _, _, .nil => rfl
  | _, _, _, .cons _ r => by rw [List.length_cons, List.length_cons, readsAll_len r]
theorem readsAll_get {h : Heap} : ∀ {vs : List Value} {ds : List PyData} {as : List Addr}, ReadsAll h vs ds as → ∀ (j : Nat) (d : PyData), ds[j]? = some d → ∃ v, vs[j]? = some v ∧ Rd h v d
  | _, _, _, .nil, j, d, e => by simp at e
  | _, _, _, .cons r q, 0, d, e => by simp at e; subst e; exact ⟨_, rfl, _, r⟩
  | _, _, _, .cons r q, j + 1, d, e => by simpa using readsAll_get q j d (by simpa using e)
theorem readsAll_of {h : Heap} : ∀ {vs : List Value} {ds : List PyData}, vs.length = ds.length → (∀ (j : Nat) v d, vs[j]? = some v → ds[j]? = some d → Rd h v d) → ∃ as, ReadsAll h vs ds as
  | [], [], _, _ => ⟨_, .nil⟩
  | v :: vs, d :: ds, hl, hg => by
    obtain ⟨as, r⟩ := hg 0 v d rfl rfl
    obtain ⟨bs, q⟩ := readsAll_of (vs := vs) (ds := ds) (by simpa using hl) fun j u e h1 h2 => hg (j + 1) u e (by simpa using h1) (by simpa using h2)
    exact ⟨_, .cons r q⟩
theorem Rd.list_inv {h : Heap} {v : Value} {ds : List PyData} (r : Rd h v (.list ds)) : ∃ a, ∃ vs : List Value, v = .ref a ∧ h.IsList a vs.toArray ∧ vs.length = ds.length ∧ ∀ (j : Nat) d, ds[j]? = some d → ∃ u, vs[j]? = some u ∧ Rd h u d := by
  obtain ⟨as, r⟩ := r
  cases r with
  | list ho hc hd hr =>
    rename_i a o vs n as'
    exact ⟨a, vs.toList, rfl, ⟨o, ho, hc, n, by simpa using hd⟩, readsAll_len hr, readsAll_get hr⟩
theorem Rd.tuple_inv {h : Heap} {v : Value} {ds : List PyData} (r : Rd h v (.tuple ds)) : ∃ a, ∃ vs : List Value, v = .ref a ∧ h.IsTuple a vs.toArray ∧ vs.length = ds.length ∧ ∀ (j : Nat) d, ds[j]? = some d → ∃ u, vs[j]? = some u ∧ Rd h u d := by
  obtain ⟨as, r⟩ := r
  cases r with
  | tuple ho hc hd hr =>
    rename_i a o vs n
    exact ⟨a, vs.toList, rfl, ⟨o, ho, hc, n, by simpa using hd⟩, readsAll_len hr, readsAll_get hr⟩
theorem Rd.list {h : Heap} {a : Addr} {vs : List Value} {ds : List PyData} (hl : h.IsList a vs.toArray) (e : vs.length = ds.length) (hg : ∀ (j : Nat) v d, vs[j]? = some v → ds[j]? = some d → Rd h v d) : Rd h (.ref a) (.list ds) := by
  obtain ⟨o, ho, hc, n, hd⟩ := hl
  obtain ⟨as, q⟩ := readsAll_of e hg
  exact ⟨_, .list ho hc hd (by simpa using q)⟩
theorem Rd.tuple {h : Heap} {a : Addr} {vs : List Value} {ds : List PyData} (hl : h.IsTuple a vs.toArray) (e : vs.length = ds.length) (hg : ∀ (j : Nat) v d, vs[j]? = some v → ds[j]? = some d → Rd h v d) : Rd h (.ref a) (.tuple ds) := by
  obtain ⟨o, ho, hc, n, hd⟩ := hl
  obtain ⟨as, q⟩ := readsAll_of e hg
  exact ⟨_, .tuple ho hc hd (by simpa using q)⟩
theorem Rd.str_inv {h : Heap} {v : Value} {x : Str} (r : Rd h v (.str x)) : ∃ t, v = .str x t := by obtain ⟨_, r⟩ := r; cases r; exact ⟨_, rfl⟩
theorem Rd.int_inv {h : Heap} {v : Value} {x : Int} (r : Rd h v (.int x)) : ∃ t, v = .int x t := by obtain ⟨_, r⟩ := r; cases r; exact ⟨_, rfl⟩
theorem Rd.bool_inv {h : Heap} {v : Value} {x : Bool} (r : Rd h v (.bool x)) : v = .bool x := by obtain ⟨_, r⟩ := r; cases r; rfl
theorem Rd.str (h : Heap) (x : Str) (t : Tok) : Rd h (.str x t) (.str x) := ⟨_, .str x t⟩
theorem Rd.int (h : Heap) (x : Int) (t : Tok) : Rd h (.int x t) (.int x) := ⟨_, .int x t⟩
theorem Rd.bool (h : Heap) (x : Bool) : Rd h (.bool x) (.bool x) := ⟨_, .bool x⟩

noncomputable def pairD (p : Nat × Bool) : PyData := .tuple [.str (S [p.1]), .bool p.2]
noncomputable def wordD (w : Wd) : PyData := .tuple [.list (w.ps.map pairD), .int w.kind, .int w.beh]
noncomputable def rowD (r : List Wd) : PyData := .list (r.map wordD)
theorem list_cons {α : Type} {l : List α} {n : Nat} (h : l.length = n + 1) : ∃ a r, l = a :: r ∧ r.length = n := by
  cases l with
  | nil => cases h
  | cons a r => exact ⟨a, r, rfl, Nat.succ.inj h⟩
theorem Rd.tuple2 {h : Heap} {v : Value} {a b : PyData} (r : Rd h v (.tuple [a, b])) : ∃ T x y, v = .ref T ∧ h.IsTuple T #[x, y] ∧ Rd h x a ∧ Rd h y b := by
  obtain ⟨T, vs, rfl, hT, hl, hg⟩ := r.tuple_inv
  obtain ⟨x, r1, e1, l1⟩ := list_cons hl
  obtain ⟨y, r2, e2, l2⟩ := list_cons l1
  have e3 := List.eq_nil_of_length_eq_zero l2
  subst e1 e2 e3
  obtain ⟨_, hx, rx⟩ := hg 0 a rfl
  obtain ⟨_, hy, ry⟩ := hg 1 b rfl
  cases hx
  cases hy
  exact ⟨T, x, y, rfl, hT, rx, ry⟩
theorem Rd.tuple3 {h : Heap} {v : Value} {a b c : PyData} (r : Rd h v (.tuple [a, b, c])) : ∃ T x y z, v = .ref T ∧ h.IsTuple T #[x, y, z] ∧ Rd h x a ∧ Rd h y b ∧ Rd h z c := by
  obtain ⟨T, vs, rfl, hT, hl, hg⟩ := r.tuple_inv
  obtain ⟨x, r1, e1, l1⟩ := list_cons hl
  obtain ⟨y, r2, e2, l2⟩ := list_cons l1
  obtain ⟨z, r3, e3, l3⟩ := list_cons l2
  have e4 := List.eq_nil_of_length_eq_zero l3
  subst e1 e2 e3 e4
  obtain ⟨_, hx, rx⟩ := hg 0 a rfl
  obtain ⟨_, hy, ry⟩ := hg 1 b rfl
  obtain ⟨_, hz, rz⟩ := hg 2 c rfl
  cases hx
  cases hy
  cases hz
  exact ⟨T, x, y, z, rfl, hT, rx, ry, rz⟩
/-- a list of pairs, laid for a loop -/
theorem pairs_of {h : Heap} {v : Value} {ps : List (Nat × Bool)} (r : Rd h v (.list (ps.map pairD))) : ∃ l, ∃ vs : Array Value, ∃ Ts tk : Nat → Nat, v = .ref l ∧ h.IsList l vs ∧ vs.size = ps.length ∧
    ∀ j, j < vs.size → vs[j]? = some (.ref (Ts j)) ∧ h.IsTuple (Ts j) #[.str (S [(ps.getD j (0, false)).1]) (tk j), .bool (ps.getD j (0, false)).2] := by
  obtain ⟨l, vs, rfl, hl, hlen, hg⟩ := r.list_inv
  have hlen' : vs.length = ps.length := by simpa using hlen
  have key : ∀ j, ∃ T t, j < vs.toArray.size → vs.toArray[j]? = some (.ref T) ∧ h.IsTuple T #[.str (S [(ps.getD j (0, false)).1]) t, .bool (ps.getD j (0, false)).2] := by
    intro j
    by_cases hj : j < vs.toArray.size
    · have hj' : j < ps.length := by simpa [hlen'] using hj
      obtain ⟨u, hu, ru⟩ := hg j (pairD (ps.getD j (0, false))) (by simp [hj'])
      obtain ⟨T, x, y, rfl, hT, rx, ry⟩ := Rd.tuple2 ru
      obtain ⟨t, rfl⟩ := rx.str_inv
      rw [ry.bool_inv] at hT
      exact ⟨T, t, fun _ => ⟨by simpa using hu, hT⟩⟩
    · exact ⟨0, 0, fun q => absurd q hj⟩
  refine ⟨l, vs.toArray, fun j => (key j).choose, fun j => (key j).choose_spec.choose, rfl, hl, by simpa using hlen', fun j hj => (key j).choose_spec.choose_spec hj⟩

/-- texts that a comprehension gathers -/
theorem strs_of_got {zs : Array Value} {ls : List Tx} (e : zs.size = ls.length) (g : Got (fun i v => ∃ t, v = Value.str (S (ls.getD i [])) t) zs) : StrsAre zs.toList (ls.map S) := by
  obtain ⟨l⟩ := zs
  have e' : l.length = ls.length := by simpa using e
  have g' : ∀ (i : Nat) v, l[i]? = some v → ∃ t, v = Value.str (S (ls.getD i [])) t := fun i v q => g i v (by simpa using q)
  clear g e
  show StrsAre l _
  induction l generalizing ls with
  | nil => cases ls with | nil => exact .nil | cons _ _ => cases e'
  | cons v l ih =>
    cases ls with
    | nil => cases e'
    | cons x ls =>
      obtain ⟨t, rfl⟩ := g' 0 v rfl
      exact .cons _ t (ih (by simpa using e') fun i v q => by simpa using g' (i + 1) v (by simpa using q))
theorem sum_len (ls : List Tx) : ((ls.map S).map (·.length)).sum = (ls.map List.length).sum := by
  rw [List.map_map]
  exact congrArg List.sum (List.map_congr_left fun l _ => S_len l)
theorem sum_le (b : Nat) : ∀ ls : List Tx, (∀ l ∈ ls, l.length ≤ b) → (ls.map List.length).sum ≤ ls.length * b
  | [], _ => by simp
  | l :: ls, h => by
    have h1 := h l (.head _)
    have h2 := sum_le b ls fun x hx => h x (.tail _ hx)
    simp only [List.map_cons, List.sum_cons, List.length_cons, Nat.succ_mul]
    omega
/-- a join fits -/
theorem fits_join {ls : List Tx} {g : Str} (b n : Nat) (h : ∀ l ∈ ls, l.length ≤ b) (hn : ls.length ≤ n) (hb : n * b + n * g.length ≤ 16777216) : ((ls.map S).map (·.length)).sum + (ls.map S).length * g.length ≤ 16777216 := by
  rw [sum_len, List.length_map]
  have h1 := sum_le b ls h
  have h2 := Nat.mul_le_mul_right b hn
  have h3 := Nat.mul_le_mul_right g.length hn
  omega
theorem glued_go (g : Tx) : ∀ (ls : List Tx) (a : Tx), (ls.map S).foldl (fun acc p => acc ++ (S g).cps ++ p.cps) a.toArray = (a ++ ls.flatMap fun l => g ++ l).toArray
  | [], a => by simp
  | l :: ls, a => by
    rw [List.map_cons, List.foldl_cons, List.flatMap_cons]
    have : a.toArray ++ (S g).cps ++ (S l).cps = (a ++ g ++ l).toArray := by simp [S]
    rw [this, glued_go g ls]
    simp
theorem join_S (g : Tx) (ls : List Tx) : Txt.join (S g) (ls.map S) = S (ls.headD [] ++ (ls.drop 1).flatMap fun l => g ++ l) := by
  show Builtin.Str.glued _ _ = _
  unfold Builtin.Str.glued
  cases ls with
  | nil => rfl
  | cons l ls =>
    exact congrArg Str.mk (glued_go g ls l)
theorem join_empty (ls : List Tx) : Txt.join (S []) (ls.map S) = S ls.flatten := by
  rw [join_S]
  cases ls with
  | nil => rfl
  | cons l ls => simp [List.flatMap_def]
theorem joinNL_eq : ∀ (l : Tx) (ls : List Tx), l ++ ls.flatMap (fun l => [10] ++ l) = joinNL (l :: ls)
  | l, [] => by simp [joinNL]
  | l, m :: ls => by
    have := joinNL_eq m ls
    simp only [joinNL, ← this]
    simp
theorem join_line (ls : List Tx) : Txt.join (S [10]) (ls.map S) = S (joinNL ls) := by
  rw [join_S]
  cases ls with
  | nil => rfl
  | cons l ls => rw [← joinNL_eq]; rfl
theorem flat_signs (ps : List (Nat × Bool)) : (ps.map fun p => [p.1]).flatten = signs ps := by
  unfold signs
  induction ps with
  | nil => rfl
  | cons p ps ih => simp [ih]
theorem flat_enc (ps : List (Nat × Bool)) : (ps.map enc1).flatten = enc ps := by
  unfold enc
  rw [List.flatMap_def]

noncomputable def Rds (h : Heap) (vs : List Value) (ds : List PyData) : Prop := ∃ as, ReadsAll h vs ds as
theorem Rds.cons_inv {h : Heap} {v : Value} {vs : List Value} {d : PyData} {ds : List PyData} (r : Rds h (v :: vs) (d :: ds)) : Rd h v d ∧ Rds h vs ds := by
  obtain ⟨_, r⟩ := r
  cases r with | cons x y => exact ⟨⟨_, x⟩, _, y⟩
theorem Rds.keeps {h h' : Heap} {vs : List Value} {ds : List PyData} (r : Rds h vs ds) (k : Kp h h') : Rds h' vs ds := let ⟨as, x⟩ := r; ⟨as, ReadsAll.keeps k x⟩
theorem Rds.len {h : Heap} {vs : List Value} {ds : List PyData} (r : Rds h vs ds) : vs.length = ds.length := let ⟨_, x⟩ := r; readsAll_len x
theorem Rds.get {h : Heap} {vs : List Value} {ds : List PyData} (r : Rds h vs ds) (j : Nat) (d : PyData) (e : ds[j]? = some d) : ∃ v, vs[j]? = some v ∧ Rd h v d := let ⟨_, x⟩ := r; readsAll_get x j d e
theorem Rds.of {h : Heap} {vs : List Value} {ds : List PyData} (e : vs.length = ds.length) (hg : ∀ (j : Nat) v d, vs[j]? = some v → ds[j]? = some d → Rd h v d) : Rds h vs ds := readsAll_of e hg
theorem Rd.list_inv' {h : Heap} {v : Value} {ds : List PyData} (r : Rd h v (.list ds)) : ∃ a, ∃ vs : List Value, v = .ref a ∧ h.IsList a vs.toArray ∧ Rds h vs ds := by
  obtain ⟨as, r⟩ := r
  cases r with
  | list ho hc hd hr =>
    rename_i a o vs n as'
    exact ⟨a, vs.toList, rfl, ⟨o, ho, hc, n, by simpa using hd⟩, _, hr⟩
theorem Rd.of_list {h : Heap} {a : Addr} {vs : List Value} {ds : List PyData} (hl : h.IsList a vs.toArray) (r : Rds h vs ds) : Rd h (.ref a) (.list ds) := by
  obtain ⟨o, ho, hc, n, hd⟩ := hl
  obtain ⟨as, q⟩ := r
  exact ⟨_, .list ho hc hd (by simpa using q)⟩
theorem Rds.nil {h : Heap} : Rds h [] [] := ⟨_, .nil⟩
theorem Rds.cons {h : Heap} {v : Value} {vs : List Value} {d : PyData} {ds : List PyData} (r : Rd h v d) (q : Rds h vs ds) : Rds h (v :: vs) (d :: ds) := let ⟨_, x⟩ := r; let ⟨_, y⟩ := q; ⟨_, .cons x y⟩
theorem Rds.append {h : Heap} : ∀ {vs us : List Value} {ds es : List PyData}, Rds h vs ds → Rds h us es → Rds h (vs ++ us) (ds ++ es)
  | [], _, [], _, _, q => q
  | [], _, _ :: _, _, r, _ => by have := r.len; cases this
  | _ :: _, _, [], _, r, _ => by have := r.len; cases this
  | _ :: _, _, _ :: _, _, r, q => .cons r.cons_inv.1 (Rds.append r.cons_inv.2 q)
theorem Rds.mem {h : Heap} : ∀ {vs : List Value} {ds : List PyData} {v : Value}, Rds h vs ds → v ∈ vs → ∃ d ∈ ds, Rd h v d
  | _ :: _, [], _, r, _ => by have := r.len; cases this
  | _ :: _, _ :: _, _, r, .head _ => ⟨_, .head _, r.cons_inv.1⟩
  | _ :: _, _ :: _, _, r, .tail _ m => let ⟨d, hd, q⟩ := Rds.mem r.cons_inv.2 m; ⟨d, .tail _ hd, q⟩
theorem Rds.snoc_inv {h : Heap} : ∀ {vs : List Value} {ds : List PyData} {d : PyData}, Rds h vs (ds ++ [d]) → ∃ us v, vs = us ++ [v] ∧ Rds h us ds ∧ Rd h v d
  | [], ds, d, r => by have := r.len; simp at this
  | [v], [], d, r => ⟨[], v, rfl, .nil, r.cons_inv.1⟩
  | _ :: _ :: _, [], d, r => by have := r.len; simp at this
  | v :: vs, e :: ds, d, r => by
    obtain ⟨us, u, rfl, q, x⟩ := Rds.snoc_inv r.cons_inv.2
    exact ⟨v :: us, u, rfl, .cons r.cons_inv.1 q, x⟩
theorem pick_last (us : List Value) (v : Value) : slicePick (us ++ [v]).toArray none (some (-1)) none = us.toArray := by
  rw [kms_pick_eq]
  congr 1
  simp [kms_pick, kms_lo, kms_hi]
theorem endQ {Q : Value → Shared → Prop} {x y : Str} {t : Tok} {s : Shared} (e : x = y) (h : Q (.str y t) s) : Q (.str x t) s := e ▸ h
section
variable {prog : Program} {w : World} {A : Around} {E : Value → Shared → Prop} {env : Env} {s : Shared} {Q : Value → Shared → Prop}
theorem tupAt {g : Heap} {L t : Addr} {m : Str → Option Value} {value slice : Expr} {l : List Value} {k : Int} {u : Tok} {j : Nat} {x : Value} (F : Fr g L s.heap m) (ht : g.IsTuple t l.toArray)
    (hj : seqIndex? k l.length = some j) (hx : l[j]? = some x) (h : Q x s) (hlo : -(2 ^ 63) ≤ k := by decide) (hhi : k < 2 ^ 63 := by decide)
    (hs : subscripted slice false (.ref t) (.int k u) = operate [.ref t, .int k u] (getItem (.ref t) (.int k u)) := by with_unfolding_all rfl) :
    wpAny (model prog w) A (subscriptTail value slice (.ref t) (.int k u)) Q E s := item_tupleT (isTuple_keeps ht F.keep) hlo hhi hj hx h hs
theorem lastAt {g : Heap} {L l : Addr} {m : Str → Option Value} {value slice : Expr} {us : List Value} {v : Value} {u : Tok} (F : Fr g L s.heap m) (hl : g.IsList l (us ++ [v]).toArray) (h : Q v s)
    (hs : subscripted slice false (.ref l) (.int (-1) u) = operate [.ref l, .int (-1) u] (getItem (.ref l) (.int (-1) u)) := by with_unfolding_all rfl) :
    wpAny (model prog w) A (subscriptTail value slice (.ref l) (.int (-1) u)) Q E s :=
  have hL := isList_keeps hl F.keep
  tail_any hL.typeIs slot_list_getitem.lookup (wpAny_getItem_list_neg hL (by decide) (by simp; omega) (by decide) (by simp; rw [show (-1 + ((us.length : Int) + 1)).toNat = us.length by omega]; simp) h) hs
theorem cGlob {M : Model} {K : Frag} {g : Heap} {C : Addr} {m mg mb : Str → Option Value} {p : Program} {loose : List Str} {mean : ExcName → Option Value} {scope : Scope} {cl : List (Str × Addr)} {x : Str} {pos : Pos} {v : Value} (F : Fr g C s.heap m) (X : K.In g) (T : Top p loose mean mg mb g)
    (e : nsIn K mainGlobals x = some (some v)) (h : Q v s)
    (hg : (compEnvC scope cl C env).globals = mainGlobals := by rfl) (hk : (compEnvC scope cl C env).scope.kind = .function := by rfl) (hx : (compEnvC scope cl C env).kindOf x = some .globalImplicit := by rfl) (hd : (x == ("__debug__" : Str)) = false := by decide) :
    wpAny M A (eval (.Name x pos) (compEnvC scope cl C env)) Q E s :=
  Calls.Name_function_global hk hx (Calls.loadGlobal_global (env := compEnvC scope cl C env) (show s.heap.Ns (compEnvC scope cl C env).globals mg from hg ▸ (T.keeps F.keep).g) (mg_of X T.g e) h) hd
theorem cName {M : Model} {g : Heap} {C : Addr} {m : Str → Option Value} {scope : Scope} {cl : List (Str × Addr)} {x : Str} {pos : Pos} {v : Value} (F : Fr g C s.heap m) (hv : m x = some v) (h : Q v s)
    (hk : (compEnvC scope cl C env).scope.kind = .function := by rfl) (hl : (compEnvC scope cl C env).kindOf x = some .local := by rfl) (hd : (x == ("__debug__" : Str)) = false := by decide) :
    wpAny M A (eval (.Name x pos) (compEnvC scope cl C env)) Q E s := wpAny_Name (wpAny_loadName_local hk hl F.ns hv h) hd
end
end Mine

namespace Mine
local macro_rules | `(tactic| walk_at "go") => `(tactic| repeat' (first | walk1 | (dsimp only; walk1)))
local macro_rules | `(tactic| walk_at "eval ListComp") => `(tactic| refine halt ?_)
local macro_rules | `(tactic| walk_at "call builtin:str.join") => `(tactic| refine halt ?_)
section
variable {w : World} {A : Around} {s : Shared} {Q : Value → Shared → Prop} {E : Value → Shared → Prop}
theorem signs_spec (G : Gd w s.heap) (a : At 1 A) (v : Value) (ps : List (Nat × Bool)) (hr : Rd s.heap v (.list (ps.map pairD))) (hn : ps.length ≤ 1000)
    (h : ∀ h' tk t', Kp s.heap h' → Q (.str (S (signs ps)) t') { s with heap := h', toks := tk }) :
    wpAny (model PySem.Challenge.rw_pg0042_01.row.prog w) A (call (.ref 103) [v]) Q E s := by
  obtain ⟨X, loose, mean, mg, mb, T⟩ := G
  revert X
  k_fill
  intro X
  refine a.use ?_
  refine enter_def (binds := [(Str.ofString "pairs", v)]) X T (by k_is) (by k_is) (by decide) (BindsTo.of_eq rfl) (locs rfl) ?_ rfl rfl rfl (by decide)
  intro h₁ F N
  w_on
  walk_at "go"
  refine comp_pairsL (cl := []) (fun i v => ∃ t, v = Value.str (S ((ps.map fun p => [p.1]).getD i [])) t) rfl rfl (by decide) rfl (by decide) rfl rfl (by decide) ?_
  walk_at "go"
  obtain ⟨l, vs, Ts, tk, rfl, hl, hlen, hT⟩ := pairs_of (hr.keeps F.keep)
  dsimp only
  refine unhalt ⟨l, vs, Ts, _, _, rfl, hl, by rw [hlen, sizeLine_eq]; omega, hT, ?_, ?_⟩
  · intro C i s₃ m₃ g E' hi F' N' hg ha hb
    refine cName F' ha (unhalt ⟨⟨tk i, ?_⟩, _, _, rfl, F'⟩)
    simp [hlen ▸ hi]
  · intro D h' tk' zs hD hlD hlz hG hk
    walk_at "go"
    refine join_list hlD (strs_of_got (ls := ps.map fun p => [p.1]) (by rw [hlz, hlen]; simp) hG) (fits_join 1 1000 (by simp) (by simpa using hn) (by decide)) ?_
    intro t' k
    rw [of_lit (s := "") (l := []) rfl, join_empty, flat_signs]
    exact h _ _ _ (Kp.trans F.keep hk)
end
end Mine

namespace Mine
local macro_rules | `(tactic| walk_at "go") => `(tactic| repeat' (first | walk1 | (dsimp only; walk1)))
local macro_rules | `(tactic| walk_at "eval ListComp") => `(tactic| refine halt ?_)
local macro_rules | `(tactic| walk_at "call builtin:str.join") => `(tactic| refine halt ?_)
local macro_rules | `(tactic| walk_at "eval Name") => `(tactic| ((with_reducible show wpAny _ _ (eval _ (compEnvC _ _ _ _)) _ _ _); with_unfolding_all refine cName (by assumption) (by assumption) ?_))
theorem enc_len (ps : List (Nat × Bool)) : (enc ps).length ≤ 2 * ps.length := by
  induction ps with
  | nil => simp [enc]
  | cons p ps ih =>
    have h1 : (enc1 p).length ≤ 2 := by unfold enc1; split <;> simp
    have h2 : enc (p :: ps) = enc1 p ++ enc ps := by simp [enc]
    rw [h2, List.length_append, List.length_cons]
    omega
section
variable {w : World} {A : Around} {s : Shared} {Q : Value → Shared → Prop} {E : Value → Shared → Prop}
theorem spelled_spec (G : Gd w s.heap) (a : At 1 A) (v : Value) (wd : Wd) (hr : Rd s.heap v (wordD wd)) (hn : wd.ps.length ≤ 1000) (hkd : wd.kind < 3)
    (h : ∀ h' tk t', Kp s.heap h' → Q (.str (S (spelled wd)) t') { s with heap := h', toks := tk }) :
    wpAny (model PySem.Challenge.rw_pg0042_01.row.prog w) A (call (.ref 108) [v]) Q E s := by
  obtain ⟨X, loose, mean, mg, mb, T⟩ := G
  revert X
  k_fill
  intro X
  refine a.use ?_
  refine enter_def (binds := [(Str.ofString "word", v)]) X T (by k_is) (by k_is) (by decide) (BindsTo.of_eq rfl) (locs rfl) ?_ rfl rfl rfl (by decide)
  intro h₁ F N
  obtain ⟨Tw, x, y, z, rfl, hTw, hx, hy, hz⟩ := Rd.tuple3 hr
  obtain ⟨ty, rfl⟩ := hy.int_inv
  obtain ⟨tz, rfl⟩ := hz.int_inv
  have hTw₁ := isTuple_keeps hTw F.keep
  w_on
  have hk3 : wd.kind = 0 ∨ wd.kind = 1 ∨ wd.kind = 2 := by omega
  walk_at "go"
  refine comp_pairsL (cl := []) (fun i v => ∃ t, v = Value.str (S ((wd.ps.map enc1).getD i [])) t) rfl rfl (by decide) rfl (by decide) rfl rfl (by decide) ?_
  walk_at "go"
  with_reducible rename Fr _ _ _ _ => F₁
  obtain ⟨l, vs, Ts, tk, rfl, hl, hlen, hT⟩ := pairs_of (hx.keeps F₁.keep)
  dsimp only
  refine unhalt ⟨l, vs, Ts, _, _, rfl, hl, by rw [hlen, sizeLine_eq]; omega, hT, ?_, ?_⟩
  · intro C i s₃ m₃ g E' hi F' N' hg ha hb
    have e : ((wd.ps.map enc1).getD i []) = enc1 (wd.ps.getD i (0, false)) := by simp [hlen ▸ hi]
    rw [e]
    generalize wd.ps.getD i (0, false) = p at *
    obtain ⟨c, b⟩ := p
    have hc1 : (S [c]).length ≤ 10 := by rw [S_len]; simp
    cases b
    · walk_at "go"
      exact ⟨⟨_, rfl⟩, _, _, rfl, F'⟩
    · walk_at "go"
      exact ⟨⟨_, congrArg (Value.str · _) (by rw [of_lit (s := "\\") (l := [92]) (by decide), S_app]; rfl)⟩, _, _, rfl, F'⟩
  · intro D h' tk' zs hD hlD hlz hG hk
    walk_at "go"
    refine join_list hlD (strs_of_got (ls := wd.ps.map enc1) (by rw [hlz, hlen]; simp) hG) (fits_join 2 1000 (fun x hx => by obtain ⟨p, _, rfl⟩ := List.mem_map.mp hx; unfold enc1; split <;> simp) (by simpa using hn) (by decide)) ?_
    intro t' k
    rw [of_lit (s := "") (l := []) rfl, join_empty, flat_enc]
    have hle : (S (enc wd.ps)).length ≤ 2000 := by
      rw [S_len]
      have := enc_len wd.ps
      omega
    have F₂ := F₁.keeps hk
    have N₂ : News s.heap s.heap.objs.size h' [] := News.nil
    rcases hk3 with e | e | e <;> rw [e] at F₂ <;> (try dsimp only) <;> walk_at "go" <;> (with_reducible rename Fr _ _ _ _ => F₃)
    · exact endQ (Q := Q) (show S [] ++ S (enc wd.ps) ++ S [] = S (spelled wd) from by rw [S_app, S_app, S_iff]; simp [spelled, opn, shut, e]) (h _ _ _ F₃.keep)
    · exact endQ (Q := Q) (show Str.ofString "\"" ++ S (enc wd.ps) ++ Str.ofString "\"" = S (spelled wd) from by rw [of_lit (l := [34]) (by decide), S_app, S_app, S_iff]; simp [spelled, opn, shut, e]) (h _ _ _ F₃.keep)
    · exact endQ (Q := Q) (show Str.ofString "\"" ++ S (enc wd.ps) ++ S [] = S (spelled wd) from by rw [of_lit (l := [34]) (by decide), S_app, S_app, S_iff]; simp [spelled, opn, shut, e]) (h _ _ _ F₃.keep)
end
end Mine

namespace Mine
local macro_rules | `(tactic| walk_at "go") => `(tactic| repeat' (first | (k_unfold; (try dsimp only)) | walk1 | (dsimp only; walk1)))
local macro_rules | `(tactic| walk_at "eval Name") => `(tactic| ((with_reducible show wpAny _ _ (eval _ (compEnvC _ _ _ _)) _ _ _); with_unfolding_all refine cGlob (by assumption) (by assumption) (by assumption) (by k_dflt k_is) ?_))
local macro_rules | `(tactic| walk_at "eval ListComp") => `(tactic| refine halt ?_)
local macro_rules | `(tactic| walk_at "call ref") => `(tactic| refine halt ?_)
local macro_rules | `(tactic| walk_at "exec Assign cons ListComp") => `(tactic| refine halt ?_)
local macro_rules | `(tactic| walk_at "call builtin:str.join") => `(tactic| refine halt ?_)
local macro_rules | `(tactic| walk_at "eval Name") => `(tactic| ((with_reducible show wpAny _ _ (eval _ (compEnvC _ _ _ _)) _ _ _); with_unfolding_all refine cName (by assumption) (by assumption) ?_))
local macro_rules | `(tactic| walk_at "subscriptTail") => `(tactic| ((with_reducible show wpAny _ _ (subscriptTail _ _ (Value.ref _) (Value.int _ _)) _ _ _); with_unfolding_all refine tupAt (by assumption) (by assumption) rfl rfl ?_))
local macro_rules | `(tactic| walk_at "subscriptTail") => `(tactic| ((with_reducible show wpAny _ _ (subscriptTail _ _ (Value.ref _) (Value.int _ _)) _ _ _); refine lastAt (by assumption) (by assumption) ?_))
section
variable {w : World} {A : Around} {s : Shared} {Q : Value → Shared → Prop} {E : Value → Shared → Prop}
noncomputable def WdOk (wd : Wd) : Prop := wd.ps.length ≤ 1000 ∧ wd.kind < 3 ∧ wd.beh < 3
theorem spelled_len {wd : Wd} (ok : WdOk wd) : (spelled wd).length ≤ 3000 := by
  have h1 := enc_len wd.ps
  have h2 := ok.1
  have h3 : (opn wd.kind).length ≤ 1 := by unfold opn; split <;> simp
  have h4 : (shut wd.kind).length ≤ 1 := by unfold shut; split <;> simp
  simp only [spelled, List.length_append]
  omega
theorem part_len {wd : Wd} (ok : WdOk wd) : (part wd).length ≤ 4000 := by
  have h1 := spelled_len ok
  have h3 : (sep wd.beh).length ≤ 2 := by unfold sep; split; simp; split <;> simp
  simp only [part, List.length_append]
  omega
theorem row_spec (G : Gd w s.heap) (a : At 2 A) (v : Value) (r : List Wd) (z : Wd) (hr : Rd s.heap v (rowD (r ++ [z]))) (hn : r.length ≤ 100) (hok : ∀ x ∈ r ++ [z], WdOk x)
    (h : ∀ h' tk t', Kp s.heap h' → Q (.str (S (rowT r z)) t') { s with heap := h', toks := tk }) :
    wpAny (model PySem.Challenge.rw_pg0042_01.row.prog w) A (call (.ref 113) [v]) Q E s := by
  have G₀ := G
  obtain ⟨X, loose, mean, mg, mb, T⟩ := G
  revert X
  k_fill
  intro X
  refine a.use ?_
  refine enter_def (binds := [(Str.ofString "row", v)]) X T (by k_is) (by k_is) (by decide) (BindsTo.of_eq rfl) (locs rfl) ?_ rfl rfl rfl (by decide)
  intro h₁ F N
  obtain ⟨l, vs, rfl, hl, hrs⟩ := hr.list_inv'
  rw [List.map_append] at hrs
  obtain ⟨us, u, rfl, hus, hu⟩ := hrs.snoc_inv
  have hul : us.length = r.length := by simpa using hus.len
  have hl₁ := isList_keeps hl F.keep
  w_on
  walk_at "go"
  refine comp_listS F (fun i y => ∃ t, y = Value.str (S ((r.map part).getD i [])) t) rfl rfl rfl rfl (by decide) rfl (by decide) rfl rfl rfl ?_
  walk_at "go"
  dsimp only
  with_reducible rename Fr _ _ _ _ => F₁
  with_reducible rename News _ _ _ _ => N₁
  have hlD := N₁.isList (.head _)
  rw [pick_last] at hlD
  refine unhalt ⟨_, us, rfl, hlD, by rw [hul, sizeLine_eq]; omega, F₁, ?_, ?_⟩
  · intro C i v s₃ m₃ g E' hv F' N' hg hx
    have hi : i < r.length := by rw [← hul]; exact (List.getElem?_eq_some_iff.mp hv).1
    obtain ⟨v', hv', hrd⟩ := hus.get i (wordD r[i]) (by simp [hi])
    have : v' = v := Option.some.inj (hv'.symm.trans hv)
    subst this
    have e0 : (r.map part).getD i [] = part r[i] := by simp [hi]
    rw [e0]
    have ok := hok r[i] (List.mem_append_left _ (List.getElem_mem hi))
    generalize r[i] = wd at *
    have hgk : Kp s.heap g := Kp.trans F₁.keep hg
    have X₁ := X.keeps hgk
    have T₁ := T.keeps hgk
    walk_at "go"
    have hk₃ : Kp s.heap s₃.heap := Kp.trans hgk F'.keep
    refine spelled_spec (G₀.keeps hk₃) (at_of rfl rfl rfl) _ wd (hrd.keeps hk₃) ok.1 ok.2.1 ?_
    intro h₄ tk₄ t₄ hk₄
    obtain ⟨Tw, x, y, z', rfl, hTw, _, hy, hz⟩ := Rd.tuple3 hrd
    obtain ⟨ty, rfl⟩ := hy.int_inv
    obtain ⟨tz, rfl⟩ := hz.int_inv
    have F₄ := F'.keeps hk₄
    have N₄ := frNil F₄
    have hle : (S (spelled wd)).length ≤ 3000 := by rw [S_len]; exact spelled_len ok
    have hb3 : wd.beh = 0 ∨ wd.beh = 1 ∨ wd.beh = 2 := by have := ok.2.2; omega
    clear F' N'
    have hTwB := isTuple_keeps hTw hgk
    rcases hb3 with e | e | e <;> rw [e] at hTwB <;> (try dsimp only) <;> walk_at "go" <;> (with_reducible rename Fr _ _ _ _ => F₅)
    · exact ⟨⟨_, congrArg (Value.str · _) (by rw [of_lit (s := " ") (l := [32]) (by decide), S_app, part, e]; rfl)⟩, _, _, rfl, F₅⟩
    · exact ⟨⟨_, congrArg (Value.str · _) (by rw [of_lit (s := "\t") (l := [9]) (by decide), S_app, part, e]; rfl)⟩, _, _, rfl, F₅⟩
    · exact ⟨⟨_, congrArg (Value.str · _) (by rw [of_lit (s := "\r ") (l := [13, 32]) (by decide), S_app, part, e]; rfl)⟩, _, _, rfl, F₅⟩
  · intro D h' tk zs hD hlz hzl hG F₂ hk
    walk_at "go"
    refine join_list hlz (strs_of_got (by rw [hzl, hul]; simp) hG) (fits_join 4000 100 (fun x hx => by obtain ⟨p, hp, rfl⟩ := List.mem_map.mp hx; exact part_len (hok p (List.mem_append_left _ hp))) (by simpa using hn) (by rw [of_lit (s := "") (l := []) rfl, S_len]; decide)) ?_
    intro t' k
    have N₂ := frNil F₂
    rw [of_lit (s := "") (l := []) rfl, join_empty]
    walk_at "go"
    have okz := hok z (List.mem_append_right _ (.head _))
    refine spelled_spec (by exact G₀.keeps F₂.keep) (at_of rfl rfl rfl) _ z (by exact hu.keeps F₂.keep) okz.1 okz.2.1 ?_
    intro h₄ tk₄ t₄ hk₄
    have F₄ := F₂.keeps hk₄
    have N₄ := frNil F₄
    have hle : (S (spelled z)).length ≤ 3000 := by rw [S_len]; exact spelled_len okz
    have hle2 : (S (r.map part).flatten).length ≤ 400000 := by
      rw [S_len, List.length_flatten]
      have := sum_le 4000 (r.map part) (fun x hx => by obtain ⟨p, hp, rfl⟩ := List.mem_map.mp hx; exact part_len (hok p (List.mem_append_left _ hp)))
      rw [List.length_map] at this
      omega
    walk_at "go"
    exact endQ (Q := Q) (show S (r.map part).flatten ++ S (spelled z) = S (rowT r z) from by rw [S_app, rowT, List.flatMap_def]) (h _ _ _ F₄.keep)
end
end Mine

namespace Mine
/-- a ground that stays, and what may change beside it -/
structure Held (g h : Heap) (news : List (Addr × Obj)) : Prop where
  kp : Kp g h
  sz : g.objs.size ≤ h.objs.size
  at_ : ∀ p ∈ news, h.get? p.1 = some p.2 ∧ g.get? p.1 = none

theorem hide_of {h : Heap} {news : List (Addr × Obj)} (hn : ∀ p ∈ news, h.get? p.1 = some p.2) : Held (hideAll h (news.map (·.1))) h news :=
  ⟨fun _ _ e => of_hideAll _ e, Nat.le_of_eq (hideAll_size _ _), fun p hp => ⟨hn p hp, hideAll_none _ (List.mem_map_of_mem hp)⟩⟩

section
variable {w : World} {A : Around} {s : Shared} {R : Result → Shared → Prop} {Q : Value → Shared → Prop} {E : Value → Shared → Prop} {name qual : Str} {params : Arguments} {body : List Stmt} {scope : Scope} {cl : List (Str × Addr)} {dV kV doc pm cdv ct : Value} {an : Option Addr} {f : Addr} {fo : Obj} {args : List Value} {binds : List (Str × Value)}
  {g : Heap} {news : List (Addr × Obj)}
theorem code_g (H : Held g s.heap news) (hlim : g.NoLimit)
    (ho : s.heap.get? f = some fo) (hd : fo.data = .func (fnX name qual params body scope cl dV kV doc pm an cdv ct)) (hcd : s.heap.CodeRec cdv qual) (hroom : A.depth < recursionLimit)
    (hbind : BindsTo s (fnX name qual params body scope cl dV kV doc pm an cdv ct) ⟨args, []⟩ binds) (hloc : ∀ y ∈ binds, scope.names.lookup y.1 = some .local)
    (h : ∀ h₁, Fr g s.heap.objs.size h₁ (fun y => binds.reverse.lookup y) → News g s.heap.objs.size h₁ news → (∀ p ∈ news, p.1 < s.heap.objs.size) →
      wpAny (model PR w) (A.deeper (envX qual scope s.heap.objs.size f cdv cl)) (execs body (envX qual scope s.heap.objs.size f cdv cl))
        (fun fl s' => R (.ok (.ret (match fl with | .ret v => v | _ => .none))) s') (fun _ _ => False) { s with heap := h₁, toks := s.toks + binds.length })
    (hco : scope.isCoroutine = false) (hgen : scope.isGenerator = false) (hk : scope.kind = .function)
    (hcell : ∀ x ∈ scope.names, x.2 ≠ .cell) : codeAny (model PR w) A (.call (.ref f) ⟨args, []⟩) R s := by
  refine codeAny_call_def (fd := fnX name qual params body scope cl dV kV doc pm an cdv ct) (body := body) (binds := binds) hroom ho hd (hlim.keeps H.kp) hcd rfl hbind hcell hloc (fun h₁ hns hk₁ => ?_) hco hgen hk
  refine wpAny_mono (h h₁ ⟨hns, fun b o e => hk₁ b o (H.kp b o e), H.sz⟩ (fun p hp => ⟨hk₁ _ _ (H.at_ p hp).1, Nat.ne_of_lt (Heap.lt_size (H.at_ p hp).1), (H.at_ p hp).2⟩) (fun p hp => Heap.lt_size (H.at_ p hp).1)) (fun fl s' q => q) fun _ _ q => q.elim
theorem call_g (H : Held g s.heap news) (hlim : g.NoLimit)
    (ho : s.heap.get? f = some fo) (hd : fo.data = .func (fnX name qual params body scope cl dV kV doc pm an cdv ct)) (hcd : s.heap.CodeRec cdv qual) (hroom : A.depth < recursionLimit)
    (hbind : BindsTo s (fnX name qual params body scope cl dV kV doc pm an cdv ct) ⟨args, []⟩ binds) (hloc : ∀ y ∈ binds, scope.names.lookup y.1 = some .local)
    (h : ∀ h₁, Fr g s.heap.objs.size h₁ (fun y => binds.reverse.lookup y) → News g s.heap.objs.size h₁ news → (∀ p ∈ news, p.1 < s.heap.objs.size) →
      wpAny (model PR w) (A.deeper (envX qual scope s.heap.objs.size f cdv cl)) (execs body (envX qual scope s.heap.objs.size f cdv cl))
        (fun fl s' => Q (match fl with | .ret v => v | _ => .none) s') (fun _ _ => False) { s with heap := h₁, toks := s.toks + binds.length })
    (hco : scope.isCoroutine = false) (hgen : scope.isGenerator = false) (hk : scope.kind = .function)
    (hcell : ∀ x ∈ scope.names, x.2 ≠ .cell) : wpAny (model PR w) A (call (.ref f) args) Q E s :=
  wpAny_call (code_g H hlim ho hd hcd hroom hbind hloc h hco hgen hk hcell)
theorem call_gC (H : Held g s.heap news) (hlim : g.NoLimit)
    (ho : s.heap.get? f = some fo) (hd : fo.data = .func (fnX name qual params body scope [] dV kV doc pm an cdv ct)) (hcd : s.heap.CodeRec cdv qual) (hroom : A.depth < recursionLimit)
    (hbind : BindsTo s (fnX name qual params body scope [] dV kV doc pm an cdv ct) ⟨args, []⟩ binds)
    (hkind : (binds.all fun y => scope.names.lookup y.1 == some .local || scope.names.lookup y.1 == some .cell) = true)
    (hnd : ((cellsFrom 0 scope.names []).map (·.1)).Nodup)
    (h : ∀ h₁ tk cells, Fr g s.heap.objs.size h₁ (bindL (envOfC qual scope s.heap.objs.size f cdv).kindOf binds fun _ => none) → News g s.heap.objs.size h₁ (cells ++ news) →
      CellsAre (bindC (envOfC qual scope s.heap.objs.size f cdv).kindOf binds fun _ => none) (cellsFrom (s.heap.objs.size + 1) scope.names []) cells → (∀ p ∈ news, p.1 < s.heap.objs.size) →
      wpAny (model PR w) (A.deeper (envOfC qual scope s.heap.objs.size f cdv)) (execs body (envOfC qual scope s.heap.objs.size f cdv))
        (fun fl s' => Q (match fl with | .ret v => v | _ => .none) s') (fun _ _ => False) { s with heap := h₁, toks := tk })
    (hco : scope.isCoroutine = false) (hgen : scope.isGenerator = false) (hk : scope.kind = .function) : wpAny (model PR w) A (call (.ref f) args) Q E s := by
  refine wpAny_call (codeAny_call_function hroom ho hd hco hgen rfl hcd (hbind _ _ _ _ ?_))
  refine wpAny_newFunctionEnv_cells hk (kindsX hkind _) fun env' he s' x => ?_
  subst he
  refine ⟨(hlim.keeps H.kp).keeps x.toInCall.keep, codeAny_func ?_⟩
  obtain ⟨h₁, tk, rfl, _⟩ := x.done
  have hk₁ := x.toInCall.keep
  obtain ⟨cells, NC, Y⟩ := Cl.news (h₀ := s.heap) (Nat.le_refl _) fun n c hm => ⟨x.cell n c (lookup_of_mem_nodup (cellsFrom_names scope.names 0 (s.heap.objs.size + 1) [] [] rfl ▸ hnd) hm), x.above n c hm⟩
  refine wpAny_mono (h h₁ tk cells ⟨x.toInCall.ns, fun b o e => hk₁ b o (H.kp b o e), H.sz⟩ (fun p hp => ?_) Y (fun p hp => Heap.lt_size (H.at_ p hp).1)) (fun fl s' q => q) fun _ _ q => q.elim
  rcases List.mem_append.mp hp with hp | hp
  · refine ⟨(NC p hp).1, (NC p hp).2.1, ?_⟩
    cases q : g.get? p.1 with
    | none => rfl
    | some o => have := H.kp _ _ q; rw [(NC p hp).2.2] at this; cases this
  · exact ⟨hk₁ _ _ (H.at_ p hp).1, Nat.ne_of_lt (Heap.lt_size (H.at_ p hp).1), (H.at_ p hp).2⟩
end
end Mine

namespace Mine
local macro_rules | `(tactic| walk_at "go") => `(tactic| repeat' (first | (k_unfold; (try dsimp only)) | walk1 | (dsimp only; walk1)))
section
variable {w : World} {A : Around} {s : Shared} {R : Result → Shared → Prop}
theorem codeAny_weaken {M : Model} {A B : Around} {c : Code} {R : Result → Shared → Prop} {s : Shared} (h : codeAny M B c R s)
    (hh : A.handled = B.handled) (hd : A.depth ≤ B.depth) (hu : A.units ≤ B.units) (hf : B.frames = none) (hg : B.guards = none) : codeAny M A c R s :=
  fun Γ p hc hΓ => h Γ p hc ⟨hΓ.1.trans hh, Nat.le_trans hΓ.2.1 hd, fun l hl => by rw [hf] at hl; (cases hl), fun l hl => by rw [hg] at hl; (cases hl), Nat.le_trans hΓ.2.2.2.2 hu⟩
/-- the names of a lexer's own -/
noncomputable def lexD (P : Params) (t1 t2 t3 t4 tn tw : Tok) (n : Int) (fp : Value) (l : Addr) : List DictEntry :=
  [⟨PyData.keyHash P (Str.ofString "lineno"), .str (Str.ofString "lineno") t1, .int n tn⟩, ⟨PyData.keyHash P (Str.ofString "instream"), .str (Str.ofString "instream") t2, fp⟩,
   ⟨PyData.keyHash P (Str.ofString "whitespace"), .str (Str.ofString "whitespace") t3, .str (Str.ofString "\n\t\x0d ") tw⟩, ⟨PyData.keyHash P (Str.ofString "pushback"), .str (Str.ofString "pushback") t4, .ref l⟩]
theorem init_code {g : Heap} {x dx : Addr} (H : Held g s.heap [(x, instObj 66 dx), (dx, dictOf [] 0)]) (hxd : dx < x) (G : Gd w g) (a : At 1 A) (fp : Value)
    (h : ∀ h' tk l t1 t2 t3 t4 tn tw, Kp g h' → h'.get? x = some (instObj 66 dx) → h'.get? dx = some (dictOf (lexD w.params t1 t2 t3 t4 tn tw 1 fp l) 4) → h'.get? l = some (W.listOf #[] 0) → x < l → g.get? l = none →
      R (.ok (.ret .none)) { s with heap := h', toks := tk }) :
    codeAny (model PySem.Challenge.rw_pg0042_01.row.prog w) A (.call (.ref 42) ⟨[.ref x, fp], []⟩) R s := by
  obtain ⟨X, loose, mean, mg, mb, T⟩ := G
  revert X
  k_fill
  intro X
  refine codeAny_weaken (B := Lv 1) ?_ a.h a.d a.u rfl rfl
  refine code_g (binds := [(Str.ofString "self", .ref x), (Str.ofString "fp", fp)]) (cl := []) H T.nolimit (X.keeps H.kp _ _ (by k_is)) rfl (codeRec_of (X.keeps H.kp) (by k_is)) (by decide) (BindsTo.of_eq rfl) (locs rfl) ?_ rfl rfl rfl (by decide)
  intro h₁ F N hlt
  k_lt hlt
  k_lt2 hxd
  w_on
  walk_at "go"
  with_reducible rename Fr _ _ _ _ => F'
  with_reducible rename News _ _ _ _ => N'
  with_reducible rename _ < _ ∧ _ < _ => l1
  exact h _ _ _ _ _ _ _ _ _ F'.keep (N'.get (.tail _ (.head _))) (N'.get (.tail _ (.tail _ (.head _)))) (N'.get (.head _)) l1.1 (N'.fresh (.head _))
end
end Mine

namespace Mine
section
variable {w : World} {A : Around} {s : Shared} {Q : Value → Shared → Prop} {E : Value → Shared → Prop}
theorem new_lex {g : Heap} {L : Addr} {m : Str → Option Value} {news : List (Addr × Obj)} (F : Fr g L s.heap m) (N : News g L s.heap news) (G : Gd w g) (a : At 2 A) (fp : Value)
    (h : ∀ x dx l h' tk t1 t2 t3 t4 tn tw, Fr g L h' m → News g L h' ((l, W.listOf #[] 0) :: (x, instObj 66 dx) :: (dx, dictOf (lexD w.params t1 t2 t3 t4 tn tw 1 fp l) 4) :: news) → (∀ p ∈ news, p.1 < dx) → dx < x → x < l →
      Q (.ref x) { s with heap := h', toks := tk }) :
    wpAny (model PySem.Challenge.rw_pg0042_01.row.prog w) A (call (.ref 66) [fp]) Q E s := by
  have G₀ := G
  obtain ⟨X, loose, mean, mg, mb, T⟩ := G
  revert X
  k_fill
  intro X
  refine call_cls (kw := []) F X N (by k_is) (by k_is) (by k_is) ?_
  intro x dx h₁ F₁ N₁ l1 l2
  have hx := N₁ (x, instObj 66 dx) (.head _)
  have hdx := N₁ (dx, dictOf [] 0) (.tail _ (.head _))
  have H : Held (hideAll h₁ [x, dx]) h₁ [(x, instObj 66 dx), (dx, dictOf [] 0)] := hide_of (news := [(x, instObj 66 dx), (dx, dictOf [] 0)]) (by
    intro p hp
    rcases List.mem_cons.mp hp with rfl | hp
    · exact hx.1
    · rcases List.mem_cons.mp hp with rfl | hp
      · exact hdx.1
      · cases hp)
  have st : Kp g (hideAll h₁ [x, dx]) := fun b o e => hideAll_get _ (F₁.keep b o e) (by
    intro hm
    rcases List.mem_cons.mp hm with rfl | hm
    · rw [hx.2.2] at e; cases e
    · rcases List.mem_cons.mp hm with rfl | hm
      · rw [hdx.2.2] at e; cases e
      · cases hm)
  have a₁ : At 1 (A.under (.builtin "type.__call__" ⟨[.ref 66, fp], []⟩)) := ⟨a.h, by rw [depth_under_make]; have := a.d; omega, by rw [units_under_make]; have := a.u; omega⟩
  refine init_code (s := { s with heap := h₁ }) H l2 (G₀.keeps st) a₁ fp ?_
  · intro h' tk l t1 t2 t3 t4 tn tw hk ex edx el hlt hnl
    refine ⟨rfl, ?_⟩
    obtain ⟨oL, es, ep, hL, hLd, hLk, hLf⟩ := F₁.ns
    have hLg : (hideAll h₁ [x, dx]).get? L = some oL := hideAll_get _ hL (by
      intro hm
      rcases List.mem_cons.mp hm with rfl | hm
      · exact hx.2.1 rfl
      · rcases List.mem_cons.mp hm with rfl | hm
        · exact hdx.2.1 rfl
        · cases hm)
    refine h x dx l h' tk t1 t2 t3 t4 tn tw ⟨⟨oL, es, ep, hk _ _ hLg, hLd, hLk, hLf⟩, fun b o e => hk b o (st b o e), F.above⟩ ?_ l1 l2 hlt
    intro p hp
    rcases List.mem_cons.mp hp with rfl | hp
    · refine ⟨el, fun q => ?_, ?_⟩
      · have hnl' : (hideAll h₁ [x, dx]).get? l = none := hnl
        rw [show l = L from q, hLg] at hnl'; cases hnl'
      · cases q : g.get? l with
        | none => rfl
        | some o => have := st _ _ q; rw [hnl] at this; cases this
    · rcases List.mem_cons.mp hp with rfl | hp
      · exact ⟨ex, hx.2⟩
      · rcases List.mem_cons.mp hp with rfl | hp
        · exact ⟨edx, hdx.2⟩
        · have hp' := N₁ p (.tail _ (.tail _ hp))
          refine ⟨hk _ _ (hideAll_get _ hp'.1 ?_), hp'.2⟩
          have := l1 p hp
          intro hm
          rcases List.mem_cons.mp hm with e | hm
          · rw [e] at this; exact Nat.lt_asymm this l2
          · rcases List.mem_cons.mp hm with e | hm
            · rw [e] at this; exact Nat.lt_irrefl _ this
            · cases hm
end
end Mine

namespace Mine
section
variable {prog : Program} {w : World} {A : Around} {R : Result → Shared → Prop} {E : Value → Shared → Prop}
theorem ext_loop {I : Addr} {fp wr : List Addr} {n : Nat} {P : Nat → Value → Prop} {St : Nat → Heap → Prop} (W : Walks prog w A.in1 I fp wr n P St) (S : Addr) (hSf : S ∉ fp) (res : Value) :
    ∀ (k i : Nat) (s : Shared) (acc : Array Value) (c : Nat), n - i = k → i ≤ n → St i s.heap → s.heap.get? S = some { cls := .type "list", dict := none, data := .seq acc c, slots := #[] } → acc.size + k ≤ sizeLine →
    (∀ h' tk acc' c', (∀ b o, b ≠ S → b ∉ wr → s.heap.get? b = some o → h'.get? b = some o) → h'.get? S = some { cls := .type "list", dict := none, data := .seq acc' c', slots := #[] } → acc'.size = acc.size + k → R (.ok (.ret res)) { s with heap := h', toks := tk }) →
    codeAny (model prog w) A (.builtin "list.extend.loop" ⟨[.ref S, .ref I, res], []⟩) R s := by
  have hSw : S ∉ wr := fun h => hSf (W.sub _ h)
  intro k
  induction k with
  | zero =>
    intro i s acc c hk hi hst hS hsz hR
    have hin : i = n := by omega
    subst hin
    refine codeAny_builtin F.entry_extend_loop ?_
    rw [Around.under_plainId F.plain_extend_loop _]
    show wpAny _ A.in1 (pyNext (.ref I) >>= _) _ _ s
    refine wpAny_bind (W.done s _ _ hst fun h' tk hm => ?_)
    exact wpAny_pure (hR h' tk acc c (fun b o _ h2 e => hm b o h2 e) (hm S _ hSw hS) rfl)
  | succ k ih =>
    intro i s acc c hk hi hst hS hsz hR
    have hlt : i < n := by omega
    refine codeAny_builtin F.entry_extend_loop ?_
    rw [Around.under_plainId F.plain_extend_loop _]
    show wpAny _ A.in1 (pyNext (.ref I) >>= _) _ _ s
    refine wpAny_bind (W.item i s _ _ hlt hst fun v h₁ tk₁ hP hst' hm => ?_)
    have hS' := hm S _ hSw hS
    show wpAny _ A.in1 (updateSeq S (·.push v) >>= _) _ _ _
    refine wpAny_bind ?_
    refine wpAny_updateSeq hS' rfl (wpAny_pure ⟨plainId_quiet F.plain_extend_loop _, ih (i + 1) _ (acc.push v) _ (by omega) hlt (W.frame _ h₁ _ hst' fun b hb o e => ?_) (Heap.get?_update_self _ hS' rfl) (by rw [Array.size_push]; omega) fun h'' tk'' acc' c' hm'' hS'' hacc' => ?_⟩)
      (by omega) (by show (acc.push v).size ≤ sizeLine + 1; rw [Array.size_push]; omega)
    · exact (Heap.get?_update_other _ _ (fun h : S = b => hSf (by rw [h]; exact hb))).trans e
    · refine hR h'' tk'' acc' c' (fun b o h1 h2 e => hm'' b o h1 h2 ((Heap.get?_update_other _ _ (Ne.symm h1)).trans (hm b o h2 e))) hS'' (by rw [hacc', Array.size_push]; omega)

theorem extend_str {s : Shared} {Q : Value → Shared → Prop} (hh : A.handled = none) (x : Str) (t : Tok) (S : Addr) {acc : Array Value} {c : Nat} (hS : s.heap.get? S = some { cls := .type "list", data := .seq acc c }) (hsz : acc.size + x.cps.size ≤ sizeLine)
    (hQ : ∀ h' tk acc' c', (∀ b o, b ≠ S → s.heap.get? b = some o → h'.get? b = some o) → h'.get? S = some { cls := .type "list", dict := none, data := .seq acc' c', slots := #[] } → acc'.size = acc.size + x.cps.size → Q .none { s with heap := h', toks := tk }) :
    wpAny (model prog w) A (call (.builtin "list.extend") [.ref S, .str x t]) Q E s := by
  have hL : s.heap.IsList S acc := ⟨_, hS, rfl, _, rfl⟩
  refine wpAny_call (codeAny_call_builtin F.slot_list_extend.plain F.entry_list_extend (F.slot_list_extend.check _ _ _ _ _ _ _ _ hL.typeIs (F.args_list_extend_2 _ _) ?_))
  show wpAny _ _ (Builtin.List.listExtendWith (.ref S) (.str x t) .none) _ _ s
  have hSI : S ≠ s.heap.objs.size := Nat.ne_of_lt (Heap.lt_size hS)
  have hSf : S ∉ [s.heap.objs.size] := fun hm => hSI (List.mem_singleton.mp hm)
  unfold Builtin.List.listExtendWith
  refine wpAny_bind (wpAny_typeOf (T := "str") (v := .str x t) rfl ?_)
  have h1 : Builtin.List.listSameRef (.ref S) (.str x t) = false := rfl
  have h2 : (Value.type "str" == Value.type "list") = false := by decide
  have h3 : (Value.type "str" == Value.type "tuple") = false := by decide
  simp only [h1, h2, h3, Bool.or_false, Bool.false_eq_true, if_false]
  refine wpAny_bind (wpAny_pyIter_str fun o St W hst => ?_)
  refine wpAny_bind (wpAny_holding ?_)
  unfold Builtin.List.listLengthHint
  refine wpAny_bind (wpAny_specialOf (T := "str") (v := .str x t) rfl F.str_len ?_)
  wp_delta
  refine wpAny_bind (wpAny_isInstance (T := "str") (v := .str x t) (b := true) rfl (by rw [isSubtype_type]; kernel_rfl) ?_)
  show wpAny _ _ (typeOf (Value.str x t) >>= _) _ _ _
  refine wpAny_bind (wpAny_typeOf (T := "str") (v := .str x t) rfl ?_)
  refine wpAny_pure ?_
  rw [if_neg (by decide)]
  refine wpAny_pure ⟨plainId_quiet F.plain_extend_loop _, ext_loop (W A.in1 hh) S hSf _ x.cps.size 0 _ _ _ rfl (Nat.zero_le _) hst (Heap.get?_push_of_some _ hS) hsz fun h' tk acc' c' hm hS' hacc => ?_⟩
  refine hQ h' tk acc' c' (fun b ob hb e => hm b ob hb (fun hmem => ?_) (Heap.get?_push_of_some _ e)) hS' hacc
  exact absurd (Heap.lt_size e) (by rw [List.mem_singleton.mp hmem]; exact Nat.lt_irrefl _)
end
end Mine

namespace Mine
open Builtin.Str
theorem idx_is (lo hi : Option Int) (n : Nat) : strSliceIndices lo hi 1 n = sliceRange (kms_lo lo n : Nat) (kms_hi hi n : Nat) 1 := by
  have h1 : ((1 : Int) > 0) = True := by simp
  have e1 : (match lo with | none => (0 : Int) | some i => max 0 (min (if i < 0 then i + n else i) n)) = ((kms_lo lo n : Nat) : Int) := by
    cases lo with
    | none => simp [kms_lo]
    | some x =>
      simp only [kms_lo]
      split <;> omega
  have e2 : (match hi with | none => (n : Int) | some i => max 0 (min (if i < 0 then i + n else i) n)) = ((kms_hi hi n : Nat) : Int) := by
    cases hi with
    | none => simp [kms_hi]
    | some x =>
      simp only [kms_hi]
      split <;> omega
  unfold strSliceIndices
  simp only [h1, if_true]
  rw [← e1, ← e2]
  cases lo <;> cases hi <;> rfl
theorem range_is (a b : Nat) : sliceRange (a : Int) (b : Int) 1 = (List.range (b - a)).map (fun k => a + k) := by
  unfold sliceRange
  by_cases hlt : (a : Int) < b
  · have e3 : (((b : Int) - a + 1 - 1) / 1).toNat = b - a := by simp
    simp only [show ((1 : Int) > 0) = True from by simp, if_true, hlt, e3]
    refine List.map_congr_left fun k _ => ?_
    omega
  · have : b - a = 0 := by omega
    simp [hlt, this]
theorem kms_hi_le (hi : Option Int) (n : Nat) : kms_hi hi n ≤ n := by
  unfold kms_hi
  split
  · exact Nat.le_refl _
  · split <;> omega
theorem slice_S (l : Tx) (lo hi : Option Int) : Txt.slice (S l) lo hi = S ((l.drop (kms_lo lo l.length)).take (kms_hi hi l.length - kms_lo lo l.length)) := by
  have e : (strSliceIndices lo hi 1 (S l).length).filterMap ((S l).cps[·]?) = (l.drop (kms_lo lo l.length)).take (kms_hi hi l.length - kms_lo lo l.length) := by
    rw [idx_is, range_is, S_len]
    by_cases hab : kms_lo lo l.length ≤ kms_hi hi l.length
    · have h := StrLaws.sliced_plain (S l) (a := kms_lo lo l.length) (b := kms_hi hi l.length) hab (by rw [S_len]; exact kms_hi_le _ _)
      rw [StrLaws.strSliceIndices_plain hab (by rw [S_len]; exact kms_hi_le _ _), S_cps] at h
      exact h
    · have : kms_hi hi l.length - kms_lo lo l.length = 0 := by omega
      simp [this]
  unfold Txt.slice
  rw [e]
  split
  · rename_i hq
    have hq2 : (strSliceIndices lo hi 1 (S l).length).length = (S l).length := by simpa using hq
    rw [idx_is, range_is, S_len] at hq2
    simp only [List.length_map, List.length_range] at hq2
    have h1 := kms_hi_le hi l.length
    by_cases hz : l.length = 0
    · have : l = [] := List.eq_nil_of_length_eq_zero hz
      subst this
      simp
    · have h2 : kms_lo lo l.length = 0 := by omega
      have h3 : kms_hi hi l.length = l.length := by omega
      rw [h2, h3]
      simp
  · rfl
theorem slice_nat (l : Tx) (i j : Nat) : Txt.slice (S l) (some (i : Int)) (some (j : Int)) = S ((l.drop i).take (j - i)) := by
  rw [slice_S, S_iff]
  simp only [kms_lo, kms_hi, show ¬ ((i : Int) < 0) by omega, show ¬ ((j : Int) < 0) by omega, if_false, Int.toNat_natCast]
  by_cases hi : i ≤ l.length
  · rw [Nat.min_eq_left hi]
    by_cases hj : j ≤ l.length
    · rw [Nat.min_eq_left hj]
    · rw [Nat.min_eq_right (by omega)]
      rw [List.take_of_length_le (by simp), List.take_of_length_le (by simp; omega)]
  · rw [List.drop_of_length_le (by omega), List.drop_of_length_le (l := l) (i := i) (by omega)]
    simp
end Mine

namespace Mine
local macro_rules | `(tactic| walk_at "go") => `(tactic| repeat' (first | (k_unfold; (try dsimp only)) | walk1 | (dsimp only; walk1)))
local macro_rules | `(tactic| walk_at "call ref") => `(tactic| refine halt ?_)
section
variable {M : Model} {A : Around} {E : Value → Shared → Prop} {s : Shared} {L a : Addr} {m : Str → Option Value} {cn : Str} {cs : Scope} {ccd : Value} {cl : List (Str × Addr)} {x : Str} {pos : Pos} {v : Value} {Q : Value → Shared → Prop} {c : Addr} {g : Heap} {o : Obj}
theorem fName (F : Fr g L s.heap m) (hc : cl.lookup x = some c) (ho : g.get? c = some o) (hd : o.data = .cell (some v)) (h : Q v s)
    (hk : cs.kind = .function := by rfl) (hx : (envX cn cs L a ccd cl).kindOf x = some .free := by rfl) (hb : (x == ("__debug__" : Str)) = false := by decide) (hn : (x == ("__classdict__" : Str)) = false := by decide) :
    wpAny M A (eval (.Name x pos) (envX cn cs L a ccd cl)) Q E s := wpAny_Name (wpAny_loadName_free hk hx hc ⟨o, F.keep _ _ ho, hd⟩ h hn) hb
end
noncomputable def PieceOk (w : World) (g : Heap) (f G : Addr) (text : Tx) : Prop :=
  ∀ (g' : Heap) (A : Around) (s : Shared) (Q : Value → Shared → Prop) (E : Value → Shared → Prop) (vs : List Value) (n t : Nat), Kp g g' → Gd w g' → Held g' s.heap [(G, W.listOf vs.toArray n)] → At 1 A → vs.length ≤ text.length →
    (∀ h' tk t' vs' n', Kp g' h' → h'.get? G = some (W.listOf (vs' : List Value).toArray n') → vs'.length = vs.length + (if vs.length < text.length then 1 else 0) → Q (.str (S ((text.drop vs.length).take 1)) t') { s with heap := h', toks := tk }) →
    wpAny (model PR w) A (call (.ref f) [.int 1 t]) Q E s
local macro_rules | `(tactic| walk_at "eval Name") => `(tactic| (with_unfolding_all refine fName (by assumption) rfl (by assumption) (by assumption) ?_))
/-- a lexer over a stream of a text's own: its objects -/
structure LexC where
  (G d2 x2 x1 d1 l2 l1 f : Addr)
  (u1 u2 u3 u4 uw t1 t2 t3 t4 t5 tn tw : Tok)
noncomputable def LexC.strD (c : LexC) (P : Params) : List DictEntry :=
  [⟨PyData.keyHash P (Str.ofString "lineno"), .str (Str.ofString "lineno") c.t1, .int 1 c.tn⟩, ⟨PyData.keyHash P (Str.ofString "instream"), .str (Str.ofString "instream") c.t2, .none⟩,
   ⟨PyData.keyHash P (Str.ofString "whitespace"), .str (Str.ofString "whitespace") c.t3, .str (Str.ofString "\n\t\x0d ") c.tw⟩, ⟨PyData.keyHash P (Str.ofString "pushback"), .str (Str.ofString "pushback") c.t4, .ref c.l1⟩,
   ⟨PyData.keyHash P (Str.ofString "read"), .str (Str.ofString "read") c.t5, .ref c.f⟩]
noncomputable def LexC.news (c : LexC) (P : Params) (vs : List Value) (ep : Nat) (n : Int) (un : Tok) : List (Addr × Obj) :=
  [(c.G, W.listOf vs.toArray ep), (c.d2, dictOf (lexD P c.u1 c.u2 c.u3 c.u4 un c.uw n (.ref c.x1) c.l2) 4), (c.x2, instObj 66 c.d2), (c.x1, instObj 66 c.d1), (c.d1, dictOf (c.strD P) 5), (c.l2, W.listOf #[] 0)]
structure LexC.Ok (c : LexC) (w : World) (g : Heap) (text : Tx) : Prop where
  o1 : c.d1 < c.x1
  o2 : c.x1 < c.G
  o3 : c.G < c.d2
  o4 : c.d2 < c.x2
  o5 : c.x2 < c.l2
  fn : FnAt c.f g
  piece : PieceOk w g c.f c.G text
noncomputable def pieceQ : Str := Str.ofString "_law_lexer.<locals>._law_piece"
/-- the table of the nested def's code: nothing, or that code -/
noncomputable def TabIs (g : Heap) (ps : Array Value) : Prop := ps = #[] ∨ ∃ c', ps = #[rawInt 60, rawInt 4, .ref c'] ∧ g.CodeRec (.ref c') pieceQ
theorem news_drop5 {g h : Heap} {L : Addr} {a b c d e : Addr × Obj} {r : List (Addr × Obj)} (N : News g L h (a :: b :: c :: d :: e :: r)) : News g L h (a :: b :: c :: d :: r) := fun p hp => N p (by
  simp only [List.mem_cons] at hp ⊢
  rcases hp with x | x | x | x | x
  · exact .inl x
  · exact .inr (.inl x)
  · exact .inr (.inr (.inl x))
  · exact .inr (.inr (.inr (.inl x)))
  · exact .inr (.inr (.inr (.inr (.inr x)))))
/-- the books of a lexer that has been made -/
theorem lex_close {n₀ : Nat} {P : Params} {gs g h : Heap} {L l2 x2 d2 f G l1 x1 d1 cg ct : Addr} {fo ocg oct : Obj} {u1 u2 u3 u4 un uw t1 t2 t3 t4 t5 tn tw : Tok} {ps : Array Value}
    (N : News g L h [(l2, W.listOf #[] 0), (x2, instObj 66 d2), (d2, dictOf (lexD P u1 u2 u3 u4 un uw 1 (.ref x1) l2) 4), (f, fo), (G, W.listOf #[] 0), (l1, W.listOf #[] 0), (x1, instObj 66 d1),
      (d1, dictOf [⟨PyData.keyHash P (Str.ofString "lineno"), .str (Str.ofString "lineno") t1, .int 1 tn⟩, ⟨PyData.keyHash P (Str.ofString "instream"), .str (Str.ofString "instream") t2, .none⟩,
   ⟨PyData.keyHash P (Str.ofString "whitespace"), .str (Str.ofString "whitespace") t3, .str (Str.ofString "\n\t\x0d ") tw⟩, ⟨PyData.keyHash P (Str.ofString "pushback"), .str (Str.ofString "pushback") t4, .ref l1⟩,
   ⟨PyData.keyHash P (Str.ofString "read"), .str (Str.ofString "read") t5, .ref f⟩] 5), (cg, ocg), (ct, oct), (72, tabObj ps)])
    (hs : Kp gs g) (hk : Kp g h) (o1 : d1 < x1) (o2 : x1 < l1) (o3 : l1 < G) (o4 : G < f) (o5 : f < d2) (o6 : d2 < x2) (o7 : x2 < l2) :
    ∃ c gp, Kp gs gp ∧ Held gp h (LexC.news c P [] 0 1 un ++ [(72, tabObj ps)]) ∧ c.x2 = x2 ∧ c.f = f ∧ c.G = G ∧ c.d1 = d1 ∧ c.d1 < c.x1 ∧ c.x1 < c.G ∧ c.G < c.d2 ∧ c.d2 < c.x2 ∧ c.x2 < c.l2 ∧
      (∀ b o, h.get? b = some o → b ≠ 72 → b ≠ d1 → b ≠ x1 → b ≠ G → b ≠ d2 → b ≠ x2 → b ≠ l2 → (n₀ ≤ b ∨ ∃ x, gs.get? b = some x) → gp.get? b = some o) ∧ (∀ b, b < n₀ → gs.get? b = none → gp.get? b = none) := by
  have O : (G :: d2 :: x2 :: x1 :: d1 :: l2 :: [72]) = ((LexC.news ⟨G, d2, x2, x1, d1, l2, l1, f, u1, u2, u3, u4, uw, t1, t2, t3, t4, t5, tn, tw⟩ P [] 0 1 un ++ [(72, tabObj ps)]).map (fun p : Addr × Obj => p.1)) := rfl
  have m1 := N _ (.head _)
  have m2 := N _ (.tail _ (.head _))
  have m3 := N _ (.tail _ (.tail _ (.head _)))
  have m5 := N _ (.tail _ (.tail _ (.tail _ (.tail _ (.head _)))))
  have m7 := N _ (.tail _ (.tail _ (.tail _ (.tail _ (.tail _ (.tail _ (.head _)))))))
  have m8 := N _ (.tail _ (.tail _ (.tail _ (.tail _ (.tail _ (.tail _ (.tail _ (.head _))))))))
  have m11 := N _ (.tail _ (.tail _ (.tail _ (.tail _ (.tail _ (.tail _ (.tail _ (.tail _ (.tail _ (.tail _ (.head _)))))))))))
  have all : ∀ p ∈ (LexC.news ⟨G, d2, x2, x1, d1, l2, l1, f, u1, u2, u3, u4, uw, t1, t2, t3, t4, t5, tn, tw⟩ P [] 0 1 un ++ [(72, tabObj ps)]), h.get? p.1 = some p.2 ∧ p.1 ≠ L ∧ g.get? p.1 = none := by
    intro p hp
    simp only [LexC.news, List.cons_append, List.nil_append, List.mem_cons, List.not_mem_nil, or_false] at hp
    rcases hp with rfl | rfl | rfl | rfl | rfl | rfl | rfl
    · exact m5
    · exact m3
    · exact m2
    · exact m7
    · exact m8
    · exact m1
    · exact m11
  refine ⟨⟨G, d2, x2, x1, d1, l2, l1, f, u1, u2, u3, u4, uw, t1, t2, t3, t4, t5, tn, tw⟩, hideAll h ((G :: d2 :: x2 :: x1 :: d1 :: l2 :: [72]) ++ (List.range n₀).filter fun b => (gs.get? b).isNone), ?_, ?_, rfl, rfl, rfl, rfl, o1, Nat.lt_trans o2 o3, Nat.lt_trans o4 o5, o6, o7, ?_, ?_⟩
  · refine fun b o e => hideAll_get _ (hk b o (hs b o e)) (fun hm => ?_)
    rcases List.mem_append.mp hm with hm | hm
    · rw [O] at hm; obtain ⟨p, hp, rfl⟩ := List.mem_map.mp hm; have e' := hs _ _ e; rw [(all p hp).2.2] at e'; cases e'
    · have := (List.mem_filter.mp hm).2; rw [e] at this; cases this
  · refine ⟨fun b o e => of_hideAll _ e, Nat.le_of_eq (hideAll_size _ _), fun p hp => ⟨(all p hp).1, hideAll_none _ (List.mem_append_left _ ?_)⟩⟩
    rw [O]; exact List.mem_map_of_mem hp
  · intro b o e n1 n2 n3 n4 n5 n6 n7 hb
    refine hideAll_get _ e fun hm => ?_
    rcases List.mem_append.mp hm with hm | hm
    · simp only [List.mem_cons, List.not_mem_nil, or_false] at hm
      rcases hm with h | h | h | h | h | h | h <;> contradiction
    · obtain ⟨h1, h2⟩ := List.mem_filter.mp hm
      rcases hb with hb | ⟨x, hb⟩
      · exact absurd (List.mem_range.mp h1) (Nat.not_lt.mpr hb)
      · rw [hb] at h2; cases h2
  · exact fun b hb e => hideAll_none _ (List.mem_append_right _ (List.mem_filter.mpr ⟨List.mem_range.mpr hb, by rw [e]; rfl⟩))
end Mine

namespace Mine
local macro_rules | `(tactic| walk_at "go") => `(tactic| repeat' (first | (k_unfold; (try dsimp only)) | walk1 | (dsimp only; walk1)))
local macro_rules | `(tactic| walk_at "call ref") => `(tactic| refine halt ?_)
local macro_rules | `(tactic| walk_at "eval Name") => `(tactic| (with_unfolding_all refine fName (by assumption) rfl (by assumption) (by assumption) ?_))
local macro_rules | `(tactic| walk_at "call builtin:list.extend") => `(tactic| refine halt ?_)
local macro_rules | `(tactic| walk_at "call builtin:len") => `(tactic| (refine len_list (News.isList (by assumption) (.head _)) (by rw [List.size_toArray]; omega) ?_))
theorem leN {a b : Nat} (h : a ≤ b) : a ≤ b := h
theorem fr_but {g h h' : Heap} {L G : Addr} {m : Str → Option Value} (F : Fr g L h m) (hG : g.get? G = none) (hL : G ≠ L) (hk : ∀ b o, b ≠ G → h.get? b = some o → h'.get? b = some o) : Fr g L h' m :=
  ⟨F.ns.at' fun o e => hk _ o (Ne.symm hL) e, fun b o e => hk b o (fun q => by rw [q, hG] at e; cases e) (F.keep b o e), F.above⟩
section
variable {w : World} {A : Around} {s : Shared} {Q : Value → Shared → Prop} {E : Value → Shared → Prop}
theorem lexer_spec {gs g : Heap} {ps : Array Value} (hs : Kp gs g) (H : Held g s.heap [(72, tabObj ps)]) (hps : TabIs gs ps) (C : CodeHd g 76 72) (G : Gd w g) (a : At 3 A) (text : Tx) (t : Tok) (htx : text.length ≤ 1000000)
    (h : ∀ c gp h' tk un ps', Kp gs gp → Kp g h' → Held gp h' (LexC.news c w.params [] 0 1 un ++ [(72, tabObj ps')]) → LexC.Ok c w gp text → TabIs gp ps' → (∀ b, b < s.heap.objs.size → gs.get? b = none → gp.get? b = none) → s.heap.objs.size ≤ c.d1 → Q (.ref c.x2) { s with heap := h', toks := tk }) :
    wpAny (model PySem.Challenge.rw_pg0042_01.row.prog w) A (call (.ref 77) [.str (S text) t]) Q E s := by
  have G₀ := G
  obtain ⟨X, loose, mean, mg, mb, T⟩ := G
  revert X
  k_fill
  intro X
  refine a.use ?_
  refine call_gC (binds := [(Str.ofString "text", .str (S text) t)]) H T.nolimit (X.keeps H.kp _ _ (by k_is)) rfl (codeRec_of (X.keeps H.kp) (by k_is)) (by decide) (BindsTo.of_eq rfl) rfl (by decide +kernel) ?_ rfl rfl rfl
  intro h₁ tk cells F N Y hlt
  k_cells Y
  simp only [List.cons_append, List.nil_append] at N
  k_lt hlt
  with_reducible rename _ = Data.cell (bindC _ _ _ (Str.ofString "text")) => dT
  w_on
  walk_at "go"
  refine new_lex F N G₀ (at_of rfl rfl rfl) _ ?_
  intro x1 d1 l1 h₂ tk₂ t1 t2 t3 t4 tn tw F₂ N₂ q1 q2 q3
  k_lt q1
  k_lt2 q2
  k_lt2 q3
  clear F N
  dsimp only
  rcases hps with rfl | ⟨c', rfl, hc'⟩
  · walk_at "go"
    with_reducible rename Fr _ _ _ _ => F₃
    with_reducible rename News _ _ _ _ => N₃
    with_reducible rename _ = Data.cell (some (Value.ref _)) => dG
    refine new_lex F₃ N₃ G₀ (at_of rfl rfl rfl) _ ?_
    intro x2 d2 l2 h₄ tk₄ u1 u2 u3 u4 un uw F₄ N₄ r1 r2 r3
    have dT' : _ = Data.cell (some (.str (S text) t)) := dT
    k_lt r1
    k_lt2 r2
    k_lt2 r3
    have hrec := codeRec_news N₄ (.tail _ (.tail _ (.tail _ (.tail _ (.head _))))) (by assumption) (by assumption)
    have hf := N₄.get (.tail _ (.tail _ (.tail _ (.head _))))
    have hcg := N₄.get (.tail _ (.tail _ (.tail _ (.tail _ (.tail _ (.tail _ (.tail _ (.tail _ (.tail _ (.head _))))))))))
    have hct := N₄.get (.tail _ (.tail _ (.tail _ (.tail _ (.tail _ (.tail _ (.tail _ (.tail _ (.tail _ (.tail _ (.head _)))))))))))
    obtain ⟨c, gp, hkp, hH, e1, e2, e3, e4, p1, p2, p3, p4, p5, hgp, hlow⟩ := lex_close (n₀ := s.heap.objs.size) (news_drop5 N₄) hs F₄.keep (ltN (by omega)) (ltN (by omega)) (ltN (by omega)) (ltN (by omega)) (ltN (by omega)) (ltN (by omega)) (ltN (by omega))
    have hf' := hgp _ _ hf (neN (by omega)) (neN (by omega)) (neN (by omega)) (neN (by omega)) (neN (by omega)) (neN (by omega)) (neN (by omega)) (.inl (leN (by omega)))
    have hcg' := hgp _ _ hcg (neN (by omega)) (neN (by omega)) (neN (by omega)) (neN (by omega)) (neN (by omega)) (neN (by omega)) (neN (by omega)) (.inl (leN (by omega)))
    have hct' := hgp _ _ hct (neN (by omega)) (neN (by omega)) (neN (by omega)) (neN (by omega)) (neN (by omega)) (neN (by omega)) (neN (by omega)) (.inl (leN (by omega)))
    obtain ⟨cc, oc, vsc, tc, ec, hoc, hdc, hvc⟩ := hrec
    cases ec
    have hoc' := hgp _ _ hoc (neN (by omega)) (neN (by omega)) (neN (by omega)) (neN (by omega)) (neN (by omega)) (neN (by omega)) (neN (by omega)) (.inl (leN (by omega)))
    have hrec' : gp.CodeRec _ pieceQ := ⟨_, oc, vsc, tc, rfl, hoc', hdc, hvc⟩
    rw [← e1]
    refine h c gp h₄ _ un _ hkp F₄.keep hH ⟨p1, p2, p3, p4, p5, ?_, ?_⟩ (.inr ⟨_, rfl, hrec'⟩) hlow (by rw [e4]; exact leN (by omega))
    · rw [e2]; exact ⟨_, _, _, _, hf'⟩
    · rw [← e3] at dG
      rw [← e2] at hf'
      intro g' A' s' Q' E' vs n tc hk G' H' a' hvs hQ
      obtain ⟨X', loose', mean', mg', mb', T'⟩ := G'
      refine a'.use ?_
      refine call_g (binds := [(Str.ofString "count", .int 1 tc)]) H' T'.nolimit (H'.kp _ _ (hk _ _ hf')) rfl ⟨_, oc, vsc, _, rfl, H'.kp _ _ (hk _ _ hoc'), hdc, hvc⟩ (by decide) (BindsTo.of_eq rfl) (locs rfl) ?_ rfl rfl rfl (by decide)
      intro h₅ F₅ N₅ lt₅
      have hct₅ := hk _ _ hct'
      have hcg₅ := hk _ _ hcg'
      have hxl : (S text).length ≤ 1000000 := by rw [S_len]; exact htx
      clear F₃ N₃ F₄ N₄ X T G₀
      walk_at "go"
      with_reducible rename Fr _ _ _ _ => F₆
      with_reducible rename News _ _ _ _ => N₆
      have es : Txt.slice (S text) (some (vs.toArray.size : Int)) (some (vs.toArray.size + 1)) = S ((text.drop vs.length).take 1) := by
        have := slice_nat text vs.length (vs.length + 1)
        simpa using this
      refine extend_str rfl _ _ c.G (N₆.get (.head _)) ?_ ?_
      · have e : ∀ z : Str, z.cps.size = z.length := fun _ => rfl
        have e2 : ((text.drop vs.length).take 1).length ≤ 1 := by simp; omega
        rw [e, es, S_len, sizeLine_eq, List.size_toArray]
        omega
      intro h₇ tk₇ acc ep hk₇ hS₇ hacc
      have F₇ := fr_but F₆ (N₆.fresh (.head _)) (N₆ _ (.head _)).2.1 hk₇
      have N₇ := frNil F₇
      clear N₆ F₆
      have ea : acc.toList.length = vs.length + (if vs.length < text.length then 1 else 0) := by
        rw [es] at hacc
        have e : ∀ z : Str, z.cps.size = z.length := fun _ => rfl
        rw [e, S_len] at hacc
        simp only [Array.length_toList, hacc, List.size_toArray, List.length_take, List.length_drop]
        split <;> omega
      walk_at "go"
      exact endQ (Q := Q') es (hQ _ _ _ acc.toList ep F₇.keep (by simpa using hS₇) ea)
  · have hcg0 : g.CodeRec (.ref c') pieceQ := by obtain ⟨cc, oc, vsc, tc, ec, hoc, hdc, hvc⟩ := hc'; exact ⟨cc, oc, vsc, tc, ec, hs _ _ hoc, hdc, hvc⟩
    walk_at "go"
    with_reducible rename Fr _ _ _ _ => F₃
    with_reducible rename News _ _ _ _ => N₃
    with_reducible rename _ = Data.cell (some (Value.ref _)) => dG
    refine new_lex F₃ N₃ G₀ (at_of rfl rfl rfl) _ ?_
    intro x2 d2 l2 h₄ tk₄ u1 u2 u3 u4 un uw F₄ N₄ r1 r2 r3
    have dT' : _ = Data.cell (some (.str (S text) t)) := dT
    k_lt r1
    k_lt2 r2
    k_lt2 r3
    have hf := N₄.get (.tail _ (.tail _ (.tail _ (.head _))))
    have hcg := N₄.get (.tail _ (.tail _ (.tail _ (.tail _ (.tail _ (.tail _ (.tail _ (.tail _ (.head _)))))))))
    have hct := N₄.get (.tail _ (.tail _ (.tail _ (.tail _ (.tail _ (.tail _ (.tail _ (.tail _ (.tail _ (.head _))))))))))
    obtain ⟨c, gp, hkp, hH, e1, e2, e3, e4, p1, p2, p3, p4, p5, hgp, hlow⟩ := lex_close (n₀ := s.heap.objs.size) N₄ hs F₄.keep (ltN (by omega)) (ltN (by omega)) (ltN (by omega)) (ltN (by omega)) (ltN (by omega)) (ltN (by omega)) (ltN (by omega))
    have hf' := hgp _ _ hf (neN (by omega)) (neN (by omega)) (neN (by omega)) (neN (by omega)) (neN (by omega)) (neN (by omega)) (neN (by omega)) (.inl (leN (by omega)))
    have hcg' := hgp _ _ hcg (neN (by omega)) (neN (by omega)) (neN (by omega)) (neN (by omega)) (neN (by omega)) (neN (by omega)) (neN (by omega)) (.inl (leN (by omega)))
    have hct' := hgp _ _ hct (neN (by omega)) (neN (by omega)) (neN (by omega)) (neN (by omega)) (neN (by omega)) (neN (by omega)) (neN (by omega)) (.inl (leN (by omega)))
    obtain ⟨cc, oc, vsc, tc, ec, hoc, hdc, hvc⟩ := hc'
    cases ec
    have hoc' := hkp _ _ hoc
    have hrec' : gp.CodeRec _ pieceQ := ⟨_, oc, vsc, tc, rfl, hoc', hdc, hvc⟩
    rw [← e1]
    refine h c gp h₄ _ un _ hkp F₄.keep hH ⟨p1, p2, p3, p4, p5, ?_, ?_⟩ (.inr ⟨_, rfl, hrec'⟩) hlow (by rw [e4]; exact leN (by omega))
    · rw [e2]; exact ⟨_, _, _, _, hf'⟩
    · rw [← e3] at dG
      rw [← e2] at hf'
      intro g' A' s' Q' E' vs n tc hk G' H' a' hvs hQ
      obtain ⟨X', loose', mean', mg', mb', T'⟩ := G'
      refine a'.use ?_
      refine call_g (binds := [(Str.ofString "count", .int 1 tc)]) H' T'.nolimit (H'.kp _ _ (hk _ _ hf')) rfl ⟨_, oc, vsc, _, rfl, H'.kp _ _ (hk _ _ hoc'), hdc, hvc⟩ (by decide) (BindsTo.of_eq rfl) (locs rfl) ?_ rfl rfl rfl (by decide)
      intro h₅ F₅ N₅ lt₅
      have hct₅ := hk _ _ hct'
      have hcg₅ := hk _ _ hcg'
      have hxl : (S text).length ≤ 1000000 := by rw [S_len]; exact htx
      clear F₃ N₃ F₄ N₄ X T G₀
      walk_at "go"
      with_reducible rename Fr _ _ _ _ => F₆
      with_reducible rename News _ _ _ _ => N₆
      have es : Txt.slice (S text) (some (vs.toArray.size : Int)) (some (vs.toArray.size + 1)) = S ((text.drop vs.length).take 1) := by
        have := slice_nat text vs.length (vs.length + 1)
        simpa using this
      refine extend_str rfl _ _ c.G (N₆.get (.head _)) ?_ ?_
      · have e : ∀ z : Str, z.cps.size = z.length := fun _ => rfl
        have e2 : ((text.drop vs.length).take 1).length ≤ 1 := by simp; omega
        rw [e, es, S_len, sizeLine_eq, List.size_toArray]
        omega
      intro h₇ tk₇ acc ep hk₇ hS₇ hacc
      have F₇ := fr_but F₆ (N₆.fresh (.head _)) (N₆ _ (.head _)).2.1 hk₇
      have N₇ := frNil F₇
      clear N₆ F₆
      have ea : acc.toList.length = vs.length + (if vs.length < text.length then 1 else 0) := by
        rw [es] at hacc
        have e : ∀ z : Str, z.cps.size = z.length := fun _ => rfl
        rw [e, S_len] at hacc
        simp only [Array.length_toList, hacc, List.size_toArray, List.length_take, List.length_drop]
        split <;> omega
      walk_at "go"
      exact endQ (Q := Q') es (hQ _ _ _ acc.toList ep F₇.keep (by simpa using hS₇) ea)
end
end Mine

namespace Mine
local macro_rules | `(tactic| walk_at "pad") => `(tactic| skip)
local macro_rules | `(tactic| walk_at "go") => `(tactic| repeat' (first | (k_unfold; (try dsimp only)) | walk1 | (dsimp only; walk1)))
local macro_rules | `(tactic| walk_at "call ref") => `(tactic| refine halt ?_)
theorem fnAt_keeps {q : Addr} {h h' : Heap} (x : FnAt q h) (k : Kp h h') : FnAt q h' := let ⟨a, b, c, d, e⟩ := x; ⟨a, b, c, d, k _ _ e⟩
local macro_rules | `(tactic| walk_at "callWith ref") => `(tactic| (refine callWith_F (fnAt_keeps (LexC.Ok.fn (by assumption)) (Fr.keep (by assumption))) ?_))
local macro_rules | `(tactic| walk_at "And") => `(tactic| ((with_reducible show FnAt _ _ ∧ _); refine ⟨fnAt_keeps (LexC.Ok.fn (by assumption)) (Fr.keep (by assumption)), ?_⟩))
theorem one_call {g h : Heap} {L G : Addr} {m : Str → Option Value} {o : Obj} {rest : List (Addr × Obj)} (F : Fr g L h m) (N : News g L h ((G, o) :: rest)) (hr : ∀ p ∈ rest, p.1 ≠ G) :
    Held (hideAll h [G]) h [(G, o)] ∧ Kp g (hideAll h [G]) ∧ ∀ h' o', Kp (hideAll h [G]) h' → h'.get? G = some o' → Fr g L h' m ∧ News g L h' ((G, o') :: rest) := by
  have hG := N _ (.head _)
  have st : Kp g (hideAll h [G]) := fun b x e => hideAll_get _ (F.keep b x e) (fun q => by rw [List.mem_singleton.mp q, hG.2.2] at e; cases e)
  have up : ∀ b x, b ≠ G → h.get? b = some x → (hideAll h [G]).get? b = some x := fun b x hb e => hideAll_get _ e fun q => hb (List.mem_singleton.mp q)
  refine ⟨hide_of (news := [(G, o)]) fun p hp => by rw [List.mem_singleton.mp hp]; exact hG.1, st, fun h' o' k e => ⟨⟨F.ns.at' fun x q => k _ x (up _ x (Ne.symm hG.2.1) q), fun b x q => k b x (st b x q), F.above⟩, fun p hp => ?_⟩⟩
  rcases List.mem_cons.mp hp with rfl | hp
  · exact ⟨e, hG.2⟩
  · exact ⟨k _ _ (up _ _ (hr p hp) (N p (.tail _ hp)).1), (N p (.tail _ hp)).2⟩
local macro_rules | `(tactic| walk_at "getMethod ref") => `(tactic| (k_here; k_dflt (refine' kmu_own ?k1 ?k2 ?k3 ?k4 ?k5 ?_; (case k1 => k_asm); (case k2 => k_asm); (case k3 => k_inst); (case k4 => k_is); (case k5 => k_is); k_whole)))
/-- where a lexer stands: what is left of the text, and the line -/
noncomputable def LexSt (c : LexC) (P : Params) (text : Tx) (h : Heap) (r : Tx) (n : Int) : Prop :=
  ∃ vs ep un, r = text.drop (vs : List Value).length ∧ vs.length ≤ text.length ∧ ∀ p ∈ c.news P vs ep n un, h.get? p.1 = some p.2
noncomputable def LexC.Off (c : LexC) (g : Heap) : Prop := ∀ a ∈ [c.G, c.d2, c.x2, c.x1, c.d1, c.l2], g.get? a = none
section
variable {w : World} {A : Around} {s : Shared} {Q : Value → Shared → Prop} {E : Value → Shared → Prop}
theorem read_code {R : Result → Shared → Prop} {g : Heap} {c : LexC} {text r : Tx} {n : Int} (ok : c.Ok w g text) (hkp : Kp g s.heap) (hsz : g.objs.size ≤ s.heap.objs.size) (off : c.Off g) (st : LexSt c w.params text s.heap r n) (G : Gd w g) (a : At 2 A)
    (h : ∀ h' tk t', Kp g h' → LexSt c w.params text h' r.tail (n + if r.head? = some 10 then 1 else 0) → R (.ok (.ret (.str (S (r.take 1)) t'))) { s with heap := h', toks := tk }) :
    codeAny (model PySem.Challenge.rw_pg0042_01.row.prog w) A (.call (.ref 49) ⟨[.ref c.x2], []⟩) R s := by
  have G₀ := G
  obtain ⟨vs, ep, un, rfl, hvs, hnews⟩ := st
  obtain ⟨X, loose, mean, mg, mb, T⟩ := G
  revert X
  k_fill
  intro X
  refine codeAny_weaken (B := Lv 2) ?_ a.h a.d a.u rfl rfl
  have H : Held g s.heap (c.news w.params vs ep n un) := ⟨hkp, hsz, fun p hp => ⟨hnews p hp, off _ (List.mem_map_of_mem (f := (·.1)) hp)⟩⟩
  refine code_g (binds := [(Str.ofString "self", .ref c.x2)]) (cl := []) H T.nolimit (X.keeps H.kp _ _ (by k_is)) rfl (codeRec_of (X.keeps H.kp) (by k_is)) (by decide) (BindsTo.of_eq rfl) (locs rfl) ?_ rfl rfl rfl (by decide)
  intro h₁ F N hlt
  have o1 := ltN ok.o1
  have o2 := ltN ok.o2
  have o3 := ltN ok.o3
  have o4 := ltN ok.o4
  have o5 := ltN ok.o5
  unfold LexC.news at N hlt
  k_lt hlt
  w_on
  walk_at "go"
  · exact fnAt_keeps ok.fn F.keep
  · obtain ⟨H₁, k₁, back⟩ := one_call F N (by k_all)
    refine ok.piece _ _ _ _ _ vs ep _ k₁ (G₀.keeps k₁) H₁ (at_of rfl rfl rfl) hvs ?_
    intro h₂ tk₂ t₂ vs' ep' hk₂ hG₂ hlen
    obtain ⟨F₂, N₂⟩ := back _ _ hk₂ hG₂
    clear F N back
    have hle : vs'.length ≤ text.length := by rw [hlen]; split <;> omega
    have etail : (text.drop vs.length).tail = text.drop vs'.length := by
      rw [List.tail_drop, hlen]
      split
      · rfl
      · rw [List.drop_of_length_le (by omega), List.drop_of_length_le (by omega)]
    dsimp only
    walk_at "go"
    all_goals (with_reducible rename Fr _ _ _ _ => F₃)
    all_goals (with_reducible rename News _ _ _ _ => N₃)
    · with_reducible rename (_ == Str.ofString _) = true => hc
      have e10 : (text.drop vs.length).head? = some 10 := by
        have := eq_of_beq hc
        rw [of_lit (s := "\n") (l := [10]) (by decide), S_iff] at this
        cases hd : text.drop vs.length with
        | nil => rw [hd] at this; cases this
        | cons a b => rw [hd] at this; simp at this; rw [this]; rfl
      simp only [e10, if_true] at h
      exact h _ _ _ F₃.keep ⟨vs', ep', _, etail, hle, fun p hp => N₃.get hp⟩
    · with_reducible rename (_ == Str.ofString _) = false => hc
      have e10 : ¬ (text.drop vs.length).head? = some 10 := by
        intro e
        rw [beq_eq_false_iff_ne, of_lit (s := "\n") (l := [10]) (by decide), ne_eq, S_iff] at hc
        cases hd : text.drop vs.length with
        | nil => rw [hd] at e; cases e
        | cons a b => rw [hd] at e hc; simp at e hc; exact hc e
      simp only [e10, if_false, Int.add_zero] at h
      exact h _ _ _ F₃.keep ⟨vs', ep', _, etail, hle, fun p hp => N₃.get hp⟩
end
end Mine

namespace Mine
open PySem.Calls
theorem it_owner : Manifest.owners.lookup (String.ofList ['r', 'o', 't', 'a', 'r', 'e', 't', 'i', '_', 'e', 'l', 'b', 'a', 'l', 'l', 'a', 'c'].reverse) = some Manifest.sig_callable_iterator := by kernel_rfl
theorem it_slot_next : Slot "callable_iterator" "__next__" "callable_iterator.__next__" :=
  .of (owner := "callable_iterator") (n := "__next__") (by rw [typeLookup_type, builtinLookup_eq_fast]; kernel_rfl) (by decide +kernel) (by decide +kernel) (by decide +kernel)
    (by first | exact .inl (by decide +kernel) | exact .inr (by decide +kernel)) (by rw [isSubtype_type]; kernel_rfl)
theorem it_entry_next : entryFor table "callable_iterator.__next__" = some Builtin.«callable_iterator.__next__» := entryFor_of_tree (by kernel_rfl)
theorem it_args_next (a : Value) : argsOk "callable_iterator.__next__" ⟨[a], []⟩ := by
  unfold argsOk; rw [signature?_of (id := "callable_iterator.__next__") (n := ['_', '_', 't', 'x', 'e', 'n', '_', '_']) (o := ['r', 'o', 't', 'a', 'r', 'e', 't', 'i', '_', 'e', 'l', 'b', 'a', 'l', 'l', 'a', 'c']) (by kernel_rfl) it_owner]; kernel_rfl
theorem it_slot_iter : Slot "callable_iterator" "__iter__" "callable_iterator.__iter__" :=
  .of (owner := "callable_iterator") (n := "__iter__") (by rw [typeLookup_type, builtinLookup_eq_fast]; kernel_rfl) (by decide +kernel) (by decide +kernel) (by decide +kernel)
    (by first | exact .inl (by decide +kernel) | exact .inr (by decide +kernel)) (by rw [isSubtype_type]; kernel_rfl)
theorem it_args_iter (a : Value) : argsOk "callable_iterator.__iter__" ⟨[a], []⟩ := by
  unfold argsOk; rw [signature?_of (id := "callable_iterator.__iter__") (n := ['_', '_', 'r', 'e', 't', 'i', '_', '_']) (o := ['r', 'o', 't', 'a', 'r', 'e', 't', 'i', '_', 'e', 'l', 'b', 'a', 'l', 'l', 'a', 'c']) (by kernel_rfl) it_owner]; kernel_rfl
theorem it_entry_iter : entryFor table "callable_iterator.__iter__" = some Builtin.«dict_keyiterator.__iter__» :=
  entryFor_alias (id' := "dict_keyiterator.__iter__") (by kernel_rfl) (by first | rfl | decide +kernel) (by decide +kernel) (by kernel_rfl)
theorem meth_call : typeLookup (.type "method") "__call__" = pure (some (.builtin "method.__call__")) := by rw [typeLookup_type, builtinLookup_eq_fast]; kernel_rfl
theorem iter_entry : entryFor table "iter" = some Builtin.«iter» := entryFor_of_tree (by kernel_rfl)
theorem iter_args (a b : Value) : argsOk "iter" ⟨[a, b], []⟩ := by
  first | (unfold argsOk; kernel_rfl) | decide +kernel
/-- an iterator that calls until a text comes back -/
abbrev citer (f s : Value) (b : Bool) : Obj := { cls := .type "callable_iterator", data := .fields #[f, s, .bool b] }
section
variable {prog : Program} {w : World} {A : Around} {E : Value → Shared → Prop} {s : Shared}
theorem it_self {I : Addr} {f u : Value} {b : Bool} {Q : Value → Shared → Prop} (hI : s.heap.get? I = some (citer f u b)) (h : Q (.ref I) s) : wpAny (model prog w) A (pyIter (.ref I)) Q E s := by
  have hT : s.TypeIs (.ref I) "callable_iterator" := ⟨_, hI, rfl⟩
  refine wpAny_pyIter_slot hT it_slot_iter (wpAny_call_entry it_slot_iter hT it_entry_iter ?_ (it_args_iter _))
  show wpAny _ _ (ret (.ref I)) _ _ s
  exact wpAny_pure ⟨_, rfl, "callable_iterator", _, hT, it_slot_next.lookup, h⟩
theorem it_make {q : Addr} {fv self u : Value} {Q : Value → Shared → Prop} (hq : s.heap.get? q = some (methodObj fv self)) (h : Q (.ref s.heap.objs.size) { s with heap := s.heap.push (citer (.ref q) u false) }) :
    wpAny (model prog w) A (call (.builtin "iter") [.ref q, u]) Q E s := by
  have hT : s.TypeIs (.ref q) "method" := ⟨_, hq, rfl⟩
  refine call_function_entry (by decide +kernel) (by decide +kernel) iter_entry (iter_args _ _) ?_
  unfold Builtin.«iter»
  refine wpAny_bind (m := someArgs "iter" 1 2 _) (wpAny_of_eq (a := [Value.ref q, u]) (by first | rfl | kernel_rfl!) ?_)
  dsimp only
  refine wpAny_bind (wpAny_specialOf (name := Str.ofString "__call__") hT meth_call ?_)
  refine wpAny_ite_split (fun hab => absurd hab (by decide)) (fun _ => ?_)
  refine wpAny_bind (wpAny_rule ?_)
  refine wpAny_bind ?_
  unfold newFields
  exact wpAny_newObj_type (wpAny_pure ⟨_, rfl, h⟩) (by size_fits)
theorem stop_now {α : Type} {P : α → Shared → Prop} {Ee : Value → Shared → Prop} (hh : A.handled = none) (h : ∀ h' e, Kp s.heap h' → ({ s with heap := h' } : Shared).TypeIs e "StopIteration" → Ee e { s with heap := h' }) :
    wpAny (model prog w) A.in1 (Builtin.SmallTypes.stopIteration : Sem α) P Ee s := by
  unfold Builtin.SmallTypes.stopIteration
  refine wpAny_bind ?_
  simp only [newExc, newTuple]
  refine wpAny_bind (wpAny_newObj_type ?_ (by size_fits))
  refine wpAny_bind (m := firstArgMember _ _) (wpAny_of_eq (a := Value.none) (by first | rfl | (simp only [firstArgMember]; rfl)) ?_)
  refine wpAny_newObj_type ?_ (by size_fits)
  simp only [raiseNew]
  refine wpAny_bind (wpAny_handled ?_)
  rw [show A.in1.handled = none from hh]
  refine wpAny_bind (wpAny_pure (wpAny_throw ?_))
  exact h _ _ (fun b o e => Heap.get?_push_of_some _ (Heap.get?_push_of_some _ e)) ⟨_, Heap.get?_push_size _ rfl, rfl⟩
theorem it_over {I : Addr} {f u : Value} {Q : Option Value → Shared → Prop} (hh : A.handled = none) (hI : s.heap.get? I = some (citer f u true)) (hQ : ∀ h', Kp s.heap h' → Q none { s with heap := h' }) :
    wpAny (model prog w) A (pyNext (.ref I)) Q E s := by
  have hT : s.TypeIs (.ref I) "callable_iterator" := ⟨_, hI, rfl⟩
  unfold pyNext
  refine wpAny_bind (wpAny_attempt (wpAny_callSpecial?_slot (name := Str.ofString "__next__") hT it_slot_next
    (wpAny_call_entry it_slot_next hT it_entry_next ?_ (it_args_next _))))
  show wpAny _ _ (field (.ref I) 2 >>= _) _ _ s
  refine wpAny_bind (wpAny_field hI rfl (x := .bool true) rfl ?_)
  show wpAny _ _ (if (Value.bool true == Value.bool true) = true then _ else _) _ _ s
  rw [if_pos (by decide)]
  refine wpAny_bind (wpAny_rule (wpAny_bind (stop_now hh fun h' e hk he => ?_)))
  dsimp only
  refine wpAny_bind (wpAny_isInstance (T := "StopIteration") (b := true) he isSubtype_stop ?_)
  exact wpAny_pure (hQ h' hk)
theorem borrows {q f : Addr} {self : Value} {Q : Bool → Shared → Prop} (hq : s.heap.get? q = some (methodObj (.ref f) self)) (hf : FnAt f s.heap) (h : Q true s) : wpAny (model prog w) A (borrowsExactly (.ref q)) Q E s := by
  obtain ⟨oc, od, fd, sl, hfo⟩ := hf
  unfold borrowsExactly
  dsimp only
  refine wpAny_bind (wpAny_load hq ?_)
  show wpAny _ _ (if (Value.type "method" == Value.type "method") = true then _ else _) _ _ s
  rw [if_pos (by decide)]
  show wpAny _ _ (load f >>= _) _ _ s
  refine wpAny_bind (wpAny_load hfo ?_)
  exact wpAny_pure h
theorem it_next {I q f : Addr} {self : Value} {t : Tok} {Q : Option Value → Shared → Prop} (hh : A.handled = none) (hI : s.heap.get? I = some (citer (.ref q) (.str (S []) t) false)) (hq : s.heap.get? q = some (methodObj (.ref f) self)) (hf : FnAt f s.heap)
    (hc : codeAny (model prog w) A.in1 (.call (.ref f) ⟨[self], []⟩) (fun r s₁ => ∃ x u, r = .ok (.ret (.str (S x) u)) ∧ s₁.heap.get? I = some (citer (.ref q) (.str (S []) t) false) ∧ s₁.heap.get? q = some (methodObj (.ref f) self) ∧ FnAt f s₁.heap ∧
      (x ≠ [] → ∀ tk, Q (some (.str (S x) u)) { s₁ with toks := tk }) ∧ (x = [] → ∀ h' tk, (∀ b o, b ≠ I → s₁.heap.get? b = some o → h'.get? b = some o) → h'.get? I = some (citer .none .none true) → Q none { s₁ with heap := h', toks := tk })) s) :
    wpAny (model prog w) A (pyNext (.ref I)) Q E s := by
  have hT : s.TypeIs (.ref I) "callable_iterator" := ⟨_, hI, rfl⟩
  unfold pyNext
  refine wpAny_bind (wpAny_attempt (wpAny_callSpecial?_slot (name := Str.ofString "__next__") hT it_slot_next
    (wpAny_call_entry it_slot_next hT it_entry_next ?_ (it_args_next _))))
  show wpAny _ _ (field (.ref I) 2 >>= _) _ _ s
  refine wpAny_bind (wpAny_field hI rfl (x := .bool false) rfl ?_)
  show wpAny _ _ (if (Value.bool false == Value.bool true) = true then _ else _) _ _ s
  rw [if_neg (by decide)]
  show wpAny _ _ (field (.ref I) 0 >>= _) _ _ s
  refine wpAny_bind (wpAny_field hI rfl (x := .ref q) rfl ?_)
  refine wpAny_bind (wpAny_attempt ?_)
  unfold callOutOfASlot
  refine wpAny_bind (borrows hq hf ?_)
  rw [if_pos rfl]
  unfold callBorrowed
  refine PySem.W.X.x_call (method_call hq ?_) (by decide)
  refine codeAny_mono hc (fun r s₁ hr => ?_)
  obtain ⟨x, u, rfl, hI₁, hq₁, hf₁, hne, hem⟩ := hr
  refine wpAny_pure ?_
  dsimp only
  refine wpAny_bind (wpAny_field hI₁ rfl (x := .bool false) rfl ?_)
  show wpAny _ _ (if (Value.bool false == Value.bool true) = true then _ else _) _ _ s₁
  rw [if_neg (by decide)]
  show wpAny _ _ (field (.ref I) 1 >>= _) _ _ s₁
  refine wpAny_bind (wpAny_field hI₁ rfl (x := .str (S []) t) rfl ?_)
  refine wpAny_bind (m := eqBool (.str (S []) t) (.str (S x) u)) (eqBool_str ?_)
  by_cases hx : x = []
  · subst hx
    rw [if_neg (by simp)]
    refine wpAny_bind (wpAny_rule ?_)
    refine wpAny_bind ?_
    show wpAny _ _ (field (.ref I) 0 >>= _) _ _ s₁
    refine wpAny_bind (wpAny_field hI₁ rfl (x := .ref q) rfl ?_)
    refine wpAny_bind ?_
    unfold slotLetsGo
    dsimp only
    refine wpAny_bind (borrows hq₁ hf₁ ?_)
    rw [if_pos rfl]
    refine wpAny_pure ?_
    refine wpAny_bind (wpAny_setField_rec hI₁ (by show 0 < 3; decide) fun h2 g2 k2 => ?_)
    refine wpAny_bind (wpAny_setField_rec g2 (by show 1 < 3; decide) fun h3 g3 k3 => ?_)
    refine wpAny_setField_rec g3 (by show 2 < 3; decide) fun h4 g4 k4 => ?_
    refine stop_now hh fun h5 e hk he => ?_
    dsimp only
    refine wpAny_bind (wpAny_isInstance (T := "StopIteration") (b := true) he isSubtype_stop ?_)
    refine wpAny_pure (hem rfl h5 _ (fun b o hb e => ?_) (hk _ _ g4))
    refine hk _ _ ?_
    have e1 : h4.get? b = s₁.heap.get? b := (k4.2 b hb).trans ((k3.2 b hb).trans (k2.2 b hb))
    exact e1.trans e
  · have hn : ¬ S [] = S x := fun e => hx (S_inj e).symm
    rw [if_pos (by simp [hn])]
    refine wpAny_pure ⟨_, rfl, wpAny_pure (hne hx _)⟩
end
end Mine

namespace Mine
theorem LexC.Ok.up {c : LexC} {w : World} {g g' : Heap} {text : Tx} (ok : c.Ok w g text) (k : Kp g g') : c.Ok w g' text :=
  ⟨ok.o1, ok.o2, ok.o3, ok.o4, ok.o5, fnAt_keeps ok.fn k, fun g'' A s Q E vs n t k' => ok.piece g'' A s Q E vs n t (fun b o e => k' b o (k b o e))⟩
noncomputable def LexC.six (c : LexC) : List Addr := [c.G, c.d2, c.x2, c.x1, c.d1, c.l2]
theorem LexC.news_six (c : LexC) (P : Params) (vs : List Value) (ep : Nat) (n : Int) (un : Tok) : (c.news P vs ep n un).map (·.1) = c.six := rfl
theorem fr_cong {g h : Heap} {L : Addr} {m m' : Str → Option Value} (F : Fr g L h m) (e : ∀ y, m y = m' y) : Fr g L h m' := (funext e : m = m') ▸ F
section
variable {w : World} {A : Around} {s : Shared} {R : Result → Shared → Prop} {Q : Option Value → Shared → Prop} {E : Value → Shared → Prop} {g : Heap} {L I q : Addr} {m : Str → Option Value} {c : LexC} {text : Tx} {vs : List Value} {ep : Nat} {n : Int} {un ts : Tok} {ex : List (Addr × Obj)}
theorem read_in (ok : c.Ok w g text) (G : Gd w g) (a : At 2 A) (F : Fr g L s.heap m) (N : News g L s.heap (ex ++ c.news w.params vs ep n un)) (hvs : vs.length ≤ text.length) (hne : ∀ p ∈ ex, p.1 ∉ c.six)
    (h : ∀ h' tk t' vs' ep' un', Fr g L h' m → News g L h' (ex ++ c.news w.params vs' ep' (n + if (text.drop vs.length).head? = some 10 then 1 else 0) un') → vs'.length ≤ text.length → (text.drop vs.length).tail = text.drop vs'.length →
      R (.ok (.ret (.str (S ((text.drop vs.length).take 1)) t'))) { s with heap := h', toks := tk }) :
    codeAny (model PySem.Challenge.rw_pg0042_01.row.prog w) A (.call (.ref 49) ⟨[.ref c.x2], []⟩) R s := by
  have NL : ∀ p ∈ c.news w.params vs ep n un, s.heap.get? p.1 = some p.2 ∧ p.1 ≠ L ∧ g.get? p.1 = none := fun p hp => N p (List.mem_append_right _ hp)
  have nm : ∀ a ∈ c.six, a ≠ L ∧ g.get? a = none := fun a ha => by
    rw [← c.news_six w.params vs ep n un] at ha
    obtain ⟨p, hp, rfl⟩ := List.mem_map.mp ha
    exact (NL p hp).2
  have st : Kp g (hideAll s.heap c.six) := fun b x e => hideAll_get _ (F.keep b x e) (fun q => by rw [(nm b q).2] at e; cases e)
  have nL : L ∉ c.six := fun q => (nm L q).1 rfl
  refine read_code (g := hideAll s.heap c.six) (c := c) (ok.up st) (fun b x e => of_hideAll _ e) (Nat.le_of_eq (hideAll_size _ _)) (fun a ha => hideAll_none _ ha) ⟨vs, ep, un, rfl, hvs, fun p hp => (NL p hp).1⟩ (G.keeps st) a ?_
  intro h' tk t' hk st'
  obtain ⟨vs', ep', un', e', hvs', hn'⟩ := st'
  refine h h' tk t' vs' ep' un' ⟨F.ns.at' fun x q => hk _ x (hideAll_get _ q nL), fun b x q => hk b x (st b x q), F.above⟩ (fun p hp => ?_) hvs' e'
  rcases List.mem_append.mp hp with hp | hp
  · exact ⟨hk _ _ (hideAll_get _ (N p (List.mem_append_left _ hp)).1 (hne p hp)), (N p (List.mem_append_left _ hp)).2⟩
  · refine ⟨hn' p hp, nm _ ?_⟩
    rw [← c.news_six w.params vs' ep' (n + if (text.drop vs.length).head? = some 10 then 1 else 0) un']
    exact List.mem_map_of_mem hp
theorem tok_next (ok : c.Ok w g text) (G : Gd w g) (hh : A.handled = none) (a : At 2 A.in1) (F : Fr g L s.heap m) (fn : FnAt 49 g)
    (N : News g L s.heap ((I, citer (.ref q) (.str (S []) ts) false) :: (q, methodObj (.ref 49) (.ref c.x2)) :: c.news w.params vs ep n un)) (hvs : vs.length ≤ text.length) (hI : I ∉ c.six) (hq : q ∉ c.six) (hIq : I ≠ q)
    (h1 : ∀ x r', text.drop vs.length = x :: r' → ∀ h' tk t' vs' ep' un', Fr g L h' m → News g L h' ((I, citer (.ref q) (.str (S []) ts) false) :: (q, methodObj (.ref 49) (.ref c.x2)) :: c.news w.params vs' ep' (n + if x = 10 then 1 else 0) un') →
      vs'.length ≤ text.length → r' = text.drop vs'.length → Q (some (.str (S [x]) t')) { s with heap := h', toks := tk })
    (h2 : text.drop vs.length = [] → ∀ h' tk vs' ep' un', Fr g L h' m → News g L h' ((I, citer .none .none true) :: (q, methodObj (.ref 49) (.ref c.x2)) :: c.news w.params vs' ep' n un') →
      vs'.length ≤ text.length → [] = text.drop vs'.length → Q none { s with heap := h', toks := tk }) :
    wpAny (model PySem.Challenge.rw_pg0042_01.row.prog w) A (pyNext (.ref I)) Q E s := by
  refine it_next (t := ts) hh (N.get (.head _)) (N.get (.tail _ (.head _))) (fnAt_keeps fn F.keep) ?_
  refine read_in (ex := [(I, citer (.ref q) (.str (S []) ts) false), (q, methodObj (.ref 49) (.ref c.x2))]) ok G a F N hvs (fun p hp => ?_) fun h' tk t' vs' ep' un' F' N' hvs' e' => ?_
  · simp only [List.mem_cons, List.not_mem_nil, or_false] at hp
    rcases hp with rfl | rfl
    · exact hI
    · exact hq
  refine ⟨_, t', rfl, N'.get (.head _), N'.get (.tail _ (.head _)), fnAt_keeps fn F'.keep, fun hx tk' => ?_, fun hx h'' tk' k'' hI'' => ?_⟩
  · cases e : text.drop vs.length with
    | nil => rw [e] at hx; exact absurd rfl hx
    | cons x r' =>
      rw [e] at N' e'
      simp only [List.head?_cons, Option.some.injEq] at N'
      exact h1 x r' e _ _ _ _ _ _ F' N' hvs' e'
  · have e : text.drop vs.length = [] := by
      cases e : text.drop vs.length with
      | nil => rfl
      | cons x r' => rw [e] at hx; cases hx
    rw [e] at N' e'
    simp only [List.head?_nil, reduceCtorEq, if_false, Int.add_zero] at N'
    have nI := N' _ (.head _)
    refine h2 e h'' tk' vs' ep' un' ⟨F'.ns.at' fun x q => k'' _ x (Ne.symm nI.2.1) q, fun b x q => k'' b x (fun z => by rw [z, nI.2.2] at q; cases q) (F'.keep b x q), F'.above⟩ (fun p hp => ?_) hvs' e'
    rcases List.mem_cons.mp hp with rfl | hp
    · exact ⟨hI'', nI.2⟩
    · refine ⟨k'' _ _ ?_ (N' p (.tail _ hp)).1, (N' p (.tail _ hp)).2⟩
      rcases List.mem_cons.mp hp with rfl | hp
      · exact Ne.symm hIq
      · intro z
        have := List.mem_map_of_mem (f := (·.1)) hp
        rw [z] at this
        exact hI this
end
end Mine

namespace Mine
local macro_rules | `(tactic| walk_at "go") => `(tactic| repeat' (first | (k_unfold; (try dsimp only)) | walk1 | (dsimp only; walk1)))
local macro_rules | `(tactic| walk_at "call ref") => `(tactic| refine halt ?_)
local macro_rules | `(tactic| walk_at "call builtin:iter") => `(tactic| refine halt ?_)
local macro_rules | `(tactic| walk_at "exec For") => `(tactic| refine halt ?_)
local macro_rules | `(tactic| walk_at "exec For Name Name cons nil") => `(tactic| refine halt ?_)
local macro_rules | `(tactic| walk_at "pyIter ref") => `(tactic| refine halt ?_)
noncomputable def lm (x : Addr) (tok : Tx) (t : Tok) (I : Addr) (cv : Option Value) : Str → Option Value := fun y => if y = Str.ofString "ch" then cv else if y = Str.ofString "token" then some (.str (S tok) t) else if y = Str.ofString "fiter" then some (.ref I) else List.lookup y [(Str.ofString "self", .ref x)].reverse
noncomputable def itO (al : Bool) (q : Addr) (ts : Tok) : Obj := if al then citer (.ref q) (.str (S []) ts) false else citer .none .none true
inductive TS (c : LexC) (P : Params) (g : Heap) (L I q : Addr) (text : Tx) (ts : Tok) (al : Bool) (tok rem : Tx) (k : Int) (h : Heap) : Prop
  | mk (cv : Option Value) (t : Tok) (vs : List Value) (ep : Nat) (un : Tok) (F : Fr g L h (lm c.x2 tok t I cv)) (N : News g L h ((I, itO al q ts) :: (q, methodObj (.ref 49) (.ref c.x2)) :: c.news P vs ep k un))
    (hr : rem = text.drop vs.length) (hv : vs.length ≤ text.length) : TS c P g L I q text ts al tok rem k h
theorem lm0 {g h : Heap} {L x I : Addr} {t : Tok} (F : Fr g L h (fun y => if y = Str.ofString "fiter" then some (.ref I) else if y = Str.ofString "token" then some (.str (S []) t) else List.lookup y [(Str.ofString "self", .ref x)].reverse)) : Fr g L h (lm x [] t I none) :=
  fr_cong F fun y => by
    show _ = (if y = Str.ofString "ch" then none else if y = Str.ofString "token" then _ else if y = Str.ofString "fiter" then _ else _)
    by_cases e1 : y = Str.ofString "ch"
    · subst e1; rfl
    by_cases e2 : y = Str.ofString "token"
    · subst e2; rfl
    rw [if_neg e1, if_neg e2, if_neg e2]
/-- what a turn of a loop must leave -/
noncomputable def TurnQ (I : Nat → Shared → Prop) (n : Nat) (Q : Flow → Shared → Prop) (f : Flow) (s : Shared) : Prop :=
  match f with | .next | .cont => ∃ m, m < n ∧ I m s | .brk => Q .next s | .ret v => Q (.ret v) s
theorem for_loop {prog : Program} {w : World} {A : Around} {E : Value → Shared → Prop} {Q : Flow → Shared → Prop} {s : Shared} {x : Str} {px : Pos} {it : Value} {body : List Stmt} {env : Env} (I : Nat → Shared → Prop)
    (turn : ∀ n s, I n s → wpAny (model prog w) A (pyNext it) (fun r s₁ => match r with
      | none => Q .next s₁
      | some v => wpAny (model prog w) A (storeName env x v) (fun _ s₂ => wpAny (model prog w) A (execs body env) (TurnQ I n Q) (fun _ _ => False) s₂) (fun _ _ => False) s₁) (fun _ _ => False) s)
    (n : Nat) (h : I n s) : codeAny (model prog w) A (.forLoop (.Name x px) it body [] env) (fun r s' => match r with | .ok f => Q f s' | .error e => cameBackBy (model prog w) A env E e s') s := by
  refine codeAny_forLoop_any I (fun n s hI => ?_) n h
  refine wpAny_mono (turn n s hI) (fun r s₁ h₁ => ?_) fun _ _ e => e.elim
  cases r with
  | none => exact wpAny_execs_nil h₁
  | some v =>
    refine wpAny_of_eq (a := ()) rfl ?_
    refine wpAny_assign_Name (wpAny_mono h₁ (fun _ s₂ h₂ => wpAny_mono h₂ (fun f s₃ h₃ => ?_) fun _ _ e => e.elim) fun _ _ e => e.elim)
    cases f <;> exact h₃
theorem turn_next {I : Nat → Shared → Prop} {n : Nat} {Q : Flow → Shared → Prop} {s : Shared} (m : Nat) (h : m < n) (i : I m s) : TurnQ I n Q .next s := ⟨m, h, i⟩
theorem turn_cont {I : Nat → Shared → Prop} {n : Nat} {Q : Flow → Shared → Prop} {s : Shared} (m : Nat) (h : m < n) (i : I m s) : TurnQ I n Q .cont s := ⟨m, h, i⟩
theorem tq_next {I : Nat → Shared → Prop} {n : Nat} {Q TQ : Flow → Shared → Prop} {s : Shared} (hTQ : ∀ f s', TurnQ I n Q f s' → TQ f s') (m : Nat) (h : m < n) (i : I m s) : TQ .next s := hTQ _ _ ⟨m, h, i⟩
theorem tq_ret {I : Nat → Shared → Prop} {n : Nat} {Q TQ : Flow → Shared → Prop} {s : Shared} {v : Value} (hTQ : ∀ f s', TurnQ I n Q f s' → TQ f s') (h : Q (.ret v) s) : TQ (.ret v) s := hTQ _ _ h
theorem iaddS {prog : Program} {w : World} {A : Around} {E : Value → Shared → Prop} {s : Shared} {a b : Tx} {t u : Tok} {Q : Value → Shared → Prop} (hsz : a.length + b.length ≤ 1000000) (h : ∀ t' tk, Q (.str (S (a ++ b)) t') { s with toks := tk }) :
    wpAny (model prog w) A (inplaceOp .Add (.str (S a) t) (.str (S b) u)) Q E s :=
  iadd_str (by rw [S_app]; exact h) (by rw [S_len, S_len]; exact Nat.le_trans hsz (by decide))
local macro_rules | `(tactic| walk_at "inplaceOp Add str str") => `(tactic| (refine iaddS (by simp only [List.length_cons, List.length_nil, List.length_take]; omega) ?_; intro _ _))
theorem ws_not {x : Nat} (h : (Builtin.Str.occurrences (Str.ofString "\n\t\x0d ") (S [x]) 0 (Str.ofString "\n\t\x0d ").length 1).isEmpty = true) : nw x = false := by
  rw [of_lit (s := "\n\t\x0d ") (l := [10, 9, 13, 32]) (by decide)] at h
  have := in_S [10, 9, 13, 32] x
  rw [h] at this
  have hn := (of_decide_eq_false this.symm)
  simp only [List.mem_cons, List.not_mem_nil, or_false, not_or] at hn
  simp [nw, hn]
theorem ws_is {x : Nat} (h : (Builtin.Str.occurrences (Str.ofString "\n\t\x0d ") (S [x]) 0 (Str.ofString "\n\t\x0d ").length 1).isEmpty = false) : nw x = true := by
  rw [of_lit (s := "\n\t\x0d ") (l := [10, 9, 13, 32]) (by decide)] at h
  have := in_S [10, 9, 13, 32] x
  rw [h] at this
  have hn := (of_decide_eq_true this.symm)
  simp only [List.mem_cons, List.not_mem_nil, or_false] at hn
  rcases hn with e | e | e | e <;> subst e <;> rfl
theorem is_sign {x c : Nat} {l : String} (hl : Str.ofString l = S [c]) (h : (S [x] == Str.ofString l) = true) : x = c := by
  have := eq_of_beq h
  rw [hl, S_iff] at this
  exact List.head_eq_of_cons_eq this
theorem no_sign {x c : Nat} {l : String} (hl : Str.ofString l = S [c]) (h : (S [x] == Str.ofString l) = false) : x ≠ c := by
  intro e; subst e
  rw [hl] at h; simp at h
theorem q34 : Str.ofString "\"" = S [34] := of_lit (by decide)
theorem q92 : Str.ofString "\\" = S [92] := of_lit (by decide)
theorem outGo_nil : outGo [] = ([], []) := by rw [outGo.eq_def]
theorem outGo_ws {x : Nat} {r : Tx} (h : nw x = true) : outGo (x :: r) = outGo r := by rw [outGo.eq_def]; simp [h]
theorem outGo_q {r : Tx} : outGo (34 :: r) = quoGo [] r := by rw [outGo.eq_def]; rfl
theorem outGo_b {x : Nat} {r : Tx} (h1 : nw x = false) (h2 : x ≠ 34) (h3 : x ≠ 92) : outGo (x :: r) = bareGo [x] r := by rw [outGo.eq_def]; simp [h1, h2, h3]
theorem bareGo_nil {tok : Tx} : bareGo tok [] = (tok, []) := rfl
theorem quoGo_nil {tok : Tx} : quoGo tok [] = (tok, []) := rfl
theorem outGo_e {r : Tx} : outGo (92 :: r) = bareGo (r.take 1) r.tail := by
  rw [outGo.eq_def]
  cases r with
  | nil => exact bareGo_nil.symm
  | cons d r => rfl
theorem bareGo_ws {x : Nat} {tok r : Tx} (h : nw x = true) : bareGo tok (x :: r) = (tok, r) := if_pos h
theorem bareGo_c {x : Nat} {tok r : Tx} (h1 : nw x = false) (h2 : x ≠ 92) : bareGo tok (x :: r) = bareGo (tok ++ [x]) r :=
  (if_neg (Bool.eq_false_iff.mp h1)).trans (if_neg h2)
theorem bareGo_e {tok r : Tx} : bareGo tok (92 :: r) = bareGo (tok ++ r.take 1) r.tail := by
  cases r with
  | nil => exact congrArg (·, []) (List.append_nil tok).symm
  | cons d r => rfl
theorem quoGo_q {tok r : Tx} : quoGo tok (34 :: r) = (tok, r) := rfl
theorem quoGo_c {x : Nat} {tok r : Tx} (h1 : x ≠ 34) (h2 : x ≠ 92) : quoGo tok (x :: r) = quoGo (tok ++ [x]) r := (if_neg h1).trans (if_neg h2)
theorem quoGo_e {tok r : Tx} : quoGo tok (92 :: r) = quoGo (tok ++ r.take 1) r.tail := by
  cases r with
  | nil => exact congrArg (·, []) (List.append_nil tok).symm
  | cons d r => rfl
theorem cnt1 {x : Nat} {r : Tx} {z zt : Int} (h : z + ((x :: r).count 10 : Int) = zt) : (z + if x = 10 then 1 else 0) + (r.count 10 : Int) = zt := by
  rw [← h, List.count_cons]
  by_cases e : x = 10 <;> simp [e] <;> omega
theorem cnt2 {r : Tx} {z zt : Int} (h : z + (r.count 10 : Int) = zt) : (z + if r.head? = some 10 then 1 else 0) + (r.tail.count 10 : Int) = zt := by
  cases r with
  | nil => simpa using h
  | cons x r => simpa using cnt1 h
inductive TokO (c : LexC) (P : Params) (g : Heap) (L I q : Addr) (text : Tx) (ts : Tok) (s : Shared) (res : Tx × Tx) (zt : Int) (k : Nat) (s' : Shared) : Prop
  | mk (h' : Heap) (tk' : Nat) (z : Int) (e : s' = { s with heap := h', toks := tk' })
    (o : (∃ rem, TS c P g L I q text ts true [] rem z h' ∧ outGo rem = res ∧ z + (rem.count 10 : Int) = zt ∧ k = rem.length + 1) ∨ (∃ tok, TS c P g L I q text ts false tok [] z h' ∧ res = (tok, []) ∧ z = zt ∧ k = 0)) :
    TokO c P g L I q text ts s res zt k s'
inductive InB (c : LexC) (P : Params) (g : Heap) (L I q : Addr) (text : Tx) (ts : Tok) (s : Shared) (go : Tx → Tx → Tx × Tx) (res : Tx × Tx) (zt : Int) (k : Nat) (s' : Shared) : Prop
  | mk (h' : Heap) (tk' : Nat) (z : Int) (tok rem : Tx) (e : s' = { s with heap := h', toks := tk' }) (T : TS c P g L I q text ts true tok rem z h') (hg : go tok rem = res) (hz : z + (rem.count 10 : Int) = zt)
    (hl : tok.length + rem.length ≤ text.length) (hk : k = rem.length + 1) : InB c P g L I q text ts s go res zt k s'
theorem six_not {c : LexC} {I : Addr} (h : c.G < I ∧ c.d2 < I ∧ c.x2 < I ∧ c.x1 < I ∧ c.d1 < I ∧ c.l2 < I) : I ∉ c.six := by
  obtain ⟨a1, a2, a3, a4, a5, a6⟩ := h
  unfold LexC.six
  simp only [List.mem_cons, List.not_mem_nil, or_false]
  rintro (e | e | e | e | e | e) <;> subst e <;> exact Nat.lt_irrefl _ (by assumption)
theorem two_not {c : LexC} {I q : Addr} {a b : Obj} (hI : I ∉ c.six) (hq : q ∉ c.six) : ∀ p ∈ [(I, a), (q, b)], p.1 ∉ c.six := by
  intro p hp
  simp only [List.mem_cons, List.not_mem_nil, or_false] at hp
  rcases hp with rfl | rfl
  · exact hI
  · exact hq
theorem it_make_F {w : World} {A : Around} {s : Shared} {Q : Value → Shared → Prop} {E : Value → Shared → Prop} {g : Heap} {L q : Addr} {m : Str → Option Value} {fv self u : Value} {news : List (Addr × Obj)} (F : Fr g L s.heap m) (N : News g L s.heap ((q, methodObj fv self) :: news))
    (h : ∀ I h', Fr g L h' m → News g L h' ((I, citer (.ref q) u false) :: (q, methodObj fv self) :: news) → (∀ p ∈ (q, methodObj fv self) :: news, p.1 < I) → Q (.ref I) { s with heap := h' }) :
    wpAny (model PR w) A (call (.builtin "iter") [.ref q, u]) Q E s :=
  it_make (N.get (.head _)) (h _ _ (F.push _) (N.push F _) fun p hp => Heap.lt_size (N.get hp))
section
variable {w : World} {A : Around} {s : Shared} {Q : Value → Shared → Prop} {E : Value → Shared → Prop}
theorem token_spec {g : Heap} {c : LexC} {text r : Tx} {n : Int} (ok : c.Ok w g text) (hkp : Kp g s.heap) (hsz : g.objs.size ≤ s.heap.objs.size) (off : c.Off g) (st : LexSt c w.params text s.heap r n) (G : Gd w g) (a : At 3 A) (htx0 : text.length ≤ 100000)
    (h : ∀ h' tk t' k, Kp g h' → LexSt c w.params text h' (outGo r).2 k → k = n + (r.count 10 : Int) - ((outGo r).2.count 10 : Int) → Q (.str (S (outGo r).1) t') { s with heap := h', toks := tk }) :
    wpAny (model PySem.Challenge.rw_pg0042_01.row.prog w) A (call (.ref 56) [.ref c.x2]) Q E s := by
  have G₀ := G
  have st₀ := st
  obtain ⟨vs, ep, un, rfl, hvs, hnews⟩ := st
  obtain ⟨X, loose, mean, mg, mb, T⟩ := G
  revert X
  k_fill
  intro X
  refine a.use ?_
  have H : Held g s.heap (c.news w.params vs ep n un) := ⟨hkp, hsz, fun p hp => ⟨hnews p hp, off _ (List.mem_map_of_mem (f := (·.1)) hp)⟩⟩
  refine call_g (binds := [(Str.ofString "self", .ref c.x2)]) (cl := []) H T.nolimit (X.keeps H.kp _ _ (by k_is)) rfl (codeRec_of (X.keeps H.kp) (by k_is)) (by decide) (BindsTo.of_eq rfl) (locs rfl) ?_ rfl rfl rfl (by decide)
  intro h₁ F N hlt
  have o1 := ltN ok.o1
  have o2 := ltN ok.o2
  have o3 := ltN ok.o3
  have o4 := ltN ok.o4
  have o5 := ltN ok.o5
  unfold LexC.news at N hlt
  k_lt hlt
  w_on
  walk_at "go"
  with_reducible rename Fr _ _ _ _ => F₁
  with_reducible rename News _ _ _ _ => N₁
  with_reducible rename _ < _ ∧ _ => l1
  rename_i hA q hB
  refine unhalt (it_make_F F₁ N₁ fun I h₂ F₂ N₂ l2 => ?_)
  clear F₁ N₁
  k_lt l2
  w_on
  walk_at "go"
  with_reducible rename Fr _ _ _ _ => F₃
  with_reducible rename News _ _ _ _ => N₃
  have hI := six_not l2.2
  have hq := six_not l1
  have hIq := Nat.ne_of_gt l2.1
  have fn : FnAt 49 g := ⟨_, _, _, _, X _ _ (by k_is)⟩
  rw [show Str.ofString "" = S [] from of_lit (by decide)] at F₃ N₃
  refine unhalt ?_
  refine wpAny_For ?_
  walk_at "go"
  refine unhalt (it_self (by exact N₃.get (.head _)) ?_)
  obtain ⟨ts, T0⟩ : ∃ ts, TS c w.params g s.heap.objs.size I q text ts true [] (text.drop vs.length) n _ := ⟨_, none, _, vs, ep, un, lm0 F₃, N₃, rfl, hvs⟩
  clear F₃ N₃
  generalize htx : text.drop vs.length = r at *
  refine for_loop (TokO c w.params g s.heap.objs.size I q text ts s (outGo r) (n + (r.count 10 : Int))) ?_ (r.length + 1)
    ⟨_, _, n, rfl, .inl ⟨r, T0, rfl, rfl, rfl⟩⟩
  clear T0 hnews hvs H st₀ hkp vs ep un htx hB h₂
  rintro k s' ⟨h', tk', z, rfl, ⟨rem, ⟨cv, t, vs, ep, un, F₄, N₄, rfl, hvs⟩, ho, hz, rfl⟩ | ⟨tok, ⟨cv, t, vs, ep, un, F₄, N₄, hrem, hvs⟩, ho, hz, rfl⟩⟩
  · refine tok_next ok G₀ rfl (at_of rfl rfl rfl) F₄ fn N₄ hvs hI hq hIq ?_ ?_
    · intro x r' hxr h₅ tk₅ t₅ vs' ep' un' F₅ N₅ hvs' hr'
      clear F₄ N₄
      unfold lm at F₅
      unfold LexC.news at N₅
      try dsimp only
      walk_at "go"
      all_goals (with_reducible rename Fr _ _ _ _ => F₆)
      all_goals (with_reducible rename News _ _ _ _ => N₆)
      · have hx1 := ws_not (by assumption)
        have hx2 := is_sign q34 (by assumption)
        subst hx2
        have B0 : TS c w.params g s.heap.objs.size I q text ts true [] r' (z + if 34 = 10 then 1 else 0) _ := ⟨_, _, vs', ep', un', fr_cong F₆ (by (intro y; (show _ = (if y = Str.ofString "ch" then _ else if y = Str.ofString "token" then _ else if y = Str.ofString "fiter" then _ else _)); by_cases e1 : y = Str.ofString "ch"; (subst e1; rfl); by_cases e2 : y = Str.ofString "token"; (subst e2; rfl); simp only [if_neg e1, if_neg e2])), N₆, hr', hvs'⟩
        have hb : quoGo [] r' = outGo r := by rw [← ho, hxr, outGo_q]
        have hzb : (z + if 34 = 10 then 1 else 0) + (r'.count 10 : Int) = n + (r.count 10 : Int) := cnt1 (hxr ▸ hz)
        have hlb : ([] : Tx).length + r'.length ≤ text.length := by rw [hr', List.length_drop, List.length_nil]; omega
        clear F₆ N₆
        (
  refine unhalt ?_
  refine wpAny_For ?_
  (obtain ⟨cvB, tB, vsB, epB, unB, FB, NB, eB, hvsB⟩ := B0)
  walk_at "go"
  refine unhalt (it_self (by exact NB.get (.head _)) ?_)
  refine for_loop (InB c w.params g s.heap.objs.size I q text ts s quoGo (outGo r) (n + (r.count 10 : Int))) ?_ _ ⟨_, _, _, _, _, rfl, ⟨cvB, tB, vsB, epB, unB, FB, NB, eB, hvsB⟩, hb, hzb, hlb, rfl⟩
  (clear FB NB eB hvsB hb hzb hlb)
  (rintro kB s' ⟨hB, tkB, zB, tokB, remB, rfl, ⟨cvB, tB, vsB, epB, unB, FB, NB, eB, hvsB⟩, hb, hzb, hlb, rfl⟩)
  subst eB
  refine tok_next ok G₀ rfl (at_of rfl rfl rfl) FB fn NB hvsB hI hq hIq ?_ ?_)
        · (
  intro xC rC hxC hC tkC tC vsC epC unC FC NC hvsC hrC
  have hlC : tokB.length + 1 ≤ text.length := by rw [hxC] at hlb; simp only [List.length_cons] at hlb; omega
  clear FB NB
  unfold lm at FC
  unfold LexC.news at NC
  try dsimp only
  walk_at "go"
  all_goals (with_reducible rename Fr _ _ _ _ => FD)
  all_goals (with_reducible rename News _ _ _ _ => ND))
          · have hy1 := is_sign q34 (by assumption)
            subst hy1
            have e : outGo r = (tokB, rC) := by rw [← hb, hxC, quoGo_q]
            rw [e] at h
            exact h _ _ _ _ FD.keep ⟨vsC, epC, unC, hrC, hvsC, fun p hp => ND.get (.tail _ (.tail _ hp))⟩ (by have := cnt1 (hxC ▸ hzb); dsimp only; omega)
          · have hy1 := no_sign q34 (by assumption)
            have hy2 := is_sign q92 (by assumption)
            subst hy2
            (
  refine unhalt ?_
  refine wpAny_call ?_
  (refine read_in (ex := [(I, citer (.ref q) (.str (S []) ts) false), (q, methodObj (.ref 49) (.ref c.x2))]) ok G₀ (at_of rfl rfl rfl) FD ND hvsC (two_not hI hq) fun hD tkD tD vsD epD unD FD' ND' hvsD eD => ?_)
  clear FD ND
  walk_at "go"
  with_reducible rename Fr _ _ _ _ => FE
  with_reducible rename News _ _ _ _ => NE)
            exact turn_next _ (by rw [hxC, ← eD, ← hrC]; simp only [List.length_cons, List.length_tail]; omega) ⟨_, _, _, _, _, rfl, ⟨_, _, vsD, epD, unD, fr_cong FE (by (intro y; (show _ = (if y = Str.ofString "ch" then _ else if y = Str.ofString "token" then _ else if y = Str.ofString "fiter" then _ else _)); by_cases e1 : y = Str.ofString "ch"; (subst e1; rfl); by_cases e2 : y = Str.ofString "token"; (subst e2; rfl); simp only [if_neg e1, if_neg e2])), NE, rfl, hvsD⟩, (by rw [← eD, ← hrC, ← quoGo_e, ← hxC]; exact hb), (by rw [← eD]; exact cnt2 (hrC ▸ cnt1 (hxC ▸ hzb))), (by rw [hxC] at hlb; rw [← eD, ← hrC]; simp only [List.length_append, List.length_take, List.length_tail, List.length_cons] at hlb ⊢; omega), rfl⟩
          · have hy1 := no_sign q34 (by assumption)
            have hy2 := no_sign q92 (by assumption)
            exact turn_next _ (by rw [hxC]; exact Nat.lt_succ_self _) ⟨_, _, _, _, _, rfl, ⟨_, _, vsC, epC, unC, fr_cong FD (by (intro y; (show _ = (if y = Str.ofString "ch" then _ else if y = Str.ofString "token" then _ else if y = Str.ofString "fiter" then _ else _)); by_cases e1 : y = Str.ofString "ch"; (subst e1; rfl); by_cases e2 : y = Str.ofString "token"; (subst e2; rfl); simp only [if_neg e1, if_neg e2])), ND, hrC, hvsC⟩, (by rw [← quoGo_c hy1 hy2, ← hxC]; exact hb), cnt1 (hxC ▸ hzb), (by rw [hxC] at hlb; simp only [List.length_append, List.length_cons, List.length_nil] at hlb ⊢; omega), rfl⟩
        · (
  intro hxC hC tkC vsC epC unC FC NC hvsC hrC
  clear FB NB
  rw [hxC] at hb hzb
  unfold lm at FC
  unfold LexC.news at NC
  try dsimp only
  walk_at "go"
  exact turn_next 0 (Nat.succ_pos _) ⟨_, _, _, rfl, .inr ⟨tokB, ⟨_, _, vsC, epC, unC, FC, NC, hrC, hvsC⟩, (by rw [← hb, quoGo_nil]), (by rw [← hzb]; simp), rfl⟩⟩)
      · have hx1 := ws_not (by assumption)
        have hx2 := no_sign q34 (by assumption)
        have hx3 := is_sign q92 (by assumption)
        subst hx3
        refine unhalt ?_
        refine wpAny_call ?_
        refine read_in (ex := [(I, citer (.ref q) (.str (S []) ts) false), (q, methodObj (.ref 49) (.ref c.x2))]) ok G₀ (at_of rfl rfl rfl) F₆ N₆ hvs' (two_not hI hq) fun h₇ tk₇ t₇ vs₇ ep₇ un₇ F₇ N₇ hvs₇ e₇ => ?_
        clear F₆ N₆
        walk_at "go"
        with_reducible rename Fr _ _ _ _ => F₈
        with_reducible rename News _ _ _ _ => N₈
        rw [← hr'] at F₈ N₈ e₇
        have B0 : TS c w.params g s.heap.objs.size I q text ts true ([] ++ r'.take 1) r'.tail ((z + if 92 = 10 then 1 else 0) + if r'.head? = some 10 then 1 else 0) _ := ⟨_, _, vs₇, ep₇, un₇, fr_cong F₈ (by (intro y; (show _ = (if y = Str.ofString "ch" then _ else if y = Str.ofString "token" then _ else if y = Str.ofString "fiter" then _ else _)); by_cases e1 : y = Str.ofString "ch"; (subst e1; rfl); by_cases e2 : y = Str.ofString "token"; (subst e2; rfl); simp only [if_neg e1, if_neg e2])), N₈, e₇, hvs₇⟩
        have hb : bareGo ([] ++ r'.take 1) r'.tail = outGo r := by rw [← ho, hxr, outGo_e]; rfl
        have hzb : ((z + if 92 = 10 then 1 else 0) + if r'.head? = some 10 then 1 else 0) + (r'.tail.count 10 : Int) = n + (r.count 10 : Int) := cnt2 (cnt1 (hxr ▸ hz))
        have hlb : ([] ++ r'.take 1 : Tx).length + r'.tail.length ≤ text.length := by
          have : r'.length ≤ text.length := by rw [hr', List.length_drop]; omega
          simp only [List.nil_append, List.length_take, List.length_tail]; omega
        clear F₈ N₈
        (
  (
  refine unhalt ?_
  refine wpAny_For ?_
  (obtain ⟨cvB, tB, vsB, epB, unB, FB, NB, eB, hvsB⟩ := B0)
  walk_at "go"
  refine unhalt (it_self (by exact NB.get (.head _)) ?_)
  refine for_loop (InB c w.params g s.heap.objs.size I q text ts s bareGo (outGo r) (n + (r.count 10 : Int))) ?_ _ ⟨_, _, _, _, _, rfl, ⟨cvB, tB, vsB, epB, unB, FB, NB, eB, hvsB⟩, hb, hzb, hlb, rfl⟩
  (clear FB NB eB hvsB hb hzb hlb)
  (rintro kB s' ⟨hB, tkB, zB, tokB, remB, rfl, ⟨cvB, tB, vsB, epB, unB, FB, NB, eB, hvsB⟩, hb, hzb, hlb, rfl⟩)
  subst eB
  refine tok_next ok G₀ rfl (at_of rfl rfl rfl) FB fn NB hvsB hI hq hIq ?_ ?_)
  · (
  intro xC rC hxC hC tkC tC vsC epC unC FC NC hvsC hrC
  have hlC : tokB.length + 1 ≤ text.length := by rw [hxC] at hlb; simp only [List.length_cons] at hlb; omega
  clear FB NB
  unfold lm at FC
  unfold LexC.news at NC
  try dsimp only
  walk_at "go"
  all_goals (with_reducible rename Fr _ _ _ _ => FD)
  all_goals (with_reducible rename News _ _ _ _ => ND))
    · have hy1 := ws_not (by assumption)
      have hy2 := is_sign q92 (by assumption)
      subst hy2
      (
  refine unhalt ?_
  refine wpAny_call ?_
  (refine read_in (ex := [(I, citer (.ref q) (.str (S []) ts) false), (q, methodObj (.ref 49) (.ref c.x2))]) ok G₀ (at_of rfl rfl rfl) FD ND hvsC (two_not hI hq) fun hD tkD tD vsD epD unD FD' ND' hvsD eD => ?_)
  clear FD ND
  walk_at "go"
  with_reducible rename Fr _ _ _ _ => FE
  with_reducible rename News _ _ _ _ => NE)
      exact turn_next _ (by rw [hxC, ← eD, ← hrC]; simp only [List.length_cons, List.length_tail]; omega) ⟨_, _, _, _, _, rfl, ⟨_, _, vsD, epD, unD, fr_cong FE (by (intro y; (show _ = (if y = Str.ofString "ch" then _ else if y = Str.ofString "token" then _ else if y = Str.ofString "fiter" then _ else _)); by_cases e1 : y = Str.ofString "ch"; (subst e1; rfl); by_cases e2 : y = Str.ofString "token"; (subst e2; rfl); simp only [if_neg e1, if_neg e2])), NE, rfl, hvsD⟩, (by rw [← eD, ← hrC, ← bareGo_e, ← hxC]; exact hb), (by rw [← eD]; exact cnt2 (hrC ▸ cnt1 (hxC ▸ hzb))), (by rw [hxC] at hlb; rw [← eD, ← hrC]; simp only [List.length_append, List.length_take, List.length_tail, List.length_cons] at hlb ⊢; omega), rfl⟩
    · have hy1 := ws_not (by assumption)
      have hy2 := no_sign q92 (by assumption)
      exact turn_next _ (by rw [hxC]; exact Nat.lt_succ_self _) ⟨_, _, _, _, _, rfl, ⟨_, _, vsC, epC, unC, fr_cong FD (by (intro y; (show _ = (if y = Str.ofString "ch" then _ else if y = Str.ofString "token" then _ else if y = Str.ofString "fiter" then _ else _)); by_cases e1 : y = Str.ofString "ch"; (subst e1; rfl); by_cases e2 : y = Str.ofString "token"; (subst e2; rfl); simp only [if_neg e1, if_neg e2])), ND, hrC, hvsC⟩, (by rw [← bareGo_c hy1 hy2, ← hxC]; exact hb), cnt1 (hxC ▸ hzb), (by rw [hxC] at hlb; simp only [List.length_append, List.length_cons, List.length_nil] at hlb ⊢; omega), rfl⟩
    · have hy1 := ws_is (by assumption)
      have e : outGo r = (tokB, rC) := by rw [← hb, hxC, bareGo_ws hy1]
      rw [e] at h
      exact h _ _ _ _ FD.keep ⟨vsC, epC, unC, hrC, hvsC, fun p hp => ND.get (.tail _ (.tail _ hp))⟩ (by have := cnt1 (hxC ▸ hzb); dsimp only; omega)
  · (
  intro hxC hC tkC vsC epC unC FC NC hvsC hrC
  clear FB NB
  rw [hxC] at hb hzb
  unfold lm at FC
  unfold LexC.news at NC
  try dsimp only
  walk_at "go"
  exact turn_next 0 (Nat.succ_pos _) ⟨_, _, _, rfl, .inr ⟨tokB, ⟨_, _, vsC, epC, unC, FC, NC, hrC, hvsC⟩, (by rw [← hb, bareGo_nil]), (by rw [← hzb]; simp), rfl⟩⟩))
      · have hx1 := ws_not (by assumption)
        have hx2 := no_sign q34 (by assumption)
        have hx3 := no_sign q92 (by assumption)
        have B0 : TS c w.params g s.heap.objs.size I q text ts true ([] ++ [x]) r' (z + if x = 10 then 1 else 0) _ := ⟨_, _, vs', ep', un', fr_cong F₆ (by (intro y; (show _ = (if y = Str.ofString "ch" then _ else if y = Str.ofString "token" then _ else if y = Str.ofString "fiter" then _ else _)); by_cases e1 : y = Str.ofString "ch"; (subst e1; rfl); by_cases e2 : y = Str.ofString "token"; (subst e2; rfl); simp only [if_neg e1, if_neg e2])), N₆, hr', hvs'⟩
        have hb : bareGo ([] ++ [x]) r' = outGo r := by rw [← ho, hxr, outGo_b hx1 hx2 hx3]; rfl
        have hzb : (z + if x = 10 then 1 else 0) + (r'.count 10 : Int) = n + (r.count 10 : Int) := cnt1 (hxr ▸ hz)
        have hlb : ([] ++ [x] : Tx).length + r'.length ≤ text.length := by
          have := congrArg List.length hxr
          simp only [List.length_drop, List.length_cons] at this
          simp only [List.nil_append, List.length_cons, List.length_nil]; omega
        clear F₆ N₆
        (
  (
  refine unhalt ?_
  refine wpAny_For ?_
  (obtain ⟨cvB, tB, vsB, epB, unB, FB, NB, eB, hvsB⟩ := B0)
  walk_at "go"
  refine unhalt (it_self (by exact NB.get (.head _)) ?_)
  refine for_loop (InB c w.params g s.heap.objs.size I q text ts s bareGo (outGo r) (n + (r.count 10 : Int))) ?_ _ ⟨_, _, _, _, _, rfl, ⟨cvB, tB, vsB, epB, unB, FB, NB, eB, hvsB⟩, hb, hzb, hlb, rfl⟩
  (clear FB NB eB hvsB hb hzb hlb)
  (rintro kB s' ⟨hB, tkB, zB, tokB, remB, rfl, ⟨cvB, tB, vsB, epB, unB, FB, NB, eB, hvsB⟩, hb, hzb, hlb, rfl⟩)
  subst eB
  refine tok_next ok G₀ rfl (at_of rfl rfl rfl) FB fn NB hvsB hI hq hIq ?_ ?_)
  · (
  intro xC rC hxC hC tkC tC vsC epC unC FC NC hvsC hrC
  have hlC : tokB.length + 1 ≤ text.length := by rw [hxC] at hlb; simp only [List.length_cons] at hlb; omega
  clear FB NB
  unfold lm at FC
  unfold LexC.news at NC
  try dsimp only
  walk_at "go"
  all_goals (with_reducible rename Fr _ _ _ _ => FD)
  all_goals (with_reducible rename News _ _ _ _ => ND))
    · have hy1 := ws_not (by assumption)
      have hy2 := is_sign q92 (by assumption)
      subst hy2
      (
  refine unhalt ?_
  refine wpAny_call ?_
  (refine read_in (ex := [(I, citer (.ref q) (.str (S []) ts) false), (q, methodObj (.ref 49) (.ref c.x2))]) ok G₀ (at_of rfl rfl rfl) FD ND hvsC (two_not hI hq) fun hD tkD tD vsD epD unD FD' ND' hvsD eD => ?_)
  clear FD ND
  walk_at "go"
  with_reducible rename Fr _ _ _ _ => FE
  with_reducible rename News _ _ _ _ => NE)
      exact turn_next _ (by rw [hxC, ← eD, ← hrC]; simp only [List.length_cons, List.length_tail]; omega) ⟨_, _, _, _, _, rfl, ⟨_, _, vsD, epD, unD, fr_cong FE (by (intro y; (show _ = (if y = Str.ofString "ch" then _ else if y = Str.ofString "token" then _ else if y = Str.ofString "fiter" then _ else _)); by_cases e1 : y = Str.ofString "ch"; (subst e1; rfl); by_cases e2 : y = Str.ofString "token"; (subst e2; rfl); simp only [if_neg e1, if_neg e2])), NE, rfl, hvsD⟩, (by rw [← eD, ← hrC, ← bareGo_e, ← hxC]; exact hb), (by rw [← eD]; exact cnt2 (hrC ▸ cnt1 (hxC ▸ hzb))), (by rw [hxC] at hlb; rw [← eD, ← hrC]; simp only [List.length_append, List.length_take, List.length_tail, List.length_cons] at hlb ⊢; omega), rfl⟩
    · have hy1 := ws_not (by assumption)
      have hy2 := no_sign q92 (by assumption)
      exact turn_next _ (by rw [hxC]; exact Nat.lt_succ_self _) ⟨_, _, _, _, _, rfl, ⟨_, _, vsC, epC, unC, fr_cong FD (by (intro y; (show _ = (if y = Str.ofString "ch" then _ else if y = Str.ofString "token" then _ else if y = Str.ofString "fiter" then _ else _)); by_cases e1 : y = Str.ofString "ch"; (subst e1; rfl); by_cases e2 : y = Str.ofString "token"; (subst e2; rfl); simp only [if_neg e1, if_neg e2])), ND, hrC, hvsC⟩, (by rw [← bareGo_c hy1 hy2, ← hxC]; exact hb), cnt1 (hxC ▸ hzb), (by rw [hxC] at hlb; simp only [List.length_append, List.length_cons, List.length_nil] at hlb ⊢; omega), rfl⟩
    · have hy1 := ws_is (by assumption)
      have e : outGo r = (tokB, rC) := by rw [← hb, hxC, bareGo_ws hy1]
      rw [e] at h
      exact h _ _ _ _ FD.keep ⟨vsC, epC, unC, hrC, hvsC, fun p hp => ND.get (.tail _ (.tail _ hp))⟩ (by have := cnt1 (hxC ▸ hzb); dsimp only; omega)
  · (
  intro hxC hC tkC vsC epC unC FC NC hvsC hrC
  clear FB NB
  rw [hxC] at hb hzb
  unfold lm at FC
  unfold LexC.news at NC
  try dsimp only
  walk_at "go"
  exact turn_next 0 (Nat.succ_pos _) ⟨_, _, _, rfl, .inr ⟨tokB, ⟨_, _, vsC, epC, unC, FC, NC, hrC, hvsC⟩, (by rw [← hb, bareGo_nil]), (by rw [← hzb]; simp), rfl⟩⟩))
      · have hx1 := ws_is (by assumption)
        exact turn_cont (r'.length + 1) (by rw [hxr]; exact Nat.lt_succ_self _) ⟨_, _, _, rfl, .inl ⟨r', ⟨_, _, vs', ep', un', fr_cong F₆ (by (intro y; (show _ = (if y = Str.ofString "ch" then _ else if y = Str.ofString "token" then _ else if y = Str.ofString "fiter" then _ else _)); by_cases e1 : y = Str.ofString "ch"; (subst e1; rfl); by_cases e2 : y = Str.ofString "token"; (subst e2; rfl); simp only [if_neg e1, if_neg e2])), N₆, hr', hvs'⟩, (by rw [← ho, hxr, outGo_ws hx1]), cnt1 (hxr ▸ hz), rfl⟩⟩
    · intro hxr h₅ tk₅ vs' ep' un' F₅ N₅ hvs' hr'
      clear F₄ N₄
      unfold lm at F₅
      unfold LexC.news at N₅
      walk_at "go"
      rw [hxr] at ho hz
      have e : outGo r = ([], []) := by rw [← ho, outGo_nil]
      rw [e] at h
      exact h _ _ _ _ F₅.keep ⟨vs', ep', un', hr', hvs', fun p hp => N₅.get (.tail _ (.tail _ hp))⟩ (by simp at hz ⊢; exact hz)
  · refine it_over rfl (N₄.get (.head _)) fun h₅ hk₅ => ?_
    have F₅ : Fr g s.heap.objs.size h₅ (lm c.x2 tok t I cv) := ⟨F₄.ns.at' fun x q => hk₅ _ x q, fun b x q => hk₅ b x (F₄.keep b x q), F₄.above⟩
    have N₅ : News g s.heap.objs.size h₅ _ := fun p hp => ⟨hk₅ _ _ (N₄ p hp).1, (N₄ p hp).2⟩
    unfold lm at F₅
    clear F₄ N₄
    walk_at "go"
    rw [ho] at h
    exact h _ _ _ _ F₅.keep ⟨vs, ep, un, hrem, hvs, fun p hp => N₅.get (.tail _ (.tail _ hp))⟩ (by simp; exact hz)
end
end Mine

namespace Mine
theorem codeHd_keeps {h h' : Heap} {c P : Addr} (C : CodeHd h c P) (k : Kp h h') : CodeHd h' c P := by
  obtain ⟨o, vs, file, tf, flags, tg, inF, text, tt, e, r⟩ := C
  exact ⟨o, vs, file, tf, flags, tg, inF, text, tt, k _ _ e, r⟩
theorem tabIs_keeps {h h' : Heap} {ps : Array Value} (C : TabIs h ps) (k : Kp h h') : TabIs h' ps := by
  rcases C with e | ⟨c', e, cc, oc, vsc, tc, ec, hoc, r⟩
  · exact .inl e
  · exact .inr ⟨c', e, cc, oc, vsc, tc, ec, k _ _ hoc, r⟩
/-- what one heap has beyond another -/
noncomputable def more (g gp : Heap) : List (Addr × Obj) := (List.range gp.objs.size).filterMap fun b => match gp.get? b, g.get? b with | some o, none => some (b, o) | _, _ => none
theorem mem_more {g gp : Heap} {p : Addr × Obj} : p ∈ more g gp ↔ gp.get? p.1 = some p.2 ∧ g.get? p.1 = none := by
  obtain ⟨a, o⟩ := p
  unfold more
  rw [List.mem_filterMap]
  constructor
  · rintro ⟨b, _, e⟩
    cases h1 : gp.get? b with
    | none => rw [h1] at e; cases e
    | some o' =>
      cases h2 : g.get? b with
      | none => rw [h1, h2] at e; cases e; exact ⟨h1, h2⟩
      | some o'' => rw [h1, h2] at e; cases e
  · rintro ⟨h1, h2⟩
    exact ⟨a, List.mem_range.mpr (Heap.lt_size h1), by rw [h1, h2]⟩
theorem kp_more {g gp h h₀ : Heap} (k1 : Kp g h₀) (k2 : Kp gp h₀) (k : Kp g h) (hm : ∀ p ∈ more g gp, h.get? p.1 = some p.2) : Kp gp h := by
  intro b o e
  cases q : g.get? b with
  | none => exact hm (b, o) (mem_more.mpr ⟨e, q⟩)
  | some o' =>
    have e1 := k1 _ _ q
    rw [k2 _ _ e] at e1
    cases e1
    exact k _ _ q
section
variable {w : World} {A : Around} {s : Shared} {Q : Value → Shared → Prop} {E : Value → Shared → Prop} {g : Heap} {L : Addr} {m : Str → Option Value} {text : Tx}
theorem token_in {gp : Heap} {c : LexC} {vs : List Value} {ep : Nat} {n : Int} {un : Tok} {ex rest : List (Addr × Obj)} (ok : c.Ok w gp text) (G : Gd w g) (a : At 3 A) (htx : text.length ≤ 100000) (F : Fr g L s.heap m) (N : News g L s.heap (ex ++ (c.news w.params vs ep n un ++ rest)))
    (hvs : vs.length ≤ text.length) (hgp : Kp gp s.heap) (hoff : ∀ a ∈ c.six, gp.get? a = none) (hne : ∀ p ∈ ex ++ rest, p.1 ∉ c.six)
    (h : ∀ h' tk t' vs' ep' un' k, Fr g L h' m → News g L h' (ex ++ (c.news w.params vs' ep' k un' ++ rest)) → Kp gp h' → vs'.length ≤ text.length → (outGo (text.drop vs.length)).2 = text.drop vs'.length →
      k = n + ((text.drop vs.length).count 10 : Int) - ((outGo (text.drop vs.length)).2.count 10 : Int) → Q (.str (S (outGo (text.drop vs.length)).1) t') { s with heap := h', toks := tk }) :
    wpAny (model PySem.Challenge.rw_pg0042_01.row.prog w) A (call (.ref 56) [.ref c.x2]) Q E s := by
  have NL : ∀ p ∈ c.news w.params vs ep n un, s.heap.get? p.1 = some p.2 ∧ p.1 ≠ L ∧ g.get? p.1 = none := fun p hp => N p (List.mem_append_right _ (List.mem_append_left _ hp))
  have nm : ∀ a ∈ c.six, a ≠ L ∧ g.get? a = none := fun a ha => by
    rw [← c.news_six w.params vs ep n un] at ha
    obtain ⟨p, hp, rfl⟩ := List.mem_map.mp ha
    exact (NL p hp).2
  have st : Kp g (hideAll s.heap c.six) := fun b x e => hideAll_get _ (F.keep b x e) (fun q => by rw [(nm b q).2] at e; cases e)
  have sp : Kp gp (hideAll s.heap c.six) := fun b x e => hideAll_get _ (hgp b x e) (fun q => by rw [hoff b q] at e; cases e)
  have nL : L ∉ c.six := fun q => (nm L q).1 rfl
  refine token_spec (g := hideAll s.heap c.six) (c := c) (n := n) (ok.up sp) (fun b x e => of_hideAll _ e) (Nat.le_of_eq (hideAll_size _ _)) (fun a ha => hideAll_none _ ha) ⟨vs, ep, un, rfl, hvs, fun p hp => (NL p hp).1⟩ (G.keeps st) a htx ?_
  intro h' tk t' k hk st' hk'
  obtain ⟨vs', ep', un', e', hvs', hn'⟩ := st'
  refine h h' tk t' vs' ep' un' k ⟨F.ns.at' fun x q => hk _ x (hideAll_get _ q nL), fun b x q => hk b x (st b x q), F.above⟩ (fun p hp => ?_) (fun b x e => hk b x (sp b x e)) hvs' e' hk'
  have old : ∀ p, p ∈ ex ++ (c.news w.params vs ep n un ++ rest) → p.1 ∉ c.six → h'.get? p.1 = some p.2 ∧ p.1 ≠ L ∧ g.get? p.1 = none := fun p hp hn => ⟨hk _ _ (hideAll_get _ (N p hp).1 hn), (N p hp).2⟩
  rcases List.mem_append.mp hp with hp | hp
  · exact old p (List.mem_append_left _ hp) (hne p (List.mem_append_left _ hp))
  rcases List.mem_append.mp hp with hp | hp
  · refine ⟨hn' p hp, nm _ ?_⟩
    rw [← c.news_six w.params vs' ep' k un']
    exact List.mem_map_of_mem hp
  · exact old p (List.mem_append_right _ (List.mem_append_right _ hp)) (hne p (List.mem_append_right _ hp))
theorem lexer_in {ps : Array Value} {t : Tok} (F : Fr g L s.heap m) (N : News g L s.heap [(72, tabObj ps)]) (hps : TabIs g ps) (C : CodeHd g 76 72) (G : Gd w g) (a : At 3 A) (htx : text.length ≤ 100000)
    (h : ∀ (c : LexC) gp h' tk un ps' ks, Fr g L h' m → News g L h' (c.news w.params [] 0 1 un ++ (72, tabObj ps') :: ks) → (∀ h'', Kp g h'' → (∀ p ∈ ks, h''.get? p.1 = some p.2) → Kp gp h'') → c.Ok w gp text → TabIs gp ps' →
      (∀ p ∈ ks, p.1 ∉ c.six) → (∀ a ∈ c.six, gp.get? a = none) → (72 ∉ c.six) → gp.objs.size ≤ h'.objs.size → Q (.ref c.x2) { s with heap := h', toks := tk }) :
    wpAny (model PySem.Challenge.rw_pg0042_01.row.prog w) A (call (.ref 77) [.str (S text) t]) Q E s := by
  have n72 := N _ (.head _)
  have st : Kp g (hideAll s.heap [72]) := fun b x e => hideAll_get _ (F.keep b x e) (fun q => by rw [List.mem_singleton.mp q, n72.2.2] at e; cases e)
  have H : Held (hideAll s.heap [72]) s.heap [(72, tabObj ps)] := hide_of (news := [(72, tabObj ps)]) fun p hp => by rw [List.mem_singleton.mp hp]; exact n72.1
  refine lexer_spec st H hps (codeHd_keeps C st) (G.keeps st) a text t (Nat.le_trans htx (by decide)) ?_
  intro c gp h' tk un ps' k1 k2 H' ok' tab' low lo1
  have gL : g.get? L = none := by
    cases q : g.get? L with
    | none => rfl
    | some o => exact absurd (Nat.lt_of_lt_of_le (Heap.lt_size q) F.above) (Nat.lt_irrefl _)
  obtain ⟨oL, _, _, hL, _⟩ := F.ns
  have gpL : gp.get? L = none := low L (Heap.lt_size hL) gL
  have noneg : ∀ b, gp.get? b = none → g.get? b = none := fun b e => by
    cases q : g.get? b with
    | none => rfl
    | some o => rw [k1 _ _ q] at e; cases e
  have six : ∀ a ∈ c.six, gp.get? a = none := fun a ha => by
    rw [← c.news_six w.params [] 0 1 un] at ha
    obtain ⟨p, hp, rfl⟩ := List.mem_map.mp ha
    exact (H'.at_ p (List.mem_append_left _ hp)).2
  have g72 := (H'.at_ (72, tabObj ps') (List.mem_append_right _ (.head _)))
  have hkg : Kp g h' := fun b o e => k2 _ _ (st _ _ e)
  have up6 : ∀ a ∈ c.six, s.heap.objs.size ≤ a := fun a ha => by
    have p1 := ok'.o1
    have p2 := ok'.o2
    have p3 := ok'.o3
    have p4 := ok'.o4
    have p5 := ok'.o5
    simp only [LexC.six, List.mem_cons, List.not_mem_nil, or_false] at ha
    have q1 := Nat.le_of_lt (Nat.lt_of_le_of_lt lo1 p1)
    have q2 := Nat.le_of_lt (Nat.lt_of_le_of_lt q1 p2)
    have q3 := Nat.le_of_lt (Nat.lt_of_le_of_lt q2 p3)
    have q4 := Nat.le_of_lt (Nat.lt_of_le_of_lt q3 p4)
    have q5 := Nat.le_of_lt (Nat.lt_of_le_of_lt q4 p5)
    rcases ha with rfl | rfl | rfl | rfl | rfl | rfl
    · exact q2
    · exact q3
    · exact q4
    · exact q1
    · exact lo1
    · exact q5
  refine h c gp h' tk un ps' (more g gp) ⟨F.ns.at' fun x q => k2 _ x (hideAll_get _ q fun z => n72.2.1 (List.mem_singleton.mp z).symm), hkg, F.above⟩ (fun p hp => ?_) (fun h'' q1 q2 => kp_more hkg H'.kp q1 q2) ok' tab' (fun p hp z => ?_) six (fun z => ?_) H'.sz
  · rcases List.mem_append.mp hp with hp' | hp'
    · exact ⟨(H'.at_ p (List.mem_append_left _ hp')).1, fun z => absurd (up6 p.1 (by rw [← c.news_six w.params [] 0 1 un]; exact List.mem_map_of_mem hp')) (by rw [z]; exact Nat.not_le.mpr (Heap.lt_size hL)), noneg _ (H'.at_ p (List.mem_append_left _ hp')).2⟩
    rcases List.mem_cons.mp hp' with rfl | hp'
    · exact ⟨g72.1, n72.2.1, noneg _ g72.2⟩
    · have := mem_more.mp hp'
      exact ⟨H'.kp _ _ this.1, (fun z => by rw [z, gpL] at this; cases this.1), this.2⟩
  · have := (mem_more.mp hp).1
    rw [six _ z] at this; cases this
  · exact absurd (up6 72 z) (Nat.not_le.mpr (Heap.lt_size n72.1))
end
end Mine

namespace Mine
abbrev riObj (x left step : Int) : Obj := { cls := .type "range_iterator", dict := none, data := .fields #[rawInt x, rawInt left, rawInt step], slots := #[] }
section
variable {w : World} {A : Around} {s : Shared} {E : Value → Shared → Prop} {g : Heap} {L I : Addr} {m : Str → Option Value} {rest : List (Addr × Obj)} {x left step : Int}
theorem news_but {g h h' : Heap} {L I : Addr} {m : Str → Option Value} {o o' : Obj} {rest : List (Addr × Obj)} (F : Fr g L h m) (N : News g L h ((I, o) :: rest)) (hne : ∀ p ∈ rest, p.1 ≠ I) (e : h'.get? I = some o') (k : ∀ b x, b ≠ I → h.get? b = some x → h'.get? b = some x) :
    Fr g L h' m ∧ News g L h' ((I, o') :: rest) := by
  have nI := N _ (.head _)
  refine ⟨⟨F.ns.at' fun x q => k _ x (Ne.symm nI.2.1) q, fun b x q => k b x (fun z => by rw [z, nI.2.2] at q; cases q) (F.keep b x q), F.above⟩, fun p hp => ?_⟩
  rcases List.mem_cons.mp hp with rfl | hp
  · exact ⟨e, nI.2⟩
  · exact ⟨k _ _ (hne p hp) (N p (.tail _ hp)).1, (N p (.tail _ hp)).2⟩
theorem range_iter_F {Q : Value → Shared → Prop} {R : Addr} {a b c : Int} {t u v : Tok} (F : Fr g L s.heap m) (N : News g L s.heap rest) (hR : IsRange s.heap R a b c t u v) (hs : Builtin.Range.small a b c = true)
    (h : ∀ I h', Fr g L h' m → News g L h' ((I, riObj a (Builtin.Range.rangeSize a b c) c) :: rest) → (∀ p ∈ rest, p.1 < I) → Q (.ref I) { s with heap := h' }) :
    wpAny (model PR w) A (pyIter (.ref R)) Q E s :=
  wpAny_pyIter_range hR hs (h _ _ (F.push _) (N.push F _) fun p hp => Heap.lt_size (N.get hp))
theorem range_next_F {Q : Option Value → Shared → Prop} (F : Fr g L s.heap m) (N : News g L s.heap ((I, riObj x left step) :: rest)) (hne : ∀ p ∈ rest, p.1 ≠ I) (hl : 0 < left)
    (h : ∀ h' tk t, Fr g L h' m → News g L h' ((I, riObj (x + step) (left - 1) step) :: rest) → Q (some (.int x t)) { s with heap := h', toks := tk }) :
    wpAny (model PR w) A (pyNext (.ref I)) Q E s := by
  refine wpAny_pyNext_range_item (N.get (.head _)) hl fun h' e k => ?_
  obtain ⟨F', N'⟩ := news_but F N hne e fun b x hb q => (k.2 b hb).trans q
  exact h _ _ _ F' N'
theorem range_end_F {Q : Option Value → Shared → Prop} (hh : A.handled = none) (F : Fr g L s.heap m) (N : News g L s.heap ((I, riObj x left step) :: rest)) (hne : ∀ p ∈ rest, p.1 ≠ I) (hl : left ≤ 0)
    (h : ∀ h', Fr g L h' m → News g L h' rest → Q none { s with heap := h' }) :
    wpAny (model PR w) A (pyNext (.ref I)) Q E s := by
  refine wpAny_pyNext_range_end hh (N.get (.head _)) hl fun h' k => ?_
  have nI := N _ (.head _)
  refine h _ ⟨F.ns.at' fun x q => k _ x (Ne.symm nI.2.1) q, fun b x q => k b x (fun z => by rw [z, nI.2.2] at q; cases q) (F.keep b x q), F.above⟩ fun p hp => ⟨k _ _ (hne p hp) (N p (.tail _ hp)).1, (N p (.tail _ hp)).2⟩
end
local macro_rules | `(tactic| walk_at "go") => `(tactic| repeat' (first | (k_unfold; (try dsimp only)) | walk1 | (dsimp only; walk1)))
local macro_rules | `(tactic| walk_at "call ref") => `(tactic| refine halt ?_)
local macro_rules | `(tactic| walk_at "exec For") => `(tactic| refine halt ?_)
local macro_rules | `(tactic| walk_at "exec For Name Name cons nil") => `(tactic| refine halt ?_)
local macro_rules | `(tactic| walk_at "exec For Name Call cons nil") => `(tactic| refine halt ?_)
local macro_rules | `(tactic| walk_at "pyIter ref") => `(tactic| refine halt ?_)
noncomputable def TxsAre (vs : List Value) (ls : List Tx) : Prop := vs.length = ls.length ∧ ∀ (j : Nat) v x, vs[j]? = some v → ls[j]? = some x → ∃ t, v = Value.str (S x) t
theorem TxsAre.nil : TxsAre [] [] := ⟨rfl, fun j v x e => by simp at e⟩
theorem TxsAre.push {vs : List Value} {ls : List Tx} (T : TxsAre vs ls) (x : Tx) (t : Tok) : TxsAre (vs ++ [.str (S x) t]) (ls ++ [x]) := by
  refine ⟨by simp [T.1], fun j v y e1 e2 => ?_⟩
  by_cases hj : j < vs.length
  · rw [List.getElem?_append_left hj] at e1
    rw [List.getElem?_append_left (by rw [← T.1]; exact hj)] at e2
    exact T.2 j v y e1 e2
  · rw [List.getElem?_append_right (by omega)] at e1
    rw [List.getElem?_append_right (by rw [← T.1]; omega), ← T.1] at e2
    cases q : j - vs.length with
    | zero => rw [q] at e1 e2; cases e1; cases e2; exact ⟨t, rfl⟩
    | succ n => rw [q] at e1; simp at e1
noncomputable def lmR (c : LexC) (W : Addr) (text : Tx) (t : Tok) (tv wv : Option Value) : Str → Option Value := fun y => if y = Str.ofString "turn" then tv else if y = Str.ofString "word" then wv else if y = Str.ofString "lexer" then some (.ref c.x2) else if y = Str.ofString "words" then some (.ref W) else List.lookup y [(Str.ofString "text", .str (S text) t)].reverse
inductive RS (c : LexC) (P : Params) (g : Heap) (L I W : Addr) (text : Tx) (t : Tok) (ps : Array Value) (ks : List (Addr × Obj)) (i : Nat) (ws : List Tx) (rem : Tx) (z : Int) (h : Heap) : Prop
  | mk (tv wv : Option Value) (vs : List Value) (ep : Nat) (un : Tok) (vw : List Value) (ew : Nat) (F : Fr g L h (lmR c W text t tv wv))
    (N : News g L h ((I, riObj i (64 - i) 1) :: (W, PySem.W.listOf vw.toArray ew) :: (c.news P vs ep z un ++ (72, tabObj ps) :: ks))) (T : TxsAre vw ws) (hr : rem = text.drop vs.length) (hv : vs.length ≤ text.length) : RS c P g L I W text t ps ks i ws rem z h
inductive ReadI (s : Shared) (c : LexC) (P : Params) (g : Heap) (I W : Addr) (text : Tx) (t : Tok) (ps : Array Value) (ks : List (Addr × Obj)) (ws : List Tx) (k : Nat) (s' : Shared) : Prop
  | mk (h' : Heap) (tk' i : Nat) (ws1 ws2 : List Tx) (rem : Tx) (z : Int) (e : s' = { s with heap := h', toks := tk' }) (R : RS c P g s.heap.objs.size I W text t ps ks i ws1 rem z h') (hw : readW (64 - i) rem = (ws2, some []))
    (hs : ws = ws1 ++ ws2) (hz : z + (rem.count 10 : Int) = 1 + (text.count 10 : Int)) (hl : ws1.length = i) (hi : i ≤ 64) (hk : k = 64 - i) : ReadI s c P g I W text t ps ks ws k s'
theorem of_allLt {d : Addr} (l : List (Addr × Obj)) (h : AllLt d l) : ∀ p ∈ l, p.1 < d := by
  induction l with
  | nil => intro p hp; cases hp
  | cons a l ih =>
    intro p hp
    rcases List.mem_cons.mp hp with rfl | hp
    · exact h.1
    · exact ih h.2 p hp
theorem lt_news {c : LexC} {P : Params} {vs : List Value} {ep : Nat} {z : Int} {un : Tok} {ps : Array Value} {ks : List (Addr × Obj)} {d : Addr} (h : c.G < d ∧ c.d2 < d ∧ c.x2 < d ∧ c.x1 < d ∧ c.d1 < d ∧ c.l2 < d ∧ 72 < d ∧ AllLt d ks) : ∀ p ∈ c.news P vs ep z un ++ (72, tabObj ps) :: ks, p.1 < d := by
  obtain ⟨h1, h2, h3, h4, h5, h6, h7, h8⟩ := h
  intro p hp
  unfold LexC.news at hp
  simp only [List.cons_append, List.nil_append, List.mem_cons] at hp
  rcases hp with rfl | rfl | rfl | rfl | rfl | rfl | rfl | hp
  · exact h1
  · exact h2
  · exact h3
  · exact h4
  · exact h5
  · exact h6
  · exact h7
  · exact of_allLt ks h8 p hp
theorem not6 {c : LexC} {I W : Addr} {o1 o2 o3 : Obj} {ks : List (Addr × Obj)} (hWI : W < I) (l1 : c.G < W ∧ c.d2 < W ∧ c.x2 < W ∧ c.x1 < W ∧ c.d1 < W ∧ c.l2 < W ∧ 72 < W ∧ AllLt W ks) (n72 : 72 ∉ c.six) (ks6 : ∀ p ∈ ks, p.1 ∉ c.six) :
    ∀ p ∈ [(I, o1), (W, o2)] ++ (72, o3) :: ks, p.1 ∉ c.six := by
  obtain ⟨h1, h2, h3, h4, h5, h6, h7, h8⟩ := l1
  intro p hp
  simp only [List.cons_append, List.nil_append, List.mem_cons] at hp
  rcases hp with rfl | rfl | rfl | hp
  · exact six_not ⟨Nat.lt_trans h1 hWI, Nat.lt_trans h2 hWI, Nat.lt_trans h3 hWI, Nat.lt_trans h4 hWI, Nat.lt_trans h5 hWI, Nat.lt_trans h6 hWI⟩
  · exact six_not ⟨h1, h2, h3, h4, h5, h6⟩
  · exact n72
  · exact ks6 p hp
theorem append_F2 {w : World} {A : Around} {s : Shared} {Q : Value → Shared → Prop} {E : Value → Shared → Prop} {g : Heap} {L W : Addr} {m : Str → Option Value} {a : Addr × Obj} {rest : List (Addr × Obj)} {vw : List Value} {ew : Nat} {x : Value}
    (F : Fr g L s.heap m) (N : News g L s.heap (a :: (W, PySem.W.listOf vw.toArray ew) :: rest)) (ha : a.1 ≠ W) (hr : ∀ p ∈ rest, p.1 ≠ W) (hsz : vw.length ≤ 1000000)
    (h : ∀ h' n, Fr g L h' m → News g L h' (a :: (W, PySem.W.listOf (vw ++ [x]).toArray n) :: rest) → Q .none { s with heap := h' }) :
    wpAny (model PR w) A (call (.builtin "list.append") [.ref W, x]) Q E s := by
  have N' : News g L s.heap ((W, PySem.W.listOf vw.toArray ew) :: a :: rest) := fun p hp => N p (by
    simp only [List.mem_cons] at hp ⊢
    rcases hp with e | e | e
    · exact .inr (.inl e)
    · exact .inl e
    · exact .inr (.inr e))
  refine wpAny_list_append_plain (items := vw.toArray) ⟨_, N.get (.tail _ (.head _))⟩ (fun h' hl hs => ?_) (by rw [List.size_toArray]; exact Nat.le_trans hsz (by decide))
  obtain ⟨n, e⟩ := hl
  obtain ⟨F₁, N₁⟩ := news_but F N' (fun p hp => by
    rcases List.mem_cons.mp hp with rfl | hp
    · exact ha
    · exact hr p hp) (e.trans (by simp : _ = some (PySem.W.listOf (vw ++ [x]).toArray n))) fun b y hb q => (hs.2 b hb).trans q
  refine h h' n F₁ fun p hp => N₁ p (by
    simp only [List.mem_cons] at hp ⊢
    rcases hp with e | e | e
    · exact .inr (.inl e)
    · exact .inl e
    · exact .inr (.inr e))
theorem Rd.mk2 {h : Heap} {T : Addr} {x y : Value} {a b : PyData} (hT : h.IsTuple T #[x, y]) (rx : Rd h x a) (ry : Rd h y b) : Rd h (.ref T) (.tuple [a, b]) :=
  Rd.tuple (vs := [x, y]) hT rfl fun j v d e1 e2 => by
    match j with
    | 0 => simp at e1 e2; subst e1 e2; exact rx
    | 1 => simp at e1 e2; subst e1 e2; exact ry
    | n + 2 => simp at e1
theorem Rd.texts {h : Heap} {W : Addr} {vw : List Value} {ws : List Tx} (hl : h.IsList W vw.toArray) (T : TxsAre vw ws) : Rd h (.ref W) (.list (ws.map fun x => .str (S x))) :=
  Rd.list hl (by simp [T.1]) fun j v d e1 e2 => by
    rw [List.getElem?_map] at e2
    cases q : ws[j]? with
    | none => rw [q] at e2; cases e2
    | some x =>
      rw [q] at e2
      cases e2
      obtain ⟨t, rfl⟩ := T.2 j v x e1 q
      exact Rd.str _ _ _
theorem readW_nil {n : Nat} {r : Tx} (h : (outGo r).1 = []) : readW (n + 1) r = ([], some (outGo r).2) := by simp only [readW, h, if_true]
theorem readW_cons {n : Nat} {r : Tx} (h : (outGo r).1 ≠ []) : readW (n + 1) r = ((outGo r).1 :: (readW n (outGo r).2).1, (readW n (outGo r).2).2) := by simp only [readW, h, if_false]
theorem news_drop1 {g h : Heap} {L : Addr} {a : Addr × Obj} {r : List (Addr × Obj)} (N : News g L h (a :: r)) : News g L h r := fun p hp => N p (.tail _ hp)
theorem news_drop2 {g h : Heap} {L : Addr} {a b : Addr × Obj} {r : List (Addr × Obj)} (N : News g L h (a :: b :: r)) : News g L h (a :: r) := fun p hp => N p (by
  rcases List.mem_cons.mp hp with rfl | hp
  · exact .head _
  · exact .tail _ (.tail _ hp))
section
variable {w : World} {A : Around} {s : Shared} {Q : Value → Shared → Prop} {E : Value → Shared → Prop}
theorem read_law {g : Heap} {ps : Array Value} (H : Held g s.heap [(72, tabObj ps)]) (hps : TabIs g ps) (C : CodeHd g 76 72) (G : Gd w g) (a : At 5 A) (text : Tx) (t : Tok) (htx : text.length ≤ 100000) (ws : List Tx) (hr : readW 64 text = (ws, some []))
    (h : ∀ h' tk T W vw n t' ps', Kp g h' → h'.get? 72 = some (tabObj ps') → TabIs h' ps' → g.get? T = none → g.get? W = none → h'.get? T = some { cls := .type "tuple", data := .seq #[.ref W, .int (1 + (text.count 10 : Int)) t'] } → h'.get? W = some (PySem.W.listOf (vw : List Value).toArray n) → TxsAre vw ws → Q (.ref T) { s with heap := h', toks := tk }) :
    wpAny (model PySem.Challenge.rw_pg0042_01.row.prog w) A (call (.ref 134) [.str (S text) t]) Q E s := by
  have G₀ := G
  obtain ⟨X, loose, mean, mg, mb, T⟩ := G
  revert X
  k_fill
  intro X
  refine a.use ?_
  refine call_g (binds := [(Str.ofString "text", .str (S text) t)]) (cl := []) H T.nolimit (X.keeps H.kp _ _ (by k_is)) rfl (codeRec_of (X.keeps H.kp) (by k_is)) (by decide) (BindsTo.of_eq rfl) (locs rfl) ?_ rfl rfl rfl (by decide)
  intro h₁ F N hlt
  w_on
  walk_at "go"
  refine unhalt (lexer_in F N hps C G₀ (at_of rfl rfl rfl) htx ?_)
  intro c gp h₂ tk₂ un ps₂ ks F₂ N₂ kks ok₂ tab₂ ks6 off6 n72 hsz₂
  clear F N
  unfold LexC.news at N₂
  simp only [List.cons_append, List.nil_append] at N₂
  walk_at "go"
  with_reducible rename Fr _ _ _ _ => F₃
  with_reducible rename News _ _ _ _ => N₃
  rename_i W hA l1 D hB l2 hC hD hE
  refine unhalt ?_
  refine wpAny_For ?_
  walk_at "go"
  with_reducible rename Fr _ _ _ _ => F₄
  with_reducible rename News _ _ _ _ => N₄
  with_reducible rename IsRange _ _ _ _ _ _ _ _ => R₄
  refine unhalt (range_iter_F F₄ N₄ R₄ rfl fun I h₅ F₅ N₅ l5 => ?_)
  have hWI : W < I := l5 _ (.tail _ (.head _))
  clear l5
  have nW : ∀ vs ep z un, ∀ p ∈ (c.news w.params vs ep z un ++ (72, tabObj ps₂) :: ks), p.1 < W := fun vs ep z un => lt_news l1
  have nI : ∀ vs ep z un vw ew, ∀ p ∈ (W, PySem.W.listOf vw ew) :: (c.news w.params vs ep z un ++ (72, tabObj ps₂) :: ks), p.1 < I := fun vs ep z un vw ew p hp => by
    rcases List.mem_cons.mp hp with rfl | hp
    · exact hWI
    · exact Nat.lt_trans (nW vs ep z un p hp) hWI
  have R0 : RS c w.params g s.heap.objs.size I W text t ps₂ ks 0 [] text 1 h₅ := ⟨none, none, [], 0, un, [], 0, fr_cong F₅ (by (intro y; (show _ = (if y = Str.ofString "turn" then _ else if y = Str.ofString "word" then _ else if y = Str.ofString "lexer" then _ else if y = Str.ofString "words" then _ else _)); by_cases e1 : y = Str.ofString "turn"; (subst e1; rfl); by_cases e2 : y = Str.ofString "word"; (subst e2; rfl); simp only [if_neg e1, if_neg e2])), news_drop2 N₅, .nil, rfl, Nat.zero_le _⟩
  clear F₅ N₅ F₄ N₄ R₄
  refine for_loop (ReadI s c w.params g I W text t ps₂ ks ws) ?_ 64
    ⟨_, _, 0, [], ws, text, 1, rfl, R0, hr, rfl, rfl, rfl, by omega, rfl⟩
  clear R0 hr
  rintro k s' ⟨h', tk', i, ws1, ws2, rem, z, rfl, ⟨tv, wv, vs, ep, un', vw, ew, F₆, N₆, hws, rfl, hvs⟩, hrd, hwe, hz, hlen, hi, rfl⟩
  by_cases hi' : i < 64
  · refine range_next_F F₆ N₆ (fun p hp => Nat.ne_of_lt (nI _ _ _ _ _ _ p hp)) (by omega) fun h₇ tk₇ t₇ F₇ N₇ => ?_
    clear F₆ N₆
    unfold lmR at F₇
    unfold LexC.news at N₇
    simp only [List.cons_append, List.nil_append] at N₇
    walk_at "go"
    with_reducible rename Fr _ _ _ _ => F₈
    with_reducible rename News _ _ _ _ => N₈
    refine unhalt ?_
    refine token_in (gp := gp) (c := c) (vs := vs) (ep := ep) (n := z) (un := un') (ex := [(I, riObj (i + 1) (64 - i - 1) 1), (W, PySem.W.listOf vw.toArray ew)]) (rest := (72, tabObj ps₂) :: ks) ok₂ G₀ (at_of rfl rfl rfl) htx F₈ N₈ hvs
      (kks _ F₈.keep fun p hp => N₈.get (by simp only [List.mem_cons]; exact .inr (.inr (.inr (.inr (.inr (.inr (.inr (.inr (.inr hp)))))))))) off6 (not6 (by exact hWI) (by exact l1) n72 ks6) ?_
    intro h₉ tk₉ t₉ vs₉ ep₉ un₉ z₉ F₉ N₉ kp₉ hvs₉ e₉ ez₉
    clear F₈ N₈
    unfold LexC.news at N₉
    simp only [List.cons_append, List.nil_append] at N₉
    k_lt2 hWI
    walk_at "go"
    all_goals (with_reducible rename Fr _ _ _ _ => FA)
    all_goals (with_reducible rename News _ _ _ _ => NA)
    · with_reducible rename (_ == Str.ofString "") = true => hc
      have e0 : (outGo (text.drop vs.length)).1 = [] := by
        have := eq_of_beq hc
        rw [of_lit (s := "") (l := []) rfl, S_iff] at this
        exact this
      obtain ⟨k, hk⟩ : ∃ k, 64 - i = k + 1 := ⟨63 - i, by omega⟩
      rw [hk, readW_nil e0] at hrd
      injection hrd with hrd1 hrd2
      injection hrd2 with hrd2
      subst hrd1
      have ez : z₉ = 1 + (text.count 10 : Int) := by rw [ez₉, hrd2]; simp; exact hz
      rw [ez] at NA
      rw [List.append_nil] at hwe
      subst hwe
      refine h _ _ _ _ _ _ _ ps₂ FA.keep (NA.get ?_) (tabIs_keeps tab₂ (kks _ FA.keep fun p hp => NA.get ?_)) (NA.fresh (.head _)) (NA.fresh (.tail _ (.tail _ (.head _)))) (NA.get (.head _)) (NA.get (.tail _ (.tail _ (.head _)))) hws
      · simp only [List.mem_cons, true_or, or_true]
      · simp only [List.mem_cons]; exact .inr (.inr (.inr (.inr (.inr (.inr (.inr (.inr (.inr (.inr hp)))))))))
    · with_reducible rename (_ == Str.ofString "") = false => hc
      have e0 : (outGo (text.drop vs.length)).1 ≠ [] := by
        intro e
        rw [e, of_lit (s := "") (l := []) rfl] at hc
        simp at hc
      obtain ⟨k, hk⟩ : ∃ k, 64 - i = k + 1 := ⟨63 - i, by omega⟩
      rw [hk, readW_cons e0] at hrd
      injection hrd with hrd1 hrd2
      subst hrd1
      refine append_F2 FA NA (Nat.ne_of_gt hWI) (fun p hp => Nat.ne_of_lt (nW vs₉ ep₉ z₉ un₉ p hp)) (by rw [hws.1, hlen]; omega) fun hB' nB FB NB => ?_
      clear FA NA
      walk_at "go"
      refine turn_next (64 - (i + 1)) (by omega) ⟨_, _, i + 1, _, _, _, z₉, rfl, ⟨_, _, vs₉, ep₉, un₉, _, nB, fr_cong FB (by (intro y; (show _ = (if y = Str.ofString "turn" then _ else if y = Str.ofString "word" then _ else if y = Str.ofString "lexer" then _ else if y = Str.ofString "words" then _ else _)); by_cases e1 : y = Str.ofString "turn"; (subst e1; rfl); by_cases e2 : y = Str.ofString "word"; (subst e2; rfl); simp only [if_neg e1, if_neg e2])), (by rw [Int.natCast_add, ← Int.sub_sub]; exact NB), hws.push _ _, rfl, hvs₉⟩, (by rw [← e₉, show 64 - (i + 1) = k from by omega]; exact Prod.ext rfl hrd2), (by rw [hwe, List.append_assoc]; rfl), (by rw [ez₉, ← e₉]; omega), (by simp [hlen]), by omega, rfl⟩
  · have : i = 64 := by omega
    subst this
    rw [show 64 - 64 = 0 from rfl, readW] at hrd
    cases hrd
end
end Mine

namespace Mine
local macro_rules | `(tactic| walk_at "go") => `(tactic| repeat' (first | (k_unfold; (try dsimp only)) | walk1 | (dsimp only; walk1)))
local macro_rules | `(tactic| walk_at "call ref") => `(tactic| refine halt ?_)
local macro_rules | `(tactic| walk_at "exec For") => `(tactic| refine halt ?_)
local macro_rules | `(tactic| walk_at "exec For Name Name cons nil") => `(tactic| refine halt ?_)
local macro_rules | `(tactic| walk_at "exec For Name Call cons nil") => `(tactic| refine halt ?_)
local macro_rules | `(tactic| walk_at "pyIter ref") => `(tactic| refine halt ?_)
local macro_rules | `(tactic| walk_at "subscriptTail") => `(tactic| ((with_reducible show wpAny _ _ (subscriptTail _ _ (Value.ref _) (Value.int _ _)) _ _ _); with_unfolding_all refine tupAt (by assumption) (by assumption) rfl rfl ?_))
local macro_rules | `(tactic| walk_at "subscriptTail") => `(tactic| ((with_reducible show wpAny _ _ (subscriptTail _ _ (Value.ref _) (Value.int _ _)) _ _ _); refine lastAt (by assumption) (by assumption) ?_))
theorem comL_len (l : Tx) : (comL l).length ≤ l.length + 2 := by
  have : (rstr l).length ≤ l.length := by
    unfold rstr
    rw [List.length_reverse]
    exact Nat.le_trans (List.dropWhile_sublist _).length_le (by rw [List.length_reverse]; exact Nat.le_refl _)
  unfold comL
  split
  · simp
  · simp only [List.length_cons]; omega
noncomputable def lmN (v : Value) (n : Nat) (tn : Tok) (x : Tx) (t : Tok) (tv : Option Value) : Str → Option Value := fun y => if y = Str.ofString "turn" then tv else if y = Str.ofString "text" then some (.str (S x) t) else List.lookup y [(Str.ofString "row", v), (Str.ofString "times", .int n tn)].reverse
noncomputable def comN : Nat → Tx → Tx
  | 0, x => x
  | n + 1, x => comL (comN n x)
theorem comN_len (n : Nat) (x : Tx) : (comN n x).length ≤ x.length + 2 * n := by
  induction n with
  | zero => simp [comN]
  | succ n ih => have := comL_len (comN n x); simp only [comN]; omega
theorem noteT_is {r : List Wd} {z : Wd} {n : Nat} (hn : n = 1 ∨ n = 2) : noteT r z n = comN n (rowT r z ++ tail z.beh) := by
  rcases hn with rfl | rfl <;> rfl
section
variable {w : World} {A : Around} {s : Shared} {Q : Value → Shared → Prop} {E : Value → Shared → Prop}
theorem note_spec (G : Gd w s.heap) (a : At 4 A) (v : Value) (r : List Wd) (z : Wd) (hr : Rd s.heap v (rowD (r ++ [z]))) (hn : r.length ≤ 100) (hok : ∀ x ∈ r ++ [z], WdOk x) (hlen : (rowT r z).length ≤ 5000) (n : Nat) (tn : Tok) (hnn : n = 1 ∨ n = 2)
    (h : ∀ h' tk t', Kp s.heap h' → Q (.str (S (noteT r z n)) t') { s with heap := h', toks := tk }) :
    wpAny (model PySem.Challenge.rw_pg0042_01.row.prog w) A (call (.ref 120) [v, .int n tn]) Q E s := by
  have G₀ := G
  obtain ⟨X, loose, mean, mg, mb, T⟩ := G
  revert X
  k_fill
  intro X
  refine a.use ?_
  refine enter_def (binds := [(Str.ofString "row", v), (Str.ofString "times", .int n tn)]) X T (by k_is) (by k_is) (by decide) (BindsTo.of_eq rfl) (locs rfl) ?_ rfl rfl rfl (by decide)
  intro h₁ F N
  w_on
  walk_at "go"
  refine unhalt ?_
  refine row_spec (by exact G₀.keeps F.keep) (at_of rfl rfl rfl) v r z (by exact hr.keeps F.keep) hn hok ?_
  intro h₂ tk₂ t₂ hk₂
  have F₂ := F.keeps hk₂
  have N₂ := frNil F₂
  clear F N
  obtain ⟨l, vs, rfl, hl, hrs⟩ := hr.list_inv'
  rw [List.map_append] at hrs
  obtain ⟨us, u, rfl, hus, hu⟩ := hrs.snoc_inv
  obtain ⟨Tw, x, y, z', rfl, hTw, _, hy, hz⟩ := Rd.tuple3 hu
  obtain ⟨ty, rfl⟩ := hy.int_inv
  obtain ⟨tz, rfl⟩ := hz.int_inv
  have hle : (S (rowT r z)).length ≤ 5000 := by rw [S_len]; exact hlen
  have hb3 : z.beh = 0 ∨ z.beh = 1 ∨ z.beh = 2 := by have := (hok z (List.mem_append_right _ (.head _))).2.2; omega
  rw [noteT_is hnn] at h
  have htl : (tail z.beh).length ≤ 2 := by unfold tail; split; simp; split <;> simp
  have hlb : (rowT r z ++ tail z.beh).length ≤ 6000 := by rw [List.length_append]; omega
  dsimp only
  refine wpAny_mono (Q := fun v s' => Halt (∃ h' tk t, v = .str (S (tail z.beh)) t ∧ s' = { s with heap := h', toks := tk } ∧ Fr s.heap s.heap.objs.size h' (fun y => List.lookup y [(Str.ofString "row", Value.ref l), (Str.ofString "times", Value.int n tn)].reverse))) ?_ ?_ (fun _ _ e => e)
  · rcases hb3 with e | e | e <;> rw [e] at hTw <;> (try dsimp only) <;> walk_at "go" <;> (with_reducible rename Fr _ _ _ _ => F₃)
    · exact unhalt ⟨_, _, _, by rw [of_lit (s := "") (l := []) rfl, e]; rfl, rfl, F₃⟩
    · exact unhalt ⟨_, _, _, by rw [of_lit (s := " ") (l := [32]) (by decide), e]; rfl, rfl, F₃⟩
    · exact unhalt ⟨_, _, _, by rw [of_lit (s := "\u00a0\t") (l := [160, 9]) (by decide), e]; rfl, rfl, F₃⟩
  rintro v s' ⟨h₃, tk₃, t₃, rfl, rfl, F₅⟩
  clear F₂ N₂
  have N₅ := frNil F₅
  have hlt : (S (tail z.beh)).length ≤ 2 := by rw [S_len]; exact htl
  walk_at "go"
  with_reducible rename Fr _ _ _ _ => F₃
  with_reducible rename News _ _ _ _ => N₃
  rw [S_app] at F₃
  clear hlt
  try clear F₅ N₅
  (
  generalize rowT r z ++ tail z.beh = x0 at *
  have N₄ := frNil F₃
  clear N₃
  refine unhalt ?_
  refine wpAny_For ?_
  walk_at "go"
  with_reducible rename Fr _ _ _ _ => F₄
  with_reducible rename News _ _ _ _ => N₅
  with_reducible rename IsRange _ _ _ _ _ _ _ _ => R₄
  (refine unhalt (range_iter_F F₄ N₅ R₄ (by rcases hnn with rfl | rfl <;> rfl) fun I h₅ F₅ N₆ l5 => ?_))
  (refine for_loop (fun k s' => ∃ h' tk' i t tv, s' = { s with heap := h', toks := tk' } ∧ Fr s.heap s.heap.objs.size h' (lmN (.ref l) n tn (comN i x0) t tv) ∧ News s.heap s.heap.objs.size h' [(I, riObj i (n - i) 1)] ∧ i ≤ n ∧ k = n - i) ?_ n ⟨_, _, 0, _, none, rfl, fr_cong F₅ (by (intro y; (show _ = (if y = Str.ofString "turn" then _ else if y = Str.ofString "text" then _ else _)); by_cases e1 : y = Str.ofString "turn"; (subst e1; rfl); by_cases e2 : y = Str.ofString "text"; (subst e2; rfl); simp only [if_neg e1, if_neg e2])), (by rcases hnn with rfl | rfl <;> exact N₆), Nat.zero_le _, rfl⟩)
  clear F₅ N₆ R₄
  try clear F₄ N₅
  try clear F₃
  try clear N₄
  try clear F₂ N₂
  (rintro k s' ⟨h', tk', i, t, tv, rfl, F₆, N₇, hi, rfl⟩)
  by_cases hi' : i < n
  · refine range_next_F F₆ N₇ (fun p hp => nomatch hp) (by omega) fun h₇ tk₇ t₇ F₇ N₈ => ?_
    clear F₆ N₇
    unfold lmN at F₇
    walk_at "go"
    with_reducible rename Fr _ _ _ _ => F₈
    with_reducible rename News _ _ _ _ => N₉
    refine unhalt ?_
    (refine comment_spec (by exact G₀.keeps F₈.keep) (at_of rfl rfl rfl) _ _ (by have := comN_len i x0; omega) fun h₉ tk₉ t₉ hk₉ => ?_)
    have F₉ := F₈.keeps hk₉
    (have N₁₀ : News s.heap s.heap.objs.size h₉ _ := fun p hp => ⟨hk₉ _ _ (N₉ p hp).1, (N₉ p hp).2⟩)
    clear F₈ N₉
    walk_at "go"
    with_reducible rename Fr _ _ _ _ => FA
    with_reducible rename News _ _ _ _ => NA
    (exact turn_next (n - (i + 1)) (by omega) ⟨_, _, i + 1, _, _, rfl, fr_cong FA (by (intro y; (show _ = (if y = Str.ofString "turn" then _ else if y = Str.ofString "text" then _ else _)); by_cases e1 : y = Str.ofString "turn"; (subst e1; rfl); by_cases e2 : y = Str.ofString "text"; (subst e2; rfl); simp only [if_neg e1, if_neg e2])), (by rw [Int.natCast_add, ← Int.sub_sub]; exact NA), by omega, rfl⟩)
  · refine range_end_F rfl F₆ N₇ (fun p hp => nomatch hp) (by omega) fun h₇ F₇ N₈ => ?_
    clear F₆ N₇
    unfold lmN at F₇
    have hin : i = n := by omega
    subst hin
    walk_at "go"
    exact h _ _ _ F₇.keep)
end
end Mine

namespace Mine
local macro_rules | `(tactic| walk_at "go") => `(tactic| repeat' (first | (k_unfold; (try dsimp only)) | walk1 | (dsimp only; walk1)))
local macro_rules | `(tactic| walk_at "call ref") => `(tactic| refine halt ?_)
theorem endB {Q : Value → Shared → Prop} {b c : Bool} {s : Shared} (e : b = c) (h : Q (.bool c) s) : Q (.bool b) s := e ▸ h
theorem slice_to (l : Tx) (k : Nat) : Txt.slice (S l) none (some (k : Int)) = S (l.take k) := by
  rw [slice_S, S_iff]
  simp only [kms_lo, kms_hi, show ¬ ((k : Int) < 0) by omega, if_false, Int.toNat_natCast, List.drop_zero, Nat.sub_zero]
  by_cases hk : k ≤ l.length
  · rw [Nat.min_eq_left hk]
  · rw [Nat.min_eq_right (by omega), List.take_of_length_le (Nat.le_refl _), List.take_of_length_le (by omega)]
theorem slice_from (l : Tx) (k : Nat) : Txt.slice (S l) (some (k : Int)) none = S (l.drop k) := by
  rw [slice_S, S_iff]
  simp only [kms_lo, kms_hi, show ¬ ((k : Int) < 0) by omega, if_false, Int.toNat_natCast]
  by_cases hk : k ≤ l.length
  · rw [Nat.min_eq_left hk, List.take_of_length_le (by simp)]
  · rw [Nat.min_eq_right (by omega), List.drop_of_length_le (Nat.le_refl _), List.drop_of_length_le (by omega)]; simp
theorem slice_last (pre : Tx) (c : Nat) : Txt.slice (S (pre ++ [c])) (some (-1)) none = S [c] := by
  rw [slice_S, S_iff]
  simp [kms_lo, kms_hi]
section
variable {w : World} {A : Around} {s : Shared} {Q : Value → Shared → Prop} {E : Value → Shared → Prop}
theorem marked_spec (G : Gd w s.heap) (a : At 4 A) (v : Value) (r : List Wd) (z : Wd) (hr : Rd s.heap v (rowD (r ++ [z]))) (hn : r.length ≤ 100) (hok : ∀ x ∈ r ++ [z], WdOk x) (n : Nat) (tn : Tok) (hnn : n = 1 ∨ n = 2) (note : Tx) (t : Tok) (hlen : note.length ≤ 10000)
    (c : Nat) (pre : Tx) (hc : note = pre ++ [c]) (hw : wh c = false) (h1 : (note ++ [32]).take (2 * n) = if n = 1 then [35, 32] else [35, 32, 35, 32]) (h2 : note.drop (2 * n) <+: rowT r z)
    (h : ∀ h' tk, Kp s.heap h' → Q (.bool true) { s with heap := h', toks := tk }) :
    wpAny (model PySem.Challenge.rw_pg0042_01.row.prog w) A (call (.ref 127) [v, .str (S note) t, .int n tn]) Q E s := by
  have G₀ := G
  obtain ⟨X, loose, mean, mg, mb, T⟩ := G
  revert X
  k_fill
  intro X
  refine a.use ?_
  have hl : (S note).length ≤ 10000 := by rw [S_len]; exact hlen
  rcases hnn with rfl | rfl
  · refine enter_def (binds := [(Str.ofString "row", v), (Str.ofString "note", .str (S note) t), (Str.ofString "times", .int 1 tn)]) X T (by k_is) (by k_is) (by decide) (BindsTo.of_eq rfl) (locs rfl) ?_ rfl rfl rfl (by decide)
    intro h₁ F N
    w_on
    walk_at "go"
    · with_reducible rename (_ != _) = true => hq
      exfalso
      rw [of_lit (s := " ") (l := [32]) (by decide), S_app, show (2 * 1 : Int) = ((2 * 1 : Nat) : Int) from rfl, slice_to, h1, show Txt.mul (Str.ofString "# ") 1 = S [35, 32] from by decide +kernel] at hq
      simp at hq
    · with_reducible rename Fr _ _ _ _ => F₂
      subst hc
      rw [slice_last]
      refine unhalt ?_
      refine white_spec (by exact G₀.keeps F₂.keep) (at_of rfl rfl rfl) c _ fun h₃ tk₃ hk₃ => ?_
      rw [hw]
      have F₃ := F₂.keeps hk₃
      have N₃ := frNil F₃
      clear F₂
      walk_at "go"
      with_reducible rename Fr _ _ _ _ => F₄
      refine unhalt ?_
      refine row_spec (by exact G₀.keeps F₄.keep) (at_of rfl rfl rfl) v r z (by exact hr.keeps F₄.keep) hn hok fun h₅ tk₅ t₅ hk₅ => ?_
      have F₅ := F₄.keeps hk₅
      have N₅ := frNil F₅
      clear F₄
      walk_at "go"
      with_reducible rename Fr _ _ _ _ => F₆
      obtain ⟨rest, hrest⟩ := h2
      have eb : Txt.startswith (S (rowT r z)) (Txt.slice (S (pre ++ [c])) (some (2 * 1)) none) = true := by
        rw [show (2 * 1 : Int) = ((2 * 1 : Nat) : Int) from rfl, slice_from, ← hrest, ← S_app]
        exact KT.starts_app _ _
      exact endB (Q := Q) eb (h _ _ F₆.keep)
  · refine enter_def (binds := [(Str.ofString "row", v), (Str.ofString "note", .str (S note) t), (Str.ofString "times", .int 2 tn)]) X T (by k_is) (by k_is) (by decide) (BindsTo.of_eq rfl) (locs rfl) ?_ rfl rfl rfl (by decide)
    intro h₁ F N
    w_on
    walk_at "go"
    · with_reducible rename (_ != _) = true => hq
      exfalso
      rw [of_lit (s := " ") (l := [32]) (by decide), S_app, show (2 * 2 : Int) = ((2 * 2 : Nat) : Int) from rfl, slice_to, h1, show Txt.mul (Str.ofString "# ") 2 = S [35, 32, 35, 32] from by decide +kernel] at hq
      simp at hq
    · with_reducible rename Fr _ _ _ _ => F₂
      subst hc
      rw [slice_last]
      refine unhalt ?_
      refine white_spec (by exact G₀.keeps F₂.keep) (at_of rfl rfl rfl) c _ fun h₃ tk₃ hk₃ => ?_
      rw [hw]
      have F₃ := F₂.keeps hk₃
      have N₃ := frNil F₃
      clear F₂
      walk_at "go"
      with_reducible rename Fr _ _ _ _ => F₄
      refine unhalt ?_
      refine row_spec (by exact G₀.keeps F₄.keep) (at_of rfl rfl rfl) v r z (by exact hr.keeps F₄.keep) hn hok fun h₅ tk₅ t₅ hk₅ => ?_
      have F₅ := F₄.keeps hk₅
      have N₅ := frNil F₅
      clear F₄
      walk_at "go"
      with_reducible rename Fr _ _ _ _ => F₆
      obtain ⟨rest, hrest⟩ := h2
      have eb : Txt.startswith (S (rowT r z)) (Txt.slice (S (pre ++ [c])) (some (2 * 2)) none) = true := by
        rw [show (2 * 2 : Int) = ((2 * 2 : Nat) : Int) from rfl, slice_from, ← hrest, ← S_app]
        exact KT.starts_app _ _
      exact endB (Q := Q) eb (h _ _ F₆.keep)
end
end Mine

namespace Mine
/-- a loop with one way out -/
theorem while_cut {prog : Program} {w : World} {A : Around} {E : Value → Shared → Prop} {Q : Flow → Shared → Prop} {s : Shared} {test : Expr} {body : List Stmt} {env : Env} (Ex : Shared → Prop) (I : Nat → Shared → Prop)
    (turn : ∀ n s, I n s → wpAny (model prog w) A (isTrue test env (eval test env)) (fun b s₂ => if b then wpAny (model prog w) A (execs body env) (TurnQ I n fun f s' => f = .next ∧ Ex s') (fun _ _ => False) s₂ else Ex s₂) (fun _ _ => False) s)
    (n : Nat) (h : I n s) (out : ∀ s', Ex s' → Q .next s') : codeAny (model prog w) A (.whileLoop test body [] env) (fun r s' => match r with | .ok f => Q f s' | .error e => cameBackBy (model prog w) A env E e s') s := by
  refine codeAny_mono (R := fun r s' => match r with | .ok f => f = .next ∧ Ex s' | .error _ => False) (codeAny_whileLoop I (fun n s hI => ?_) n h) fun r s' hr => ?_
  · refine wpAny_mono (turn n s hI) (fun b s₁ h₁ => ?_) fun _ _ e => e.elim
    cases b with
    | false =>
      simp only [Bool.false_eq_true, if_false] at h₁ ⊢
      exact wpAny_execs_nil ⟨rfl, h₁⟩
    | true =>
      simp only [if_true] at h₁ ⊢
      refine wpAny_mono h₁ (fun f s₃ h₃ => ?_) fun _ _ e => e.elim
      cases f with
      | next => exact h₃
      | cont => exact h₃
      | brk => exact ⟨trivial, h₃.2⟩
      | ret v => exact h₃
  · cases r with
    | error e => exact hr.elim
    | ok f => obtain ⟨rfl, e⟩ := hr; exact out _ e
end Mine

namespace Mine
theorem kl_last_app (p : List Value) (y : Value) : kl_last (p ++ [y]) = some (p, y) := by
  induction p with
  | nil => rfl
  | cons a p ih => simp only [List.cons_append, kl_last, ih]
theorem pick_take (us : List Value) (k : Nat) : slicePick us.toArray none (some (k : Int)) none = (us.take k).toArray := by
  rw [kms_pick_eq]
  congr 1
  have hk : ¬ ((k : Int) < 0) := by omega
  simp [kms_pick, kms_lo, kms_hi, hk]
theorem txs_of_got {zs : Array Value} {ls : List Tx} (e : zs.size = ls.length) (g : Got (fun i v => ∃ t, v = Value.str (S (ls.getD i [])) t) zs) : TxsAre zs.toList ls := by
  refine ⟨by simpa using e, fun j v x e1 e2 => ?_⟩
  obtain ⟨t, rfl⟩ := g j v (by simpa using e1)
  refine ⟨t, ?_⟩
  rw [List.getD_eq_getElem?_getD, e2]; rfl
/-- a made list that is known by what it holds alone, laid into the books -/
theorem news_list {g h h' : Heap} {L D : Addr} {m : Str → Option Value} {news : List (Addr × Obj)} {zs : Array Value} (F : Fr g L h m) (N : News g L h news) (k : Kp h h') (hD : h.get? D = none) (hl : h'.IsList D zs) :
    ∃ o, News g L h' ((D, o) :: news) ∧ o.cls = .type "list" ∧ ∃ n, o.data = .seq zs n := by
  obtain ⟨o, ho, hc, n, hd⟩ := hl
  refine ⟨o, fun p hp => ?_, hc, n, hd⟩
  rcases List.mem_cons.mp hp with rfl | hp
  · refine ⟨ho, ?_, ?_⟩
    · rintro rfl
      obtain ⟨oL, _, _, e, _⟩ := F.ns
      rw [hD] at e; cases e
    · cases q : g.get? D with
      | none => rfl
      | some x => rw [F.keep _ _ q] at hD; cases hD
  · exact ⟨k _ _ (N p hp).1, (N p hp).2⟩
theorem news_keeps {g h h' : Heap} {L : Addr} {news : List (Addr × Obj)} (N : News g L h news) (k : Kp h h') : News g L h' news := fun p hp => ⟨k _ _ (N p hp).1, (N p hp).2⟩
/-- what a heap has beyond an elder one -/
noncomputable def fresh (h h' : Heap) : Heap := hideAll h' ((List.range h.objs.size).filter fun b => (h.get? b).isSome)
theorem fresh_get {h h' : Heap} {b : Addr} {o : Obj} (e : h'.get? b = some o) (n : h.get? b = none) : (fresh h h').get? b = some o :=
  hideAll_get _ e fun hm => by have := (List.mem_filter.mp hm).2; rw [n] at this; cases this
theorem fresh_sub {h h' : Heap} {b : Addr} {o : Obj} (e : (fresh h h').get? b = some o) : h'.get? b = some o ∧ h.get? b = none := by
  refine ⟨of_hideAll _ e, ?_⟩
  cases q : h.get? b with
  | none => rfl
  | some x =>
    rw [fresh, hideAll_none _ (List.mem_filter.mpr ⟨List.mem_range.mpr (Heap.lt_size q), by rw [q]; rfl⟩)] at e
    cases e
/-- what a call has made, laid into the books -/
theorem news_more {g h h' : Heap} {L : Addr} {m : Str → Option Value} {news : List (Addr × Obj)} (F : Fr g L h m) (N : News g L h news) (k : Kp h h') : News g L h' (news ++ more h h') := fun p hp => by
  rcases List.mem_append.mp hp with hp | hp
  · exact ⟨k _ _ (N p hp).1, (N p hp).2⟩
  · obtain ⟨h1, h2⟩ := mem_more.mp hp
    refine ⟨h1, ?_, ?_⟩
    · intro z
      obtain ⟨oL, _, _, e, _⟩ := F.ns
      rw [z, e] at h2; cases h2
    · cases q : g.get? p.1 with
      | none => rfl
      | some x => rw [F.keep _ _ q] at h2; cases h2
theorem more_ne {h h' : Heap} {a : Addr} {o : Obj} (e : h.get? a = some o) : ∀ p ∈ more h h', p.1 ≠ a := fun p hp z => by
  have := (mem_more.mp hp).2
  rw [z, e] at this; cases this
theorem kp_fresh {h h' h'' : Heap} (e : ∀ p ∈ more h h', h''.get? p.1 = some p.2) : Kp (fresh h h') h'' := fun b o q => e (b, o) (mem_more.mpr (fresh_sub q))
theorem callArg {prog : Program} {w : World} {A : Around} {E : Value → Shared → Prop} {s : Shared} {Q : Value → Shared → Prop} {f : Value} {x y : Str} {t : Tok} (e : x = y) (h : wpAny (model prog w) A (call f [.str y t]) Q E s) : wpAny (model prog w) A (call f [.str x t]) Q E s := e ▸ h
theorem Rd.mk3 {h : Heap} {T : Addr} {x y z : Value} {a b c : PyData} (hT : h.IsTuple T #[x, y, z]) (rx : Rd h x a) (ry : Rd h y b) (rz : Rd h z c) : Rd h (.ref T) (.tuple [a, b, c]) :=
  Rd.tuple (vs := [x, y, z]) hT rfl fun j v d e1 e2 => by
    match j with
    | 0 => simp at e1 e2; subst e1 e2; exact rx
    | 1 => simp at e1 e2; subst e1 e2; exact ry
    | 2 => simp at e1 e2; subst e1 e2; exact rz
    | n + 3 => simp at e1
theorem Rds.snoc {h : Heap} {vs : List Value} {v : Value} {ds : List PyData} {d : PyData} (r : Rds h vs ds) (q : Rd h v d) : Rds h (vs ++ [v]) (ds ++ [d]) := r.append (.cons q .nil)
section
variable {prog : Program} {w : World} {A : Around} {E : Value → Shared → Prop} {s : Shared} {Q : Value → Shared → Prop} {g : Heap} {L D : Addr} {m : Str → Option Value} {news news' : List (Addr × Obj)} {n : Nat}
theorem pop_U {p : List Value} {y : Value} (F : Fr g L s.heap m) (N : News g L s.heap news) (U : Upd D (listOf (p ++ [y]).toArray n) (listOf p.toArray (n + 1)) news news') (hz : p.length ≤ 1000000)
    (h : ∀ h', Fr g L h' m → News g L h' news' → Q y { s with heap := h' }) : wpAny (model prog w) A (call (.builtin "list.pop") [.ref D]) Q E s :=
  kl_pop F N (kl_last_app p y) U (by simp only [List.length_append, List.length_cons, List.length_nil]; rw [sizeLine_eq]; omega) h
theorem append_U {p : List Value} {y : Value} (F : Fr g L s.heap m) (N : News g L s.heap news) (U : Upd D (listOf p.toArray n) (listOf (p ++ [y]).toArray (n + 1)) news news') (hz : p.length ≤ 1000000)
    (h : ∀ h', Fr g L h' m → News g L h' news' → Q .none { s with heap := h' }) : wpAny (model prog w) A (call (.builtin "list.append") [.ref D, y]) Q E s := by
  obtain ⟨pre, post, rfl, rfl, a, b⟩ := U.split
  have z := N (D, listOf p.toArray n) (List.mem_append.mpr (.inr (.head _)))
  refine wpAny_call_entry slot_list_append ⟨_, z.1, rfl⟩ entry_list_append ?_ (args_list_append _ _)
  show wpAny _ _ (updateSeq D (·.push y) >>= fun _ => ret .none) _ _ s
  refine wpAny_bind ?_
  refine wpAny_updateSeq z.1 rfl (wpAny_pure ⟨.none, rfl, h _ (F.change (Heap.SameBut.update ..) z.2.1 z.2.2) (kl_turn _ N a b ?_ ?_)⟩)
  · simp
  · simp
theorem lastAtH {l : Addr} {value slice : Expr} {us : List Value} {v : Value} {u : Tok} (hL : s.heap.IsList l (us ++ [v]).toArray) (h : Q v s)
    (hs : subscripted slice false (.ref l) (.int (-1) u) = operate [.ref l, .int (-1) u] (getItem (.ref l) (.int (-1) u)) := by with_unfolding_all rfl) :
    wpAny (model prog w) A (subscriptTail value slice (.ref l) (.int (-1) u)) Q E s :=
  tail_any hL.typeIs slot_list_getitem.lookup (wpAny_getItem_list_neg hL (by decide) (by simp; omega) (by decide) (by simp; rw [show (-1 + ((us.length : Int) + 1)).toNat = us.length by omega]; simp) h) hs
end
end Mine

namespace Mine
set_option hygiene false in
local macro_rules | `(tactic| walk_at "go") => `(tactic| repeat' (first | (k_unfold; (try dsimp only)) | walk1 | (dsimp only; walk1) | (refine hN _ ?_; clear hN hR) | (refine hR _ _ (by intro z; cases z) ?_; clear hN hR)))
local macro_rules | `(tactic| walk_at "eval Name") => `(tactic| ((with_reducible show wpAny _ _ (eval _ (compEnvC _ _ _ _)) _ _ _); with_unfolding_all refine cGlob (by assumption) (by assumption) (by assumption) (by k_dflt k_is) ?_))
local macro_rules | `(tactic| walk_at "eval Name") => `(tactic| ((with_reducible show wpAny _ _ (eval _ (compEnvC _ _ _ _)) _ _ _); with_unfolding_all refine cName (by assumption) (by assumption) ?_))
set_option hygiene false in
local macro_rules | `(tactic| walk_at "execs cons") => `(tactic| (first | (k_here; k_gentoks) | (refine execs_abs fun Q' hN hR => ?_)))
set_option hygiene false in
local macro_rules | `(tactic| walk_at "execs cons") => `(tactic| ((with_reducible show wpAny _ _ (execs _ _) (TurnQ _ _ _) _ _); refine absQ fun TQ hTQ => ?_))
local macro_rules | `(tactic| walk_at "call ref") => `(tactic| refine halt ?_)
local macro_rules | `(tactic| walk_at "eval ListComp") => `(tactic| refine halt ?_)
local macro_rules | `(tactic| walk_at "exec For") => `(tactic| refine halt ?_)
local macro_rules | `(tactic| walk_at "exec For Name Name cons nil") => `(tactic| refine halt ?_)
local macro_rules | `(tactic| walk_at "exec For Name Call cons nil") => `(tactic| refine halt ?_)
local macro_rules | `(tactic| walk_at "pyIter ref") => `(tactic| refine halt ?_)
local macro_rules | `(tactic| walk_at "call type:list") => `(tactic| refine halt ?_)
local macro_rules | `(tactic| walk_at "truthy ref") => `(tactic| (refine wpAny_truthy_list (News.isList (by assumption) (.head _)) (by rw [List.size_toArray, List.length_take]; omega) ?_))
local macro_rules | `(tactic| walk_at "exec While") => `(tactic| refine halt ?_)
local macro_rules | `(tactic| walk_at "exec If") => `(tactic| refine halt ?_)
local macro_rules | `(tactic| walk_at "subscriptTail") => `(tactic| ((with_reducible show wpAny _ _ (subscriptTail _ _ (Value.ref _) (Value.int _ _)) _ _ _); refine halt ?_))
local macro_rules | `(tactic| walk_at "call builtin:list.pop") => `(tactic| refine halt ?_)
local macro_rules | `(tactic| walk_at "binaryOp Add ref ref") => `(tactic| refine halt ?_)
local macro_rules | `(tactic| walk_at "call builtin:len") => `(tactic| (refine len_list (isList_keeps (by assumption) (Fr.keep (by assumption))) (by rw [List.size_toArray]; omega) ?_))
theorem down_small : ∀ n : Fin 101, Builtin.Range.small ((n.val : Int) - 1) (-1) (-1) = true ∧ Builtin.Range.rangeSize ((n.val : Int) - 1) (-1) (-1) = n.val := by decide +kernel
noncomputable def lmT (l : Addr) (pv prv kv bv lv lov : Option Value) : Str → Option Value := fun y => if y = Str.ofString "place" then pv else if y = Str.ofString "pairs" then prv else if y = Str.ofString "kind" then kv else if y = Str.ofString "behind" then bv else if y = Str.ofString "left" then lv else if y = Str.ofString "loose" then lov else List.lookup y [(Str.ofString "row", .ref l)].reverse
theorem listAt {M : Program} {w : World} {A : Around} {s : Shared} {Q : Value → Shared → Prop} {E : Value → Shared → Prop} {g : Heap} {L l : Addr} {m : Str → Option Value} {value slice : Expr} {us : List Value} {v : Value} {k : Int} {u : Tok} (F : Fr g L s.heap m) (hl : g.IsList l us.toArray) (h0 : 0 ≤ k) (h1 : k < 2 ^ 63) (hx : us[k.toNat]? = some v) (h : Q v s)
    (hs : subscripted slice false (.ref l) (.int k u) = operate [.ref l, .int k u] (getItem (.ref l) (.int k u)) := by with_unfolding_all rfl) :
    wpAny (model M w) A (subscriptTail value slice (.ref l) (.int k u)) Q E s :=
  have hL := isList_keeps hl F.keep
  tail_any hL.typeIs slot_list_getitem.lookup (wpAny_getItem_list hL h0 h1 (by simpa using hx) h) hs
theorem nil_take {xs : List Value} {n : Nat} (hn : n ≤ xs.length) (h : (xs.take n).toArray.isEmpty = true) : n = 0 := by
  have h1 : (xs.take n).length = 0 := by simpa [List.isEmpty_iff] using congrArg id (show (xs.take n).isEmpty = true from by simpa using h)
  rw [List.length_take] at h1; omega
theorem pos_take {xs : List Value} {n : Nat} (h : (xs.take n).toArray.isEmpty = false) : ∃ k, n = k + 1 := by
  cases n with
  | zero => simp at h
  | succ k => exact ⟨k, rfl⟩
inductive TornO (s : Shared) (l I : Addr) (r : List Wd) (k : Nat) (s' : Shared) : Prop
  | mk (h' : Heap) (tk' : Nat) (pv prv kv bv lv lov : Option Value) (e : s' = { s with heap := h', toks := tk' }) (F : Fr s.heap s.heap.objs.size h' (lmT l pv prv kv bv lv lov))
    (N : News s.heap s.heap.objs.size h' [(I, riObj ((k : Int) - 1) k (-1))]) (hk : k ≤ r.length) (ht : tornR r.reverse = tornR (r.take k).reverse) : TornO s l I r k s'
inductive TornX (s : Shared) (l lx I : Addr) (k : Nat) (x : Wd) (xs : List Value) (D : Addr) (t₇ ty tz : Tok) (s' : Shared) : Prop
  | mk (h' : Heap) (tk' c' : Nat) (lo : Bool) (n : Nat) (e : s' = { s with heap := h', toks := tk' }) (F : Fr s.heap s.heap.objs.size h' (lmT l (some (.int k t₇)) (some (.ref lx)) (some (.int x.kind ty)) (some (.int x.beh tz)) (some (.ref D)) (some (.bool lo))))
    (N : News s.heap s.heap.objs.size h' [(D, PySem.W.listOf (xs.take n).toArray c'), (I, riObj (((k + 1 : Nat) : Int) - 1 + -1) (((k + 1 : Nat) : Int) - 1) (-1))]) (hn : n ≤ xs.length) (hl : left1 x = (x.ps.take n, lo)) : TornX s l lx I k x xs D t₇ ty tz s'
inductive TornW (s : Shared) (l lx I : Addr) (k : Nat) (x : Wd) (xs : List Value) (D : Addr) (t₇ ty tz : Tok) (n : Nat) (s' : Shared) : Prop
  | mk (h' : Heap) (tk' c' : Nat) (lo : Bool) (e : s' = { s with heap := h', toks := tk' }) (F : Fr s.heap s.heap.objs.size h' (lmT l (some (.int k t₇)) (some (.ref lx)) (some (.int x.kind ty)) (some (.int x.beh tz)) (some (.ref D)) (some (.bool lo))))
    (N : News s.heap s.heap.objs.size h' [(D, PySem.W.listOf (xs.take n).toArray c'), (I, riObj (((k + 1 : Nat) : Int) - 1 + -1) (((k + 1 : Nat) : Int) - 1) (-1))]) (hn : n ≤ xs.length) (hk : x.kind = 1 → n = xs.length ∧ lo = false)
    (h0 : lo = false → strip1 x.ps.reverse = strip1 (x.ps.take n).reverse) (h1 : lo = true → strip1 x.ps.reverse = ((x.ps.take n).reverse, true)) : TornW s l lx I k x xs D t₇ ty tz n s'
theorem take_snoc {α : Type} {xs : List α} {n : Nat} (h : n < xs.length) : xs.take (n + 1) = xs.take n ++ [xs[n]] := by
  rw [List.take_add_one, List.getElem?_eq_getElem h]; rfl
theorem left_kind1 {w : Wd} (h : w.kind = 1) : left1 w = (w.ps, false) := by simp [left1, h]
theorem left_kind {w : Wd} (h : w.kind ≠ 1) : left1 w = ((strip1 w.ps.reverse).1.reverse, (strip1 w.ps.reverse).2) := by simp [left1, h]
theorem strip_stop {p : Nat × Bool} {r : List (Nat × Bool)} (h : wh p.1 = false) : strip1 (p :: r) = (p :: r, false) := by simp [strip1, h]
theorem strip_go {p : Nat × Bool} {r : List (Nat × Bool)} (h : wh p.1 = true) : strip1 (p :: r) = if p.2 then (r, true) else strip1 r := by simp [strip1, h]
theorem torn_here {w : Wd} {r : List Wd} (h : w.kind > 0 ∨ (left1 w).1 ≠ [] ∨ (left1 w).2 = true) : tornR (w :: r) = (r.reverse.map (fun v => signs v.ps) ++ [signs (left1 w).1], (left1 w).2) := by simp only [tornR, if_pos h]
theorem torn_past {w : Wd} {r : List Wd} (h : ¬ (w.kind > 0 ∨ (left1 w).1 ≠ [] ∨ (left1 w).2 = true)) : tornR (w :: r) = tornR r := by simp only [tornR, if_neg h]
section
variable {w : World} {A : Around} {s : Shared} {Q : Value → Shared → Prop} {E : Value → Shared → Prop}
theorem torn_spec (G : Gd w s.heap) (a : At 4 A) (v : Value) (r : List Wd) (hr : Rd s.heap v (rowD r)) (hn : r.length ≤ 100) (hok : ∀ x ∈ r, WdOk x)
    (h : ∀ h' tk T W vw n, Kp s.heap h' → s.heap.get? T = none → s.heap.get? W = none → h'.get? T = some { cls := .type "tuple", data := .seq #[.ref W, .bool (tornR r.reverse).2] } → h'.get? W = some (PySem.W.listOf (vw : List Value).toArray n) → TxsAre vw (tornR r.reverse).1 → Q (.ref T) { s with heap := h', toks := tk }) :
    wpAny (model PySem.Challenge.rw_pg0042_01.row.prog w) A (call (.ref 139) [v]) Q E s := by
  have G₀ := G
  obtain ⟨X, loose, mean, mg, mb, T⟩ := G
  revert X
  k_fill
  intro X
  refine a.use ?_
  refine enter_def (binds := [(Str.ofString "row", v)]) X T (by k_is) (by k_is) (by decide) (BindsTo.of_eq rfl) (locs rfl) ?_ rfl rfl rfl (by decide)
  intro h₁ F N
  obtain ⟨l, vs, rfl, hl, hlen, hrs⟩ := hr.list_inv
  have hvl0 : vs.length ≤ 100 := by simp at hlen; omega
  w_on
  walk_at "go"
  refine unhalt ?_
  refine wpAny_For ?_
  walk_at "go"
  with_reducible rename Fr _ _ _ _ => F₄
  with_reducible rename News _ _ _ _ => N₄
  with_reducible rename IsRange _ _ _ _ _ _ _ _ => R₄
  have hvl : vs.length = r.length := by simpa using hlen
  have ea : ((vs.toArray.size : Nat) : Int) - 1 = (r.length : Int) - 1 := by simp [hvl]
  rw [ea] at R₄
  obtain ⟨d1, d2⟩ := down_small ⟨r.length, by omega⟩
  refine unhalt (range_iter_F F₄ N₄ R₄ d1 fun I h₅ F₅ N₅ l5 => ?_)
  rw [d2] at N₅
  refine for_loop (TornO s l I r) ?_ r.length
    ⟨_, _, none, none, none, none, none, none, rfl, fr_cong F₅ (by (intro y; (show _ = (if y = Str.ofString "place" then _ else if y = Str.ofString "pairs" then _ else if y = Str.ofString "kind" then _ else if y = Str.ofString "behind" then _ else if y = Str.ofString "left" then _ else if y = Str.ofString "loose" then _ else _)); by_cases e1 : y = Str.ofString "place"; (subst e1; rfl); by_cases e2 : y = Str.ofString "pairs"; (subst e2; rfl); by_cases e3 : y = Str.ofString "kind"; (subst e3; rfl); by_cases e4 : y = Str.ofString "behind"; (subst e4; rfl); by_cases e5 : y = Str.ofString "left"; (subst e5; rfl); by_cases e6 : y = Str.ofString "loose"; (subst e6; rfl); simp only [if_neg e1, if_neg e2, if_neg e3, if_neg e4, if_neg e5, if_neg e6])), N₅, Nat.le_refl _, by rw [List.take_length]⟩
  clear F₅ N₅ R₄ F₄ N₄
  rintro k s' ⟨h', tk', pv, prv, kv, bv, lv, lov, rfl, F₆, N₆, hk, ht⟩
  cases k with
  | zero =>
    refine range_end_F rfl F₆ N₆ (fun p hp => nomatch hp) (by decide) fun h₇ F₇ N₇ => ?_
    clear F₆ N₆
    unfold lmT at F₇
    walk_at "go"
    with_reducible rename News _ _ _ _ => N₈
    with_reducible rename Fr _ _ _ _ => F₈
    have e0 : tornR r.reverse = ([], false) := by rw [ht]; rfl
    rw [e0] at h
    exact h _ _ _ _ [] _ F₈.keep (N₈.fresh (.head _)) (N₈.fresh (.tail _ (.head _))) (N₈.get (.head _)) (N₈.get (.tail _ (.head _))) TxsAre.nil
  | succ k =>
    refine range_next_F F₆ N₆ (fun p hp => nomatch hp) (by omega) fun h₇ tk₇ t₇ F₇ N₇ => ?_
    clear F₆ N₆
    unfold lmT at F₇
    obtain ⟨u, hu, hrd⟩ := hrs k (wordD r[k]) (by simp [show k < r.length by omega])
    have okk := hok r[k] (List.getElem_mem _)
    have ekk : (((k + 1 : Nat) : Int) - 1) = (k : Int) := by omega
    rw [ekk]
    walk_at "go"
    refine unhalt ?_
    with_reducible rename Fr _ _ _ _ => F₈
    refine listAt F₈ hl (by omega) (by omega) (by simpa using hu) ?_
    obtain ⟨Tw, x, y, z', rfl, hTw, hx, hy, hz⟩ := Rd.tuple3 hrd
    obtain ⟨ty, rfl⟩ := hy.int_inv
    obtain ⟨tz, rfl⟩ := hz.int_inv
    obtain ⟨lx, xs, rfl, hlx, hxl, hxg⟩ := hx.list_inv
    have hxs : xs.length ≤ 1000 := by have := okk.1; simp at hxl; omega
    walk_at "go"
    with_reducible rename Fr _ _ _ _ => F₉
    with_reducible rename News _ _ _ _ => N₉
    refine unhalt ?_
    refine list_copyK F₉ N₉ (isList_keeps hlx F₉.keep) (fun D c h₁₀ F₁₀ N₁₀ l10 => ?_) (by rw [List.size_toArray]; exact Nat.le_trans hxs (by decide))
    clear F₉ N₉
    k_lt l10
    walk_at "go"
    with_reducible rename Fr _ _ _ _ => F₁₁
    with_reducible rename News _ _ _ _ => N₁₁
    have hkl : xs.length = r[k].ps.length := by simpa using hxl
    refine unhalt ?_
    refine wpAny_While ?_
    refine while_cut (fun s' => Halt (TornX s l lx I k r[k] xs D t₇ ty tz s')) (TornW s l lx I k r[k] xs D t₇ ty tz) ?_ xs.length
      ⟨_, _, c, false, rfl, fr_cong F₁₁ (by (intro y; (show _ = (if y = Str.ofString "place" then _ else if y = Str.ofString "pairs" then _ else if y = Str.ofString "kind" then _ else if y = Str.ofString "behind" then _ else if y = Str.ofString "left" then _ else if y = Str.ofString "loose" then _ else _)); by_cases e1 : y = Str.ofString "place"; (subst e1; rfl); by_cases e2 : y = Str.ofString "pairs"; (subst e2; rfl); by_cases e3 : y = Str.ofString "kind"; (subst e3; rfl); by_cases e4 : y = Str.ofString "behind"; (subst e4; rfl); by_cases e5 : y = Str.ofString "left"; (subst e5; rfl); by_cases e6 : y = Str.ofString "loose"; (subst e6; rfl); simp only [if_neg e1, if_neg e2, if_neg e3, if_neg e4, if_neg e5, if_neg e6])), (by rw [List.take_length]; exact news_drop1 N₁₁), Nat.le_refl _, fun _ => ⟨rfl, rfl⟩, fun _ => by rw [hkl, List.take_length], fun q => by cases q⟩ ?_
    · clear F₁₁ N₁₁
      rintro n s' ⟨h', tk', c', lo, rfl, F₁₂, N₁₂, hnx, hk1, hlo, hhi⟩
      unfold lmT at F₁₂
      walk_at "go"
      · with_reducible rename Fr _ _ _ _ => FB
        with_reducible rename News _ _ _ _ => NB
        have hn0 : n = 0 := nil_take hnx (by assumption)
        subst hn0
        have hk0 : r[k].kind ≠ 1 := by omega
        refine unhalt ⟨_, _, _, _, 0, rfl, fr_cong FB (by (intro y; (show _ = (if y = Str.ofString "place" then _ else if y = Str.ofString "pairs" then _ else if y = Str.ofString "kind" then _ else if y = Str.ofString "behind" then _ else if y = Str.ofString "left" then _ else if y = Str.ofString "loose" then _ else _)); by_cases e1 : y = Str.ofString "place"; (subst e1; rfl); by_cases e2 : y = Str.ofString "pairs"; (subst e2; rfl); by_cases e3 : y = Str.ofString "kind"; (subst e3; rfl); by_cases e4 : y = Str.ofString "behind"; (subst e4; rfl); by_cases e5 : y = Str.ofString "left"; (subst e5; rfl); by_cases e6 : y = Str.ofString "loose"; (subst e6; rfl); simp only [if_neg e1, if_neg e2, if_neg e3, if_neg e4, if_neg e5, if_neg e6])), NB, Nat.zero_le _, ?_⟩
        rw [left_kind hk0]
        cases lo
        · rw [hlo rfl]; rfl
        · rw [hhi rfl]; rfl
      · with_reducible rename Fr _ _ _ _ => FB
        with_reducible rename News _ _ _ _ => NB
        with_reducible rename lo = true => hl1
        subst hl1
        have hk0 : r[k].kind ≠ 1 := by omega
        refine unhalt ⟨_, _, _, _, n, rfl, fr_cong FB (by (intro y; (show _ = (if y = Str.ofString "place" then _ else if y = Str.ofString "pairs" then _ else if y = Str.ofString "kind" then _ else if y = Str.ofString "behind" then _ else if y = Str.ofString "left" then _ else if y = Str.ofString "loose" then _ else _)); by_cases e1 : y = Str.ofString "place"; (subst e1; rfl); by_cases e2 : y = Str.ofString "pairs"; (subst e2; rfl); by_cases e3 : y = Str.ofString "kind"; (subst e3; rfl); by_cases e4 : y = Str.ofString "behind"; (subst e4; rfl); by_cases e5 : y = Str.ofString "left"; (subst e5; rfl); by_cases e6 : y = Str.ofString "loose"; (subst e6; rfl); simp only [if_neg e1, if_neg e2, if_neg e3, if_neg e4, if_neg e5, if_neg e6])), NB, hnx, ?_⟩
        rw [left_kind hk0, hhi rfl]; simp
      · with_reducible rename Fr _ _ _ _ => FB
        with_reducible rename News _ _ _ _ => NB
        with_reducible rename lo = false => hl0
        subst hl0
        have hk0 : r[k].kind ≠ 1 := by omega
        clear hhi
        obtain ⟨n, rfl⟩ := pos_take (by assumption)
        have hm : n < r[k].ps.length := by omega
        obtain ⟨u, hu', hrd'⟩ := hxg n (pairD r[k].ps[n]) (by simp [hm])
        have hm' : n < xs.length := hnx
        have eu : xs[n] = u := by rw [List.getElem?_eq_getElem hm'] at hu'; exact Option.some.inj hu'
        rw [take_snoc hm', eu] at NB
        refine unhalt (lastAtH (NB.isList (.head _)) ?_)
        obtain ⟨Tp, y1, y2, rfl, hTp, hy1, hy2⟩ := Rd.tuple2 hrd'
        obtain ⟨t1, rfl⟩ := hy1.str_inv
        have hy2 := hy2.bool_inv
        subst hy2
        walk_at "go"
        refine unhalt ?_
        refine tupAt FB hTp rfl rfl ?_
        walk_at "go"
        refine unhalt ?_
        refine white_spec (by exact G₀.keeps FB.keep) (at_of rfl rfl rfl) _ _ fun hC tkC hkC => ?_
        have FC := FB.keeps hkC
        have NC := news_keeps NB hkC
        clear FB NB
        have nDI : D ≠ I := Ne.symm (Nat.ne_of_lt l10)
        cases hwh : wh r[k].ps[n].1
        · walk_at "go"
          with_reducible rename Fr _ _ _ _ => FD
          with_reducible rename News _ _ _ _ => ND
          rw [← eu, ← take_snoc hm'] at ND
          refine unhalt ⟨_, _, _, _, n + 1, rfl, fr_cong FD (by (intro y; (show _ = (if y = Str.ofString "place" then _ else if y = Str.ofString "pairs" then _ else if y = Str.ofString "kind" then _ else if y = Str.ofString "behind" then _ else if y = Str.ofString "left" then _ else if y = Str.ofString "loose" then _ else _)); by_cases e1 : y = Str.ofString "place"; (subst e1; rfl); by_cases e2 : y = Str.ofString "pairs"; (subst e2; rfl); by_cases e3 : y = Str.ofString "kind"; (subst e3; rfl); by_cases e4 : y = Str.ofString "behind"; (subst e4; rfl); by_cases e5 : y = Str.ofString "left"; (subst e5; rfl); by_cases e6 : y = Str.ofString "loose"; (subst e6; rfl); simp only [if_neg e1, if_neg e2, if_neg e3, if_neg e4, if_neg e5, if_neg e6])), ND, hnx, ?_⟩
          rw [left_kind hk0, hlo rfl, take_snoc hm, List.reverse_append]
          rw [show [r[k].ps[n]].reverse = [r[k].ps[n]] from rfl, List.singleton_append, strip_stop hwh]
          simp
        · walk_at "go"
          with_reducible rename Fr _ _ _ _ => FD
          with_reducible rename News _ _ _ _ => ND
          refine unhalt (pop_U FD ND (.head (fun p hp => by cases hp with | head => exact Ne.symm nDI | tail _ q => cases q)) (by rw [List.length_take]; omega) fun hE FE NE => ?_)
          clear FD ND
          walk_at "go"
          with_reducible rename Fr _ _ _ _ => FG
          with_reducible rename News _ _ _ _ => NG
          have es : strip1 r[k].ps.reverse = if r[k].ps[n].2 then ((r[k].ps.take n).reverse, true) else strip1 (r[k].ps.take n).reverse := by
            rw [hlo rfl, take_snoc hm, List.reverse_append, show [r[k].ps[n]].reverse = [r[k].ps[n]] from rfl, List.singleton_append, strip_go hwh]
          exact tq_next hTQ n (Nat.lt_succ_self n) ⟨_, _, _, r[k].ps[n].2, rfl, fr_cong FG (by (intro y; (show _ = (if y = Str.ofString "place" then _ else if y = Str.ofString "pairs" then _ else if y = Str.ofString "kind" then _ else if y = Str.ofString "behind" then _ else if y = Str.ofString "left" then _ else if y = Str.ofString "loose" then _ else _)); by_cases e1 : y = Str.ofString "place"; (subst e1; rfl); by_cases e2 : y = Str.ofString "pairs"; (subst e2; rfl); by_cases e3 : y = Str.ofString "kind"; (subst e3; rfl); by_cases e4 : y = Str.ofString "behind"; (subst e4; rfl); by_cases e5 : y = Str.ofString "left"; (subst e5; rfl); by_cases e6 : y = Str.ofString "loose"; (subst e6; rfl); simp only [if_neg e1, if_neg e2, if_neg e3, if_neg e4, if_neg e5, if_neg e6])), NG, by omega, fun q => absurd q hk0, fun q => by rw [es, q]; rfl, fun q => by rw [es, q]; rfl⟩
      · with_reducible rename Fr _ _ _ _ => FB
        with_reducible rename News _ _ _ _ => NB
        have hk0 : r[k].kind = 1 := by omega
        obtain ⟨rfl, rfl⟩ := hk1 hk0
        refine unhalt ⟨_, _, _, _, _, rfl, fr_cong FB (by (intro y; (show _ = (if y = Str.ofString "place" then _ else if y = Str.ofString "pairs" then _ else if y = Str.ofString "kind" then _ else if y = Str.ofString "behind" then _ else if y = Str.ofString "left" then _ else if y = Str.ofString "loose" then _ else _)); by_cases e1 : y = Str.ofString "place"; (subst e1; rfl); by_cases e2 : y = Str.ofString "pairs"; (subst e2; rfl); by_cases e3 : y = Str.ofString "kind"; (subst e3; rfl); by_cases e4 : y = Str.ofString "behind"; (subst e4; rfl); by_cases e5 : y = Str.ofString "left"; (subst e5; rfl); by_cases e6 : y = Str.ofString "loose"; (subst e6; rfl); simp only [if_neg e1, if_neg e2, if_neg e3, if_neg e4, if_neg e5, if_neg e6])), NB, Nat.le_refl _, ?_⟩
        rw [left_kind1 hk0, hkl, List.take_length]
    · clear F₁₁ N₁₁
      rintro s' ⟨h', tk', c', lo, n, rfl, F₁₂, N₁₂, hnx, hleft⟩
      unfold lmT at F₁₂
      walk_at "go"
      have hls : (left1 r[k]).1 ≠ [] ↔ n ≠ 0 := by
        rw [hleft]; constructor
        · rintro q rfl; exact q rfl
        · intro q z
          have z := congrArg List.length z
          rw [List.length_take] at z; simp only [List.length_nil] at z; omega
      refine unhalt (wpAny_If ?_)
      refine wpAny_mono (Q := fun b s' => ∃ tk, s' = { s with heap := h', toks := tk } ∧ (b = true ↔ (r[k].kind > 0 ∨ (left1 r[k]).1 ≠ [] ∨ (left1 r[k]).2 = true))) ?_ ?_ fun _ _ e => e
      · walk_at "go"
        · exact ⟨fun _ => .inl (by omega), fun _ => rfl⟩
        · refine ⟨fun _ => .inr (.inr ?_), fun _ => rfl⟩
          rw [hleft]; assumption
        · refine ⟨(fun q => nomatch q), fun q => ?_⟩
          rw [hls, hleft] at q
          rcases q with q | q | q
          · omega
          · exact absurd (nil_take hnx (by assumption)) q
          · exact Bool.noConfusion (q.symm.trans (by assumption : lo = false))
        · refine ⟨fun _ => .inr (.inl (hls.mpr fun z => ?_)), fun _ => rfl⟩
          obtain ⟨j, hj⟩ := pos_take (xs := xs) (n := n) (by assumption)
          rw [z] at hj; cases hj
      · rintro b s' ⟨tk, rfl, hb⟩
        cases b with
        | true =>
          have hor := hb.mp rfl
          simp only [if_true]
          walk_at "go"
          (
  clear hxs
  (refine unhalt ?_)
  (refine comp_list (cl := []) (fun i v => ∃ t, v = Value.str (S (((r.take k).map (fun v => signs v.ps)).getD i [])) t) rfl rfl (by decide) rfl (by decide) rfl ?_)
  walk_at "go"
  with_reducible rename Fr _ _ _ _ => FC
  with_reducible rename News _ _ _ _ => NC
  rw [pick_take] at NC
  have hvk : (vs.take k).length = k := by rw [List.length_take]; omega
  refine unhalt ⟨_, vs.take k, rfl, NC.isList (.head _), (by rw [sizeLine_eq, hvk]; omega), ?_, ?_⟩
  · intro C i v s₃ m₃ g E' hv F' N' hg hx
    have hi : i < k := by rw [← hvk]; exact (List.getElem?_eq_some_iff.mp hv).1
    have hir : i < r.length := by omega
    obtain ⟨v', hv', hrd'⟩ := hrs i (wordD r[i]) (by simp [hir])
    have ev : v' = v := by
      rw [List.getElem?_take_of_lt hi] at hv
      exact Option.some.inj (hv'.symm.trans hv)
    subst ev
    have e0 : ((r.take k).map (fun v => signs v.ps)).getD i [] = signs r[i].ps := by simp [hi, hir]
    rw [e0]
    have oki := hok r[i] (List.getElem_mem _)
    have hgk : Kp s.heap g := Kp.trans FC.keep hg
    clear FC NC
    have X₁ := X.keeps hgk
    have T₁ := T.keeps hgk
    obtain ⟨Tw', x', y', z'', rfl, hTw', hx', _, _⟩ := Rd.tuple3 (hrd'.keeps hgk)
    walk_at "go"
    refine unhalt (tupAt F' hTw' rfl rfl ?_)
    walk_at "go"
    refine unhalt ?_
    (refine signs_spec (by exact G₀.keeps (Kp.trans hgk F'.keep)) (at_of rfl rfl rfl) _ r[i].ps (by exact hx'.keeps F'.keep) oki.1 fun h₄ tk₄ t₄ hk₄ => ?_)
    exact ⟨⟨_, rfl⟩, _, _, rfl, F'.keeps hk₄⟩
  · intro DC h'C tkC zs hDC hlC hszC hGC hkC
    obtain ⟨oC, N₁₄, hcC, nC, hdC⟩ := news_list FC NC hkC hDC hlC
    have F₁₄ := FC.keeps hkC
    clear FC NC
    walk_at "go"
    with_reducible rename Fr _ _ _ _ => FE
    with_reducible rename News _ _ _ _ => NE
    refine unhalt ?_
    have hlD := NE.isList (.tail _ (.tail _ (.head _)))
    (refine signs_spec (by exact G₀.keeps FE.keep) (at_of rfl rfl rfl) _ (r[k].ps.take n) (Rd.list (by exact hlD) (by rw [List.length_map, List.length_take, List.length_take, hkl]) fun j v d e1 e2 => ?_) (by rw [List.length_take]; have := okk.1; omega) fun h₅ tk₅ t₅ hk₅ => ?_)
    · rw [List.map_take] at e2
      have hjn : j < n := by
        have := (List.getElem?_eq_some_iff.mp e1).1
        rw [List.length_take] at this; omega
      rw [List.getElem?_take_of_lt hjn] at e1 e2
      obtain ⟨u, e3, e4⟩ := hxg j d e2
      rw [e1] at e3
      cases e3
      exact e4.keeps FE.keep
    · have FF := FE.keeps hk₅
      have NF := news_keeps NE hk₅
      clear FE NE hlD
      walk_at "go"
      with_reducible rename Fr _ _ _ _ => FG
      with_reducible rename News _ _ _ _ => NG
      refine unhalt (add_lists (vs := zs.toList) (ws := [_]) FG NG ⟨oC, NG.get (.tail _ (.head _)), hcC, nC, by simpa using hdC⟩ (NG.isList (.head _)) (fun h₆ F₆ N₆ => ?_) (by rw [Array.length_toList, hszC, hvk, sizeLine_eq]; simp; omega))
      clear FG NG
      walk_at "go"
      with_reducible rename Fr _ _ _ _ => FH
      with_reducible rename News _ _ _ _ => NH
      have ht2 : tornR r.reverse = ((r.take k).map (fun v => signs v.ps) ++ [signs (r[k].ps.take n)], lo) := by
        rw [ht, take_snoc hk, List.reverse_append, show [r[k]].reverse = [r[k]] from rfl, List.singleton_append, torn_here hor, hleft, List.reverse_reverse]
      rw [ht2] at h
      refine tq_ret hTQ (hR _ _ (by intro z; cases z) (h _ _ _ _ _ _ FH.keep (NH.fresh (.head _)) (NH.fresh (.tail _ (.head _))) (NH.get (.head _)) (NH.get (.tail _ (.head _))) ((txs_of_got (by rw [hszC, hvk]; simp; omega) hGC).push _ _))))
        | false =>
          have hor : ¬ _ := fun q => nomatch hb.mpr q
          simp only [Bool.false_eq_true, if_false]
          walk_at "go"
          have hn0 : n = 0 := Classical.byContradiction fun q => hor (.inr (.inl (hls.mpr q)))
          have hl0 : lo = false := by
            cases lo with
            | false => rfl
            | true => exact absurd (.inr (.inr (by rw [hleft]))) hor
          subst hn0
          subst hl0
          have hp := torn_past (w := r[k]) (r := (r.take k).reverse) hor
          refine tq_next hTQ k (Nat.lt_succ_self k) ⟨_, _, _, _, _, _, _, _, rfl, fr_cong F₁₂ (by (intro y; (show _ = (if y = Str.ofString "place" then _ else if y = Str.ofString "pairs" then _ else if y = Str.ofString "kind" then _ else if y = Str.ofString "behind" then _ else if y = Str.ofString "left" then _ else if y = Str.ofString "loose" then _ else _)); by_cases e1 : y = Str.ofString "place"; (subst e1; rfl); by_cases e2 : y = Str.ofString "pairs"; (subst e2; rfl); by_cases e3 : y = Str.ofString "kind"; (subst e3; rfl); by_cases e4 : y = Str.ofString "behind"; (subst e4; rfl); by_cases e5 : y = Str.ofString "left"; (subst e5; rfl); by_cases e6 : y = Str.ofString "loose"; (subst e6; rfl); simp only [if_neg e1, if_neg e2, if_neg e3, if_neg e4, if_neg e5, if_neg e6])), ?_, by omega, ?_⟩
          · have e1 : ((k + 1 : Nat) : Int) - 1 = k := by omega
            rw [e1] at N₁₂
            exact news_drop1 N₁₂
          · rw [ht, take_snoc hk, List.reverse_append]; exact hp
end
end Mine

namespace Mine
theorem for_loop2 {prog : Program} {w : World} {A : Around} {E : Value → Shared → Prop} {Q : Flow → Shared → Prop} {s : Shared} {a b : Str} {pa pb tp : Pos} {k : Nat} {it : Value} {body : List Stmt} {env : Env} (I : Nat → Shared → Prop)
    (turn : ∀ n s, I n s → wpAny (model prog w) A (pyNext it) (fun r s₁ => match r with
      | none => Q .next s₁
      | some v => wpAny (model prog w) A (letOwnedTupleGo (Tg.two a b pa pb tp k).expr it v) (fun _ s₂ => wpAny (model prog w) A (assign (Tg.two a b pa pb tp k).expr env v) (fun _ s₃ => wpAny (model prog w) A (execs body env) (TurnQ I n Q) (fun _ _ => False) s₃) (fun _ _ => False) s₂) (fun _ _ => False) s₁) (fun _ _ => False) s)
    (n : Nat) (h : I n s) : codeAny (model prog w) A (.forLoop (.Tuple [.Name a pa, .Name b pb] k tp) it body [] env) (fun r s' => match r with | .ok f => Q f s' | .error e => cameBackBy (model prog w) A env E e s') s := by
  refine codeAny_forLoop_any I (fun n s hI => ?_) n h
  refine wpAny_mono (turn n s hI) (fun r s₁ h₁ => ?_) fun _ _ e => e.elim
  cases r with
  | none => exact wpAny_execs_nil h₁
  | some v =>
    refine wpAny_mono h₁ (fun _ s₂ h₂ => wpAny_mono h₂ (fun _ s₃ h₃ => wpAny_mono h₃ (fun f s₄ h₄ => ?_) fun _ _ e => e.elim) fun _ _ e => e.elim) fun _ _ e => e.elim
    cases f <;> exact h₄
noncomputable def enumP (P : Nat → Value → Prop) (a b : Str) (i : Nat) (m m' : Str → Option Value) : Prop := ∃ t y, P i y ∧ m' = fun z => if z = b then some y else if z = a then some (.int i t) else m z
theorem Src.mono {prog : Program} {w : World} {A : Around} {I : Addr} {t : Tg} {fp wr : List Addr} {n : Nat} {Pm Pm' : Nat → (Str → Option Value) → (Str → Option Value) → Prop} {St : Nat → Heap → Prop} (W : Src prog w A I t fp wr n Pm St) (h : ∀ i m m', Pm i m m' → Pm' i m m') : Src prog w A I t fp wr n Pm' St where
  sub := W.sub
  frame := W.frame
  turn := fun env i s m Q E ht hL hi st hn hQ => W.turn env i s m Q E ht hL hi st hn fun h' tk m' st' hn' hp => hQ h' tk m' st' hn' (h _ _ _ hp)
  done := W.done
  self := W.self
/-- an enumerate under way, over an iterator it -/
structure EnumW (prog : Program) (w : World) (A : Around) (g : Heap) (e it : Addr) (n : Nat) (P : Nat → Value → Prop) (St : Nat → Heap → Prop) : Prop where
  src : ∃ fp, (∀ a b pa pb tp k, Src prog w A e (.two a b pa pb tp k) fp [e, it] n (fun i m m' => enumP P a b i m m') St) ∧ ∀ c ∈ fp, c = e ∨ c = it ∨ ∃ o, g.get? c = some o
  live : ∀ i h, St i h → (∃ o, h.get? e = some o) ∧ ∃ o, h.get? it = some o
theorem EnumW.of {prog : Program} {w : World} {A : Around} (hh : A.handled = none) {g : Heap} {it : Addr} {fp : List Addr} {n : Nat} {P : Nat → Value → Prop} {St : Nat → Heap → Prop} (D : Draws prog w A.in1 it fp n P St) (e : Addr) (hei : e ≠ it) (hef : e ∉ fp) (hif : it ∈ fp) (hfp : ∀ c ∈ fp, c = it ∨ ∃ o, g.get? c = some o) :
    EnumW prog w A g e it n P (fun i h => (∃ old, IsEnum h e it i old) ∧ St i h) := by
  refine ⟨⟨_, fun a b pa pb tp k => Src.mono (Src.pairs (WalksT.enumerateD D e hei hef hif).toU hh (fun i vs q => ?_)) (fun i m m' q => ?_), fun c hc => ?_⟩, fun i h st => ?_⟩
  · obtain ⟨t, x, _, rfl⟩ := q
    exact ⟨_, _, rfl⟩
  · obtain ⟨x, y, ⟨t, y', hP, q⟩, rfl⟩ := q
    have e0 : [x, y] = [Value.int i t, y'] := congrArg Array.toList q
    have e1 : x = Value.int i t := by injection e0
    have e2 : y = y' := by injection e0 with _ q; injection q
    subst e1 e2
    exact ⟨t, y, hP, rfl⟩
  · rcases List.mem_cons.mp hc with rfl | hc
    · exact .inl rfl
    · exact .inr (hfp c hc)
  · obtain ⟨⟨old, he⟩, hs⟩ := st
    exact ⟨⟨_, he⟩, D.live _ _ hs⟩
section
variable {prog : Program} {w : World} {A : Around} {E : Value → Shared → Prop} {s : Shared} {g : Heap} {L e it : Addr} {m : Str → Option Value} {oe oi : Obj} {rest : List (Addr × Obj)} {n i : Nat} {P : Nat → Value → Prop} {St : Nat → Heap → Prop} {env : Env}
noncomputable def Stb (g : Heap) (e it : Addr) (oe oi : Obj) (St : Heap → Prop) : Prop := ∀ h, Kp g h → h.get? e = some oe → h.get? it = some oi → St h
theorem EnumW.next (W : EnumW prog w A g e it n P St) {a b : Str} {pa pb tp : Pos} {k : Nat} {Q : Unit → Shared → Prop} {Rn : Shared → Prop} (hL : env.locals = L) (ht : (Tg.two a b pa pb tp k).Ok env) (F : Fr g L s.heap m) (N : News g L s.heap ((e, oe) :: (it, oi) :: rest)) (hr : ∀ p ∈ rest, p.1 ≠ e ∧ p.1 ≠ it) (hi : i < n) (st : Stb g e it oe oi (St i))
    (hQ : ∀ h' tk t y oe' oi', P i y → Fr g L h' (fun z => if z = b then some y else if z = a then some (.int i t) else m z) → News g L h' ((e, oe') :: (it, oi') :: rest) → Stb g e it oe' oi' (St (i + 1)) → Q () { s with heap := h', toks := tk }) :
    wpAny (model prog w) A (pyNext (.ref e)) (fun r s₁ => match r with
      | none => Rn s₁
      | some v => wpAny (model prog w) A (letOwnedTupleGo (Tg.two a b pa pb tp k).expr (.ref e) v) (fun _ s₂ => wpAny (model prog w) A (assign (Tg.two a b pa pb tp k).expr env v) Q E s₂) E s₁) E s := by
  subst hL
  obtain ⟨fp, hS, hfp⟩ := W.src
  have He := N _ (.head _)
  have Hi := N _ (.tail _ (.head _))
  have gL : g.get? env.locals = none := by
    cases q : g.get? env.locals with
    | none => rfl
    | some o => exact absurd (Heap.lt_size q) (Nat.not_lt.mpr F.above)
  have hLf : env.locals ∉ fp := fun hm => by
    rcases hfp _ hm with q | q | ⟨o, q⟩
    · exact He.2.1 q.symm
    · exact Hi.2.1 q.symm
    · rw [gL] at q; cases q
  refine (hS a b pa pb tp k).step ht hLf hi (st _ F.keep He.1 Hi.1) F.ns fun h' tk m' st' hn' hP hk => ?_
  obtain ⟨t, y, hPy, rfl⟩ := hP
  obtain ⟨⟨oe', he'⟩, oi', hi'⟩ := W.live _ _ st'
  have nw : ∀ c o, g.get? c = some o → c ∉ [e, it] := fun c o q hm => by
    simp only [List.mem_cons, List.not_mem_nil, or_false] at hm
    rcases hm with rfl | rfl
    · rw [He.2.2] at q; cases q
    · rw [Hi.2.2] at q; cases q
  have kp : Kp g h' := fun c o q => hk c o (nw c o q) (fun z => by rw [z, gL] at q; cases q) (F.keep c o q)
  refine hQ h' tk t y oe' oi' hPy ⟨hn', kp, F.above⟩ (fun p hp => ?_) (fun h'' k'' q1 q2 => ?_)
  · rcases List.mem_cons.mp hp with rfl | hp
    · exact ⟨he', He.2⟩
    rcases List.mem_cons.mp hp with rfl | hp
    · exact ⟨hi', Hi.2⟩
    · have Np := N p (.tail _ (.tail _ hp))
      refine ⟨hk _ _ (fun hm => ?_) Np.2.1 Np.1, Np.2⟩
      simp only [List.mem_cons, List.not_mem_nil, or_false] at hm
      rcases hm with q | q
      · exact (hr p hp).1 q
      · exact (hr p hp).2 q
  · refine (hS a b pa pb tp k).frame _ _ _ st' fun c hc o q => ?_
    rcases hfp c hc with rfl | rfl | ⟨o', q'⟩
    · rw [he'] at q; cases q; exact q1
    · rw [hi'] at q; cases q; exact q2
    · rw [kp _ _ q'] at q; cases q; exact k'' _ _ q'
theorem EnumW.stop (W : EnumW prog w A g e it n P St) {Q : Option Value → Shared → Prop} (F : Fr g L s.heap m) (N : News g L s.heap ((e, oe) :: (it, oi) :: rest)) (hr : ∀ p ∈ rest, p.1 ≠ e ∧ p.1 ≠ it) (st : Stb g e it oe oi (St n))
    (hQ : ∀ h' tk, Fr g L h' m → News g L h' rest → Q none { s with heap := h', toks := tk }) : wpAny (model prog w) A (pyNext (.ref e)) Q E s := by
  obtain ⟨fp, hS, hfp⟩ := W.src
  have He := N _ (.head _)
  have Hi := N _ (.tail _ (.head _))
  refine (hS "" "" ⟨0, 0, 0, 0⟩ ⟨0, 0, 0, 0⟩ ⟨0, 0, 0, 0⟩ 0).done _ _ _ (st _ F.keep He.1 Hi.1) fun h' tk hk => ?_
  refine hQ h' tk ⟨F.ns.at' fun o q => hk _ o (fun hm => ?_) q, fun c o q => hk c o (fun hm => ?_) (F.keep c o q), F.above⟩ fun p hp => ?_
  · simp only [List.mem_cons, List.not_mem_nil, or_false] at hm
    rcases hm with q | q
    · exact He.2.1 q.symm
    · exact Hi.2.1 q.symm
  · simp only [List.mem_cons, List.not_mem_nil, or_false] at hm
    rcases hm with rfl | rfl
    · rw [He.2.2] at q; cases q
    · rw [Hi.2.2] at q; cases q
  · have Np := N p (.tail _ (.tail _ hp))
    refine ⟨hk _ _ (fun hm => ?_) Np.1, Np.2⟩
    simp only [List.mem_cons, List.not_mem_nil, or_false] at hm
    rcases hm with q | q
    · exact (hr p hp).1 q
    · exact (hr p hp).2 q
theorem EnumW.self (W : EnumW prog w A g e it n P St) {Q : Value → Shared → Prop} (F : Fr g L s.heap m) (N : News g L s.heap ((e, oe) :: (it, oi) :: rest)) (st : Stb g e it oe oi (St i)) (h : Q (.ref e) s) : wpAny (model prog w) A (pyIter (.ref e)) Q E s := by
  obtain ⟨fp, hS, hfp⟩ := W.src
  exact (hS "" "" ⟨0, 0, 0, 0⟩ ⟨0, 0, 0, 0⟩ ⟨0, 0, 0, 0⟩ 0).self i _ _ _ (st _ F.keep (N _ (.head _)).1 (N _ (.tail _ (.head _))).1) h
theorem draws_str {prog : Program} {w : World} {A : Around} (hh : A.handled = none) (it : Addr) (x : Tx) (t : Tok) :
    Draws prog w A it [it] x.length (fun i v => ∃ u, v = .str (S [x.getD i 0]) u) (fun i h => h.IsStrIter it (strIterType (S x)) (S x) t i) := by
  have hP : ∀ i v, (∃ c u, (S x).cps[i]? = some c ∧ v = Value.str ⟨#[c]⟩ u) → ∃ u, v = .str (S [x.getD i 0]) u := by
    rintro i v ⟨c, u, hc, rfl⟩
    refine ⟨u, ?_⟩
    have : x[i]? = some c := by simpa [S] using hc
    rw [List.getD_eq_getElem?_getD, this]; rfl
  have hsz : (S x).cps.size = x.length := by simp [S]
  by_cases ha : (S x).cps.all (· < 128) = true
  · have D := Draws.strAscii (prog := prog) (w := w) hh it (S x) t
    rw [hsz] at D
    have e : strIterType (S x) = "str_ascii_iterator" := by simp only [strIterType, ha, if_true]
    rw [e]
    exact ⟨D.live, D.frame, fun i s Q E hi st hQ => D.item i s Q E hi st fun v h' tk p => hQ v h' tk (hP i v p), D.done⟩
  · have D := Draws.strWide (prog := prog) (w := w) hh it (S x) t
    rw [hsz] at D
    have e : strIterType (S x) = "str_iterator" := by simp only [strIterType, ha, if_false]; rfl
    rw [e]
    exact ⟨D.live, D.frame, fun i s Q E hi st hQ => D.item i s Q E hi st fun v h' tk p => hQ v h' tk (hP i v p), D.done⟩
theorem enum_str {Q : Value → Shared → Prop} {x : Tx} {t : Tok} {news : List (Addr × Obj)} (hh : A.handled = none) (F : Fr g L s.heap m) (N : News g L s.heap news)
    (h : ∀ e it oe oi St h', Fr g L h' m → News g L h' ((e, oe) :: (it, oi) :: news) → it < e → (∀ p ∈ news, p.1 < it) → EnumW prog w A g e it x.length (fun i v => ∃ u, v = .str (S [x.getD i 0]) u) St → Stb g e it oe oi (St 0) → Q (.ref e) { s with heap := h' }) :
    wpAny (model prog w) A (call (.type "enumerate") [.str (S x) t]) Q E s := by
  refine call_enumerate_str fun h' he hit hsz hk => ?_
  have hlL : L < s.heap.objs.size := F.ns.lt
  have gn : ∀ c, s.heap.objs.size ≤ c → g.get? c = none := fun c hc => by
    cases q : g.get? c with
    | none => rfl
    | some o => exact absurd (Heap.lt_size (F.keep _ _ q)) (Nat.not_lt.mpr hc)
  obtain ⟨oi, hoi, hit'⟩ := id hit
  obtain ⟨oe, hoe, he'⟩ : ∃ oe, h'.get? (s.heap.objs.size + 1) = some oe ∧ ∀ h'' : Heap, h''.get? (s.heap.objs.size + 1) = some oe → IsEnum h'' (s.heap.objs.size + 1) s.heap.objs.size 0 .none := ⟨_, he, fun _ q => q⟩
  have W : EnumW prog w A g (s.heap.objs.size + 1) s.heap.objs.size x.length (fun i v => ∃ u, v = .str (S [x.getD i 0]) u) _ :=
    EnumW.of hh (draws_str (A := A.in1) hh s.heap.objs.size x t) (s.heap.objs.size + 1) (Nat.succ_ne_self _) (fun q => Nat.succ_ne_self _ (List.mem_singleton.mp q)) (List.mem_singleton.mpr rfl) (fun c hc => .inl (List.mem_singleton.mp hc))
  refine h _ _ oe oi _ h' ⟨F.ns.at' fun o q => hk _ _ q, fun c o q => hk c o (F.keep c o q), F.above⟩ (fun p hp => ?_) (Nat.lt_succ_self _) (fun p hp => Heap.lt_size (N.get hp)) W (fun h'' k'' q1 q2 => ⟨⟨_, he' h'' q1⟩, oi, q2, hit'⟩)
  rcases List.mem_cons.mp hp with rfl | hp
  · exact ⟨hoe, Nat.ne_of_gt (Nat.lt_succ_of_lt hlL), gn _ (Nat.le_succ _)⟩
  rcases List.mem_cons.mp hp with rfl | hp
  · exact ⟨hoi, Nat.ne_of_gt hlL, gn _ (Nat.le_refl _)⟩
  · exact ⟨hk _ _ (N p hp).1, (N p hp).2⟩
theorem enum_list {Q : Value → Shared → Prop} {l : Addr} {vs : List Value} {news : List (Addr × Obj)} (hh : A.handled = none) (F : Fr g L s.heap m) (N : News g L s.heap news) (hl : g.IsList l vs.toArray)
    (h : ∀ e it oe oi St h', Fr g L h' m → News g L h' ((e, oe) :: (it, oi) :: news) → it < e → (∀ p ∈ news, p.1 < it) → EnumW prog w A g e it vs.length (fun i v => vs[i]? = some v) St → Stb g e it oe oi (St 0) → Q (.ref e) { s with heap := h' }) :
    wpAny (model prog w) A (call (.type "enumerate") [.ref l]) Q E s := by
  have hls := isList_keeps hl F.keep
  refine call_enumerate_list hls fun h' he hit hsz hk => ?_
  have hlL : L < s.heap.objs.size := F.ns.lt
  have hll := isList_lt hls
  have gn : ∀ c, s.heap.objs.size ≤ c → g.get? c = none := fun c hc => by
    cases q : g.get? c with
    | none => rfl
    | some o => exact absurd (Heap.lt_size (F.keep _ _ q)) (Nat.not_lt.mpr hc)
  obtain ⟨oi, hoi, hit'⟩ := id hit
  obtain ⟨oe, hoe, he'⟩ : ∃ oe, h'.get? (s.heap.objs.size + 1) = some oe ∧ ∀ h'' : Heap, h''.get? (s.heap.objs.size + 1) = some oe → IsEnum h'' (s.heap.objs.size + 1) s.heap.objs.size 0 .none := ⟨_, he, fun _ q => q⟩
  have D := Draws.list (prog := prog) (w := w) (A := A.in1) hh s.heap.objs.size l (Nat.ne_of_lt hll) vs.toArray
  have hvs : vs.toArray.size = vs.length := by simp
  rw [hvs] at D
  have D' : Draws prog w A.in1 s.heap.objs.size [s.heap.objs.size, l] vs.length (fun i v => vs[i]? = some v) (fun i h => h.IsListIter s.heap.objs.size l i ∧ h.IsList l vs.toArray) :=
    ⟨D.live, D.frame, fun i s Q E hi st hQ => D.item i s Q E hi st fun v h' tk p => hQ v h' tk (by simpa using p), D.done⟩
  have W := EnumW.of (g := g) hh D' (s.heap.objs.size + 1) (Nat.succ_ne_self _) (fun q => by
      simp only [List.mem_cons, List.not_mem_nil, or_false] at q
      rcases q with q | q
      · exact Nat.succ_ne_self _ q
      · exact absurd hll (by rw [← q]; exact Nat.not_lt.mpr (Nat.le_succ _))) (.head _) (fun c hc => by
      simp only [List.mem_cons, List.not_mem_nil, or_false] at hc
      rcases hc with rfl | rfl
      · exact .inl rfl
      · obtain ⟨o, ho, _⟩ := hl; exact .inr ⟨o, ho⟩)
  refine h _ _ oe oi _ h' ⟨F.ns.at' fun o q => hk _ _ q, fun c o q => hk c o (F.keep c o q), F.above⟩ (fun p hp => ?_) (Nat.lt_succ_self _) (fun p hp => Heap.lt_size (N.get hp)) W (fun h'' k'' q1 q2 => ⟨⟨_, he' h'' q1⟩, ⟨oi, q2, hit'⟩, isList_keeps hl k''⟩)
  rcases List.mem_cons.mp hp with rfl | hp
  · exact ⟨hoe, Nat.ne_of_gt (Nat.lt_succ_of_lt hlL), gn _ (Nat.le_succ _)⟩
  rcases List.mem_cons.mp hp with rfl | hp
  · exact ⟨hoi, Nat.ne_of_gt hlL, gn _ (Nat.le_refl _)⟩
  · exact ⟨hk _ _ (N p hp).1, (N p hp).2⟩
end
end Mine

namespace Mine
local macro_rules | `(tactic| walk_at "go") => `(tactic| repeat' (first | (k_unfold; (try dsimp only)) | walk1 | (dsimp only; walk1)))
local macro_rules | `(tactic| walk_at "call type:enumerate") => `(tactic| refine halt ?_)
local macro_rules | `(tactic| walk_at "exec For") => `(tactic| refine halt ?_)
local macro_rules | `(tactic| walk_at "exec For Tuple Call cons nil") => `(tactic| refine halt ?_)
local macro_rules | `(tactic| walk_at "pyIter ref") => `(tactic| refine halt ?_)
local macro_rules | `(tactic| walk_at "eval IfExp") => `(tactic| refine halt ?_)
local macro_rules | `(tactic| walk_at "eval BoolOp") => `(tactic| ((with_reducible show wpAny _ _ (eval (Expr.BoolOp _ [_, _, _] _) _) _ _ _); refine halt ?_))
noncomputable def lmW (n : Nat) (last : Bool) (t : Tok) (x : Str) (u0 : Tok) (sec : Int) (u1 : Tok) (man : Int) (u2 : Tok) (kv pv plv sv mv : Option Value) : Str → Option Value := fun y => if y = Str.ofString "place" then plv else if y = Str.ofString "sign" then sv else if y = Str.ofString "must" then mv else if y = Str.ofString "pairs" then pv else if y = Str.ofString "kind" then kv else if y = Str.ofString "manner" then some (.int man u2) else if y = Str.ofString "second" then some (.int sec u1) else if y = Str.ofString "stock" then some (.str x u0) else List.lookup y [(Str.ofString "number", .int n t), (Str.ofString "last", .bool last)].reverse
theorem stock_is (n : Nat) : Str.ofString "a#\"\\ \t\n\x0b\u00a0\u2003\u200b" ++ { cps := #[(33 + ((n : Int).fdiv 5616).fmod 55000).toNat] } = S (stock n) := by
  have e : (33 + ((n : Int).fdiv 5616).fmod 55000).toNat = 33 + n / 5616 % 55000 := by
    rw [Int.fdiv_eq_ediv_of_nonneg _ (by decide), Int.fmod_eq_emod_of_nonneg _ (by decide)]; omega
  rw [e, of_lit (s := "a#\"\\ \t\n\x0b\u00a0\u2003\u200b") (l := [97, 35, 34, 92, 32, 9, 10, 11, 160, 8195, 8203]) (by decide)]
  exact S_app _ [33 + n / 5616 % 55000]
theorem sec_is (n : Nat) : ((n : Int).fdiv 12).fmod 13 = ((n / 12 % 13 : Nat) : Int) := by
  rw [Int.fdiv_eq_ediv_of_nonneg _ (by decide), Int.fmod_eq_emod_of_nonneg _ (by decide)]; omega
theorem man_is (n : Nat) : ((n : Int).fdiv 156).fmod 6 = ((n / 156 % 6 : Nat) : Int) := by
  rw [Int.fdiv_eq_ediv_of_nonneg _ (by decide), Int.fmod_eq_emod_of_nonneg _ (by decide)]; omega
theorem strAt {prog : Program} {w : World} {A : Around} {E : Value → Shared → Prop} {s : Shared} {Q : Value → Shared → Prop} {value slice : Expr} {x : Tx} {t u : Tok} {k : Int} {c : Nat} (h0 : 0 ≤ k) (h1 : k < 1000000000) (hk : x[k.toNat]? = some c) (h : Q (.str (S [c]) s.toks) { s with toks := s.toks + 1 })
    (hs : subscripted slice false (.str (S x) t) (.int k u) = operate [.str (S x) t, .int k u] (getItem (.str (S x) t) (.int k u)) := by with_unfolding_all rfl) :
    wpAny (model prog w) A (subscriptTail value slice (.str (S x) t) (.int k u)) Q E s := by
  refine tail_any (typeIs_str s (S x) t) F.slot_str_getitem.lookup (P.getItem_str (c := c) (by simp; omega) ?_ h) hs
  have hlt : k.toNat < x.length := (List.getElem?_eq_some_iff.mp hk).1
  have e : seqIndex? k (S x).length = some k.toNat := by
    rw [S_len]
    unfold seqIndex?
    simp
    omega
  rw [e]
  simpa [S] using hk
theorem drawn_is (n : Nat) : S [(stock n).getD (n % 12) 0] ++ Txt.slice (S (stock n)) (some ((n / 12 % 13 : Nat) : Int)) (some (((n / 12 % 13 : Nat) : Int) + 1)) = S (drawnSigns n) := by
  rw [show (((n / 12 % 13 : Nat) : Int) + 1) = ((n / 12 % 13 + 1 : Nat) : Int) from rfl, slice_nat, S_app, S_iff]
  unfold drawnSigns
  rw [Nat.add_sub_cancel_left, List.take_one, List.head?_drop]
  have hl : (stock n).length = 12 := rfl
  by_cases h : n / 12 % 13 < 12
  · rw [if_pos h, List.getD_eq_getElem?_getD (l := stock n) (i := n / 12 % 13), List.getElem?_eq_getElem (by omega)]; rfl
  · rw [if_neg h, List.getElem?_eq_none (by omega)]; rfl
theorem drawn_len (n : Nat) : (drawnSigns n).length ≤ 2 := by unfold drawnSigns; split <;> simp
theorem pairs_snoc {n i : Nat} {last : Bool} (h : i < (drawnSigns n).length) : (pairsOf n last).take (i + 1) = (pairsOf n last).take i ++ [((drawnSigns n).getD i 0, decide (n / 156 % 6 < 3) || must (kindOf n last) i ((drawnSigns n).getD i 0))] := by
  have hl : i < (pairsOf n last).length := by simpa [pairsOf] using h
  rw [take_snoc hl]
  simp [pairsOf, List.getD_eq_getElem?_getD, List.getElem?_eq_getElem h]
theorem pairs_all (n : Nat) (last : Bool) : (pairsOf n last).take (drawnSigns n).length = pairsOf n last := by
  rw [List.take_of_length_le]; simp [pairsOf]
theorem beh_is (n : Nat) : ((n : Int).fdiv 1872).fmod 3 = ((n / 1872 % 3 : Nat) : Int) := by
  rw [Int.fdiv_eq_ediv_of_nonneg _ (by decide), Int.fmod_eq_emod_of_nonneg _ (by decide)]; omega
theorem Rd.bool' {h : Heap} {x y : Bool} (e : x = y) : Rd h (.bool x) (.bool y) := e ▸ Rd.bool _ _
theorem Rd.int' {h : Heap} {x y : Int} {t : Tok} (e : x = y) : Rd h (.int x t) (.int y) := e ▸ Rd.int _ _ _
theorem sgn {c k : Nat} {l : String} (hl : Str.ofString l = S [k]) : (S [c] == Str.ofString l) = (c == k) := by
  rw [hl, Bool.eq_iff_iff, beq_iff_eq, beq_iff_eq, S_iff]; simp
theorem wsp (c : Nat) : (Builtin.Str.occurrences (Str.ofString " \t\n") (S [c]) 0 (Str.ofString " \t\n").length 1).isEmpty = !(c == 32 || c == 9 || c == 10) := by
  rw [of_lit (s := " \t\n") (l := [32, 9, 10]) (by decide)]
  have := in_S [32, 9, 10] c
  rw [← Bool.not_not (List.isEmpty _), this]
  congr 1
  rw [Bool.eq_iff_iff, decide_eq_true_eq]
  simp [or_assoc]
theorem leaf1 {c k i : Nat} (a : (S [c] == Str.ofString "\\") = true) : Value.bool (S [c] == Str.ofString "\\") = Value.bool (must k i c) := by
  rw [sgn (k := 92) (of_lit (by decide))] at *
  simp [must, a]
theorem leaf3 {c k i : Nat} (a : (S [c] == Str.ofString "\\") = false) (b : (Builtin.Str.occurrences (Str.ofString " \t\n") (S [c]) 0 (Str.ofString " \t\n").length 1).isEmpty = true) (q : (S [c] == Str.ofString "\"") = true) (d : ¬ (0 : Int) < (k : Int)) :
    Value.bool ((i : Int) == 0) = Value.bool (must k i c) := by
  rw [sgn (k := 34) (of_lit (by decide))] at q
  rw [sgn (k := 92) (of_lit (by decide))] at a
  rw [wsp] at b
  have hk : ¬ 0 < k := by omega
  have hi : ((i : Int) == 0) = (i == 0) := by rw [Bool.eq_iff_iff, beq_iff_eq, beq_iff_eq]; omega
  simp only [Bool.not_eq_true'] at b
  simp [must, q, hk, a, b, hi]
theorem leaf4 {c k i : Nat} (a : (S [c] == Str.ofString "\\") = false) (b : (Builtin.Str.occurrences (Str.ofString " \t\n") (S [c]) 0 (Str.ofString " \t\n").length 1).isEmpty = true) (q : (S [c] == Str.ofString "\"") = false) :
    Value.bool (S [c] == Str.ofString "\"") = Value.bool (must k i c) := by
  rw [sgn (k := 34) (of_lit (by decide))] at q ⊢
  rw [sgn (k := 92) (of_lit (by decide))] at a
  rw [wsp] at b
  simp only [Bool.not_eq_true'] at b
  simp [must, q, a, b]
theorem leaf5 {c k i : Nat} (a : (S [c] == Str.ofString "\\") = false) (b : (Builtin.Str.occurrences (Str.ofString " \t\n") (S [c]) 0 (Str.ofString " \t\n").length 1).isEmpty = false) (q : (k : Int) = 0) :
    Value.bool ((k : Int) == 0) = Value.bool (must k i c) := by
  rw [wsp] at b
  have hk : k = 0 := by omega
  subst hk
  simp only [Bool.not_eq_false'] at b
  simp [must, b]
theorem leaf6 {c k i : Nat} (a : (S [c] == Str.ofString "\\") = false) (q : (S [c] == Str.ofString "\"") = true) (d : (0 : Int) < (k : Int)) :
    Value.bool (decide ((0 : Int) < (k : Int))) = Value.bool (must k i c) := by
  rw [sgn (k := 34) (of_lit (by decide))] at q
  have hk : 0 < k := by omega
  simp [must, q, d, hk]
theorem leaf7 {c k i : Nat} (a : (S [c] == Str.ofString "\\") = false) (d : (k : Int) ≠ 0) (q : (S [c] == Str.ofString "\"") = false) :
    Value.bool (S [c] == Str.ofString "\"") = Value.bool (must k i c) := by
  rw [sgn (k := 34) (of_lit (by decide))] at q ⊢
  rw [sgn (k := 92) (of_lit (by decide))] at a
  have hk : (k == 0) = false := by rw [beq_eq_false_iff_ne]; omega
  simp [must, q, a, hk]
theorem leaf8 {c k i : Nat} (d : (k : Int) ≠ 0) (q : (S [c] == Str.ofString "\"") = true) :
    Value.bool (decide ((0 : Int) < (k : Int))) = Value.bool (must k i c) := by
  rw [sgn (k := 34) (of_lit (by decide))] at q
  have hk : 0 < k := by omega
  have hk2 : (0 : Int) < k := by omega
  simp [must, q, hk, hk2]
theorem fresh_news {g h : Heap} {L : Addr} {news : List (Addr × Obj)} (N : News g L h news) : ∀ p ∈ news, (fresh g h).get? p.1 = some p.2 := fun p hp => fresh_get (N p hp).1 (N p hp).2.2
theorem news_rot3 {g h : Heap} {L : Addr} {a b c d : Addr × Obj} {r : List (Addr × Obj)} (N : News g L h (a :: b :: c :: d :: r)) : News g L h (b :: c :: d :: a :: r) := fun p hp => N p (by
  simp only [List.mem_cons] at hp ⊢
  rcases hp with x | x | x | x | x
  · exact .inr (.inl x)
  · exact .inr (.inr (.inl x))
  · exact .inr (.inr (.inr (.inl x)))
  · exact .inl x
  · exact .inr (.inr (.inr (.inr x))))
theorem kind_rest {n man : Nat} {last : Bool} (hm : n / 156 % 6 = man) (h : (man : Int).fmod 3 ≠ 2 ∨ last = true) : (man : Int).fmod 3 = (kindOf n last : Nat) := by
  rw [Int.fmod_eq_emod_of_nonneg _ (by decide)] at *
  unfold kindOf
  rw [hm, if_neg]
  · omega
  · rintro ⟨h1, h2⟩
    rcases h with h | h
    · omega
    · rw [h] at h2; cases h2
theorem kind_one {n man : Nat} {last : Bool} (hm : n / 156 % 6 = man) (h : (man : Int).fmod 3 = 2) (hl : last = false) : (1 : Int) = (kindOf n last : Nat) := by
  rw [Int.fmod_eq_emod_of_nonneg _ (by decide)] at h
  unfold kindOf
  rw [hm, if_pos ⟨by omega, hl⟩]; rfl
inductive WordI (s : Shared) (n : Nat) (last : Bool) (t u0 u1 : Tok) (man : Nat) (u2 u3 : Tok) (D e it : Addr) (St : Nat → Heap → Prop) (k : Nat) (s' : Shared) : Prop
  | mk (h' : Heap) (tk' i : Nat) (pl sv mv : Option Value) (vs : List Value) (ep : Nat) (oe oi : Obj) (ks : List (Addr × Obj)) (e' : s' = { s with heap := h', toks := tk' })
    (F : Fr s.heap s.heap.objs.size h' (lmW n last t (S (stock n)) u0 (n / 12 % 13 : Nat) u1 man u2 (some (.int (kindOf n last : Nat) u3)) (some (.ref D)) pl sv mv))
    (N : News s.heap s.heap.objs.size h' ((e, oe) :: (it, oi) :: (D, listOf vs.toArray ep) :: ks)) (st : Stb s.heap e it oe oi (St i)) (hks : ∀ p ∈ ks, p.1 ≠ e ∧ p.1 ≠ it ∧ p.1 ≠ D)
    (hrd : ∀ h'' : Heap, (∀ p ∈ ks, h''.get? p.1 = some p.2) → Rds h'' vs (((pairsOf n last).take i).map pairD)) (hi : i ≤ (drawnSigns n).length) (hk : k = (drawnSigns n).length - i) : WordI s n last t u0 u1 man u2 u3 D e it St k s'
inductive WordM (s : Shared) (n : Nat) (last : Bool) (t u0 u1 : Tok) (man : Nat) (u2 u3 : Tok) (D : Addr) (i : Nat) (tB : Tok) (c : Nat) (tS : Tok) (mv : Option Value) (e : Addr) (oe : Obj) (it : Addr) (oi : Obj) (vs : List Value) (ep : Nat) (ks : List (Addr × Obj)) (v : Value) (s' : Shared) : Prop
  | mk (h' : Heap) (tk : Nat) (ev : v = .bool (must (kindOf n last) i c)) (e' : s' = { s with heap := h', toks := tk })
    (F : Fr s.heap s.heap.objs.size h' (lmW n last t (S (stock n)) u0 (n / 12 % 13 : Nat) u1 man u2 (some (.int (kindOf n last : Nat) u3)) (some (.ref D)) (some (.int i tB)) (some (.str (S [c]) tS)) mv))
    (N : News s.heap s.heap.objs.size h' ((e, oe) :: (it, oi) :: (D, listOf vs.toArray ep) :: ks)) : WordM s n last t u0 u1 man u2 u3 D i tB c tS mv e oe it oi vs ep ks v s'
section
variable {w : World} {A : Around} {s : Shared} {Q : Value → Shared → Prop} {E : Value → Shared → Prop}
theorem word_spec (G : Gd w s.heap) (a : At 4 A) (n : Nat) (last : Bool) (t : Tok) (hn : n < 1000000000)
    (h : ∀ h' tk T, Kp s.heap h' → s.heap.get? T = none → Rd (fresh s.heap h') (.ref T) (wordD (wordOf n last)) → Q (.ref T) { s with heap := h', toks := tk }) :
    wpAny (model PySem.Challenge.rw_pg0042_01.row.prog w) A (call (.ref 91) [.int n t, .bool last]) Q E s := by
  have G₀ := G
  obtain ⟨X, loose, mean, mg, mb, T⟩ := G
  revert X
  k_fill
  intro X
  refine a.use ?_
  refine enter_def (binds := [(Str.ofString "number", .int n t), (Str.ofString "last", .bool last)]) X T (by k_is) (by k_is) (by decide) (BindsTo.of_eq rfl) (locs rfl) ?_ rfl rfl rfl (by decide)
  intro h₁ F N
  w_on
  walk_at "go"
  with_reducible rename Fr _ _ _ _ => F₂
  with_reducible rename News _ _ _ _ => N₂
  rw [stock_is, sec_is, man_is] at F₂
  obtain ⟨u0, u1, u2, F₃⟩ : ∃ u0 u1 u2, Fr s.heap s.heap.objs.size _ (lmW n last t (S (stock n)) u0 (n / 12 % 13 : Nat) u1 (n / 156 % 6 : Nat) u2 none none none none none) := ⟨_, _, _, fr_cong F₂ (by (intro y; (show _ = (if y = Str.ofString "place" then _ else if y = Str.ofString "sign" then _ else if y = Str.ofString "must" then _ else if y = Str.ofString "pairs" then _ else if y = Str.ofString "kind" then _ else if y = Str.ofString "manner" then _ else if y = Str.ofString "second" then _ else if y = Str.ofString "stock" then _ else _)); by_cases e1 : y = Str.ofString "place"; (subst e1; rfl); by_cases e2 : y = Str.ofString "sign"; (subst e2; rfl); by_cases e3 : y = Str.ofString "must"; (subst e3; rfl); by_cases e4 : y = Str.ofString "pairs"; (subst e4; rfl); by_cases e5 : y = Str.ofString "kind"; (subst e5; rfl); by_cases e6 : y = Str.ofString "manner"; (subst e6; rfl); by_cases e7 : y = Str.ofString "second"; (subst e7; rfl); by_cases e8 : y = Str.ofString "stock"; (subst e8; rfl); simp only [if_neg e1, if_neg e2, if_neg e3, if_neg e4, if_neg e5, if_neg e6, if_neg e7, if_neg e8]))⟩
  clear F₂
  have N₃ := frNil F₃
  clear N₂
  generalize hm : n / 156 % 6 = man at *
  have hm6 : man < 6 := by omega
  refine unhalt ?_
  refine wpAny_mono (Q := fun v s' => Halt (∃ h' tk u, v = .int (kindOf n last : Nat) u ∧ s' = { s with heap := h', toks := tk } ∧ Fr s.heap s.heap.objs.size h' (lmW n last t (S (stock n)) u0 (n / 12 % 13 : Nat) u1 man u2 none none none none none))) (IfExp_ ?_) ?_ (fun _ _ e => e)
  · unfold lmW at F₃
    walk_at "go" <;> (with_reducible rename Fr _ _ _ _ => F₅)
    · exact unhalt ⟨_, _, _, by rw [kind_rest hm (.inr (by assumption))], rfl, fr_cong F₅ (by (intro y; (show _ = (if y = Str.ofString "place" then _ else if y = Str.ofString "sign" then _ else if y = Str.ofString "must" then _ else if y = Str.ofString "pairs" then _ else if y = Str.ofString "kind" then _ else if y = Str.ofString "manner" then _ else if y = Str.ofString "second" then _ else if y = Str.ofString "stock" then _ else _)); by_cases e1 : y = Str.ofString "place"; (subst e1; rfl); by_cases e2 : y = Str.ofString "sign"; (subst e2; rfl); by_cases e3 : y = Str.ofString "must"; (subst e3; rfl); by_cases e4 : y = Str.ofString "pairs"; (subst e4; rfl); by_cases e5 : y = Str.ofString "kind"; (subst e5; rfl); by_cases e6 : y = Str.ofString "manner"; (subst e6; rfl); by_cases e7 : y = Str.ofString "second"; (subst e7; rfl); by_cases e8 : y = Str.ofString "stock"; (subst e8; rfl); simp only [if_neg e1, if_neg e2, if_neg e3, if_neg e4, if_neg e5, if_neg e6, if_neg e7, if_neg e8]))⟩
    · exact unhalt ⟨_, _, _, by rw [kind_one hm (by assumption) (by assumption)], rfl, fr_cong F₅ (by (intro y; (show _ = (if y = Str.ofString "place" then _ else if y = Str.ofString "sign" then _ else if y = Str.ofString "must" then _ else if y = Str.ofString "pairs" then _ else if y = Str.ofString "kind" then _ else if y = Str.ofString "manner" then _ else if y = Str.ofString "second" then _ else if y = Str.ofString "stock" then _ else _)); by_cases e1 : y = Str.ofString "place"; (subst e1; rfl); by_cases e2 : y = Str.ofString "sign"; (subst e2; rfl); by_cases e3 : y = Str.ofString "must"; (subst e3; rfl); by_cases e4 : y = Str.ofString "pairs"; (subst e4; rfl); by_cases e5 : y = Str.ofString "kind"; (subst e5; rfl); by_cases e6 : y = Str.ofString "manner"; (subst e6; rfl); by_cases e7 : y = Str.ofString "second"; (subst e7; rfl); by_cases e8 : y = Str.ofString "stock"; (subst e8; rfl); simp only [if_neg e1, if_neg e2, if_neg e3, if_neg e4, if_neg e5, if_neg e6, if_neg e7, if_neg e8]))⟩
    · exact unhalt ⟨_, _, _, by rw [kind_rest hm (.inl (by assumption))], rfl, fr_cong F₅ (by (intro y; (show _ = (if y = Str.ofString "place" then _ else if y = Str.ofString "sign" then _ else if y = Str.ofString "must" then _ else if y = Str.ofString "pairs" then _ else if y = Str.ofString "kind" then _ else if y = Str.ofString "manner" then _ else if y = Str.ofString "second" then _ else if y = Str.ofString "stock" then _ else _)); by_cases e1 : y = Str.ofString "place"; (subst e1; rfl); by_cases e2 : y = Str.ofString "sign"; (subst e2; rfl); by_cases e3 : y = Str.ofString "must"; (subst e3; rfl); by_cases e4 : y = Str.ofString "pairs"; (subst e4; rfl); by_cases e5 : y = Str.ofString "kind"; (subst e5; rfl); by_cases e6 : y = Str.ofString "manner"; (subst e6; rfl); by_cases e7 : y = Str.ofString "second"; (subst e7; rfl); by_cases e8 : y = Str.ofString "stock"; (subst e8; rfl); simp only [if_neg e1, if_neg e2, if_neg e3, if_neg e4, if_neg e5, if_neg e6, if_neg e7, if_neg e8]))⟩
  · rintro v s' ⟨h₄, tk₄, u3, rfl, rfl, F₄⟩
    clear F₃ N₃
    unfold lmW at F₄
    have N₄ := frNil F₄
    walk_at "go"
    with_reducible rename Fr _ _ _ _ => F₆
    with_reducible rename News _ _ _ _ => N₆
    rename_i D hD1 hD2 hD3
    refine unhalt (wpAny_For ?_)
    walk_at "go"
    have hsl : (S (stock n)).length ≤ 100 := by rw [S_len]; exact Nat.le_of_ble_eq_true rfl
    have hfm : (n : Int).fmod 12 = ((n % 12 : Nat) : Int) := by rw [Int.fmod_eq_emod_of_nonneg _ (by decide)]; omega
    have hs1 : (S [(stock n).getD (n % 12) 0]).length ≤ 10 := by rw [S_len]; exact Nat.le_of_ble_eq_true rfl
    rw [hfm]
    refine strAt (c := (stock n).getD (n % 12) 0) (by omega) (by omega) ?_ ?_
    · rw [Int.toNat_natCast, List.getD_eq_getElem?_getD, List.getElem?_eq_getElem (by show n % 12 < 12; omega)]; rfl
    walk_at "go"
    with_reducible rename Fr _ _ _ _ => F₇
    with_reducible rename News _ _ _ _ => N₇
    try clear F₄ N₄
    try clear F₆ N₆
    refine unhalt (callArg (drawn_is n) ?_)
    refine enum_str rfl F₇ N₇ fun e it oe oi St h₈ F₈ N₈ lt8 lt9 W st => ?_
    have hDi : D < it := lt9 _ (.head _)
    clear F₇ N₇ lt9
    walk_at "go"
    with_reducible rename Fr _ _ _ _ => F₉
    with_reducible rename News _ _ _ _ => N₉
    refine unhalt (W.self F₉ N₉ st ?_)
    refine for_loop2 (WordI s n last t u0 u1 man u2 u3 D e it St) ?_ _
      ⟨_, _, 0, _, _, _, [], _, oe, oi, [], rfl, fr_cong F₉ (by (intro y; (show _ = (if y = Str.ofString "place" then _ else if y = Str.ofString "sign" then _ else if y = Str.ofString "must" then _ else if y = Str.ofString "pairs" then _ else if y = Str.ofString "kind" then _ else if y = Str.ofString "manner" then _ else if y = Str.ofString "second" then _ else if y = Str.ofString "stock" then _ else _)); by_cases e1 : y = Str.ofString "place"; (subst e1; rfl); by_cases e2 : y = Str.ofString "sign"; (subst e2; rfl); by_cases e3 : y = Str.ofString "must"; (subst e3; rfl); by_cases e4 : y = Str.ofString "pairs"; (subst e4; rfl); by_cases e5 : y = Str.ofString "kind"; (subst e5; rfl); by_cases e6 : y = Str.ofString "manner"; (subst e6; rfl); by_cases e7 : y = Str.ofString "second"; (subst e7; rfl); by_cases e8 : y = Str.ofString "stock"; (subst e8; rfl); simp only [if_neg e1, if_neg e2, if_neg e3, if_neg e4, if_neg e5, if_neg e6, if_neg e7, if_neg e8])), N₉, st, (fun p hp => nomatch hp), (fun h'' _ => Rds.nil), Nat.zero_le _, rfl⟩
    clear st
    try clear F₈ N₈
    try clear F₉ N₉
    rintro k s' ⟨h', tk', i, pl, sv, mv, vs, ep, oe', oi', ks, rfl, FA, NA, st, hks, hrd, hi, rfl⟩
    have hvl : vs.length = i := by
      have := (hrd _ fun p hp => NA.get (.tail _ (.tail _ (.tail _ hp)))).len
      rw [List.length_map, List.length_take, pairsOf, List.length_map, List.length_zipIdx] at this
      omega
    have hd2 := drawn_len n
    have hrest : ∀ p ∈ (D, listOf vs.toArray ep) :: ks, p.1 ≠ e ∧ p.1 ≠ it := fun p hp => by
      rcases List.mem_cons.mp hp with rfl | hp
      · exact ⟨Nat.ne_of_lt (Nat.lt_trans hDi lt8), Nat.ne_of_lt hDi⟩
      · exact ⟨(hks p hp).1, (hks p hp).2.1⟩
    by_cases hlt : i < (drawnSigns n).length
    · refine W.next (L := s.heap.objs.size) rfl (by with_unfolding_all exact ⟨⟨rfl, rfl⟩, rfl⟩) FA NA hrest hlt st fun hB tkB tB y oeB oiB hP FB NB stB => ?_
      obtain ⟨tS, rfl⟩ := hP
      clear FA NA st
      unfold lmW at FB
      generalize hc : (drawnSigns n).getD i 0 = c at *
      walk_at "go"
      refine unhalt (wpAny_mono (Q := fun v s' => Halt (WordM s n last t u0 u1 man u2 u3 D i tB c tS mv e oeB it oiB vs ep ks v s')) (BoolOp_or ?_) ?_ (fun _ _ e => e))
      · walk_at "go"
        all_goals (with_reducible rename Fr _ _ _ _ => FC)
        all_goals (with_reducible rename News _ _ _ _ => NC)
        all_goals refine unhalt ⟨_, _, ?_, rfl, fr_cong FC (by (intro y; (show _ = (if y = Str.ofString "place" then _ else if y = Str.ofString "sign" then _ else if y = Str.ofString "must" then _ else if y = Str.ofString "pairs" then _ else if y = Str.ofString "kind" then _ else if y = Str.ofString "manner" then _ else if y = Str.ofString "second" then _ else if y = Str.ofString "stock" then _ else _)); by_cases e1 : y = Str.ofString "place"; (subst e1; rfl); by_cases e2 : y = Str.ofString "sign"; (subst e2; rfl); by_cases e3 : y = Str.ofString "must"; (subst e3; rfl); by_cases e4 : y = Str.ofString "pairs"; (subst e4; rfl); by_cases e5 : y = Str.ofString "kind"; (subst e5; rfl); by_cases e6 : y = Str.ofString "manner"; (subst e6; rfl); by_cases e7 : y = Str.ofString "second"; (subst e7; rfl); by_cases e8 : y = Str.ofString "stock"; (subst e8; rfl); simp only [if_neg e1, if_neg e2, if_neg e3, if_neg e4, if_neg e5, if_neg e6, if_neg e7, if_neg e8])), NC⟩
        all_goals first | exact leaf1 (by assumption) | exact leaf8 (by assumption) (by assumption) | exact leaf6 (by assumption) (by assumption) (by assumption) | exact leaf3 (by assumption) (by assumption) (by assumption) (by assumption) | exact leaf4 (by assumption) (by assumption) (by assumption) | exact leaf5 (by assumption) (by assumption) (by assumption) | exact leaf7 (by assumption) (by assumption) (by assumption)
      · rintro v s' ⟨hC, tkC, rfl, rfl, FC, NC⟩
        clear FB NB
        unfold lmW at FC
        walk_at "go"
        all_goals (with_reducible rename Fr _ _ _ _ => FD)
        all_goals (with_reducible rename News _ _ _ _ => ND)
        all_goals (with_reducible rename _ ∧ _ ∧ _ ∧ AllLt _ _ => lT)
        all_goals refine append_U FD ND (.tail (Nat.ne_of_gt lT.2.2.1) (.tail (Nat.ne_of_gt (Nat.lt_trans hDi lt8)) (.tail (Nat.ne_of_gt hDi) (.head fun p hp => (hks p hp).2.2)))) (by rw [hvl]; omega) fun hE FE NE => ?_
        all_goals clear FD ND
        all_goals walk_at "go"
        · (
  (refine turn_next ((drawnSigns n).length - (i + 1)) (by omega) ⟨_, _, i + 1, _, _, _, _, _, oeB, oiB, _ :: ks, rfl, fr_cong FE (by (intro y; (show _ = (if y = Str.ofString "place" then _ else if y = Str.ofString "sign" then _ else if y = Str.ofString "must" then _ else if y = Str.ofString "pairs" then _ else if y = Str.ofString "kind" then _ else if y = Str.ofString "manner" then _ else if y = Str.ofString "second" then _ else if y = Str.ofString "stock" then _ else _)); by_cases e1 : y = Str.ofString "place"; (subst e1; rfl); by_cases e2 : y = Str.ofString "sign"; (subst e2; rfl); by_cases e3 : y = Str.ofString "must"; (subst e3; rfl); by_cases e4 : y = Str.ofString "pairs"; (subst e4; rfl); by_cases e5 : y = Str.ofString "kind"; (subst e5; rfl); by_cases e6 : y = Str.ofString "manner"; (subst e6; rfl); by_cases e7 : y = Str.ofString "second"; (subst e7; rfl); by_cases e8 : y = Str.ofString "stock"; (subst e8; rfl); simp only [if_neg e1, if_neg e2, if_neg e3, if_neg e4, if_neg e5, if_neg e6, if_neg e7, if_neg e8])), news_rot3 NE, stB, fun p hp => ?_, fun h'' hk => ?_, hlt, rfl⟩)
  · rcases List.mem_cons.mp hp with rfl | hp
    · exact ⟨Nat.ne_of_gt lT.1, Nat.ne_of_gt lT.2.1, Nat.ne_of_gt lT.2.2.1⟩
    · exact hks p hp
  rw [pairs_snoc hlt, List.map_append, hc]
  refine (hrd h'' fun p hp => hk p (.tail _ hp)).snoc (Rd.mk2 ⟨_, hk _ (.head _), rfl, _, rfl⟩ (Rd.str _ _ _) (Rd.bool' ?_)))
          rw [hm, show decide (man < 3) = true from by simp; omega]; simp; omega
        · (
  (refine turn_next ((drawnSigns n).length - (i + 1)) (by omega) ⟨_, _, i + 1, _, _, _, _, _, oeB, oiB, _ :: ks, rfl, fr_cong FE (by (intro y; (show _ = (if y = Str.ofString "place" then _ else if y = Str.ofString "sign" then _ else if y = Str.ofString "must" then _ else if y = Str.ofString "pairs" then _ else if y = Str.ofString "kind" then _ else if y = Str.ofString "manner" then _ else if y = Str.ofString "second" then _ else if y = Str.ofString "stock" then _ else _)); by_cases e1 : y = Str.ofString "place"; (subst e1; rfl); by_cases e2 : y = Str.ofString "sign"; (subst e2; rfl); by_cases e3 : y = Str.ofString "must"; (subst e3; rfl); by_cases e4 : y = Str.ofString "pairs"; (subst e4; rfl); by_cases e5 : y = Str.ofString "kind"; (subst e5; rfl); by_cases e6 : y = Str.ofString "manner"; (subst e6; rfl); by_cases e7 : y = Str.ofString "second"; (subst e7; rfl); by_cases e8 : y = Str.ofString "stock"; (subst e8; rfl); simp only [if_neg e1, if_neg e2, if_neg e3, if_neg e4, if_neg e5, if_neg e6, if_neg e7, if_neg e8])), news_rot3 NE, stB, fun p hp => ?_, fun h'' hk => ?_, hlt, rfl⟩)
  · rcases List.mem_cons.mp hp with rfl | hp
    · exact ⟨Nat.ne_of_gt lT.1, Nat.ne_of_gt lT.2.1, Nat.ne_of_gt lT.2.2.1⟩
    · exact hks p hp
  rw [pairs_snoc hlt, List.map_append, hc]
  refine (hrd h'' fun p hp => hk p (.tail _ hp)).snoc (Rd.mk2 ⟨_, hk _ (.head _), rfl, _, rfl⟩ (Rd.str _ _ _) (Rd.bool' ?_)))
          rw [hm, show decide (man < 3) = false from by simp; omega]; rfl
    · have hin : i = (drawnSigns n).length := by omega
      subst hin
      refine W.stop FA NA hrest st fun hB tkB FB NB => ?_
      clear FA NA st
      unfold lmW at FB
      walk_at "go"
      with_reducible rename Fr _ _ _ _ => FD
      with_reducible rename News _ _ _ _ => ND
      have get := fresh_news ND
      have hrd' := hrd _ fun p hp => get p (.tail _ (.tail _ hp))
      rw [pairs_all] at hrd'
      exact h _ _ _ FD.keep (ND.fresh (.head _)) (Rd.mk3 ⟨_, get _ (.head _), rfl, _, rfl⟩ (Rd.of_list ⟨_, get _ (.tail _ (.head _)), rfl, _, rfl⟩ hrd') (Rd.int _ _ _) (Rd.int' (beh_is n)))
end
end Mine

namespace Mine
local macro_rules | `(tactic| walk_at "go") => `(tactic| repeat' (first | (k_unfold; (try dsimp only)) | walk1 | (dsimp only; walk1)))
local macro_rules | `(tactic| walk_at "call ref") => `(tactic| refine halt ?_)
local macro_rules | `(tactic| walk_at "call type:enumerate") => `(tactic| refine halt ?_)
local macro_rules | `(tactic| walk_at "call builtin:list.append") => `(tactic| refine halt ?_)
local macro_rules | `(tactic| walk_at "exec For") => `(tactic| refine halt ?_)
local macro_rules | `(tactic| walk_at "exec For Tuple Call cons nil") => `(tactic| refine halt ?_)
local macro_rules | `(tactic| walk_at "pyIter ref") => `(tactic| refine halt ?_)
local macro_rules | `(tactic| walk_at "subscriptTail") => `(tactic| ((with_reducible show wpAny _ _ (subscriptTail _ _ (Value.ref _) (Value.int _ _)) _ _ _); refine halt ?_))
local macro_rules | `(tactic| walk_at "call builtin:len") => `(tactic| (refine len_list (isList_keeps (by assumption) (Fr.keep (by assumption))) (by rw [List.size_toArray]; omega) ?_))
noncomputable def rowsL : List (List Wd) → List Wd → List Nat → List (List Wd)
  | done, cur, [] => done ++ [cur]
  | done, cur, n :: r => if r = [] then done ++ [cur ++ [wordOf n true]] else if n / 936 % 2 = 1 then rowsL (done ++ [cur ++ [wordOf n false]]) [] r else rowsL done (cur ++ [wordOf n false]) r
noncomputable def lmRw (l : Addr) (R : Addr) (la : Int) (u : Tok) (kv nv : Option Value) : Str → Option Value := fun y => if y = Str.ofString "k" then kv else if y = Str.ofString "number" then nv else if y = Str.ofString "rows" then some (.ref R) else if y = Str.ofString "last" then some (.int la u) else List.lookup y [(Str.ofString "numbers", .ref l)].reverse
noncomputable def NatsAre (vs : List Value) (ns : List Nat) : Prop := vs.length = ns.length ∧ ∀ (j : Nat) v n, vs[j]? = some v → ns[j]? = some n → ∃ t, v = Value.int (n : Int) t
theorem rowsL_new {done : List (List Wd)} {cur : List Wd} {n : Nat} {r : List Nat} (hr : r ≠ []) (h : n / 936 % 2 = 1) : rowsL done cur (n :: r) = rowsL (done ++ [cur ++ [wordOf n false]]) [] r := by
  rw [rowsL, if_neg hr, if_pos h]
theorem rowsL_same {done : List (List Wd)} {cur : List Wd} {n : Nat} {r : List Nat} {b : Bool} (hb : b = decide (r = [])) (h : r = [] ∨ n / 936 % 2 ≠ 1) : rowsL done cur (n :: r) = rowsL done (cur ++ [wordOf n b]) r := by
  subst hb
  by_cases hr : r = []
  · subst hr; simp [rowsL]
  · rw [rowsL, if_neg hr, if_neg (h.resolve_left hr)]
    simp [hr]
theorem last_is {ns : List Nat} {i : Nat} (hi : i < ns.length) : ((i : Int) == (ns.length : Int) - 1) = decide (ns.drop (i + 1) = []) := by
  rw [Bool.eq_iff_iff, beq_iff_eq, decide_eq_true_eq, List.drop_eq_nil_iff]; omega
theorem odd_is (n : Nat) : ((n : Int).fdiv 936).fmod 2 = ((n / 936 % 2 : Nat) : Int) := by
  rw [Int.fdiv_eq_ediv_of_nonneg _ (by decide), Int.fmod_eq_emod_of_nonneg _ (by decide)]; omega
inductive RowsI (s : Shared) (l R : Addr) (u : Tok) (e it : Addr) (St : Nat → Heap → Prop) (ns : List Nat) (k : Nat) (s' : Shared) : Prop
  | mk (h' : Heap) (tk' i : Nat) (kv nv : Option Value) (dvs cvs : List Value) (er ec : Nat) (oe oi : Obj) (C : Addr) (ks : List (Addr × Obj)) (done : List (List Wd)) (cur : List Wd) (e' : s' = { s with heap := h', toks := tk' })
    (F : Fr s.heap s.heap.objs.size h' (lmRw l R ((ns.length : Int) - 1) u kv nv))
    (N : News s.heap s.heap.objs.size h' ((e, oe) :: (it, oi) :: (R, PySem.W.listOf (dvs ++ [Value.ref C]).toArray er) :: (C, PySem.W.listOf cvs.toArray ec) :: ks)) (st : Stb s.heap e it oe oi (St i))
    (hks : ∀ p ∈ ks, p.1 ≠ e ∧ p.1 ≠ it ∧ p.1 ≠ R ∧ p.1 ≠ C) (h1 : C ≠ R) (h2 : C ≠ e) (h3 : C ≠ it)
    (hrd : ∀ h'' : Heap, (∀ p ∈ ks, h''.get? p.1 = some p.2) → Rds h'' dvs (done.map rowD) ∧ Rds h'' cvs (cur.map wordD)) (hdl : dvs.length ≤ i) (hcl : cvs.length ≤ i)
    (hrows : rowsL [] [] ns = rowsL done cur (ns.drop i)) (hi : i ≤ ns.length) (hk : k = ns.length - i) : RowsI s l R u e it St ns k s'
section
variable {w : World} {A : Around} {s : Shared} {Q : Value → Shared → Prop} {E : Value → Shared → Prop}
theorem rows_spec (G : Gd w s.heap) (a : At 5 A) (l : Addr) (vs : List Value) (ns : List Nat) (hl : s.heap.IsList l vs.toArray) (hv : NatsAre vs ns) (h0 : ns ≠ []) (h8 : ns.length ≤ 8) (hns : ∀ n ∈ ns, n < 1000000000)
    (h : ∀ h' tk R, Kp s.heap h' → s.heap.get? R = none → Rd (fresh s.heap h') (.ref R) (.list ((rowsL [] [] ns).map rowD)) → Q (.ref R) { s with heap := h', toks := tk }) :
    wpAny (model PySem.Challenge.rw_pg0042_01.row.prog w) A (call (.ref 98) [.ref l]) Q E s := by
  have G₀ := G
  obtain ⟨X, loose, mean, mg, mb, T⟩ := G
  revert X
  k_fill
  intro X
  refine a.use ?_
  refine enter_def (binds := [(Str.ofString "numbers", .ref l)]) X T (by k_is) (by k_is) (by decide) (BindsTo.of_eq rfl) (locs rfl) ?_ rfl rfl rfl (by decide)
  intro h₁ F N
  have hvl := hv.1
  w_on
  walk_at "go"
  with_reducible rename Fr _ _ _ _ => F₂
  with_reducible rename News _ _ _ _ => N₂
  have hlen : ((vs.toArray.size : Nat) : Int) - 1 = (ns.length : Int) - 1 := by rw [List.size_toArray, hvl]
  rw [hlen] at F₂
  obtain ⟨R, C, u, N₃, F₃⟩ : ∃ R C u, News s.heap s.heap.objs.size _ [(R, listOf #[.ref C] 0), (C, listOf #[] 0)] ∧ Fr s.heap s.heap.objs.size _ (lmRw l R ((ns.length : Int) - 1) u none none) := ⟨_, _, _, news_drop1 N₂, fr_cong F₂ (by (intro y; (show _ = (if y = Str.ofString "k" then _ else if y = Str.ofString "number" then _ else if y = Str.ofString "rows" then _ else if y = Str.ofString "last" then _ else _)); by_cases e1 : y = Str.ofString "k"; (subst e1; rfl); by_cases e2 : y = Str.ofString "number"; (subst e2; rfl); by_cases e3 : y = Str.ofString "rows"; (subst e3; rfl); by_cases e4 : y = Str.ofString "last"; (subst e4; rfl); simp only [if_neg e1, if_neg e2, if_neg e3, if_neg e4]))⟩
  have hRC : R ≠ C := fun z => by
    have h1 := N₃.get (.head _)
    have h2 := N₃.get (.tail _ (.head _))
    rw [z] at h1
    have := h1.symm.trans h2
    simp [PySem.W.listOf] at this
  clear F₂ N₂
  unfold lmRw at F₃
  refine unhalt (wpAny_For ?_)
  walk_at "go"
  with_reducible rename Fr _ _ _ _ => F₄
  with_reducible rename News _ _ _ _ => N₄
  refine unhalt ?_
  refine enum_list rfl F₄ N₄ hl fun e it oe oi St h₅ F₅ N₅ lt5 lt6 W st => ?_
  have hRi : R < it := lt6 _ (.head _)
  have hCi : C < it := lt6 _ (.tail _ (.head _))
  clear F₄ N₄ lt6
  walk_at "go"
  with_reducible rename Fr _ _ _ _ => F₆
  with_reducible rename News _ _ _ _ => N₆
  refine unhalt (W.self F₆ N₆ st ?_)
  refine for_loop2 (RowsI s l R u e it St ns) ?_ _
    ⟨_, _, 0, _, _, [], [], _, _, oe, oi, C, [], [], [], rfl, fr_cong F₆ (by (intro y; (show _ = (if y = Str.ofString "k" then _ else if y = Str.ofString "number" then _ else if y = Str.ofString "rows" then _ else if y = Str.ofString "last" then _ else _)); by_cases e1 : y = Str.ofString "k"; (subst e1; rfl); by_cases e2 : y = Str.ofString "number"; (subst e2; rfl); by_cases e3 : y = Str.ofString "rows"; (subst e3; rfl); by_cases e4 : y = Str.ofString "last"; (subst e4; rfl); simp only [if_neg e1, if_neg e2, if_neg e3, if_neg e4])), N₆, st, (fun p hp => nomatch hp), Ne.symm hRC, Nat.ne_of_lt (Nat.lt_trans hCi lt5), Nat.ne_of_lt hCi, (fun h'' _ => ⟨Rds.nil, Rds.nil⟩), Nat.le_refl _, Nat.le_refl _, rfl, Nat.zero_le _, rfl⟩
  clear st
  try clear F₅ N₅
  try clear F₆ N₆
  try clear F₃ N₃
  rintro k s' ⟨h', tk', i, kv, nv, dvs, cvs, er, ec, oe', oi', C', ks, done, cur, rfl, FA, NA, st, hks, hCR, hCe, hCt, hrd, hdl, hcl, hrows, hi, rfl⟩
  have hrest : ∀ p ∈ (R, PySem.W.listOf (dvs ++ [Value.ref C']).toArray er) :: (C', PySem.W.listOf cvs.toArray ec) :: ks, p.1 ≠ e ∧ p.1 ≠ it := fun p hp => by
    rcases List.mem_cons.mp hp with rfl | hp
    · exact ⟨Nat.ne_of_lt (Nat.lt_trans hRi lt5), Nat.ne_of_lt hRi⟩
    rcases List.mem_cons.mp hp with rfl | hp
    · exact ⟨hCe, hCt⟩
    · exact ⟨(hks p hp).1, (hks p hp).2.1⟩
  by_cases hlt : i < ns.length
  · refine W.next (L := s.heap.objs.size) rfl (by with_unfolding_all exact ⟨⟨rfl, rfl⟩, rfl⟩) FA NA hrest (by omega) st fun hB tkB tB y oeB oiB hP FB NB stB => ?_
    obtain ⟨tS, rfl⟩ := hv.2 i y _ hP (List.getElem?_eq_getElem hlt)
    clear FA NA st
    unfold lmRw at FB
    have hnb := hns _ (List.getElem_mem hlt)
    walk_at "go"
    with_reducible rename Fr _ _ _ _ => FC
    with_reducible rename News _ _ _ _ => NC
    refine unhalt (lastAtH (us := dvs) (NC.isList (.tail _ (.tail _ (.head _)))) ?_)
    walk_at "go"
    refine unhalt ?_
    refine word_spec (by exact G₀.keeps FC.keep) (at_of rfl rfl rfl) ns[i] ((i : Int) == (ns.length : Int) - 1) _ hnb fun hD tkD T hkD hTn hT => ?_
    have FD := FC.keeps hkD
    have hTr : ∀ h'' : Heap, (∀ p ∈ more hB hD, h''.get? p.1 = some p.2) → Rd h'' (.ref T) (wordD (wordOf ns[i] ((i : Int) == (ns.length : Int) - 1))) := fun h'' q => hT.keeps (kp_fresh q)
    have hmo : ∀ p ∈ more hB hD, p.1 ≠ e ∧ p.1 ≠ it ∧ p.1 ≠ R ∧ p.1 ≠ C' := fun p hp => ⟨more_ne (NC.get (.head _)) p hp, more_ne (NC.get (.tail _ (.head _))) p hp, more_ne (NC.get (.tail _ (.tail _ (.head _)))) p hp, more_ne (NC.get (.tail _ (.tail _ (.tail _ (.head _))))) p hp⟩
    have ND : News s.heap s.heap.objs.size hD ((e, oeB) :: (it, oiB) :: (R, PySem.W.listOf (dvs ++ [Value.ref C']).toArray er) :: (C', PySem.W.listOf cvs.toArray ec) :: (ks ++ more hB hD)) := news_more FC NC hkD
    generalize more hB hD = mo at *
    clear hT hTn FC NC hkD
    walk_at "go"
    with_reducible rename Fr _ _ _ _ => FE
    with_reducible rename News _ _ _ _ => NE
    refine unhalt (append_U FE NE (.tail (Ne.symm hCe) (.tail (Ne.symm hCt) (.tail (Ne.symm hCR) (.head fun p hp => by
      rcases List.mem_append.mp hp with hp | hp
      · exact (hks p hp).2.2.2
      · exact (hmo p hp).2.2.2)))) (by omega) fun hF FF NF => ?_)
    clear FE NE
    walk_at "go"
    · with_reducible rename Fr _ _ _ _ => FG
      with_reducible rename News _ _ _ _ => NG
      with_reducible rename _ ∧ _ ∧ _ ∧ _ ∧ AllLt _ _ => lT
      with_reducible rename (_ : Int) ≠ 0 => hodd
      have hil : i + 1 < ns.length := by omega
      rw [odd_is] at hodd
      refine unhalt (append_U FG NG (.tail (Nat.ne_of_gt lT.2.2.1) (.tail (Nat.ne_of_gt (Nat.lt_trans hRi lt5)) (.tail (Nat.ne_of_gt hRi) (.head fun p hp => by
        rcases List.mem_cons.mp hp with rfl | hp
        · exact hCR
        rcases List.mem_append.mp hp with hp | hp
        · exact (hks p hp).2.2.1
        · exact (hmo p hp).2.2.1)))) (by simp; omega) fun hH FH NH => ?_)
      clear FG NG
      walk_at "go"
      rename_i lN hN
      have hl' : ∀ p ∈ ks ++ mo, p.1 < lN := of_allLt _ lT.2.2.2.2
      have hb : ((i : Int) == (ns.length : Int) - 1) = false := by rw [Bool.eq_false_iff]; intro z; rw [beq_iff_eq] at z; omega
      rw [hb] at hTr
      refine turn_next (ns.length - (i + 1)) (by omega) ⟨_, _, i + 1, _, _, dvs ++ [Value.ref C'], [], er + 1, 0, oeB, oiB, lN, (C', PySem.W.listOf (cvs ++ [Value.ref T]).toArray (ec + 1)) :: (ks ++ mo), done ++ [cur ++ [wordOf ns[i] false]], [], rfl, fr_cong FH (by (intro y; (show _ = (if y = Str.ofString "k" then _ else if y = Str.ofString "number" then _ else if y = Str.ofString "rows" then _ else if y = Str.ofString "last" then _ else _)); by_cases e1 : y = Str.ofString "k"; (subst e1; rfl); by_cases e2 : y = Str.ofString "number"; (subst e2; rfl); by_cases e3 : y = Str.ofString "rows"; (subst e3; rfl); by_cases e4 : y = Str.ofString "last"; (subst e4; rfl); simp only [if_neg e1, if_neg e2, if_neg e3, if_neg e4])), news_rot3 NH, stB, fun p hp => ?_, Nat.ne_of_gt lT.2.2.1, Nat.ne_of_gt lT.1, Nat.ne_of_gt lT.2.1, fun h'' hk => ⟨?_, Rds.nil⟩, by simp; omega, Nat.zero_le _, ?_, hlt, rfl⟩
      · rcases List.mem_cons.mp hp with rfl | hp
        · exact ⟨hCe, hCt, hCR, Nat.ne_of_lt lT.2.2.2.1⟩
        have hlp := Nat.ne_of_lt (hl' p hp)
        rcases List.mem_append.mp hp with hp | hp
        · exact ⟨(hks p hp).1, (hks p hp).2.1, (hks p hp).2.2.1, hlp⟩
        · exact ⟨(hmo p hp).1, (hmo p hp).2.1, (hmo p hp).2.2.1, hlp⟩
      · obtain ⟨q1, q2⟩ := hrd h'' fun p hp => hk p (.tail _ (List.mem_append_left _ hp))
        rw [List.map_append]
        refine q1.snoc (Rd.of_list ⟨_, hk _ (.head _), rfl, _, rfl⟩ ?_)
        rw [List.map_append]
        exact q2.snoc (hTr h'' fun p hp => hk p (.tail _ (List.mem_append_right _ hp)))
      · rw [hrows, List.drop_eq_getElem_cons hlt]
        exact rowsL_new (by rw [Ne, List.drop_eq_nil_iff]; omega) (by omega)
    · (
  (refine turn_next (ns.length - (i + 1)) (by omega) ⟨_, _, i + 1, _, _, dvs, cvs ++ [Value.ref T], er, ec + 1, oeB, oiB, C', ks ++ mo, done, cur ++ [wordOf ns[i] ((i : Int) == (ns.length : Int) - 1)], rfl, fr_cong FF (by (intro y; (show _ = (if y = Str.ofString "k" then _ else if y = Str.ofString "number" then _ else if y = Str.ofString "rows" then _ else if y = Str.ofString "last" then _ else _)); by_cases e1 : y = Str.ofString "k"; (subst e1; rfl); by_cases e2 : y = Str.ofString "number"; (subst e2; rfl); by_cases e3 : y = Str.ofString "rows"; (subst e3; rfl); by_cases e4 : y = Str.ofString "last"; (subst e4; rfl); simp only [if_neg e1, if_neg e2, if_neg e3, if_neg e4])), NF, stB, fun p hp => ?_, hCR, hCe, hCt, fun h'' hk => ?_, by omega, by simp; omega, ?_, hlt, rfl⟩)
  · rcases List.mem_append.mp hp with hp | hp
    · exact hks p hp
    · exact hmo p hp
  · obtain ⟨q1, q2⟩ := hrd h'' fun p hp => hk p (List.mem_append_left _ hp)
    rw [List.map_append]
    exact ⟨q1, q2.snoc (hTr h'' fun p hp => hk p (List.mem_append_right _ hp))⟩
  rw [hrows, List.drop_eq_getElem_cons hlt]
  refine rowsL_same (last_is hlt) ?_)
      exact .inl (by rw [List.drop_eq_nil_iff]; omega)
    · with_reducible rename (_ : Int) = 0 => hodd
      rw [odd_is] at hodd
      (
  (refine turn_next (ns.length - (i + 1)) (by omega) ⟨_, _, i + 1, _, _, dvs, cvs ++ [Value.ref T], er, ec + 1, oeB, oiB, C', ks ++ mo, done, cur ++ [wordOf ns[i] ((i : Int) == (ns.length : Int) - 1)], rfl, fr_cong FF (by (intro y; (show _ = (if y = Str.ofString "k" then _ else if y = Str.ofString "number" then _ else if y = Str.ofString "rows" then _ else if y = Str.ofString "last" then _ else _)); by_cases e1 : y = Str.ofString "k"; (subst e1; rfl); by_cases e2 : y = Str.ofString "number"; (subst e2; rfl); by_cases e3 : y = Str.ofString "rows"; (subst e3; rfl); by_cases e4 : y = Str.ofString "last"; (subst e4; rfl); simp only [if_neg e1, if_neg e2, if_neg e3, if_neg e4])), NF, stB, fun p hp => ?_, hCR, hCe, hCt, fun h'' hk => ?_, by omega, by simp; omega, ?_, hlt, rfl⟩)
  · rcases List.mem_append.mp hp with hp | hp
    · exact hks p hp
    · exact hmo p hp
  · obtain ⟨q1, q2⟩ := hrd h'' fun p hp => hk p (List.mem_append_left _ hp)
    rw [List.map_append]
    exact ⟨q1, q2.snoc (hTr h'' fun p hp => hk p (List.mem_append_right _ hp))⟩
  rw [hrows, List.drop_eq_getElem_cons hlt]
  refine rowsL_same (last_is hlt) ?_)
      exact .inr (by omega)
  · have hin : i = ns.length := by omega
    subst hin
    rw [List.drop_length] at hrows
    refine W.stop FA NA hrest (by rw [hvl]; exact st) fun hB tkB FB NB => ?_
    clear FA NA st
    unfold lmRw at FB
    walk_at "go"
    with_reducible rename Fr _ _ _ _ => FC
    with_reducible rename News _ _ _ _ => NC
    have get := fresh_news NC
    obtain ⟨q1, q2⟩ := hrd _ fun p hp => get p (.tail _ (.tail _ hp))
    have hR : Rd (fresh s.heap _) (.ref R) (.list ((done ++ [cur]).map rowD)) := Rd.of_list ⟨_, get _ (.head _), rfl, _, rfl⟩ (by
      rw [List.map_append]
      exact q1.snoc (Rd.of_list ⟨_, get _ (.tail _ (.head _)), rfl, _, rfl⟩ q2))
    refine h _ _ _ FC.keep (NC.fresh (.head _)) ?_
    rw [hrows]
    exact hR
end
end Mine

namespace Mine
noncomputable def LI (o : Obj) (l : Addr) (i : Nat) : Prop := o.cls = .type "list_iterator" ∧ o.data = .fields #[.ref l, .int i 0]
theorem pick_drop1 (us : List Value) : slicePick us.toArray (some 1) none none = (us.drop 1).toArray := by
  rw [kms_pick_eq]
  congr 1
  simp [kms_pick, kms_lo, kms_hi]
  cases us with
  | nil => rfl
  | cons a us => simp
theorem news_add1 {g h h' : Heap} {L T : Addr} {m : Str → Option Value} {news : List (Addr × Obj)} {o : Obj} (F : Fr g L h m) (N : News g L h' news) (hT : h.get? T = none) (e : h'.get? T = some o) : News g L h' ((T, o) :: news) := fun p hp => by
  rcases List.mem_cons.mp hp with rfl | hp
  · refine ⟨e, ?_, ?_⟩
    · rintro rfl
      obtain ⟨oL, _, _, q, _⟩ := F.ns
      rw [hT] at q; cases q
    · cases q : g.get? T with
      | none => rfl
      | some x => rw [F.keep _ _ q] at hT; cases hT
  · exact N p hp
section
variable {prog : Program} {w : World} {A : Around} {E : Value → Shared → Prop} {s : Shared} {g : Heap} {L D : Addr} {m : Str → Option Value} {news news' : List (Addr × Obj)} {n : Nat}
theorem setLast_U {Q : Unit → Shared → Prop} {p : List Value} {y z : Value} {t : Tok} (F : Fr g L s.heap m) (N : News g L s.heap news) (U : Upd D (PySem.W.listOf (p ++ [y]).toArray n) (PySem.W.listOf (p ++ [z]).toArray n) news news')
    (h : ∀ h', Fr g L h' m → News g L h' news' → Q () { s with heap := h' }) : wpAny (model prog w) A (setItem (.ref D) (.int (-1) t) z) Q E s := by
  obtain ⟨pre, post, rfl, rfl, a, b⟩ := U.split
  have q := N (D, PySem.W.listOf (p ++ [y]).toArray n) (List.mem_append.mpr (.inr (.head _)))
  have hsz : (p ++ [y]).toArray.size = p.length + 1 := by simp
  refine ki_setBack q.1 (by decide) (by rw [hsz]; omega) (by decide) ?_
  have e : (-1 + ((p ++ [y]).toArray.size : Int)).toNat = p.length := by rw [hsz]; omega
  rw [e]
  refine h _ (F.change (Heap.SameBut.update ..) q.2.1 q.2.2) (ki_turn _ N a b ?_ ?_)
  · simp
  · simp
theorem iter_list {Q : Value → Shared → Prop} {l : Addr} {vs : List Value} (F : Fr g L s.heap m) (N : News g L s.heap news) (hl : g.IsList l vs.toArray)
    (h : ∀ I oi h', LI oi l 0 → Fr g L h' m → News g L h' ((I, oi) :: news) → (∀ p ∈ news, p.1 < I) → Q (.ref I) { s with heap := h' }) : wpAny (model prog w) A (pyIter (.ref l)) Q E s :=
  wpAny_pyIter_list (isList_keeps hl F.keep) (h _ _ _ ⟨rfl, rfl⟩ (F.push _) (N.push F _) fun p hp => Heap.lt_size (N.get hp))
theorem list_next_F {Q : Option Value → Shared → Prop} {I l : Addr} {vs : List Value} {oi : Obj} {i : Nat} {v : Value} (F : Fr g L s.heap m) (N : News g L s.heap ((I, oi) :: news)) (hn : ∀ p ∈ news, p.1 ≠ I) (hl : g.IsList l vs.toArray) (hi : LI oi l i) (hv : vs[i]? = some v)
    (h : ∀ oi' h', LI oi' l (i + 1) → Fr g L h' m → News g L h' ((I, oi') :: news) → Q (some v) { s with heap := h' }) : wpAny (model prog w) A (pyNext (.ref I)) Q E s := by
  have q := N _ (.head _)
  refine wpAny_pyNext_list_item ⟨oi, q.1, hi⟩ (isList_keeps hl F.keep) (by simpa using hv) fun h' hit hs => ?_
  obtain ⟨oi', ho', hi'⟩ := hit
  refine h oi' h' hi' (F.change hs q.2.1 q.2.2) fun p hp => ?_
  rcases List.mem_cons.mp hp with rfl | hp
  · exact ⟨ho', q.2⟩
  · exact ⟨(hs.2 _ (hn p hp)).trans (N p (.tail _ hp)).1, (N p (.tail _ hp)).2⟩
theorem list_end_F {Q : Option Value → Shared → Prop} {I l : Addr} {vs : List Value} {oi : Obj} (hh : A.handled = none) (F : Fr g L s.heap m) (N : News g L s.heap ((I, oi) :: news)) (hn : ∀ p ∈ news, p.1 ≠ I) (hl : g.IsList l vs.toArray) (hi : LI oi l vs.length)
    (h : ∀ h', Fr g L h' m → News g L h' news → Q none { s with heap := h' }) : wpAny (model prog w) A (pyNext (.ref I)) Q E s := by
  have q := N _ (.head _)
  refine wpAny_pyNext_list_end hh ⟨oi, q.1, hi⟩ (isList_keeps hl F.keep) (by simp) fun h' he => ?_
  refine h h' ⟨F.ns.at' fun o e => he _ o (Ne.symm q.2.1) e, fun b o e => he b o (fun z => by rw [z, q.2.2] at e; cases e) (F.keep b o e), F.above⟩ fun p hp => ?_
  exact ⟨he _ _ (hn p hp) (N p (.tail _ hp)).1, (N p (.tail _ hp)).2⟩
theorem listAtH {Q : Value → Shared → Prop} {l : Addr} {value slice : Expr} {us : List Value} {v : Value} {k : Int} {u : Tok} (hL : s.heap.IsList l us.toArray) (h0 : 0 ≤ k) (h1 : k < 2 ^ 63) (hx : us[k.toNat]? = some v) (h : Q v s)
    (hs : subscripted slice false (.ref l) (.int k u) = operate [.ref l, .int k u] (getItem (.ref l) (.int k u)) := by with_unfolding_all rfl) :
    wpAny (model prog w) A (subscriptTail value slice (.ref l) (.int k u)) Q E s :=
  tail_any hL.typeIs slot_list_getitem.lookup (wpAny_getItem_list hL h0 h1 (by simpa using hx) h) hs
theorem addS {Q : Value → Shared → Prop} {a b : Tx} {t u : Tok} (hsz : a.length + b.length ≤ 1000000) (h : ∀ t' tk, Q (.str (S (a ++ b)) t') { s with toks := tk }) :
    wpAny (model prog w) A (binaryOp .Add (.str (S a) t) (.str (S b) u)) Q E s := by
  have hn : ∀ x : Tx, (S x).length = 0 → x = [] := fun x q => List.eq_nil_of_length_eq_zero (by rwa [S_len] at q)
  refine add_str (by rw [S_app]; exact h) (by rw [S_len, S_len]; exact Nat.le_trans hsz (by decide))
theorem addS' {Q : Value → Shared → Prop} {x y : Str} {a b : Tx} {t u : Tok} (hx : x = S a) (hy : y = S b) (hsz : a.length + b.length ≤ 1000000) (h : ∀ t' tk, Q (.str (S (a ++ b)) t') { s with toks := tk }) :
    wpAny (model prog w) A (binaryOp .Add (.str x t) (.str y u)) Q E s := by
  subst hx hy; exact addS hsz h
theorem news_sub {small big : List (Addr × Obj)} {h : Heap} (N : News g L h big) (q : ∀ p ∈ small, p ∈ big) : News g L h small := fun p hp => N p (q p hp)
end
theorem rep_arr (x : Value) {n : Nat} (hn : n = 1 ∨ n = 2) : List.foldl (fun x1 x2 => x1 ++ x2) #[] (List.replicate (if (#[x] : Array Value).isEmpty = true then 0 else (n : Int).toNat) #[x]) = (List.replicate n x).toArray := by
  rcases hn with rfl | rfl <;> rfl
theorem TxsAre.snoc_inv {p : List Value} {y : Value} {ds : List Tx} (T : TxsAre (p ++ [y]) ds) : ∃ ds' x t, ds = ds' ++ [x] ∧ y = .str (S x) t ∧ TxsAre p ds' := by
  have hl := T.1
  rcases List.eq_nil_or_concat ds with rfl | ⟨ds', x, rfl⟩
  · simp at hl
  · rw [List.concat_eq_append] at *
    have hl' : p.length = ds'.length := by simpa using hl
    obtain ⟨t, ht⟩ := T.2 p.length y x (by simp) (by rw [hl']; simp)
    refine ⟨ds', x, t, rfl, ht, hl', fun j v z e1 e2 => ?_⟩
    have hj := (List.getElem?_eq_some_iff.mp e1).1
    exact T.2 j v z (by rw [List.getElem?_append_left hj]; exact e1) (by rw [List.getElem?_append_left (by omega)]; exact e2)
theorem TxsAre.append {p q : List Value} {ds es : List Tx} (T : TxsAre p ds) (U : TxsAre q es) : TxsAre (p ++ q) (ds ++ es) := by
  refine ⟨by simp [T.1, U.1], fun j v x e1 e2 => ?_⟩
  by_cases hj : j < p.length
  · rw [List.getElem?_append_left hj] at e1
    rw [List.getElem?_append_left (by rw [← T.1]; exact hj)] at e2
    exact T.2 j v x e1 e2
  · rw [List.getElem?_append_right (by omega)] at e1
    rw [List.getElem?_append_right (by rw [← T.1]; omega), ← T.1] at e2
    exact U.2 _ v x e1 e2
theorem TxsAre.rep (n : Nat) (x : Tx) (t : Tok) : TxsAre (List.replicate n (.str (S x) t)) (List.replicate n x) := by
  refine ⟨by simp, fun j v y e1 e2 => ?_⟩
  rw [List.getElem?_replicate] at e1 e2
  split at e1
  · rw [if_pos (by assumption)] at e2; cases e1; cases e2; exact ⟨t, rfl⟩
  · cases e1
theorem TxsAre.one (x : Tx) (t : Tok) : TxsAre [.str (S x) t] [x] := TxsAre.nil.push x t
theorem TxsAre.drop1 {p : List Value} {ds : List Tx} (T : TxsAre p ds) : TxsAre (p.drop 1) (ds.drop 1) := by
  refine ⟨by simp [T.1], fun j v x e1 e2 => ?_⟩
  rw [List.getElem?_drop] at e1 e2
  exact T.2 _ v x e1 e2
noncomputable def dueS (times : Nat) (st : List Tx × Bool) (row : List Wd) : List Tx × Bool :=
  if st.2 then (st.1.dropLast ++ [st.1.getLastD [] ++ [10] ++ hash] ++ (List.replicate (times - 1) hash ++ (tornR row.reverse).1), (tornR row.reverse).2)
  else (st.1 ++ (List.replicate times hash ++ (tornR row.reverse).1), (tornR row.reverse).2)
noncomputable def dueF (times : Nat) (rows : List (List Wd)) : List Tx × Bool := rows.foldl (dueS times) ([], false)
noncomputable def dueW (times : Nat) (rows : List (List Wd)) : List Tx :=
  if (dueF times rows).1.getLastD [] = [] then (dueF times rows).1.dropLast else (dueF times rows).1
end Mine

namespace Mine
local macro_rules | `(tactic| walk_at "go") => `(tactic| repeat' (first | (k_unfold; (try dsimp only)) | walk1 | (dsimp only; walk1)))
local macro_rules | `(tactic| walk_at "call ref") => `(tactic| refine halt ?_)
local macro_rules | `(tactic| walk_at "exec For") => `(tactic| refine halt ?_)
local macro_rules | `(tactic| walk_at "exec For Name Name cons nil") => `(tactic| refine halt ?_)
local macro_rules | `(tactic| walk_at "pyIter ref") => `(tactic| refine halt ?_)
local macro_rules | `(tactic| walk_at "binaryOp Add ref ref") => `(tactic| refine halt ?_)
local macro_rules | `(tactic| walk_at "binaryOp Mult ref int") => `(tactic| refine halt ?_)
local macro_rules | `(tactic| walk_at "binaryOp Add str str") => `(tactic| refine halt ?_)
local macro_rules | `(tactic| walk_at "setItem ref int") => `(tactic| refine halt ?_)
local macro_rules | `(tactic| walk_at "setItem ref int str") => `(tactic| refine halt ?_)
local macro_rules | `(tactic| walk_at "subscriptTail Name Slice ref ref") => `(tactic| (refine slice_list (hsz := ?hsz) (by assumption) (by assumption) ⟨_, News.get (by assumption) (.head _), rfl, _, rfl⟩ (by first | exact .none | exact .int _ _) (by first | exact .none | exact .int _ _) ?_; (case hsz => (simp only [List.size_toArray, List.length_append, List.length_replicate, List.length_cons, List.length_nil, sizeLine_eq]; omega)); intro _ _ _))
local macro_rules | `(tactic| walk_at "subscriptTail") => `(tactic| ((with_reducible show wpAny _ _ (subscriptTail _ _ (Value.ref _) (Value.int _ _)) _ _ _); refine halt ?_))
noncomputable def lmD (v : Value) (n : Nat) (tn : Tok) (D : Addr) (lo : Bool) (rv wv av : Option Value) : Str → Option Value := fun y => if y = Str.ofString "row" then rv else if y = Str.ofString "words" then wv else if y = Str.ofString "after" then av else if y = Str.ofString "due" then some (.ref D) else if y = Str.ofString "loose" then some (.bool lo) else List.lookup y [(Str.ofString "rows", v), (Str.ofString "times", .int n tn)].reverse
theorem torn_bound (r : List Wd) (h8 : r.length ≤ 8) (hok : ∀ x ∈ r, WdOk x) : (tornR r.reverse).1.length ≤ 8 ∧ ∀ x ∈ (tornR r.reverse).1, x.length ≤ 1000 := by
  have key : ∀ q : List Wd, (∀ x ∈ q, WdOk x) → (tornR q).1.length ≤ q.length ∧ ∀ x ∈ (tornR q).1, x.length ≤ 1000 := by
    intro q
    induction q with
    | nil => intro _; exact ⟨Nat.le_refl _, fun x hx => nomatch hx⟩
    | cons w q ih =>
      intro hq
      have hw := hq w (.head _)
      have hq' : ∀ x ∈ q, WdOk x := fun x hx => hq x (.tail _ hx)
      unfold tornR
      split
      · refine ⟨by simp, fun x hx => ?_⟩
        rcases List.mem_append.mp hx with hx | hx
        · obtain ⟨v, hv, rfl⟩ := List.mem_map.mp hx
          rw [signs, List.length_map]
          exact (hq' v (List.mem_reverse.mp hv)).1
        · rw [List.mem_singleton.mp hx, signs, List.length_map]
          refine Nat.le_trans ?_ hw.1
          unfold left1
          split
          · exact Nat.le_refl _
          · rw [List.length_reverse]
            have s1 : ∀ l : List (Nat × Bool), (strip1 l).1.length ≤ l.length := by
              intro l
              induction l with
              | nil => exact Nat.le_refl _
              | cons p l ihl =>
                unfold strip1
                split
                · split
                  · simp
                  · exact Nat.le_trans ihl (Nat.le_succ _)
                · exact Nat.le_refl _
            exact Nat.le_trans (s1 _) (by simp)
      · obtain ⟨h1, h2⟩ := ih hq'
        exact ⟨Nat.le_trans h1 (Nat.le_succ _), h2⟩
  obtain ⟨h1, h2⟩ := key r.reverse (fun x hx => hok x (List.mem_reverse.mp hx))
  exact ⟨by rw [List.length_reverse] at h1; omega, h2⟩
theorem TxsAre.hashes (n : Nat) (t : Tok) : TxsAre (List.replicate n (.str (Str.ofString "#") t)) (List.replicate n hash) := by
  rw [of_lit (s := "#") (l := [35]) (by decide)]; exact TxsAre.rep _ _ _
theorem dueF_step {n i : Nat} {rows : List (List Wd)} {ds : List Tx} {lo : Bool} (h : i < rows.length) (hd : dueF n (rows.take i) = (ds, lo)) : dueF n (rows.take (i + 1)) = dueS n (ds, lo) rows[i] := by
  rw [take_snoc h, dueF, List.foldl_append, ← dueF, hd]; rfl
theorem news_db {g h : Heap} {L : Addr} {a b c d e : Addr × Obj} (N : News g L h [a, b, c, d, e]) : News g L h [d, b] := news_sub N (by
  intro p hp
  simp only [List.mem_cons, List.not_mem_nil, or_false] at hp ⊢
  rcases hp with x | x
  · exact .inr (.inr (.inr (.inl x)))
  · exact .inr (.inl x))
theorem news_eb {g h : Heap} {L : Addr} {a b c d e f : Addr × Obj} (N : News g L h [a, b, c, d, e, f]) : News g L h [e, b] := news_sub N (by
  intro p hp
  simp only [List.mem_cons, List.not_mem_nil, or_false] at hp ⊢
  rcases hp with x | x
  · exact .inr (.inr (.inr (.inr (.inl x))))
  · exact .inr (.inl x))
theorem dueW_nil {n : Nat} {rows : List (List Wd)} {ds : List Tx} {x : Tx} {lo : Bool} (hd : dueF n rows = (ds ++ [x], lo)) (h : (S x == Str.ofString "") = true) : dueW n rows = ds := by
  have hx : x = [] := by
    have := eq_of_beq h
    rw [of_lit (s := "") (l := []) rfl, S_iff] at this
    exact this
  subst hx
  simp [dueW, hd]
theorem dueW_full {n : Nat} {rows : List (List Wd)} {ds : List Tx} {x : Tx} {lo : Bool} (hd : dueF n rows = (ds ++ [x], lo)) (h : (S x == Str.ofString "") = false) : dueW n rows = ds ++ [x] := by
  have hx : x ≠ [] := by
    rintro rfl
    rw [of_lit (s := "") (l := []) rfl] at h
    simp at h
  simp [dueW, hd, hx]
theorem news_afg {g h : Heap} {L : Addr} {a b c d e f k : Addr × Obj} (N : News g L h [a, b, c, d, e, f, k]) : News g L h [a, f, k] := news_sub N (by
  intro p hp
  simp only [List.mem_cons, List.not_mem_nil, or_false] at hp ⊢
  rcases hp with x | x | x
  · exact .inl x
  · exact .inr (.inr (.inr (.inr (.inr (.inl x)))))
  · exact .inr (.inr (.inr (.inr (.inr (.inr x))))))
inductive DueI (s : Shared) (l : Addr) (n : Nat) (tn : Tok) (I : Addr) (rows : List (List Wd)) (k : Nat) (s' : Shared) : Prop
  | mk (h' : Heap) (tk' i : Nat) (rv wv av : Option Value) (D : Addr) (dvs : List Value) (nd : Nat) (oi : Obj) (lo : Bool) (ds : List Tx) (e : s' = { s with heap := h', toks := tk' })
    (F : Fr s.heap s.heap.objs.size h' (lmD (.ref l) n tn D lo rv wv av)) (N : News s.heap s.heap.objs.size h' [(I, oi), (D, PySem.W.listOf dvs.toArray nd)]) (li : LI oi l i) (hD : D ≠ I)
    (hds : dueF n (rows.take i) = (ds, lo)) (htx : TxsAre dvs ds) (hdl : ds.length ≤ 20 * i) (hxl : ∀ x ∈ ds, x.length ≤ 1000 + 2 * i) (hlo : lo = true → ds ≠ []) (hi0 : i ≠ 0 → ds ≠ [])
    (hi : i ≤ rows.length) (hk : k = rows.length - i) : DueI s l n tn I rows k s'
section
variable {w : World} {A : Around} {s : Shared} {Q : Value → Shared → Prop} {E : Value → Shared → Prop}
theorem due_spec (G : Gd w s.heap) (a : At 5 A) (v : Value) (rows : List (List Wd)) (hr : Rd s.heap v (.list (rows.map rowD))) (h8 : rows.length ≤ 8) (hne : rows ≠ []) (hr8 : ∀ r ∈ rows, r.length ≤ 8) (hok : ∀ r ∈ rows, ∀ x ∈ r, WdOk x) (n : Nat) (tn : Tok) (hnn : n = 1 ∨ n = 2)
    (h : ∀ h' tk R vw e, Kp s.heap h' → s.heap.get? R = none → h'.get? R = some (PySem.W.listOf (vw : List Value).toArray e) → TxsAre vw (dueW n rows) → Q (.ref R) { s with heap := h', toks := tk }) :
    wpAny (model PySem.Challenge.rw_pg0042_01.row.prog w) A (call (.ref 146) [v, .int n tn]) Q E s := by
  have G₀ := G
  obtain ⟨X, loose, mean, mg, mb, T⟩ := G
  revert X
  k_fill
  intro X
  refine a.use ?_
  refine enter_def (binds := [(Str.ofString "rows", v), (Str.ofString "times", .int n tn)]) X T (by k_is) (by k_is) (by decide) (BindsTo.of_eq rfl) (locs rfl) ?_ rfl rfl rfl (by decide)
  intro h₁ F N
  obtain ⟨l, vs, rfl, hl, hlen, hrs⟩ := hr.list_inv
  have hvl : vs.length = rows.length := by simpa using hlen
  w_on
  walk_at "go"
  with_reducible rename Fr _ _ _ _ => F₂
  with_reducible rename News _ _ _ _ => N₂
  obtain ⟨D, N₃, F₃⟩ : ∃ D, News s.heap s.heap.objs.size _ [(D, PySem.W.listOf #[] 0)] ∧ Fr s.heap s.heap.objs.size _ (lmD (.ref l) n tn D false none none none) := ⟨_, news_drop1 N₂, fr_cong F₂ (by (intro y; (show _ = (if y = Str.ofString "row" then _ else if y = Str.ofString "words" then _ else if y = Str.ofString "after" then _ else if y = Str.ofString "due" then _ else if y = Str.ofString "loose" then _ else _)); by_cases e1 : y = Str.ofString "row"; (subst e1; rfl); by_cases e2 : y = Str.ofString "words"; (subst e2; rfl); by_cases e3 : y = Str.ofString "after"; (subst e3; rfl); by_cases e4 : y = Str.ofString "due"; (subst e4; rfl); by_cases e5 : y = Str.ofString "loose"; (subst e5; rfl); simp only [if_neg e1, if_neg e2, if_neg e3, if_neg e4, if_neg e5]))⟩
  clear F₂ N₂
  unfold lmD at F₃
  refine unhalt (wpAny_For ?_)
  walk_at "go"
  with_reducible rename Fr _ _ _ _ => F₄
  with_reducible rename News _ _ _ _ => N₄
  refine unhalt (iter_list F₄ N₄ hl fun I oi h₅ li F₅ N₅ lt5 => ?_)
  have hDI : D < I := lt5 _ (.head _)
  clear F₄ N₄ lt5
  refine for_loop (DueI s l n tn I rows) ?_ _
    ⟨_, _, 0, _, _, _, D, [], _, oi, false, [], rfl, fr_cong F₅ (by (intro y; (show _ = (if y = Str.ofString "row" then _ else if y = Str.ofString "words" then _ else if y = Str.ofString "after" then _ else if y = Str.ofString "due" then _ else if y = Str.ofString "loose" then _ else _)); by_cases e1 : y = Str.ofString "row"; (subst e1; rfl); by_cases e2 : y = Str.ofString "words"; (subst e2; rfl); by_cases e3 : y = Str.ofString "after"; (subst e3; rfl); by_cases e4 : y = Str.ofString "due"; (subst e4; rfl); by_cases e5 : y = Str.ofString "loose"; (subst e5; rfl); simp only [if_neg e1, if_neg e2, if_neg e3, if_neg e4, if_neg e5])), N₅, li, Nat.ne_of_lt hDI, rfl, TxsAre.nil, Nat.zero_le _, (fun x hx => nomatch hx), (fun q => nomatch q), (fun q => absurd rfl q), Nat.zero_le _, rfl⟩
  clear li
  try clear F₅ N₅
  try clear F₃ N₃
  rintro k s' ⟨h', tk', i, rv, wv, av, D', dvs, nd, oi', lo, ds, rfl, FA, NA, li, hDI', hds, htx, hdl, hxl, hlo, hi0, hi, rfl⟩
  have hnI : ∀ p ∈ [(D', PySem.W.listOf dvs.toArray nd)], p.1 ≠ I := fun p hp => by
    rw [List.mem_singleton.mp hp]; exact hDI'
  by_cases hlt : i < rows.length
  · obtain ⟨u, hu, hrd⟩ := hrs i (rowD rows[i]) (by simp [hlt])
    refine list_next_F FA NA hnI hl li hu fun oiB hB liB FB NB => ?_
    clear FA NA li
    unfold lmD at FB
    have hmem := List.getElem_mem hlt
    have htl := torn_bound rows[i] (hr8 _ hmem) (hok _ hmem)
    walk_at "go"
    with_reducible rename Fr _ _ _ _ => FC
    with_reducible rename News _ _ _ _ => NC
    refine unhalt (torn_spec (by exact G₀.keeps FC.keep) (at_of rfl rfl rfl) u rows[i] (by exact hrd.keeps FC.keep) (by have := hr8 _ hmem; omega) (fun x hx => hok _ hmem x hx) fun hD tkD T W vw nw hkD hTn hWn hT hW htw => ?_)
    have FD := FC.keeps hkD
    have ND := news_add1 FC (news_add1 FC (news_keeps NC hkD) hWn hW) hTn hT
    clear FC NC hT hW hTn hWn hkD
    try clear FB NB
    generalize htr : tornR rows[i].reverse = tr at *
    obtain ⟨tw, aft⟩ := tr
    obtain ⟨htl, htx1⟩ := htl
    dsimp only at htw htl htx1
    walk_at "go"
    with_reducible rename Fr _ _ _ _ => FE
    with_reducible rename News _ _ _ _ => NE
    refine unhalt (mul_list FE NE (NE.get (.head _)) (by omega) (by omega) (by simp; omega) fun hF FF NF => ?_)
    rw [rep_arr _ hnn] at NF
    clear FE NE
    try clear FD ND
    walk_at "go"
    with_reducible rename Fr _ _ _ _ => FG
    with_reducible rename News _ _ _ _ => NG
    refine unhalt (add_lists (ws := vw) FG NG ⟨_, NG.get (.head _), rfl, _, rfl⟩ ⟨_, NG.get (.tail _ (.tail _ (.tail _ (.head _)))), rfl, _, rfl⟩ (fun hH FH NH => ?_) (by rw [List.length_replicate, htw.1, sizeLine_eq]; omega))
    have hDK := Heap.lt_size (NG.get (.tail _ (.tail _ (.tail _ (.tail _ (.tail _ (.head _)))))))
    have hIK := Heap.lt_size (NG.get (.tail _ (.tail _ (.tail _ (.tail _ (.head _))))))
    clear FG NG
    try clear FF NF
    have NI := news_afg NH
    clear NH
    walk_at "go"
    · with_reducible rename Fr _ _ _ _ => FJ
      with_reducible rename News _ _ _ _ => NJ
      with_reducible rename lo = true => hl1
      subst hl1
      rcases List.eq_nil_or_concat dvs with rfl | ⟨p, y, rfl⟩
      · exact absurd (List.eq_nil_of_length_eq_zero htx.1.symm) (hlo rfl)
      rw [List.concat_eq_append] at *
      obtain ⟨ds', x, ty, rfl, rfl, htp⟩ := htx.snoc_inv
      refine unhalt (lastAtH (us := p) (NJ.isList (.tail _ (.tail _ (.head _)))) ?_)
      walk_at "go"
      have hx1 := hxl x (by simp)
      have hvwl := htw.1
      have hpl := htp.1
      have hdl' : ds'.length + 1 ≤ 20 * i := by simpa using hdl
      refine unhalt (addS' (a := x) (b := [10]) rfl (of_lit (by decide)) (by simp; omega) fun t1 tk1 => ?_)
      walk_at "go"
      obtain ⟨n', hn'⟩ : ∃ n', n = n' + 1 := ⟨n - 1, by omega⟩
      refine unhalt (listAtH (v := Value.str (Str.ofString "#") _) ⟨_, NJ.get (.head _), rfl, _, rfl⟩ (by decide) (by decide) (by rw [hn']; rfl) ?_)
      walk_at "go"
      refine unhalt (addS' (a := x ++ [10]) (b := [35]) rfl (of_lit (by decide)) (by simp; omega) fun t2 tk2 => ?_)
      walk_at "go"
      refine unhalt (setLast_U FJ NJ (.tail (Nat.ne_of_gt hDK) (.tail (Ne.symm hDI') (.head fun p hp => nomatch hp))) fun hM FM NM => ?_)
      clear FJ NJ
      walk_at "go"
      with_reducible rename Fr _ _ _ _ => FO
      with_reducible rename News _ _ _ _ => NO
      rw [pick_drop1] at NO
      refine unhalt (add_lists FO NO ⟨_, NO.get (.tail _ (.tail _ (.tail _ (.head _)))), rfl, _, rfl⟩ ⟨_, NO.get (.head _), rfl, _, rfl⟩ (fun hK FK NK => ?_) (by rw [List.length_append, List.length_drop, List.length_append, List.length_replicate, htw.1, htp.1, sizeLine_eq]; simp at hdl ⊢; omega))
      have hIN := Heap.lt_size (NO.get (.tail _ (.tail _ (.head _))))
      clear FO NO
      walk_at "go"
      with_reducible rename Fr _ _ _ _ => FP
      with_reducible rename News _ _ _ _ => NP
      refine turn_next (rows.length - (i + 1)) (by omega) ⟨_, _, i + 1, _, _, _, _, _, _, oiB, aft, ds' ++ [x ++ [10] ++ [35]] ++ (List.replicate n hash ++ tw).drop 1, rfl, fr_cong FP (by (intro y; (show _ = (if y = Str.ofString "row" then _ else if y = Str.ofString "words" then _ else if y = Str.ofString "after" then _ else if y = Str.ofString "due" then _ else if y = Str.ofString "loose" then _ else _)); by_cases e1 : y = Str.ofString "row"; (subst e1; rfl); by_cases e2 : y = Str.ofString "words"; (subst e2; rfl); by_cases e3 : y = Str.ofString "after"; (subst e3; rfl); by_cases e4 : y = Str.ofString "due"; (subst e4; rfl); by_cases e5 : y = Str.ofString "loose"; (subst e5; rfl); simp only [if_neg e1, if_neg e2, if_neg e3, if_neg e4, if_neg e5])), news_eb NP, liB, Nat.ne_of_gt hIN, ?_, (htp.append (TxsAre.one _ _)).append ((TxsAre.hashes n _).append htw).drop1, ?_, ?_, ?_, ?_, hlt, rfl⟩
      · rw [dueF_step hlt hds, dueS, htr]
        rcases hnn with rfl | rfl <;> simp [hash]
      · simp at hdl ⊢; omega
      · intro y hy
        simp only [List.mem_append, List.mem_singleton] at hy
        rcases hy with (hy | rfl) | hy
        · have := hxl y (by simp [hy]); omega
        · simp; omega
        · have hy := List.mem_of_mem_drop hy
          rcases List.mem_append.mp hy with hy | hy
          · rw [List.eq_of_mem_replicate hy]; simp [hash]; omega
          · have := htx1 y hy; omega
      · intro _; simp
      · intro _; simp
    · with_reducible rename Fr _ _ _ _ => FJ
      with_reducible rename News _ _ _ _ => NJ
      with_reducible rename lo = false => hl1
      subst hl1
      refine unhalt (add_lists (vs := dvs) FJ NJ ⟨_, NJ.get (.tail _ (.tail _ (.head _))), rfl, _, rfl⟩ ⟨_, NJ.get (.head _), rfl, _, rfl⟩ (fun hK FK NK => ?_) (by rw [List.length_append, List.length_replicate, htw.1, htx.1, sizeLine_eq]; omega))
      have hIN := Heap.lt_size (NJ.get (.tail _ (.head _)))
      clear FJ NJ
      walk_at "go"
      with_reducible rename Fr _ _ _ _ => FP
      with_reducible rename News _ _ _ _ => NP
      refine turn_next (rows.length - (i + 1)) (by omega) ⟨_, _, i + 1, _, _, _, _, _, _, oiB, aft, ds ++ (List.replicate n hash ++ tw), rfl, fr_cong FP (by (intro y; (show _ = (if y = Str.ofString "row" then _ else if y = Str.ofString "words" then _ else if y = Str.ofString "after" then _ else if y = Str.ofString "due" then _ else if y = Str.ofString "loose" then _ else _)); by_cases e1 : y = Str.ofString "row"; (subst e1; rfl); by_cases e2 : y = Str.ofString "words"; (subst e2; rfl); by_cases e3 : y = Str.ofString "after"; (subst e3; rfl); by_cases e4 : y = Str.ofString "due"; (subst e4; rfl); by_cases e5 : y = Str.ofString "loose"; (subst e5; rfl); simp only [if_neg e1, if_neg e2, if_neg e3, if_neg e4, if_neg e5])), news_db NP, liB, Nat.ne_of_gt hIN, ?_, htx.append ((TxsAre.hashes n _).append htw), ?_, ?_, ?_, ?_, hlt, rfl⟩
      · rw [dueF_step hlt hds, dueS, htr]; rfl
      · simp; omega
      · intro y hy
        rcases List.mem_append.mp hy with hy | hy
        · have := hxl y hy; omega
        rcases List.mem_append.mp hy with hy | hy
        · rw [List.eq_of_mem_replicate hy]; simp [hash]; omega
        · have := htx1 y hy; omega
      · intro _; rcases hnn with rfl | rfl <;> simp
      · intro _; rcases hnn with rfl | rfl <;> simp
  · have hin : i = rows.length := by omega
    subst hin
    rw [List.take_length] at hds
    refine list_end_F rfl FA NA hnI hl (by rw [hvl]; exact li) fun hB FB NB => ?_
    clear FA NA li
    unfold lmD at FB
    rcases List.eq_nil_or_concat dvs with rfl | ⟨p, y, rfl⟩
    · exact absurd (List.eq_nil_of_length_eq_zero htx.1.symm) (hi0 (fun z => hne (List.eq_nil_of_length_eq_zero z)))
    rw [List.concat_eq_append] at *
    obtain ⟨ds', x, ty, rfl, rfl, htp⟩ := htx.snoc_inv
    have hpl := htp.1
    have hdl' : ds'.length + 1 ≤ 20 * rows.length := by simpa using hdl
    walk_at "go"
    refine unhalt (lastAtH (us := p) (NB.isList (.head _)) ?_)
    walk_at "go"
    · with_reducible rename Fr _ _ _ _ => FC
      with_reducible rename News _ _ _ _ => NC
      rw [pick_last] at NC
      exact h _ _ _ _ _ FC.keep (NC.fresh (.head _)) (NC.get (.head _)) (by rw [dueW_nil hds (by assumption)]; exact htp)
    · exact h _ _ _ _ _ FB.keep (NB.fresh (.head _)) (NB.get (.head _)) (by rw [dueW_full hds (by assumption)]; exact htx)
end
end Mine

namespace Mine
section
variable {prog : Program} {w : World} {A : Around} {E : Value → Shared → Prop} {env : Env}
abbrev nestE (elt i1 i2 : Expr) (x y : Str) (px py : Pos) (scope : Scope) (pos : Pos) : Expr := .ListComp elt [⟨.Name x px, i1, [], 0⟩, ⟨.Name y py, i2, [], 0⟩] scope pos
theorem nest_turn0 (elt i1 i2 : Expr) (x y : Str) (px py : Pos) (scope : Scope) (pos : Pos) (it acc : Value) (env : Env) :
    compTurn (nestE elt i1 i2 x y px py scope pos) 0 it acc env = (standAt i1.pos >>= fun _ => pyNext it >>= fun r => match r with
      | none => pure (.done .next)
      | some v => letOwnedTupleGo (.Name x px) it v >>= fun _ => assign (.Name x px) env v >>= fun _ =>
        eval i2 env >>= fun z => standAt i2.pos >>= fun _ => foldedSetIterable i2 env z >>= fun z => holding [z] (pyIter z) >>= fun w => runOwn (.compStart (nestE elt i1 i2 x y px py scope pos) 1 w acc env) env >>= fun _ =>
          again (.compLoop (nestE elt i1 i2 x y px py scope pos) 0 it acc env)) := by rfl
theorem nest_turn1 (elt i1 i2 : Expr) (x y : Str) (px py : Pos) (scope : Scope) (pos : Pos) (it acc : Value) (env : Env) :
    compTurn (nestE elt i1 i2 x y px py scope pos) 1 it acc env = (standAt i2.pos >>= fun _ => pyNext it >>= fun r => match r with
      | none => pure (.done .next)
      | some v => letOwnedTupleGo (.Name y py) it v >>= fun _ => assign (.Name y py) env v >>= fun _ =>
        (eval elt env >>= fun z => call (.builtin "list.append") [acc, z] >>= fun _ => pure ()) >>= fun _ =>
          again (.compLoop (nestE elt i1 i2 x y px py scope pos) 1 it acc env)) := by rfl
variable {elt i1 i2 : Expr} {x y : Str} {px py : Pos} {scope : Scope} {pos : Pos}
theorem nest_inner {it acc : Value} {env : Env} {R : Result → Shared → Prop} {s : Shared} (I : Nat → Shared → Prop)
    (turn : ∀ n s, I n s → wpAny (model prog w) A (pyNext it) (fun r s₁ => match r with
      | none => R (.ok .next) s₁
      | some v => wpAny (model prog w) A (assign (.Name y py) env v) (fun _ s₂ =>
          wpAny (model prog w) A (eval elt env) (fun z s₄ =>
              wpAny (model prog w) A (call (.builtin "list.append") [acc, z]) (fun _ s₅ => ∃ m, m < n ∧ I m s₅) (fun _ _ => False) s₄) (fun _ _ => False) s₂)
          (fun _ _ => False) s₁) (fun _ _ => False) s)
    (n : Nat) (h : I n s) : codeAny (model prog w) A (.compLoop (nestE elt i1 i2 x y px py scope pos) 1 it acc env) R s := by
  refine codeAny_loop rfl I (fun n s hI => ?_) n h
  show wpAny _ A ((compTurn (nestE elt i1 i2 x y px py scope pos) 1 it acc env).onRaise (fun x => do noteFrame x env; theTreesLotGoes x)) _ _ s
  refine wpAny_noted ?_
  rw [nest_turn1]
  refine wpAny_bind (wpAny_standAt (wpAny_bind (wpAny_mono (turn n s hI) (fun r s₁ h₁ => ?_) fun _ _ h' => h'.elim)))
  cases r with
  | none => exact wpAny_pure h₁
  | some v =>
    refine wpAny_bind (wpAny_of_eq (a := ()) rfl ?_)
    refine wpAny_bind (wpAny_mono h₁ (fun _ s₂ h₂ => ?_) fun _ _ h' => h'.elim)
    exact wpAny_bind (wpAny_bind (wpAny_mono h₂ (fun x s₄ h₄ => wpAny_bind (wpAny_mono h₄ (fun _ s₅ h₅ => wpAny_pure (wpAny_pure ⟨rfl, h₅⟩)) fun _ _ h' => h'.elim)) fun _ _ h' => h'.elim))
theorem nest_outer {it acc : Value} {env : Env} {R : Result → Shared → Prop} {s : Shared} (hs : ∀ z, foldedSetIterable i2 env z = pure z) (I : Nat → Shared → Prop)
    (turn : ∀ n s, I n s → wpAny (model prog w) A (pyNext it) (fun r s₁ => match r with
      | none => R (.ok .next) s₁
      | some v => wpAny (model prog w) A (assign (.Name x px) env v) (fun _ s₂ =>
          wpAny (model prog w) A (eval i2 env) (fun z s₃ => wpAny (model prog w) A (pyIter z) (fun u s₄ =>
              codeAny (model prog w) A (.compStart (nestE elt i1 i2 x y px py scope pos) 1 u acc env) (fun r s₅ => (∃ f, r = .ok f) ∧ ∃ m, m < n ∧ I m s₅) s₄) (fun _ _ => False) s₃) (fun _ _ => False) s₂)
          (fun _ _ => False) s₁) (fun _ _ => False) s)
    (n : Nat) (h : I n s) : codeAny (model prog w) A (.compLoop (nestE elt i1 i2 x y px py scope pos) 0 it acc env) R s := by
  refine codeAny_loop rfl I (fun n s hI => ?_) n h
  show wpAny _ A ((compTurn (nestE elt i1 i2 x y px py scope pos) 0 it acc env).onRaise (fun x => do noteFrame x env; theTreesLotGoes x)) _ _ s
  refine wpAny_noted ?_
  rw [nest_turn0]
  refine wpAny_bind (wpAny_standAt (wpAny_bind (wpAny_mono (turn n s hI) (fun r s₁ h₁ => ?_) fun _ _ h' => h'.elim)))
  cases r with
  | none => exact wpAny_pure h₁
  | some v =>
    refine wpAny_bind (wpAny_of_eq (a := ()) rfl ?_)
    refine wpAny_bind (wpAny_mono h₁ (fun _ s₂ h₂ => ?_) fun _ _ h' => h'.elim)
    refine wpAny_bind (wpAny_mono h₂ (fun z s₃ h₃ => wpAny_bind (wpAny_standAt (wpAny_bind (wpAny_of_eq (hs z) (wpAny_bind (wpAny_holding (wpAny_mono h₃ (fun u s₄ h₄ => wpAny_bind (wpAny_runOwn ?_)) fun _ _ h' => h'.elim))))))) fun _ _ h' => h'.elim)
    refine codeAny_mono h₄ fun r s₅ h₅ => ?_
    obtain ⟨⟨f, rfl⟩, h₅⟩ := h₅
    exact wpAny_pure ⟨rfl, h₅⟩
theorem nest_start {it acc : Value} {env : Env} {R : Result → Shared → Prop} {s : Shared} (h0 : codeAny (model prog w) A (.compLoop (nestE elt i1 i2 x y px py scope pos) 1 it acc env) R s)
    (h : wpAny (model prog w) A (pyIter it) (fun it' s' => codeAny (model prog w) A (.compLoop (nestE elt i1 i2 x y px py scope pos) 1 it' acc env) R s') (fun _ _ => False) s) :
    codeAny (model prog w) A (.compStart (nestE elt i1 i2 x y px py scope pos) 1 it acc env) R s := by
  refine codeAny_of_tree ?_
  show wpAny _ _ ((compStart (nestE elt i1 i2 x y px py scope pos) 1 it acc env).onRaise (fun x => do noteFrame x env; standAt theWindowsPlace)) _ _ s
  refine wpAny_notedAt ?_
  unfold compStart
  show wpAny _ _ (ask >>= _) _ _ s
  refine wpAny_bind (wpAny_askSetting (wpAny_ite ?_))
  split
  · first
      | exact wpAny_bind (wpAny_pure (wpAny_pure (And.intro rfl h0)))
      | exact wpAny_pure (And.intro rfl h0)
  · first
      | exact wpAny_bind (wpAny_rule (wpAny_bind (wpAny_standAt (wpAny_bind (wpAny_mono h (fun it' s' h' => wpAny_pure (And.intro rfl h')) fun _ _ x => x.elim)))))
      | (refine wpAny_bind (wpAny_rule ?_); show wpAny _ _ (standAt i2.pos >>= _) _ _ s; exact wpAny_bind (wpAny_standAt (wpAny_bind (wpAny_mono h (fun it' s' h' => wpAny_pure (And.intro rfl h')) fun _ _ x => x.elim))))
end
theorem cut_none {h : Heap} {n : Nat} {b : Addr} (hb : n ≤ b) : (cut h n).get? b = none := by
  cases q : (cut h n).get? b with
  | none => rfl
  | some o => exact absurd (Heap.lt_size q) (Nat.not_lt.mpr (Nat.le_trans (cut_size h n) hb))
section
variable {prog : Program} {w : World} {A : Around} {E : Value → Shared → Prop} {elt i1 i2 : Expr} {x y : Str} {px py : Pos} {scope : Scope} {pos : Pos} {cenv : Env} {s : Shared} {R : Result → Shared → Prop}
theorem words_inner (hh : A.handled = none) {D I2 l2 : Addr} {oI : Obj} {us : List Value} {tx ts : List Tx} {ys : Array Value} {m : Str → Option Value} (hul : us.length = tx.length)
    (hI : s.heap.get? I2 = some oI) (hLI : LI oI l2 0) (hl2 : s.heap.IsList l2 us.toArray) (hacc : s.heap.PlainList D ys) (hT : TxsAre ys.toList ts) (hn : s.heap.Ns cenv.locals m)
    (hDC : D < cenv.locals) (hCI : cenv.locals < I2) (hlC : l2 < cenv.locals) (hlD : l2 ≠ D) (hsz : ys.size + us.length ≤ 100000)
    (hy : cenv.kindOf y = some .local) (hp : (cenv.scope.kind == .class || (cenv.scope.kind == .module && cenv.locals != cenv.globals)) = false)
    (helt : ∀ j u s₂ g m₂ oI, us[j]? = some u → m₂ y = some u → Fr g cenv.locals s₂.heap m₂ → News g cenv.locals s₂.heap [(I2, oI)] → (∀ c o, c < cenv.locals → c ≠ D → s.heap.get? c = some o → g.get? c = some o) →
      wpAny (model prog w) A (eval elt cenv) (fun v s₃ => (∃ t, v = .str (S (tx.getD j [])) t) ∧ ∃ h' tk, s₃ = { s₂ with heap := h', toks := tk } ∧ Fr g cenv.locals h' m₂ ∧ News g cenv.locals h' [(I2, oI)]) (fun _ _ => False) s₂)
    (hR : ∀ h' tk m' zs, h'.Ns cenv.locals m' → h'.PlainList D zs → TxsAre zs.toList (ts ++ tx) → (∀ c o, c < cenv.locals → c ≠ D → s.heap.get? c = some o → h'.get? c = some o) → R (.ok .next) { s with heap := h', toks := tk }) :
    codeAny (model prog w) A (.compLoop (nestE elt i1 i2 x y px py scope pos) 1 (.ref I2) (.ref D) cenv) R s := by
  have hIC : I2 ≠ cenv.locals := Nat.ne_of_gt hCI
  have hID : I2 ≠ D := Nat.ne_of_gt (Nat.lt_trans hDC hCI)
  have hlI : l2 ≠ I2 := Nat.ne_of_lt (Nat.lt_trans hlC hCI)
  refine nest_inner
    (fun k s' => ∃ h' tk m' zs oI j, s' = { s with heap := h', toks := tk } ∧ h'.get? I2 = some oI ∧ LI oI l2 j ∧ h'.IsList l2 us.toArray ∧ h'.PlainList D zs ∧ TxsAre zs.toList (ts ++ tx.take j) ∧ zs.size = ys.size + j ∧ h'.Ns cenv.locals m' ∧
      (∀ c o, c < cenv.locals → c ≠ D → s.heap.get? c = some o → h'.get? c = some o) ∧ j ≤ us.length ∧ k = us.length - j) ?_ _
    ⟨s.heap, s.toks, m, ys, oI, 0, rfl, hI, hLI, hl2, hacc, by simpa using hT, rfl, hn, fun _ _ _ _ e => e, Nat.zero_le _, rfl⟩
  rintro k s' ⟨H, tk, m', zs, oI', j, rfl, hI', hLI', hl', hacc', hT', hz', hn', hk, hj, rfl⟩
  by_cases hlt : j < us.length
  · refine wpAny_pyNext_list_item ⟨oI', hI', hLI'⟩ hl' (x := us[j]) (by simp [hlt]) fun h₁ hit₁ hs₁ => ?_
    refine wpAny_assign_Name (wpAny_storeName_local hy (hn'.at' fun o e => (hs₁.2 _ (Ne.symm hIC)).trans e) (fun h₂ hn₂ hs₂ => ?_) hp)
    obtain ⟨oI₂, hI₂, hLI₂⟩ := hit₁
    have up₂ : ∀ c o, c ≠ I2 → c ≠ cenv.locals → H.get? c = some o → h₂.get? c = some o := fun c o h1 h2 e => hs₂.extBut c o h2 ((hs₁.2 c h1).trans e)
    have hI₂' : h₂.get? I2 = some oI₂ := hs₂.extBut _ _ hIC hI₂
    have F₂ : Fr (cut h₂ cenv.locals) cenv.locals h₂ _ := ⟨hn₂, fun b o e => cut_get e, cut_size _ _⟩
    have N₂ : News (cut h₂ cenv.locals) cenv.locals h₂ [(I2, oI₂)] := fun p hp => by
      rw [List.mem_singleton.mp hp]
      exact ⟨hI₂', hIC, cut_none (Nat.le_of_lt hCI)⟩
    have nI : ∀ c, c < cenv.locals → c ≠ I2 := fun c hc z => absurd hCI (by rw [← z]; exact Nat.lt_asymm hc)
    refine wpAny_mono (helt j us[j] _ _ _ oI₂ (by simp [hlt]) (by simp) F₂ N₂ fun c o h1 h2 e => get_cut (up₂ c o (nI c h1) (Nat.ne_of_lt h1) (hk c o h1 h2 e)) h1) (fun v s₃ h₃ => ?_) fun _ _ e => e
    obtain ⟨⟨t, rfl⟩, h₃, tk₃, rfl, F₃, N₃⟩ := h₃
    have up₃ : ∀ c o, c < cenv.locals → h₂.get? c = some o → h₃.get? c = some o := fun c o h1 e => F₃.keep c o (get_cut e h1)
    have hacc₃ : h₃.PlainList D zs := hacc'.at fun o e => up₃ _ o hDC (up₂ D o (Ne.symm hID) (Nat.ne_of_lt hDC) e)
    refine wpAny_list_append_plain hacc₃ (fun h₅ hl₅ hs₅ => ?_) (by have := sizeLine_eq; omega)
    refine ⟨us.length - (j + 1), by omega, h₅, tk₃, _, zs.push (.str (S (tx.getD j [])) t), oI₂, j + 1, rfl, hs₅.extBut _ _ hID (N₃.get (.head _)), hLI₂, ?_, hl₅, ?_, by rw [Array.size_push, hz']; rfl, F₃.ns.sameBut hs₅ (Ne.symm (Nat.ne_of_lt hDC)), fun c o h1 h2 e => hs₅.extBut c o h2 (up₃ c o h1 (up₂ c o (nI c h1) (Nat.ne_of_lt h1) (hk c o h1 h2 e))), hlt, rfl⟩
    · exact ((hl'.at fun o e => up₂ _ o hlI (Nat.ne_of_lt hlC) e).at fun o e => up₃ _ o hlC e).extBut hs₅.extBut hlD
    · have hjt : j < tx.length := by omega
      rw [Array.toList_push, take_snoc hjt, ← List.append_assoc, List.getD_eq_getElem?_getD, List.getElem?_eq_getElem hjt]
      exact hT'.push _ _
  · have hin : j = us.length := by omega
    subst hin
    refine wpAny_pyNext_list_end hh ⟨oI', hI', hLI'⟩ hl' (by simp) fun h₁ he₁ => ?_
    refine hR h₁ tk m' zs (hn'.at' fun o e => he₁ _ o (Ne.symm hIC) e) (hacc'.at fun o e => he₁ _ o (Ne.symm hID) e) (by rw [hul, List.take_length] at hT'; exact hT') fun c o h1 h2 e => he₁ c o (fun z => ?_) (hk c o h1 h2 e)
    exact absurd hCI (by rw [← z]; exact Nat.lt_asymm h1)
theorem words_outer (hh : A.handled = none) {D I1 l : Addr} {vs : List Value} {ls : Nat → Addr} {us : Nat → List Value} {txs : List (List Tx)} {m : Str → Option Value} {px2 : Pos} {oI : Obj} (hvl : vs.length = txs.length) (h8 : vs.length ≤ 100)
    (hI : s.heap.get? I1 = some oI) (hLI : LI oI l 0) (hl : s.heap.IsList l vs.toArray) (hacc : s.heap.PlainList D #[]) (hn : s.heap.Ns cenv.locals m)
    (hrow : ∀ i, i < vs.length → vs[i]? = some (.ref (ls i)) ∧ s.heap.IsList (ls i) (us i).toArray ∧ (us i).length = (txs.getD i []).length ∧ (us i).length ≤ 100 ∧ ls i < cenv.locals ∧ ls i ≠ D ∧ ls i ≠ I1)
    (hDC : D < cenv.locals) (hIC : I1 < cenv.locals) (hlC : l < cenv.locals) (hlD : l ≠ D) (hlI : l ≠ I1) (hDI : D ≠ I1)
    (hk1 : cenv.scope.kind = .function) (hdx : (x == ("__debug__" : Str)) = false)
    (hx : cenv.kindOf x = some .local) (hy : cenv.kindOf y = some .local) (hp : (cenv.scope.kind == .class || (cenv.scope.kind == .module && cenv.locals != cenv.globals)) = false)
    (helt : ∀ i j u s₂ g m₂ I2 oI, i < vs.length → (us i)[j]? = some u → m₂ y = some u → Fr g cenv.locals s₂.heap m₂ → News g cenv.locals s₂.heap [(I2, oI)] → (∀ c o, c < cenv.locals → c ≠ D → c ≠ I1 → s.heap.get? c = some o → g.get? c = some o) →
      wpAny (model prog w) A (eval elt cenv) (fun v s₃ => (∃ t, v = .str (S ((txs.getD i []).getD j [])) t) ∧ ∃ h' tk, s₃ = { s₂ with heap := h', toks := tk } ∧ Fr g cenv.locals h' m₂ ∧ News g cenv.locals h' [(I2, oI)]) (fun _ _ => False) s₂)
    (hR : ∀ h' tk m' zs, h'.Ns cenv.locals m' → h'.PlainList D zs → TxsAre zs.toList txs.flatten → (∀ c o, c < cenv.locals → c ≠ D → c ≠ I1 → s.heap.get? c = some o → h'.get? c = some o) → R (.ok .next) { s with heap := h', toks := tk }) :
    codeAny (model prog w) A (.compLoop (nestE elt i1 (.Name x px2) x y px py scope pos) 0 (.ref I1) (.ref D) cenv) R s := by
  refine nest_outer (fun _ => rfl)
    (fun k s' => ∃ h' tk m' zs oI i, s' = { s with heap := h', toks := tk } ∧ h'.get? I1 = some oI ∧ LI oI l i ∧ h'.PlainList D zs ∧ TxsAre zs.toList (txs.take i).flatten ∧ zs.size ≤ 100 * i ∧ h'.Ns cenv.locals m' ∧
      (∀ c o, c < cenv.locals → c ≠ D → c ≠ I1 → s.heap.get? c = some o → h'.get? c = some o) ∧ i ≤ vs.length ∧ k = vs.length - i) ?_ _
    ⟨s.heap, s.toks, m, #[], oI, 0, rfl, hI, hLI, hacc, TxsAre.nil, Nat.le_refl _, hn, fun _ _ _ _ _ e => e, Nat.zero_le _, rfl⟩
  rintro k s' ⟨H, tk, m', zs, oI', i, rfl, hI', hLI', hacc', hT', hz', hn', hk, hi, rfl⟩
  have hl' : H.IsList l vs.toArray := hl.at fun o e => hk _ o hlC hlD hlI e
  by_cases hlt : i < vs.length
  · obtain ⟨hv, hli, hul, hu100, hliC, hliD, hliI⟩ := hrow i hlt
    refine wpAny_pyNext_list_item ⟨oI', hI', hLI'⟩ hl' (x := .ref (ls i)) (by simpa using hv) fun h₁ hit₁ hs₁ => ?_
    refine wpAny_assign_Name (wpAny_storeName_local hx (hn'.at' fun o e => (hs₁.2 _ (Ne.symm (Nat.ne_of_lt hIC))).trans e) (fun h₂ hn₂ hs₂ => ?_) hp)
    obtain ⟨oI₂, hI₂, hLI₂⟩ := hit₁
    have up₂ : ∀ c o, c ≠ I1 → c ≠ cenv.locals → H.get? c = some o → h₂.get? c = some o := fun c o h1 h2 e => hs₂.extBut c o h2 ((hs₁.2 c h1).trans e)
    have hI₂' : h₂.get? I1 = some oI₂ := hs₂.extBut _ _ (Nat.ne_of_lt hIC) hI₂
    have hli₂ : h₂.IsList (ls i) (us i).toArray := hli.at fun o e => up₂ _ o hliI (Nat.ne_of_lt hliC) (hk _ o hliC hliD hliI e)
    refine wpAny_Name (wpAny_loadName_local hk1 hx hn₂ (show _ = some (Value.ref (ls i)) from by simp) ?_) hdx
    refine wpAny_pyIter_list hli₂ ?_
    have hC2 : cenv.locals < h₂.objs.size := hn₂.lt
    have old : ∀ c o, h₂.get? c = some o → (h₂.push { cls := .type "list_iterator", data := .fields #[.ref (ls i), .int 0 0] }).get? c = some o := fun c o e => Heap.get?_push_of_some _ e
    have loop : ∀ tk₂, codeAny (model prog w) A (.compLoop (nestE elt i1 (.Name x px2) x y px py scope pos) 1 (.ref h₂.objs.size) (.ref D) cenv) (fun r s₅ => (∃ f, r = .ok f) ∧ ∃ m, m < vs.length - i ∧ (∃ h' tk m' zs oI i, s₅ = { s with heap := h', toks := tk } ∧ h'.get? I1 = some oI ∧ LI oI l i ∧ h'.PlainList D zs ∧ TxsAre zs.toList (txs.take i).flatten ∧ zs.size ≤ 100 * i ∧ h'.Ns cenv.locals m' ∧
        (∀ c o, c < cenv.locals → c ≠ D → c ≠ I1 → s.heap.get? c = some o → h'.get? c = some o) ∧ i ≤ vs.length ∧ m = vs.length - i))
        { s with heap := h₂.push { cls := .type "list_iterator", data := .fields #[.ref (ls i), .int 0 0] }, toks := tk₂ } := by
      intro tk₂
      refine words_inner (ts := (txs.take i).flatten) (ys := zs) hh hul (Heap.get?_push_size _ rfl) ⟨rfl, rfl⟩ (hli₂.push _) ((hacc'.at fun o e => up₂ _ o hDI (Nat.ne_of_lt hDC) e).at fun o e => old _ o e) hT' (hn₂.at' fun o e => old _ o e) hDC hC2 hliC hliD (by omega) hy hp ?_ ?_
      · intro j u s₂ g m₂ oI hu hm F N hg
        exact helt i j u s₂ g m₂ _ oI hlt hu hm F N fun c o h1 h2 h3 e => hg c o h1 h2 (old _ _ (up₂ c o h3 (Nat.ne_of_lt h1) (hk c o h1 h2 h3 e)))
      · intro h' tk' m'' zs' hn₃ hacc₃ hT₃ hk₃
        refine ⟨⟨_, rfl⟩, vs.length - (i + 1), by omega, h', tk', m'', zs', oI₂, i + 1, rfl, hk₃ _ _ hIC (Ne.symm hDI) (old _ _ hI₂'), hLI₂, hacc₃, ?_, ?_, hn₃, fun c o h1 h2 h3 e => hk₃ c o h1 h2 (old _ _ (up₂ c o h3 (Nat.ne_of_lt h1) (hk c o h1 h2 h3 e))), hlt, rfl⟩
        · have hit : i < txs.length := by omega
          rw [take_snoc hit, List.flatten_append]
          rw [List.getD_eq_getElem?_getD, List.getElem?_eq_getElem hit] at hT₃
          simpa using hT₃
        · have e1 := hT₃.1
          have e2 := hT'.1
          rw [List.length_append, ← e2] at e1
          simp only [Array.length_toList] at e1
          omega
    exact nest_start (loop _) (wpAny_pyIter_listiter ⟨_, Heap.get?_push_size _ rfl, rfl, rfl⟩ (loop _))
  · have hin : i = vs.length := by omega
    subst hin
    refine wpAny_pyNext_list_end hh ⟨oI', hI', hLI'⟩ hl' (by simp) fun h₁ he₁ => ?_
    refine hR h₁ tk m' zs (hn'.at' fun o e => he₁ _ o (Ne.symm (Nat.ne_of_lt hIC)) e) (hacc'.at fun o e => he₁ _ o hDI e) (by rw [hvl, List.take_length] at hT'; exact hT') fun c o h1 h2 h3 e => he₁ c o h3 (hk c o h1 h2 h3 e)
end
section
variable {prog : Program} {w : World} {A : Around} {E : Value → Shared → Prop} {env : Env} {s : Shared}
theorem comp_words {elt i1 : Expr} {x y z : Str} {px py pz px2 : Pos} {scope : Scope} {cl : List (Str × Addr)} {pos spos : Pos} {Q : Flow → Shared → Prop} {g₀ : Heap} {L : Addr} {m : Str → Option Value} (F00 : Fr g₀ L s.heap m) (hh : A.handled = none)
    (hsw : swapsWith (nestE elt i1 (.Name x px2) x y px py scope pos) (some (.Name z pz)) spos.line env = pure true) (hL : env.locals = L)
    (hclos : closureFor scope env = pure cl) (hcell : ∀ y ∈ scope.names, y.2 ≠ .cell) (hkind : scope.kind = .function)
    (hnames : ∀ y ∈ scope.names, y.2 = .local → scope.names.lookup y.1 = some .local) (hx : scope.names.lookup x = some .local) (hy : scope.names.lookup y = some .local)
    (hdx : (x == ("__debug__" : Str)) = false)
    (hz : env.kindOf z = some .local) (hp : (env.scope.kind == .class || (env.scope.kind == .module && env.locals != env.globals)) = false)
    (h : wpAny (model prog w) A (eval i1 env) (fun xv s₁ => Halt <| ∃ l, ∃ vs : List Value, ∃ ls : Nat → Addr, ∃ us : Nat → List Value, ∃ txs : List (List Tx), xv = .ref l ∧ s₁.heap.IsList l vs.toArray ∧ vs.length = txs.length ∧ vs.length ≤ 100 ∧ Fr g₀ L s₁.heap m ∧
      (∀ i, i < vs.length → vs[i]? = some (.ref (ls i)) ∧ s₁.heap.IsList (ls i) (us i).toArray ∧ (us i).length = (txs.getD i []).length ∧ (us i).length ≤ 100) ∧
      (∀ C i j u s₃ m₃ g I2 oI, i < vs.length → (us i)[j]? = some u → Fr g C s₃.heap m₃ → News g C s₃.heap [(I2, oI)] → Kp s₁.heap g → m₃ y = some u →
        wpAny (model prog w) A (eval elt (compEnvC scope cl C env)) (fun v s₄ => Halt ((∃ t, v = .str (S ((txs.getD i []).getD j [])) t) ∧ ∃ h' tk, s₄ = { s₃ with heap := h', toks := tk } ∧ Fr g C h' m₃ ∧ News g C h' [(I2, oI)])) (fun _ _ => False) s₃) ∧
      (∀ D h' tk zs, s₁.heap.get? D = none → h'.IsList D zs → TxsAre zs.toList txs.flatten → Fr g₀ L h' (fun y => if y = z then some (.ref D) else m y) → (∀ b o, b ≠ L → s₁.heap.get? b = some o → h'.get? b = some o) → Q .next { s₁ with heap := h', toks := tk })) E s)
    (hs : ∀ x, foldedSetIterable i1 env x = pure x := by intro _; rfl) :
    wpAny (model prog w) A (exec (.Assign [.Name z pz] (nestE elt i1 (.Name x px2) x y px py scope pos) spos) env) Q E s := by
  subst hL
  rw [exec_Assign_Name_used _ _ _ _ hsw]
  refine wpAny_bind (wpAny_standAt (wpAny_bind ?_))
  show wpAny _ A (do let _ ← comprehension (nestE elt i1 (.Name x px2) x y px py scope pos) scope env _ (newList []) false (eval i1 env) (some (assign (.Name z pz) env))) _ _ s
  refine wpAny_bind (wpAny_mono (wpAny_comprehension_free (use := some (assign (.Name z pz) env)) (Q := fun _ s' => Q .next s') rfl hs hclos hkind hnames
    (wpAny_mono h (fun xv s₁ h₁ => ?_) fun _ _ e => e)) (fun _ s' hq => wpAny_pure (wpAny_pure hq)) fun _ _ e => e)
  obtain ⟨l, vs, ls, us, txs, rfl, hl, hvl, h100, F₁, hrow, helt, hQ⟩ := h₁
  have hlt := isList_lt hl
  have hLlt : env.locals < s₁.heap.objs.size := F₁.ns.lt
  refine wpAny_pyIter_list hl ?_
  generalize hH1 : s₁.heap.push { cls := .type "list_iterator", data := .fields #[.ref l, .int 0 0] } = H1
  have z1 : H1.objs.size = s₁.heap.objs.size + 1 := by rw [← hH1, Heap.size_push]
  have up1 : ∀ b o, s₁.heap.get? b = some o → H1.get? b = some o := fun b o e => by rw [← hH1]; exact Heap.get?_push_of_some _ e
  have it1 : H1.get? s₁.heap.objs.size = some { cls := .type "list_iterator", data := .fields #[.ref l, .int 0 0] } := by rw [← hH1]; exact Heap.get?_push_size _ rfl
  refine wpAny_newObj_type (wpAny_newFunctionEnv hcell (by intro y hy; simp at hy) (fun h₁ hns₁ hsb₁ => ?_) hkind)
  dsimp only at hns₁ hsb₁ ⊢
  generalize hH2 : H1.push { cls := .type "list", dict := none, data := .seq ([] : List Value).toArray } = H2 at hns₁ hsb₁ ⊢
  have z2 : H2.objs.size = s₁.heap.objs.size + 2 := by rw [← hH2, Heap.size_push, z1]
  have up2 : ∀ b o, b < H2.objs.size → H1.get? b = some o → h₁.get? b = some o := fun b o hb e => hsb₁.extBut b o (Nat.ne_of_lt hb) (Heap.get?_push_of_some _ (hH2 ▸ Heap.get?_push_of_some _ e))
  have up : ∀ b o, s₁.heap.get? b = some o → h₁.get? b = some o := fun b o e => up2 b o (by rw [z2]; exact Nat.lt_succ_of_lt (Nat.lt_succ_of_lt (Heap.lt_size e))) (up1 b o e)
  have fresh1 : ∀ a, s₁.heap.objs.size ≤ a → s₁.heap.get? a = none := fun a ha => by
    cases e : s₁.heap.get? a with
    | none => rfl
    | some o' => exact absurd (Heap.lt_size e) (Nat.not_lt.mpr ha)
  have hacc : h₁.PlainList H1.objs.size #[] := ⟨_, hsb₁.extBut _ _ (by rw [z2, z1]; exact Nat.ne_of_lt (Nat.lt_succ_self _)) (Heap.get?_push_of_some _ (hH2 ▸ Heap.get?_push_size _ rfl))⟩
  have lt2 : ∀ b, b < s₁.heap.objs.size → b < H2.objs.size ∧ b ≠ H1.objs.size ∧ b ≠ s₁.heap.objs.size := fun b hb => ⟨by rw [z2]; exact Nat.lt_succ_of_lt (Nat.lt_succ_of_lt hb), by rw [z1]; exact Nat.ne_of_lt (Nat.lt_succ_of_lt hb), Nat.ne_of_lt hb⟩
  have hkC : (compEnvC scope cl H2.objs.size env).scope.kind = .function := hkind
  have loop : ∀ tk₀, codeAny (model prog w) A (.compLoop (nestE elt i1 (.Name x px2) x y px py scope pos) 0 (.ref s₁.heap.objs.size) (.ref H1.objs.size) (compEnvC scope cl H2.objs.size env))
      (compPost (model prog w) A E (some (assign (.Name z pz) env)) (fun _ s' => Q .next s') (.ref H1.objs.size) H2.objs.size) { s₁ with heap := h₁, toks := tk₀ } := by
    intro tk₀
    refine words_outer (s := { s₁ with heap := h₁, toks := tk₀ }) (oI := { cls := .type "list_iterator", data := .fields #[.ref l, .int 0 0] }) (l := l) (D := H1.objs.size) (I1 := s₁.heap.objs.size) (m := fun x => List.lookup x ([] : List (Str × Value)).reverse) (cenv := compEnvC scope cl H2.objs.size env) (ls := ls) (us := us) (txs := txs) hh hvl h100 (up2 _ _ (by rw [z2]; exact Nat.lt_succ_of_lt (Nat.lt_succ_self _)) it1) ⟨rfl, rfl⟩ (hl.at fun o e => up _ o e) hacc hns₁ (fun i hi => ?_)
      (by show H1.objs.size < H2.objs.size; rw [z1, z2]; exact Nat.lt_succ_self _) (by show s₁.heap.objs.size < H2.objs.size; rw [z2]; exact Nat.lt_succ_of_lt (Nat.lt_succ_self _)) (lt2 l hlt).1 (lt2 l hlt).2.1 (lt2 l hlt).2.2 (by rw [z1]; exact Nat.succ_ne_self _) hkC hdx
      (lookup_relabel_local hx) (lookup_relabel_local hy) (by simp [compEnvC, relabel, hkind]) (fun i j u s₂ g m₂ I2 oI hi hu hm F N hg => ?_) (fun h' tk m' zs hn' hD hT hk => ?_)
    · obtain ⟨a1, a2, a3, a4⟩ := hrow i hi
      exact ⟨a1, a2.at fun o e => up _ o e, a3, a4, lt2 _ (isList_lt a2)⟩
    · exact helt _ i j u s₂ m₂ g I2 oI hi hu F N (fun b o e => hg b o (lt2 b (Heap.lt_size e)).1 (lt2 b (Heap.lt_size e)).2.1 (lt2 b (Heap.lt_size e)).2.2 (up b o e)) hm
    · have keep : ∀ b o, s₁.heap.get? b = some o → h'.get? b = some o := fun b o e => hk b o (lt2 b (Heap.lt_size e)).1 (lt2 b (Heap.lt_size e)).2.1 (lt2 b (Heap.lt_size e)).2.2 (up b o e)
      have hLC : env.locals ≠ H2.objs.size := Nat.ne_of_lt (lt2 _ hLlt).1
      have hLD : H1.objs.size ≠ env.locals := Ne.symm (lt2 _ hLlt).2.1
      have hDC : H1.objs.size ≠ H2.objs.size := by rw [z1, z2]; exact Nat.ne_of_lt (Nat.lt_succ_self _)
      show wpAny _ A (assign (.Name z pz) env (.ref H1.objs.size)) _ _ _
      refine wpAny_assign_Name (wpAny_storeName_local hz (F₁.ns.at' fun o e => keep _ o e) (fun h₂ hn₂ hs₂ => ?_) hp)
      refine ⟨m', hn'.sameBut hs₂ (Ne.symm hLC), fun h₃ hs₃ => ?_⟩
      refine hQ H1.objs.size h₃ _ zs (fresh1 _ (by rw [z1]; exact Nat.le_succ _)) ((hD.isList.extBut hs₂.extBut hLD).extBut hs₃.extBut hDC) hT ?_ fun b o hb e => hs₃.extBut b o (Nat.ne_of_lt (lt2 b (Heap.lt_size e)).1) (hs₂.extBut b o hb (keep b o e))
      exact ⟨hn₂.sameBut hs₃ hLC, fun b o e => hs₃.extBut b o (Nat.ne_of_lt (lt2 b (Heap.lt_size (F₁.keep b o e))).1) (hs₂.extBut b o (Nat.ne_of_lt (Nat.lt_of_lt_of_le (Heap.lt_size e) F₁.above)) (keep b o (F₁.keep b o e))), F₁.above⟩
  exact codeAny_compStart_list (loop _) (wpAny_pyIter_listiter ⟨_, up2 _ _ (by rw [z2]; exact Nat.lt_succ_of_lt (Nat.lt_succ_self _)) it1, rfl, rfl⟩ (loop _))
end
end Mine

namespace Mine
noncomputable def Small (ws : List Tx) : Prop := ∀ x ∈ ws, ∀ c ∈ x, c < 1114112
noncomputable def ansD (ws : List Tx) (k : Int) : PyData := .tuple [.list (ws.map fun x => .str (S x)), .int k]
theorem lay_texts : ∀ {ws : List Tx}, Small ws → PyData.canLayAll0 (ws.map fun x => PyData.str (S x)) = true ∧ PyData.depthAll (ws.map fun x => PyData.str (S x)) ≤ 5
  | [], _ => ⟨rfl, Nat.zero_le _⟩
  | x :: ws, h => by
    obtain ⟨h1, h2⟩ := lay_texts (ws := ws) fun y hy => h y (.tail _ hy)
    have hx : PyData.strOk (S x) = true := by
      simp only [PyData.strOk, S, List.all_toArray, List.all_eq_true, decide_eq_true_eq]
      exact fun c hc => h x (.head _) c hc
    constructor
    · simp only [List.map_cons, PyData.canLayAll0, PyData.canLay0, hx, h1, Bool.and_self]
    · simp only [List.map_cons, PyData.depthAll, PyData.depth]; omega
theorem eqv_texts : ∀ ws : List Tx, PyData.eqvAll (ws.map fun x => PyData.str (S x)) (ws.map fun x => PyData.str (S x)) = true
  | [] => by simp [PyData.eqvAll]
  | x :: ws => by simp [PyData.eqvAll, PyData.eqv, eqv_texts ws]
theorem shaped_ans {ws : List Tx} {k : Int} (h : Small ws) : SeqAt.shaped (ansD ws k) = true := by
  obtain ⟨h1, h2⟩ := lay_texts h
  unfold SeqAt.shaped ansD
  simp only [PyData.canLay0, PyData.canLayAll0, h1, Bool.and_self, Bool.true_and, PyData.depth, PyData.depthAll]
  exact decide_eq_true (by omega)
theorem eqv_ans (ws : List Tx) (k : Int) : PyData.eqv (ansD ws k) (ansD ws k) = true := by
  unfold ansD
  simp only [PyData.eqv, PyData.eqvAll, eqv_texts, beq_self_eq_true, Bool.and_self]
section
variable {prog : Program} {w : World} {A : Around} {E : Value → Shared → Prop} {s : Shared} {Q : Value → Shared → Prop}
theorem ne_ans {v u : Value} {ws : List Tx} {k : Int} (ra : Rd s.heap v (ansD ws k)) (rb : Rd s.heap u (ansD ws k)) (hw : Small ws) (hu : A.units + 64 < cLine) (h : Q (.bool false) s) : wpAny (model prog w) A (compareOp .NotEq v u) Q E s := by
  obtain ⟨_, ra⟩ := ra
  obtain ⟨_, rb⟩ := rb
  exact ne_dataH ra rb (shaped_ans hw) (shaped_ans hw) hu (by rw [eqv_ans]; exact h)
theorem eq_ans {v u : Value} {ws : List Tx} {k : Int} (ra : Rd s.heap v (ansD ws k)) (rb : Rd s.heap u (ansD ws k)) (hw : Small ws) (hu : A.units + 64 < cLine) (h : Q (.bool true) s) : wpAny (model prog w) A (compareOp .Eq v u) Q E s := by
  obtain ⟨_, ra⟩ := ra
  obtain ⟨_, rb⟩ := rb
  exact eq_dataH ra rb (shaped_ans hw) (shaped_ans hw) hu (by rw [eqv_ans]; exact h)
theorem not_in_trues {l : Addr} {n : Nat} (rl : Rd s.heap (.ref l) (.list (List.replicate n (.bool true)))) (hu : A.units + 64 < cLine) (h : Q (.bool false) s) : wpAny (model prog w) A (compareOp .In (.bool false) (.ref l)) Q E s := by
  obtain ⟨_, rl⟩ := rl
  have h1 : ∀ n, PyData.canLayAll0 (List.replicate n (.bool true)) = true := fun n => by
    induction n with
    | zero => rfl
    | succ n ih => rw [List.replicate_succ]; simp [PyData.canLayAll0, PyData.canLay0, ih]
  have h2 : ((List.replicate n (PyData.bool true)).any fun y => PyData.eqv y (.bool false)) = false := by
    rw [List.any_eq_false]
    intro x hx
    rw [List.eq_of_mem_replicate hx]
    simp [PyData.eqv]
  refine SeqAt.in_list_reads rl (Reads.bool false) (h1 n) rfl ?_ (by rw [h2]; exact h)
  have := Nat.min_le_right (PyData.depthAll (List.replicate n (PyData.bool true))) (PyData.bool false).depth
  simp only [PyData.depth] at this
  simp only [PyData.depth]
  omega
end
section
variable {prog : Program} {w : World} {A : Around} {E : Value → Shared → Prop} {s : Shared} {env : Env}
theorem zipApart_of (n l1 l2 : Nat) (h1 : l1 < n) (h2 : l2 < n) : ZipApart (n + 4) (n + 2) (n + 3) n (n + 1) l1 l2 := by
  constructor <;> (show (_ : Nat) ≠ (_ : Nat); omega)
/-- a zip of two lists that has just been made -/
structure ZipAt (hb h : Heap) (z : Addr) (xs ys : List Value) : Prop where
  st : ∃ TI TO i1 i2 l1 l2, ZipApart z TI TO i1 i2 l1 l2 ∧ IsZip h z TI TO .none ∧ IsPair h TI (.ref i1) (.ref i2) ∧ (∃ a b, IsPair h TO a b) ∧ h.IsListIter i1 l1 0 ∧ h.IsListIter i2 l2 0 ∧ h.IsList l1 xs.toArray ∧ h.IsList l2 ys.toArray ∧ ∀ b ∈ [z, TO, i1, i2], hb.get? b = none
  kp : Kp hb h
theorem zip_make {L : Addr} {g : Heap} {m : Str → Option Value} {news : List (Addr × Obj)} {l1 l2 : Addr} {xs ys : List Value} {Q : Value → Shared → Prop} (F : Fr g L s.heap m) (N : News g L s.heap news) (h1 : s.heap.IsList l1 xs.toArray) (h2 : s.heap.IsList l2 ys.toArray)
    (h : ∀ z h', ZipAt s.heap h' z xs ys → Fr g L h' m → News g L h' news → Q (.ref z) { s with heap := h' }) : wpAny (model prog w) A (call (.type "zip") [.ref l1, .ref l2]) Q E s := by
  refine call_zip_2 h1 h2 fun h' a1 a2 a3 a4 a5 a6 hk => ?_
  have k1 := isList_lt h1
  have k2 := isList_lt h2
  have fr : ∀ k, s.heap.get? (s.heap.objs.size + k) = none := fun k => by
    cases q : s.heap.get? (s.heap.objs.size + k) with
    | none => rfl
    | some o => exact absurd (Heap.lt_size q) (Nat.not_lt.mpr (Nat.le_add_right _ _))
  have ap : ZipApart (s.heap.objs.size + 4) (s.heap.objs.size + 2) (s.heap.objs.size + 3) s.heap.objs.size (s.heap.objs.size + 1) l1 l2 := by
    exact zipApart_of _ _ _ k1 k2
  refine h _ h' ⟨⟨_, _, _, _, _, _, ap, a1, a2, ⟨_, _, a3⟩, a4, a5, isList_keeps h1 hk, isList_keeps h2 hk, fun b hb => ?_⟩, hk⟩ (F.keeps hk) (news_keeps N hk)
  simp only [List.mem_cons, List.not_mem_nil, or_false] at hb
  rcases hb with rfl | rfl | rfl | rfl
  · exact fr 4
  · exact fr 3
  · exact fr 0
  · exact fr 1
theorem comp_zipL {elt iter : Expr} {a b : Str} {pa pb tp : Pos} {kk : Nat} {scope : Scope} {cl : List (Str × Addr)} {pos : Pos} {Q : Value → Shared → Prop} (F : Nat → Value → Prop) (hh : A.handled = none)
    (hclos : closureFor scope env = pure cl) (hcell : ∀ y ∈ scope.names, y.2 ≠ .cell) (hkind : scope.kind = .function)
    (hnames : ∀ y ∈ scope.names, y.2 = .local → scope.names.lookup y.1 = some .local) (ha : scope.names.lookup a = some .local) (hb : scope.names.lookup b = some .local) (hab : a ≠ b)
    (h : wpAny (model prog w) A (eval iter env) (fun xv s₁ => Halt <| ∃ z hb, ∃ xs ys : List Value, xv = .ref z ∧ ZipAt hb s₁.heap z xs ys ∧ xs.length = ys.length ∧ xs.length ≤ sizeLine ∧
      (∀ C i s₃ m₃ g E' x y, xs[i]? = some x → ys[i]? = some y → Fr g C s₃.heap m₃ → News g C s₃.heap [] → Kp hb g → m₃ a = some x → m₃ b = some y →
        wpAny (model prog w) A (eval elt (compEnvC scope cl C env)) (fun v s₄ => Halt (F i v ∧ ∃ h' tk, s₄ = { s₃ with heap := h', toks := tk } ∧ Fr g C h' m₃)) E' s₃) ∧
      (∀ D h' tk zs, hb.get? D = none → h'.IsList D zs → zs.size = xs.length → Got F zs → Kp hb h' → Q (.ref D) { s₁ with heap := h', toks := tk })) E s)
    (hs : ∀ x, foldedSetIterable iter env x = pure x := by intro _; rfl) :
    wpAny (model prog w) A (eval (.ListComp elt [⟨.Tuple [.Name a pa, .Name b pb] kk tp, iter, [], 0⟩] scope pos) env) Q E s := by
  refine comp_eval (t := .two a b pa pb tp kk) F hclos hcell hkind hnames (fun C => ⟨⟨lookup_relabel_local ha, lookup_relabel_local hb⟩, by simp [compEnvC, relabel, hkind]⟩) (wpAny_mono h (fun xv s₁ h₁ => ?_) fun _ _ e => e) hs
  obtain ⟨z, hb, xs, ys, rfl, ⟨⟨TI, TO, i1, i2, l1, l2, ap, b1, b2, b3, b4, b5, b6, b7, hfr⟩, hkp⟩, hlen, hsz, helt, hQ⟩ := h₁
  have hn : min xs.toArray.size ys.toArray.size = xs.length := by simp [hlen]
  have W := (WalksT.zip2 (prog := prog) (w := w) hh z TI TO i1 i2 l1 l2 ap xs.toArray ys.toArray).toU
  rw [hn] at W
  have old : ∀ c o, hb.get? c = some o → c ∉ [z, TO, i1, i2] := fun c o e hm => by rw [hfr c hm] at e; cases e
  refine wpAny_pyIter_zip b1 (unhalt ⟨z, _, _, xs.length, _, _, rfl, Src.pairs W hh (fun i vs' q => ?_), hsz, ⟨b1, b2, b3, b4, b5, b6, b7⟩, ?_, ?_, ?_⟩)
  · obtain ⟨x, y, _, _, rfl⟩ := q
    exact ⟨_, _, rfl⟩
  · intro c hc
    simp only [List.mem_cons, List.not_mem_nil, or_false] at hc
    rcases hc with rfl | rfl | rfl | rfl | rfl | rfl | rfl
    · exact Heap.lt_size b1
    · exact Heap.lt_size b2
    · obtain ⟨_, _, q⟩ := b3; exact Heap.lt_size q
    · obtain ⟨_, q, _⟩ := b4; exact Heap.lt_size q
    · obtain ⟨_, q, _⟩ := b5; exact Heap.lt_size q
    · exact isList_lt b6
    · exact isList_lt b7
  · rintro C i s₃ m₁ m₃ g E' hC hi ⟨x, y, ⟨x', y', hx', hy', hPt⟩, rfl⟩ F' hk
    have e0 : [x, y] = [x', y'] := congrArg Array.toList hPt
    have e1 : x = x' := by injection e0
    have e2 : y = y' := by injection e0 with _ q; injection q
    subst e1 e2
    exact helt C i s₃ _ g E' x y (by simpa using hx') (by simpa using hy') F' News.nil (fun c o e => hk c o (old c o e) (hkp c o e)) (by simp [hab]) (by simp)
  · intro D h' tk zs hD hlD hlen' hG hk
    refine hQ D h' tk zs ?_ hlD hlen' hG fun c o e => hk c o (old c o e) (hkp c o e)
    cases q : hb.get? D with
    | none => rfl
    | some o => rw [hkp _ _ q] at hD; cases hD
end
end Mine

namespace Mine
/-! what the law asks of the plain reading -/
noncomputable def drawnZ (ns : List Int) : List Int := [564, 1557, 2856, 686] ++ List.map (fun k => k.fmod (10 ^ Int.toNat 9)) (List.take 4 ns)
noncomputable def nums (ns : List Int) : List Nat := (drawnZ ns).map Int.toNat
theorem drawn_bound (ns : List Int) : ∀ z ∈ drawnZ ns, 0 ≤ z ∧ z < 1000000000 := by
  intro z hz
  rcases List.mem_append.mp hz with hz | hz
  · simp only [List.mem_cons, List.not_mem_nil, or_false] at hz
    rcases hz with rfl | rfl | rfl | rfl <;> decide
  · obtain ⟨k, _, rfl⟩ := List.mem_map.mp hz
    have e : (10 : Int) ^ Int.toNat 9 = 1000000000 := by decide
    rw [e, Int.fmod_eq_emod_of_nonneg _ (by decide)]
    omega
theorem nums_len (ns : List Int) : (nums ns).length ≤ 8 := by
  simp only [nums, drawnZ, List.length_map, List.length_append, List.length_cons, List.length_nil, List.length_take]; omega
theorem nums_lt (ns : List Int) : ∀ n ∈ nums ns, n < 1000000000 := by
  intro n hn
  obtain ⟨z, hz, rfl⟩ := List.mem_map.mp hn
  have := drawn_bound ns z hz
  omega
noncomputable def lastW (r : List Wd) : Wd := r.getLastD ⟨[], 0, 0⟩
noncomputable def rowX (r : List Wd) : Tx := rowT r.dropLast (lastW r)
noncomputable def noteX (n : Nat) (r : List Wd) : Tx := noteT r.dropLast (lastW r) n
noncomputable def RW (ns : List Int) : List (List Wd) := rowsL [] [] (nums ns)
noncomputable def WdS (x : Wd) : Prop := x.ps.length ≤ 2 ∧ x.kind < 3 ∧ x.beh < 3
theorem row_last {r : List Wd} (h : r ≠ []) : r.dropLast ++ [lastW r] = r := by
  rcases List.eq_nil_or_concat r with rfl | ⟨p, y, rfl⟩
  · exact absurd rfl h
  · simp [lastW]
end Mine

namespace Mine
noncomputable def RowOk (r : List Wd) : Prop := r ≠ [] ∧ r.length ≤ 8 ∧ ∀ x ∈ r, WdS x
theorem WdS.ok {x : Wd} (h : WdS x) : WdOk x := ⟨Nat.le_trans h.1 (by decide), h.2⟩
theorem spelled_lenS {x : Wd} (h : WdS x) : (spelled x).length ≤ 6 := by
  have h1 := enc_len x.ps
  have h2 := h.1
  have h3 : (opn x.kind).length ≤ 1 := by unfold opn; split <;> simp
  have h4 : (shut x.kind).length ≤ 1 := by unfold shut; split <;> simp
  simp only [spelled, List.length_append]
  omega
theorem part_lenS {x : Wd} (h : WdS x) : (part x).length ≤ 8 := by
  have h1 := spelled_lenS h
  have h3 : (sep x.beh).length ≤ 2 := by unfold sep; split; simp; split <;> simp
  simp only [part, List.length_append]
  omega
theorem flat_lenS : ∀ {r : List Wd}, (∀ x ∈ r, WdS x) → (r.flatMap part).length ≤ 8 * r.length
  | [], _ => by simp
  | x :: r, h => by
    have h1 := part_lenS (h x (.head _))
    have h2 := flat_lenS (r := r) fun y hy => h y (.tail _ hy)
    simp only [List.flatMap_cons, List.length_append, List.length_cons]
    omega
theorem RowOk.last {r : List Wd} (h : RowOk r) : WdS (lastW r) := h.2.2 _ ((congrArg (lastW r ∈ ·) (row_last h.1)).mp (List.mem_append_right _ (.head _)))
theorem RowOk.init {r : List Wd} (h : RowOk r) : ∀ x ∈ r.dropLast, WdS x := fun x hx => h.2.2 x ((List.dropLast_sublist r).subset hx)
theorem rowX_len {r : List Wd} (h : RowOk r) : (rowX r).length ≤ 100 := by
  have h1 := flat_lenS h.init
  have h2 := spelled_lenS h.last
  have h3 : r.dropLast.length ≤ 8 := by rw [List.length_dropLast]; have := h.2.1; omega
  simp only [rowX, rowT, List.length_append]
  omega
theorem noteX_len {r : List Wd} (h : RowOk r) {n : Nat} (hn : n = 1 ∨ n = 2) : (noteX n r).length ≤ 200 := by
  have h1 := rowX_len h
  unfold rowX at h1
  have h2 := comN_len n (rowT r.dropLast (lastW r) ++ tail (lastW r).beh)
  rw [← noteT_is hn] at h2
  have h3 : (tail (lastW r).beh).length ≤ 2 := by unfold tail; split; simp; split <;> simp
  rw [List.length_append] at h2
  unfold noteX
  omega
section
variable {w : World} {A : Around} {s : Shared} {Q : Value → Shared → Prop} {E : Value → Shared → Prop}
theorem rowX_spec (G : Gd w s.heap) (a : At 2 A) (v : Value) (r : List Wd) (ok : RowOk r) (hr : Rd s.heap v (rowD r))
    (h : ∀ h' tk t', Kp s.heap h' → Q (.str (S (rowX r)) t') { s with heap := h', toks := tk }) :
    wpAny (model PySem.Challenge.rw_pg0042_01.row.prog w) A (call (.ref 113) [v]) Q E s :=
  row_spec G a v r.dropLast (lastW r) (by rw [row_last ok.1]; exact hr) (by rw [List.length_dropLast]; have := ok.2.1; omega) (by rw [row_last ok.1]; exact fun x hx => (ok.2.2 x hx).ok) h
theorem noteX_spec (G : Gd w s.heap) (a : At 4 A) (v : Value) (r : List Wd) (ok : RowOk r) (hr : Rd s.heap v (rowD r)) (n : Nat) (tn : Tok) (hn : n = 1 ∨ n = 2)
    (h : ∀ h' tk t', Kp s.heap h' → Q (.str (S (noteX n r)) t') { s with heap := h', toks := tk }) :
    wpAny (model PySem.Challenge.rw_pg0042_01.row.prog w) A (call (.ref 120) [v, .int n tn]) Q E s :=
  note_spec G a v r.dropLast (lastW r) (by rw [row_last ok.1]; exact hr) (by rw [List.length_dropLast]; have := ok.2.1; omega) (by rw [row_last ok.1]; exact fun x hx => (ok.2.2 x hx).ok) (Nat.le_trans (rowX_len ok) (by decide)) n tn hn h
theorem markedX_spec (G : Gd w s.heap) (a : At 4 A) (v : Value) (r : List Wd) (ok : RowOk r) (hr : Rd s.heap v (rowD r)) (n : Nat) (tn : Tok) (hn : n = 1 ∨ n = 2) (t : Tok)
    (hm : ∃ c pre, noteX n r = pre ++ [c] ∧ wh c = false ∧ (noteX n r ++ [32]).take (2 * n) = (if n = 1 then [35, 32] else [35, 32, 35, 32]) ∧ (noteX n r).drop (2 * n) <+: rowX r)
    (h : ∀ h' tk, Kp s.heap h' → Q (.bool true) { s with heap := h', toks := tk }) :
    wpAny (model PySem.Challenge.rw_pg0042_01.row.prog w) A (call (.ref 127) [v, .str (S (noteX n r)) t, .int n tn]) Q E s := by
  obtain ⟨c, pre, h1, h2, h3, h4⟩ := hm
  exact marked_spec G a v r.dropLast (lastW r) (by rw [row_last ok.1]; exact hr) (by rw [List.length_dropLast]; have := ok.2.1; omega) (by rw [row_last ok.1]; exact fun x hx => (ok.2.2 x hx).ok) n tn hn (noteX n r) t (Nat.le_trans (noteX_len ok hn) (by decide)) c pre h1 h2 h3 h4 h
end
end Mine

namespace Mine
theorem joinNL_len (b : Nat) : ∀ ls : List Tx, (∀ l ∈ ls, l.length ≤ b) → (joinNL ls).length ≤ ls.length * (b + 1)
  | [], _ => by simp [joinNL]
  | [x], h => by have := h x (.head _); simp [joinNL]; omega
  | x :: y :: r, h => by
    have h1 := h x (.head _)
    have h2 := joinNL_len b (y :: r) fun l hl => h l (.tail _ hl)
    have e : (joinNL (x :: y :: r)).length = x.length + ((joinNL (y :: r)).length + 1) := by simp [joinNL]
    rw [e, show (x :: y :: r).length = (y :: r).length + 1 from rfl, Nat.succ_mul]
    omega
theorem countIn_one (c : Nat) : ∀ l : List Nat, PySem.Spec.countIn (.str ⟨#[c]⟩) (l.map fun n => PyData.str ⟨#[n]⟩) = (l.count c : Int)
  | [] => rfl
  | a :: l => by
    rw [List.map_cons, PySem.Spec.countIn, countIn_one c l, List.count_cons]
    have e : PySem.Spec.same (.str ⟨#[a]⟩) (.str ⟨#[c]⟩) = (a == c) := by
      show ((⟨#[a]⟩ : Str) == ⟨#[c]⟩) = _
      rw [Bool.eq_iff_iff, beq_iff_eq, beq_iff_eq]
      simp
    rw [e]
    by_cases h : a = c <;> simp [h]
    omega
theorem count_nl (l : Tx) : Txt.count (S l) (Str.ofString "\n") = (l.count 10 : Int) := by
  rw [of_lit (s := "\n") (l := [10]) (by decide)]
  have := count_is (S l) 10
  rw [S_cps, countIn_one] at this
  exact this
theorem small_words {ns : List (List Wd)} {b : Nat} (h : ∀ r ∈ ns, ∀ x ∈ r, ∀ p ∈ x.ps, p.1 < b) (hb : b ≤ 1114112) : Small (ns.flatten.map fun x => signs x.ps) := by
  intro x hx c hc
  obtain ⟨y, hy, rfl⟩ := List.mem_map.mp hx
  obtain ⟨r, hr, hyr⟩ := List.mem_flatten.mp hy
  obtain ⟨p, hp, rfl⟩ := List.mem_map.mp hc
  exact Nat.lt_of_lt_of_le (h r hr y hyr p hp) hb
theorem small_left {w : Wd} {b : Nat} (h : ∀ p ∈ w.ps, p.1 < b) : ∀ c ∈ signs (left1 w).1, c < b := by
  have key : ∀ l : List (Nat × Bool), ∀ p ∈ (strip1 l).1, p ∈ l := by
    intro l
    induction l with
    | nil => intro p hp; exact hp
    | cons a l ih =>
      intro p hp
      unfold strip1 at hp
      split at hp
      · split at hp
        · exact .tail _ hp
        · exact .tail _ (ih p hp)
      · exact hp
  intro c hc
  obtain ⟨p, hp, rfl⟩ := List.mem_map.mp hc
  unfold left1 at hp
  split at hp
  · exact h p hp
  · exact h p (List.mem_reverse.mp (key _ p (List.mem_reverse.mp hp)))
theorem small_torn {b : Nat} : ∀ q : List Wd, (∀ x ∈ q, ∀ p ∈ x.ps, p.1 < b) → ∀ x ∈ (tornR q).1, ∀ c ∈ x, c < b
  | [], _ => fun x hx => nomatch hx
  | w :: q, h => by
    intro x hx
    unfold tornR at hx
    split at hx
    · rcases List.mem_append.mp hx with hx | hx
      · obtain ⟨v, hv, rfl⟩ := List.mem_map.mp hx
        intro c hc
        obtain ⟨p, hp, rfl⟩ := List.mem_map.mp hc
        exact h v (.tail _ (List.mem_reverse.mp hv)) p hp
      · rw [List.mem_singleton.mp hx]
        exact small_left (h w (.head _))
    · exact small_torn q (fun y hy => h y (.tail _ hy)) x hx
theorem small_due {rows : List (List Wd)} {b n : Nat} (h : ∀ r ∈ rows, ∀ x ∈ r, ∀ p ∈ x.ps, p.1 < b) (hb : b ≤ 1114112) (h35 : 35 < b) : Small (dueW n rows) := by
  have hash_ok : ∀ c ∈ hash, c < b := fun c hc => by rw [List.mem_singleton.mp hc]; exact h35
  have step : ∀ (st : List Tx × Bool) (r : List Wd), (∀ x ∈ r, ∀ p ∈ x.ps, p.1 < b) → (∀ x ∈ st.1, ∀ c ∈ x, c < b) → ∀ x ∈ (dueS n st r).1, ∀ c ∈ x, c < b := by
    intro st r hr hst
    have ht := small_torn r.reverse fun x hx => hr x (List.mem_reverse.mp hx)
    have hrep : ∀ k, ∀ x ∈ List.replicate k hash, ∀ c ∈ x, c < b := fun k x hx c hc => hash_ok c (by rw [← List.eq_of_mem_replicate hx]; exact hc)
    have hl : ∀ c ∈ st.1.getLastD [], c < b := by
      intro c hc
      rcases List.eq_nil_or_concat st.1 with e | ⟨p, y, e⟩
      · rw [e] at hc; cases hc
      · rw [e] at hc
        exact hst y (by rw [e]; simp) c (by simpa using hc)
    intro x hx
    unfold dueS at hx
    split at hx
    · simp only [List.mem_append, List.mem_singleton] at hx
      rcases hx with (hx | rfl) | hx | hx
      · exact hst x ((List.dropLast_sublist _).subset hx)
      · intro c hc
        simp only [List.mem_append, List.mem_singleton] at hc
        rcases hc with (hc | rfl) | hc
        · exact hl c hc
        · omega
        · exact hash_ok c hc
      · exact hrep _ x hx
      · exact ht x hx
    · simp only [List.mem_append] at hx
      rcases hx with hx | hx | hx
      · exact hst x hx
      · exact hrep _ x hx
      · exact ht x hx
  have all : ∀ (rows : List (List Wd)) (st : List Tx × Bool), (∀ r ∈ rows, ∀ x ∈ r, ∀ p ∈ x.ps, p.1 < b) → (∀ x ∈ st.1, ∀ c ∈ x, c < b) → ∀ x ∈ (rows.foldl (dueS n) st).1, ∀ c ∈ x, c < b := by
    intro rows
    induction rows with
    | nil => intro st _ hst; exact hst
    | cons r rows ih => intro st hr hst; exact ih _ (fun q hq => hr q (.tail _ hq)) (step st r (hr r (.head _)) hst)
  have fin := all rows ([], false) h (fun x hx => nomatch hx)
  intro x hx c hc
  refine Nat.lt_of_lt_of_le ?_ hb
  unfold dueW at hx
  split at hx
  · exact fin x ((List.dropLast_sublist _).subset hx) c hc
  · exact fin x hx c hc
theorem rows_laid {h : Heap} {vs : List Value} {rows : List (List Wd)} (r : Rds h vs (rows.map rowD)) : ∃ (ls : Nat → Addr) (us : Nat → List Value), ∀ i, i < vs.length → vs[i]? = some (.ref (ls i)) ∧ h.IsList (ls i) (us i).toArray ∧ Rds h (us i) ((rows.getD i []).map wordD) := by
  have hl : vs.length = rows.length := by simpa using r.len
  have key : ∀ i, ∃ (a : Addr) (u : List Value), i < vs.length → vs[i]? = some (.ref a) ∧ h.IsList a u.toArray ∧ Rds h u ((rows.getD i []).map wordD) := by
    intro i
    by_cases hi : i < vs.length
    · have hi' : i < rows.length := by omega
      obtain ⟨v, hv, hr⟩ := r.get i (rowD (rows.getD i [])) (by simp [hi'])
      obtain ⟨a, u, rfl, h1, h2⟩ := hr.list_inv'
      exact ⟨a, u, fun _ => ⟨hv, h1, h2⟩⟩
    · exact ⟨0, [], fun q => absurd q hi⟩
  exact ⟨fun i => (key i).choose, fun i => (key i).choose_spec.choose, fun i hi => (key i).choose_spec.choose_spec hi⟩
section
variable {prog : Program} {w : World} {A : Around} {E : Value → Shared → Prop} {s : Shared} {Q : Value → Shared → Prop}
theorem join_nl {D : Addr} {zs : Array Value} {ls : List Tx} {t : Tok} (hl : s.heap.IsList D zs) (hi : StrsAre zs.toList (ls.map S)) (hb : ∀ l ∈ ls, l.length ≤ 1000) (hn : ls.length ≤ 8) (h : ∀ t' k, Q (.str (S (joinNL ls)) t') { s with toks := k }) :
    wpAny (model prog w) A (call (.builtin "str.join") [.str (Str.ofString "\n") t, .ref D]) Q E s := by
  have e : Str.ofString "\n" = S [10] := of_lit (by decide)
  rw [e]
  refine join_list hl hi (fits_join 1000 8 hb hn (by rw [S_len]; decide)) fun t' k => ?_
  rw [join_line]
  exact h t' k
end
theorem tab_keep {g h' : Heap} {L : Addr} {m : Str → Option Value} {ps : Array Value} (F : Fr g L h' m) (T : TabIs h' ps) (h72 : h'.get? 72 = some (tabObj ps)) :
    ∃ ks : List (Addr × Obj), News g L h' ks ∧ ∀ h, Kp g h → (∀ p ∈ ks, h.get? p.1 = some p.2) → TabIs (hideAll h [72]) ps := by
  rcases T with rfl | ⟨c', rfl, c, o, vs, t, e, hc, hd, hv⟩
  · exact ⟨[], News.nil, fun h _ _ => .inl rfl⟩
  · cases e
    have n72 : c' ≠ 72 := by
      rintro rfl
      rw [h72] at hc
      cases hc
      injection hd with hd
      subst hd
      cases hv
    have nL : c' ≠ L := by
      rintro rfl
      obtain ⟨oL, es, ep, hL, hLd, _⟩ := F.ns
      rw [hc] at hL
      cases hL
      rw [hd] at hLd; cases hLd
    have fin : ∀ h : Heap, h.get? c' = some o → TabIs (hideAll h [72]) #[rawInt 60, rawInt 4, .ref c'] := fun h q =>
      .inr ⟨c', rfl, c', o, vs, t, rfl, hideAll_get _ q (fun z => n72 (List.mem_singleton.mp z)), hd, hv⟩
    cases q : g.get? c' with
    | some o' =>
      refine ⟨[], News.nil, fun h k _ => fin h (k _ _ ?_)⟩
      rw [q]
      have := F.keep _ _ q
      rw [hc] at this
      exact this.symm
    | none =>
      refine ⟨[(c', o)], fun p hp => ?_, fun h _ q => fin h (q _ (.head _))⟩
      rw [List.mem_singleton.mp hp]
      exact ⟨hc, nL, q⟩
section
variable {w : World} {A : Around} {E : Value → Shared → Prop} {s : Shared} {Q : Value → Shared → Prop} {g : Heap} {L : Addr} {m : Str → Option Value}
theorem read_inF {ps : Array Value} {rest : List (Addr × Obj)} (F : Fr g L s.heap m) (N : News g L s.heap ((72, tabObj ps) :: rest)) (hr : ∀ p ∈ rest, p.1 ≠ 72) (hps : TabIs (hideAll s.heap [72]) ps) (C : CodeHd g 76 72) (G : Gd w g) (a : At 5 A) (text : Tx) (t : Tok) (htx : text.length ≤ 100000) (ws : List Tx) (hw : readW 64 text = (ws, some []))
    (h : ∀ h' tk T W vw n t' ps' ks, Fr g L h' m → News g L h' ((72, tabObj ps') :: (T, { cls := .type "tuple", data := .seq #[.ref W, .int (1 + (text.count 10 : Int)) t'] }) :: (W, PySem.W.listOf (vw : List Value).toArray n) :: (ks ++ rest)) →
      (∀ h'' : Heap, Kp g h'' → (∀ p ∈ ks, h''.get? p.1 = some p.2) → TabIs (hideAll h'' [72]) ps') → TxsAre vw ws → Q (.ref T) { s with heap := h', toks := tk }) :
    wpAny (model PySem.Challenge.rw_pg0042_01.row.prog w) A (call (.ref 134) [.str (S text) t]) Q E s := by
  have n72 := N _ (.head _)
  have st : Kp g (hideAll s.heap [72]) := fun b x e => hideAll_get _ (F.keep b x e) (fun q => by rw [List.mem_singleton.mp q, n72.2.2] at e; cases e)
  have H : Held (hideAll s.heap [72]) s.heap [(72, tabObj ps)] := hide_of (news := [(72, tabObj ps)]) fun p hp => by rw [List.mem_singleton.mp hp]; exact n72.1
  refine read_law H hps (codeHd_keeps C st) (G.keeps st) a text t htx ws hw ?_
  intro h' tk T W vw n t' ps' k1 e72 tab hT hW eT eW htw
  have nL : L ≠ 72 := Ne.symm n72.2.1
  obtain ⟨oL, _, _, hL, _⟩ := id F.ns
  have F' : Fr g L h' m := ⟨F.ns.at' fun x q => k1 _ x (hideAll_get _ q fun z => nL (List.mem_singleton.mp z)), fun b x e => k1 b x (st b x e), F.above⟩
  obtain ⟨ks, Nk, tabk⟩ := tab_keep F' tab e72
  have one : ∀ a o, (hideAll s.heap [72]).get? a = none → h'.get? a = some o → h'.get? a = some o ∧ a ≠ L ∧ g.get? a = none := fun a o q e => by
    refine ⟨e, ?_, ?_⟩
    · rintro rfl
      rw [hideAll_get _ hL fun z => nL (List.mem_singleton.mp z)] at q; cases q
    · cases z : g.get? a with
      | none => rfl
      | some x => rw [st _ _ z] at q; cases q
  refine h h' tk T W vw n t' ps' ks F' (fun p hp => ?_) tabk htw
  simp only [List.mem_cons, List.mem_append] at hp
  rcases hp with rfl | rfl | rfl | hp | hp
  · exact ⟨e72, n72.2⟩
  · exact one _ _ hT eT
  · exact one _ _ hW eW
  · exact Nk p hp
  · have Np := N p (.tail _ hp)
    exact ⟨k1 _ _ (hideAll_get _ Np.1 fun z => hr p hp (List.mem_singleton.mp z)), Np.2⟩
end
/-- what is in the books stays but for the names -/
theorem news_butL {g h h' : Heap} {L : Addr} {news : List (Addr × Obj)} (N : News g L h news) (k : ∀ b o, b ≠ L → h.get? b = some o → h'.get? b = some o) : News g L h' news := fun p hp => ⟨k _ _ (N p hp).2.1 (N p hp).1, (N p hp).2⟩
theorem news_listL {g h h' : Heap} {L D : Addr} {m : Str → Option Value} {news : List (Addr × Obj)} {zs : Array Value} (F : Fr g L h m) (N : News g L h' news) (hD : h.get? D = none) (hl : h'.IsList D zs) :
    ∃ o, News g L h' ((D, o) :: news) ∧ o.cls = .type "list" ∧ ∃ n, o.data = .seq zs n := by
  obtain ⟨o, ho, hc, n, hd⟩ := hl
  exact ⟨o, news_add1 F N hD ho, hc, n, hd⟩
end Mine

namespace Mine
/-! words that are read back -/
noncomputable def Vb (ps : List (Nat × Bool)) : Prop := ∀ p ∈ ps, p.2 = true ∨ (nw p.1 = false ∧ p.1 ≠ 92)
noncomputable def Vq (ps : List (Nat × Bool)) : Prop := ∀ p ∈ ps, p.2 = true ∨ (p.1 ≠ 34 ∧ p.1 ≠ 92)
structure WdV (last : Bool) (w : Wd) : Prop where
  ne : w.ps ≠ []
  b : w.kind = 0 → Vb w.ps
  f : w.kind = 0 → ∀ p, w.ps.head? = some p → p.2 = true ∨ p.1 ≠ 34
  q : w.kind ≠ 0 → Vq w.ps
  k : w.kind < 3
  l : w.kind = 2 → last = true
theorem stock_ok (n : Nat) : ∀ c ∈ stock n, c ≠ 13 ∧ c < 60000 := by
  intro c hc
  simp only [stock, List.mem_cons, List.not_mem_nil, or_false] at hc
  omega
theorem drawn_ok (n : Nat) : ∀ c ∈ drawnSigns n, c ≠ 13 ∧ c < 60000 := by
  have key : ∀ i, i < 12 → (stock n).getD i 0 ∈ stock n := fun i hi => by
    rw [List.getD_eq_getElem?_getD, List.getElem?_eq_getElem (show i < (stock n).length from hi)]
    exact List.getElem_mem _
  intro c hc
  unfold drawnSigns at hc
  rcases List.mem_cons.mp hc with rfl | hc
  · exact stock_ok n _ (key _ (by omega))
  · split at hc
    · rw [List.mem_singleton.mp hc]; exact stock_ok n _ (key _ (by assumption))
    · cases hc
theorem mem_pairs {n : Nat} {last : Bool} {p : Nat × Bool} (h : p ∈ pairsOf n last) : p.1 ∈ drawnSigns n ∧ ∃ i, p.2 = (decide (n / 156 % 6 < 3) || must (kindOf n last) i p.1) := by
  obtain ⟨q, hq, rfl⟩ := List.mem_map.mp h
  obtain ⟨c, i⟩ := q
  refine ⟨?_, i, rfl⟩
  have := List.mem_zipIdx hq
  simp only [Nat.zero_le, Nat.sub_zero, Nat.zero_add, true_and] at this
  obtain ⟨hi, e⟩ := this
  rw [e]
  exact List.getElem_mem _
theorem word_ok (n : Nat) (last : Bool) : WdV last (wordOf n last) where
  ne := by simp [wordOf, pairsOf, drawnSigns]
  b := fun hk p hp => by
    obtain ⟨h1, i, h2⟩ := mem_pairs (n := n) (last := last) hp
    have h13 := (drawn_ok n _ h1).1
    have hk' : kindOf n last = 0 := hk
    rw [hk'] at h2
    by_cases h92 : p.1 = 92
    · left; rw [h2, must, h92]; simp
    by_cases h32 : p.1 = 32
    · left; rw [h2, must, h32]; simp
    by_cases h9 : p.1 = 9
    · left; rw [h2, must, h9]; simp
    by_cases h10 : p.1 = 10
    · left; rw [h2, must, h10]; simp
    · right; exact ⟨by simp [nw, h32, h9, h10, h13], h92⟩
  f := fun hk p hp => by
    by_cases h34 : p.1 = 34
    · left
      have e : (pairsOf n last).head? = some p := hp
      simp only [pairsOf, drawnSigns, List.zipIdx_cons, List.map_cons, List.head?_cons, Option.some.injEq] at e
      rw [← e] at h34 ⊢
      simp only [must]
      simp only at h34
      rw [h34]
      simp
    · exact .inr h34
  q := fun hk p hp => by
    obtain ⟨h1, i, h2⟩ := mem_pairs (n := n) (last := last) hp
    have hk' : 0 < kindOf n last := Nat.pos_of_ne_zero hk
    by_cases h92 : p.1 = 92
    · left; rw [h2, must, h92]; simp
    by_cases h34 : p.1 = 34
    · left; rw [h2, must, h34]; simp [hk']
    · exact .inr ⟨h34, h92⟩
  k := by
    show kindOf n last < 3
    unfold kindOf; split <;> omega
  l := fun h => by
    have h' : kindOf n last = 2 := h
    unfold kindOf at h'
    split at h'
    · cases h'
    · rename_i hn
      cases last
      · exact absurd ⟨h', rfl⟩ hn
      · rfl
theorem word_small (n : Nat) (last : Bool) : WdS (wordOf n last) ∧ ∀ p ∈ (wordOf n last).ps, p.1 < 60000 := by
  refine ⟨⟨?_, (word_ok n last).k, by show n / 1872 % 3 < 3; omega⟩, fun p hp => (drawn_ok n _ (mem_pairs hp).1).2⟩
  show (pairsOf n last).length ≤ 2
  have := drawn_len n
  simpa [pairsOf] using this
/-! the rows -/
noncomputable def GoodLast (r : List Wd) : Prop := ∃ q z, r = q ++ [z] ∧ (∀ x ∈ q, WdV false x) ∧ WdV true z
noncomputable def GoodMid (r : List Wd) : Prop := r ≠ [] ∧ ∀ x ∈ r, WdV false x
noncomputable def GoodRows : List (List Wd) → Prop
  | [] => False
  | [r] => GoodLast r
  | r :: s :: t => GoodMid r ∧ GoodRows (s :: t)
theorem good_app {r : List Wd} (hr : GoodLast r) : ∀ d : List (List Wd), (∀ x ∈ d, GoodMid x) → GoodRows (d ++ [r])
  | [], _ => hr
  | [a], h => ⟨h a (.head _), hr⟩
  | a :: b :: d, h => ⟨h a (.head _), good_app hr (b :: d) fun x hx => h x (.tail _ hx)⟩
theorem rowsL_good : ∀ (ns : List Nat) (done : List (List Wd)) (cur : List Wd), ns ≠ [] → (∀ x ∈ done, GoodMid x) → (∀ x ∈ cur, WdV false x) → GoodRows (rowsL done cur ns)
  | [], _, _, h, _, _ => absurd rfl h
  | n :: r, done, cur, _, hd, hc => by
    have hw : ∀ x ∈ cur ++ [wordOf n false], WdV false x := fun x hx => by
      rcases List.mem_append.mp hx with hx | hx
      · exact hc x hx
      · rw [List.mem_singleton.mp hx]; exact word_ok n false
    rw [rowsL]
    split
    · exact good_app ⟨cur, _, rfl, hc, word_ok n true⟩ done hd
    · split
      · exact rowsL_good r _ [] (by assumption) (fun x hx => by
          rcases List.mem_append.mp hx with hx | hx
          · exact hd x hx
          · rw [List.mem_singleton.mp hx]; exact ⟨by simp, hw⟩) (fun x hx => nomatch hx)
      · exact rowsL_good r done _ (by assumption) hd hw
theorem rowsL_flat : ∀ (ns : List Nat) (done : List (List Wd)) (cur : List Wd), (rowsL done cur ns).flatten.length = done.flatten.length + cur.length + ns.length
  | [], done, cur => by simp [rowsL]
  | n :: r, done, cur => by
    rw [rowsL]
    split
    · rename_i h; subst h; simp; omega
    · split
      · rw [rowsL_flat r]; simp; omega
      · rw [rowsL_flat r]; simp; omega
theorem rowsL_all (P : Wd → Prop) (hP : ∀ n last, P (wordOf n last)) : ∀ (ns : List Nat) (done : List (List Wd)) (cur : List Wd), (∀ r ∈ done, ∀ x ∈ r, P x) → (∀ x ∈ cur, P x) → ∀ r ∈ rowsL done cur ns, ∀ x ∈ r, P x
  | [], done, cur, hd, hc => by
    intro r hr
    simp only [rowsL, List.mem_append, List.mem_singleton] at hr
    rcases hr with hr | rfl
    · exact hd r hr
    · exact hc
  | n :: s, done, cur, hd, hc => by
    have hw : ∀ b, ∀ x ∈ cur ++ [wordOf n b], P x := fun b x hx => by
      rcases List.mem_append.mp hx with hx | hx
      · exact hc x hx
      · rw [List.mem_singleton.mp hx]; exact hP n b
    have hd' : ∀ b, ∀ r ∈ done ++ [cur ++ [wordOf n b]], ∀ x ∈ r, P x := fun b r hr => by
      rcases List.mem_append.mp hr with hr | hr
      · exact hd r hr
      · rw [List.mem_singleton.mp hr]; exact hw b
    rw [rowsL]
    split
    · exact hd' true
    · split
      · exact rowsL_all P hP s _ _ (hd' false) (fun x hx => nomatch hx)
      · exact rowsL_all P hP s _ _ hd (hw false)
theorem GoodRows.ne : ∀ {rows : List (List Wd)}, GoodRows rows → rows ≠ [] ∧ ∀ r ∈ rows, r ≠ []
  | [], h => h.elim
  | [r], h => by
    obtain ⟨q, z, rfl, _⟩ := h
    exact ⟨by simp, fun r hr => by rw [List.mem_singleton.mp hr]; simp⟩
  | r :: s :: t, h => by
    refine ⟨by simp, fun x hx => ?_⟩
    rcases List.mem_cons.mp hx with rfl | hx
    · exact h.1.1
    · exact (GoodRows.ne h.2).2 x hx
theorem len_flat : ∀ {rows : List (List Wd)}, (∀ r ∈ rows, r ≠ []) → rows.length ≤ rows.flatten.length
  | [], _ => by simp
  | r :: rows, h => by
    have h1 := len_flat (rows := rows) fun x hx => h x (.tail _ hx)
    have h2 := List.length_pos_iff.mpr (h r (.head _))
    simp only [List.flatten_cons, List.length_append, List.length_cons]
    omega
theorem mem_flat_len {rows : List (List Wd)} {r : List Wd} (h : r ∈ rows) : r.length ≤ rows.flatten.length := by
  induction rows with
  | nil => cases h
  | cons a rows ih =>
    rw [List.flatten_cons, List.length_append]
    rcases List.mem_cons.mp h with rfl | h
    · omega
    · have := ih h; omega
theorem nums_ne (ns : List Int) : nums ns ≠ [] := by simp [nums, drawnZ]
theorem rw_good (ns : List Int) : GoodRows (RW ns) := rowsL_good _ [] [] (nums_ne ns) (by simp) (by simp)
theorem rw_flat (ns : List Int) : (RW ns).flatten.length ≤ 8 := by
  have := rowsL_flat (nums ns) [] []
  have h8 := nums_len ns
  simp only [List.flatten_nil, List.length_nil, Nat.zero_add] at this
  show (rowsL [] [] (nums ns)).flatten.length ≤ 8
  omega
theorem plain_rows (ns : List Int) : (RW ns).length ≤ 8 ∧ RW ns ≠ [] ∧ ∀ r ∈ RW ns, r ≠ [] ∧ r.length ≤ 8 ∧ ∀ x ∈ r, WdS x := by
  obtain ⟨h1, h2⟩ := (rw_good ns).ne
  have h8 := rw_flat ns
  exact ⟨Nat.le_trans (len_flat h2) h8, h1, fun r hr => ⟨h2 r hr, Nat.le_trans (mem_flat_len hr) h8, rowsL_all WdS (fun n b => (word_small n b).1) (nums ns) [] [] (by simp) (by simp) r hr⟩⟩
theorem plain_small (ns : List Int) : ∀ r ∈ RW ns, ∀ x ∈ r, ∀ p ∈ x.ps, p.1 < 60000 := rowsL_all (fun x => ∀ p ∈ x.ps, p.1 < 60000) (fun n b => (word_small n b).2) (nums ns) [] [] (by simp) (by simp)
end Mine

namespace Mine
/-! what the reader takes of a text -/
noncomputable def RD (t : Tx) (ws : List Tx) : Prop := ∀ n, ws.length < n → readW n t = (ws, some [])
theorem RD.over {t t' : Tx} {ws : List Tx} (h : outGo t = outGo t') (r : RD t' ws) : RD t ws := fun n hn => by
  cases n with
  | zero => exact absurd hn (Nat.not_lt_zero _)
  | succ n =>
    have := r (n + 1) hn
    simp only [readW] at this ⊢
    rw [h]; exact this
theorem RD.fin {t : Tx} (h : outGo t = ([], [])) : RD t [] := fun n hn => by
  cases n with
  | zero => exact absurd hn (Nat.not_lt_zero _)
  | succ n => rw [readW_nil (by rw [h]), h]
theorem RD.word {t t' x : Tx} {ws : List Tx} (h : outGo t = (x, t')) (hx : x ≠ []) (r : RD t' ws) : RD t (x :: ws) := fun n hn => by
  cases n with
  | zero => exact absurd hn (Nat.not_lt_zero _)
  | succ n =>
    have := r n (by simpa using hn)
    rw [readW_cons (by rw [h]; exact hx), h]
    simp only [this]
theorem RD.nil : RD [] [] := RD.fin outGo_nil
theorem RD.ws {c : Nat} {t : Tx} {ws : List Tx} (hc : nw c = true) (r : RD t ws) : RD (c :: t) ws := RD.over (outGo_ws hc) r
theorem RD.wss : ∀ {g t : Tx} {ws : List Tx}, (∀ c ∈ g, nw c = true) → RD t ws → RD (g ++ t) ws
  | [], _, _, _, r => r
  | c :: g, _, _, h, r => RD.ws (h c (.head _)) (RD.wss (fun d hd => h d (.tail _ hd)) r)
theorem enc_cons (p : Nat × Bool) (ps : List (Nat × Bool)) : enc (p :: ps) = enc1 p ++ enc ps := by simp [enc]
theorem enc_app (ps qs : List (Nat × Bool)) : enc (ps ++ qs) = enc ps ++ enc qs := by simp [enc]
theorem bare_enc : ∀ (ps : List (Nat × Bool)) (tok r : Tx), Vb ps → bareGo tok (enc ps ++ r) = bareGo (tok ++ signs ps) r
  | [], tok, r, _ => by simp [enc, signs]
  | (c, true) :: ps, tok, r, h => by
    have e : enc ((c, true) :: ps) ++ r = 92 :: c :: (enc ps ++ r) := by simp [enc_cons, enc1]
    rw [e, bareGo_e]
    show bareGo (tok ++ [c]) (enc ps ++ r) = _
    rw [bare_enc ps _ r fun p hp => h p (.tail _ hp)]
    simp [signs]
  | (c, false) :: ps, tok, r, h => by
    have e : enc ((c, false) :: ps) ++ r = c :: (enc ps ++ r) := by simp [enc_cons, enc1]
    have hc := (h (c, false) (.head _)).resolve_left (by simp)
    rw [e, bareGo_c hc.1 hc.2, bare_enc ps _ r fun p hp => h p (.tail _ hp)]
    simp [signs]
theorem quo_enc : ∀ (ps : List (Nat × Bool)) (tok r : Tx), Vq ps → quoGo tok (enc ps ++ r) = quoGo (tok ++ signs ps) r
  | [], tok, r, _ => by simp [enc, signs]
  | (c, true) :: ps, tok, r, h => by
    have e : enc ((c, true) :: ps) ++ r = 92 :: c :: (enc ps ++ r) := by simp [enc_cons, enc1]
    rw [e, quoGo_e]
    show quoGo (tok ++ [c]) (enc ps ++ r) = _
    rw [quo_enc ps _ r fun p hp => h p (.tail _ hp)]
    simp [signs]
  | (c, false) :: ps, tok, r, h => by
    have e : enc ((c, false) :: ps) ++ r = c :: (enc ps ++ r) := by simp [enc_cons, enc1]
    have hc := (h (c, false) (.head _)).resolve_left (by simp)
    rw [e, quoGo_c hc.1 hc.2, quo_enc ps _ r fun p hp => h p (.tail _ hp)]
    simp [signs]
noncomputable def Vf (ps : List (Nat × Bool)) : Prop := ∀ p, ps.head? = some p → p.2 = true ∨ p.1 ≠ 34
theorem out_enc {ps : List (Nat × Bool)} (h : Vb ps) (hf : Vf ps) (hn : ps ≠ []) (r : Tx) : outGo (enc ps ++ r) = bareGo (signs ps) r := by
  match ps, hn with
  | (c, true) :: ps, _ =>
    have e : enc ((c, true) :: ps) ++ r = 92 :: c :: (enc ps ++ r) := by simp [enc_cons, enc1]
    rw [e, outGo_e]
    show bareGo [c] (enc ps ++ r) = _
    rw [bare_enc ps _ r fun p hp => h p (.tail _ hp)]
    simp [signs]
  | (c, false) :: ps, _ =>
    have e : enc ((c, false) :: ps) ++ r = c :: (enc ps ++ r) := by simp [enc_cons, enc1]
    have hc := (h (c, false) (.head _)).resolve_left (by simp)
    have h34 := (hf (c, false) rfl).resolve_left (by simp)
    rw [e, outGo_b hc.1 h34 hc.2, bare_enc ps _ r fun p hp => h p (.tail _ hp)]
    simp [signs]
theorem signs_ne {ps : List (Nat × Bool)} (h : ps ≠ []) : signs ps ≠ [] := by cases ps with | nil => exact absurd rfl h | cons a l => simp [signs]
/-- a word that is shut, or bare, with a gap behind it -/
theorem RD.gap {w : Wd} (v : WdV false w) {g t : Tx} {ws : List Tx} (hg : ∀ c ∈ g, nw c = true) (hn : g ≠ []) (r : RD t ws) : RD (spelled w ++ (g ++ t)) (signs w.ps :: ws) := by
  have hk := v.k
  have h2 : w.kind ≠ 2 := fun e => by have := v.l e; cases this
  have hk' : w.kind = 0 ∨ w.kind = 1 := by omega
  rcases hk' with e | e
  · have es : spelled w = enc w.ps := by simp [spelled, e, opn, shut]
    match g, hn with
    | c :: g, _ =>
      refine RD.word (t' := g ++ t) ?_ (signs_ne v.ne) (RD.wss (fun d hd => hg d (.tail _ hd)) r)
      rw [es, out_enc (v.b e) (v.f e) v.ne]
      exact bareGo_ws (hg c (.head _))
  · have es : spelled w ++ (g ++ t) = 34 :: (enc w.ps ++ 34 :: (g ++ t)) := by simp [spelled, e, opn, shut]
    refine RD.word (t' := g ++ t) ?_ (signs_ne v.ne) (RD.wss hg r)
    rw [es, outGo_q, quo_enc _ _ _ (v.q (by omega)), List.nil_append, quoGo_q]
theorem RD.lastw {w : Wd} (v : WdV true w) : RD (spelled w) [signs w.ps] := by
  have hk := v.k
  refine RD.word (t' := []) ?_ (signs_ne v.ne) RD.nil
  have hk' : w.kind = 0 ∨ w.kind = 1 ∨ w.kind = 2 := by omega
  rcases hk' with e | e | e
  · have es : spelled w = enc w.ps ++ [] := by simp [spelled, e, opn, shut]
    rw [es, out_enc (v.b e) (v.f e) v.ne, bareGo_nil]
  · have es : spelled w = 34 :: (enc w.ps ++ 34 :: []) := by simp [spelled, e, opn, shut]
    rw [es, outGo_q, quo_enc _ _ _ (v.q (by omega)), List.nil_append, quoGo_q]
  · have es : spelled w = 34 :: (enc w.ps ++ []) := by simp [spelled, e, opn, shut]
    rw [es, outGo_q, quo_enc _ _ _ (v.q (by omega)), List.nil_append, quoGo_nil]
theorem sep_nw (b : Nat) : (∀ c ∈ sep b, nw c = true) ∧ sep b ≠ [] := by
  unfold sep
  split
  · exact ⟨by simp [nw], by simp⟩
  · split
    · exact ⟨by simp [nw], by simp⟩
    · exact ⟨by simp [nw], by simp⟩
theorem RD.parts : ∀ {q : List Wd} {t : Tx} {ws : List Tx}, (∀ x ∈ q, WdV false x) → RD t ws → RD (q.flatMap part ++ t) (q.map (fun x => signs x.ps) ++ ws)
  | [], _, _, _, r => r
  | x :: q, t, ws, h, r => by
    have ih := RD.parts (q := q) (fun y hy => h y (.tail _ hy)) r
    have e : (x :: q).flatMap part ++ t = spelled x ++ (sep x.beh ++ (q.flatMap part ++ t)) := by simp [part]
    rw [e]
    exact RD.gap (h x (.head _)) (sep_nw _).1 (sep_nw _).2 ih
theorem rowX_snoc (q : List Wd) (z : Wd) : rowX (q ++ [z]) = q.flatMap part ++ spelled z := by simp [rowX, lastW, rowT]
theorem nw10 : nw 10 = true := rfl
theorem joinNL_cons (x : Tx) {ls : List Tx} (h : ls ≠ []) : joinNL (x :: ls) = x ++ 10 :: joinNL ls := by
  cases ls with
  | nil => exact absurd rfl h
  | cons y ls => rfl
theorem RD.rows : ∀ {rows : List (List Wd)}, GoodRows rows → RD (joinNL (rows.map rowX)) (rows.flatten.map fun x => signs x.ps)
  | [], h => h.elim
  | [r], h => by
    obtain ⟨q, z, rfl, hq, hz⟩ := h
    have e : joinNL ([q ++ [z]].map rowX) = q.flatMap part ++ spelled z := by simp [joinNL, rowX_snoc]
    rw [e]
    have := RD.parts hq (RD.lastw hz)
    simpa using this
  | r :: s :: t, h => by
    have ih := RD.rows h.2
    obtain ⟨q, z, rfl⟩ : ∃ q z, r = q ++ [z] := by
      rcases List.eq_nil_or_concat r with e | ⟨q, z, e⟩
      · exact absurd e h.1.1
      · exact ⟨q, z, by rw [e, List.concat_eq_append]⟩
    have hq : ∀ x ∈ q, WdV false x := fun x hx => h.1.2 x (List.mem_append_left _ hx)
    have hz : WdV false z := h.1.2 z (List.mem_append_right _ (.head _))
    rw [List.map_cons, joinNL_cons _ (by simp), rowX_snoc, List.append_assoc]
    have := RD.parts hq (RD.gap hz (g := [10]) (by simp [nw]) (by simp) ih)
    simpa using this
theorem plain_read (ns : List Int) : readW 64 (joinNL ((RW ns).map rowX)) = ((RW ns).flatten.map (fun x => signs x.ps), some []) :=
  RD.rows (rw_good ns) 64 (by rw [List.length_map]; have := rw_flat ns; omega)
end Mine

namespace Mine
/-! stripping -/
theorem rstr_nil : rstr [] = [] := rfl
theorem rstr_snoc (l : Tx) (c : Nat) : rstr (l ++ [c]) = if wh c = true then rstr l else l ++ [c] := by
  unfold rstr
  rw [List.reverse_append, List.reverse_singleton, List.singleton_append, List.dropWhile_cons]
  split <;> simp
theorem rstr_white {l : Tx} {c : Nat} (h : wh c = true) : rstr (l ++ [c]) = rstr l := by rw [rstr_snoc, if_pos h]
theorem rstr_stop {l : Tx} {c : Nat} (h : wh c = false) : rstr (l ++ [c]) = l ++ [c] := by rw [rstr_snoc, if_neg (by simp [h])]
theorem snoc_ind {α : Type} {P : List α → Prop} (h0 : P []) (hs : ∀ l a, P l → P (l ++ [a])) (l : List α) : P l := by
  have key : ∀ r : List α, P r.reverse := by
    intro r
    induction r with
    | nil => exact h0
    | cons a r ih => rw [List.reverse_cons]; exact hs _ _ ih
  have := key l.reverse
  rwa [List.reverse_reverse] at this
theorem rstr_whites (l : Tx) : ∀ t : Tx, (∀ c ∈ t, wh c = true) → rstr (l ++ t) = rstr l := by
  intro t
  induction t using snoc_ind with
  | h0 => intro _; simp
  | hs t c ih =>
    intro h
    rw [← List.append_assoc, rstr_white (h c (by simp)), ih fun d hd => h d (by simp [hd])]
theorem rstr_app (a : Tx) : ∀ b : Tx, rstr (a ++ b) = if rstr b = [] then rstr a else a ++ rstr b := by
  intro b
  induction b using snoc_ind with
  | h0 => simp [rstr_nil]
  | hs b c ih =>
    rw [← List.append_assoc]
    by_cases h : wh c = true
    · rw [rstr_white h, rstr_white h, ih]
    · have h' : wh c = false := by simpa using h
      rw [rstr_stop h', rstr_stop h', if_neg (by simp)]; simp
theorem rstr_last (l : Tx) (h : rstr l ≠ []) : ∃ p c, rstr l = p ++ [c] ∧ wh c = false := by
  induction l using snoc_ind with
  | h0 => exact absurd rstr_nil h
  | hs l c ih =>
    by_cases hc : wh c = true
    · rw [rstr_white hc] at h ⊢; exact ih h
    · have h' : wh c = false := by simpa using hc
      exact ⟨l, c, rstr_stop h', h'⟩
theorem rstr_idem (l : Tx) : rstr (rstr l) = rstr l := by
  by_cases h : rstr l = []
  · rw [h]; rfl
  · obtain ⟨p, c, e, hc⟩ := rstr_last l h
    rw [e, rstr_stop hc]
theorem rstr_pre (l : Tx) : rstr l <+: l := by
  induction l using snoc_ind with
  | h0 => exact List.prefix_refl _
  | hs l c ih =>
    by_cases hc : wh c = true
    · rw [rstr_white hc]; exact ih.trans (List.prefix_append _ _)
    · rw [rstr_stop (by simpa using hc)]; exact List.prefix_refl _
theorem tail_white (b : Nat) : ∀ c ∈ tail b, wh c = true := by
  unfold tail
  split
  · simp
  · split
    · intro c hc; rw [List.mem_singleton.mp hc]; rfl
    · intro c hc
      simp only [List.mem_cons, List.not_mem_nil, or_false] at hc
      rcases hc with rfl | rfl <;> rfl
theorem w35 : wh 35 = false := rfl
theorem w34 : wh 34 = false := rfl
theorem w92 : wh 92 = false := rfl
/-- the note of a row, by what is left of it -/
theorem note_full {r : List Wd} {n : Nat} (hn : n = 1 ∨ n = 2) (h : rstr (rowX r) ≠ []) : noteX n r = (if n = 1 then [35, 32] else [35, 32, 35, 32]) ++ rstr (rowX r) := by
  have e : rstr (rowT r.dropLast (lastW r) ++ tail (lastW r).beh) = rstr (rowX r) := rstr_whites _ _ (tail_white _)
  have c1 : comL (rowT r.dropLast (lastW r) ++ tail (lastW r).beh) = 35 :: 32 :: rstr (rowX r) := by unfold comL; rw [e, if_neg h]
  unfold noteX noteT
  rcases hn with rfl | rfl
  · rw [if_pos rfl, if_pos rfl, c1]; rfl
  · rw [if_neg (by decide), if_neg (by decide), c1]
    have e2 : rstr (35 :: 32 :: rstr (rowX r)) = 35 :: 32 :: rstr (rowX r) := by
      have := rstr_app [35, 32] (rstr (rowX r))
      rw [rstr_idem, if_neg h] at this
      exact this
    unfold comL
    rw [e2, if_neg (by simp)]; rfl
theorem note_none {r : List Wd} {n : Nat} (hn : n = 1 ∨ n = 2) (h : rstr (rowX r) = []) : noteX n r = (if n = 1 then [35] else [35, 32, 35]) := by
  have e : rstr (rowT r.dropLast (lastW r) ++ tail (lastW r).beh) = rstr (rowX r) := rstr_whites _ _ (tail_white _)
  have c1 : comL (rowT r.dropLast (lastW r) ++ tail (lastW r).beh) = [35] := by unfold comL; rw [e, if_pos h]
  unfold noteX noteT
  rcases hn with rfl | rfl
  · rw [if_pos rfl, if_pos rfl, c1]
  · rw [if_neg (by decide), if_neg (by decide), c1]
    have e2 : rstr [35] = [35] := rstr_stop (l := []) w35
    unfold comL
    rw [e2, if_neg (by simp)]
theorem plain_marked (ns : List Int) (n : Nat) (hn : n = 1 ∨ n = 2) : ∀ r ∈ RW ns, ∃ c pre, noteX n r = pre ++ [c] ∧ wh c = false ∧ (noteX n r ++ [32]).take (2 * n) = (if n = 1 then [35, 32] else [35, 32, 35, 32]) ∧ (noteX n r).drop (2 * n) <+: rowX r := by
  intro r _
  by_cases h : rstr (rowX r) = []
  · rw [note_none hn h]
    rcases hn with rfl | rfl
    · exact ⟨35, [], rfl, w35, rfl, List.nil_prefix⟩
    · exact ⟨35, [35, 32], rfl, w35, rfl, List.nil_prefix⟩
  · rw [note_full hn h]
    obtain ⟨p, c, e, hc⟩ := rstr_last _ h
    have hp := rstr_pre (rowX r)
    rcases hn with rfl | rfl
    · exact ⟨c, [35, 32] ++ p, by rw [e]; simp, hc, by simp, by simpa using hp⟩
    · exact ⟨c, [35, 32, 35, 32] ++ p, by rw [e]; simp, hc, by simp, by simpa using hp⟩
/-! what is left of a row -/
theorem strip_enc : ∀ q : List (Nat × Bool), rstr (enc q.reverse) = enc (strip1 q).1.reverse ++ (if (strip1 q).2 = true then [92] else [])
  | [] => rfl
  | (c, b) :: q => by
    have ih := strip_enc q
    rw [List.reverse_cons, enc_app]
    by_cases h : wh c = true
    · rw [strip_go (p := (c, b)) h]
      cases b with
      | true =>
        have e : enc q.reverse ++ enc [(c, true)] = (enc q.reverse ++ [92]) ++ [c] := by simp [enc, enc1]
        rw [e, rstr_white h, rstr_stop w92]; simp
      | false =>
        have e : enc q.reverse ++ enc [(c, false)] = enc q.reverse ++ [c] := by simp [enc, enc1]
        rw [e, rstr_white h, ih]; simp
    · have h' : wh c = false := by simpa using h
      rw [strip_stop (p := (c, b)) h']
      cases b with
      | true =>
        have e : enc q.reverse ++ enc [(c, true)] = (enc q.reverse ++ [92]) ++ [c] := by simp [enc, enc1]
        rw [e, rstr_stop h']; simp [enc_app, enc, enc1]
      | false =>
        have e : enc q.reverse ++ enc [(c, false)] = enc q.reverse ++ [c] := by simp [enc, enc1]
        rw [e, rstr_stop h']; simp [enc_app, enc, enc1]
/-- a torn word's text -/
noncomputable def tt (w : Wd) : Tx := opn w.kind ++ enc (left1 w).1 ++ (if w.kind = 1 then [34] else if (left1 w).2 = true then [92] else [])
theorem strip_spelled {w : Wd} (hk : w.kind < 3) : rstr (spelled w) = tt w := by
  have hk' : w.kind = 0 ∨ w.kind = 1 ∨ w.kind = 2 := by omega
  have e1 := strip_enc w.ps.reverse
  rw [List.reverse_reverse] at e1
  rcases hk' with e | e | e
  · have hl := left_kind (w := w) (by omega)
    have es : spelled w = enc w.ps := by simp [spelled, e, opn, shut]
    rw [es, e1, tt, hl, e]
    simp [opn]
  · have hl := left_kind1 (w := w) e
    have es : spelled w = (34 :: enc w.ps) ++ [34] := by simp [spelled, e, opn, shut]
    rw [es, rstr_stop w34, tt, hl, e]
    simp [opn]
  · have hl := left_kind (w := w) (by omega)
    have es : spelled w = [34] ++ enc w.ps := by simp [spelled, e, opn, shut]
    have h34 : rstr [34] = [34] := rstr_stop (l := []) w34
    have key : ∀ x : Tx, (if x = [] then rstr [34] else [34] ++ x) = 34 :: x := by
      intro x
      split
      · rename_i h; subst h; exact h34
      · rfl
    rw [es, rstr_app, key, e1, tt, hl, e]
    simp [opn]
noncomputable def Xq : List Wd → Tx
  | [] => []
  | w :: q => q.reverse.flatMap part ++ spelled w
theorem sep_white (b : Nat) : ∀ c ∈ sep b, wh c = true := by
  unfold sep
  split
  · intro c hc; rw [List.mem_singleton.mp hc]; rfl
  · split
    · intro c hc; rw [List.mem_singleton.mp hc]; rfl
    · intro c hc
      simp only [List.mem_cons, List.not_mem_nil, or_false] at hc
      rcases hc with rfl | rfl <;> rfl
theorem parts_Xq (q : List Wd) : rstr (q.reverse.flatMap part) = rstr (Xq q) := by
  cases q with
  | nil => rfl
  | cons w q =>
    have e : (w :: q).reverse.flatMap part = Xq (w :: q) ++ sep w.beh := by simp [Xq, part]
    rw [e, rstr_whites _ _ (sep_white _)]
theorem tt_nil {w : Wd} (h : ¬ (w.kind > 0 ∨ (left1 w).1 ≠ [] ∨ (left1 w).2 = true)) : tt w = [] := by
  simp only [not_or, Decidable.not_not] at h
  obtain ⟨h1, h2, h3⟩ := h
  have e : w.kind = 0 := by omega
  have h3' : (left1 w).2 = false := by simpa using h3
  simp [tt, e, h2, h3', opn, enc]
theorem tt_ne {w : Wd} (h : w.kind > 0 ∨ (left1 w).1 ≠ [] ∨ (left1 w).2 = true) : tt w ≠ [] := by
  intro z
  simp only [tt, List.append_eq_nil_iff] at z
  obtain ⟨⟨z1, z2⟩, z3⟩ := z
  have e : w.kind = 0 := by
    unfold opn at z1
    split at z1
    · assumption
    · cases z1
  rcases h with h | h | h
  · omega
  · apply h
    cases q : (left1 w).1 with
    | nil => rfl
    | cons a l =>
      rw [q, enc_cons] at z2
      obtain ⟨c, b⟩ := a
      cases b <;> simp [enc1] at z2
  · rw [e, h] at z3; simp at z3
theorem torn_text : ∀ q : List Wd, (∀ w ∈ q, w.kind < 3) → (rstr (Xq q) = [] ∧ tornR q = ([], false)) ∨
    ∃ q1 w q2, q = q1 ++ w :: q2 ∧ rstr (Xq q) = q2.reverse.flatMap part ++ tt w ∧ tornR q = (q2.reverse.map (fun v => signs v.ps) ++ [signs (left1 w).1], (left1 w).2) ∧ (w.kind > 0 ∨ (left1 w).1 ≠ [] ∨ (left1 w).2 = true)
  | [], _ => .inl ⟨rfl, rfl⟩
  | w :: q, h => by
    have hs := strip_spelled (h w (.head _))
    by_cases hw : w.kind > 0 ∨ (left1 w).1 ≠ [] ∨ (left1 w).2 = true
    · refine .inr ⟨[], w, q, rfl, ?_, torn_here hw, hw⟩
      show rstr (q.reverse.flatMap part ++ spelled w) = _
      rw [rstr_app, hs, if_neg (tt_ne hw)]
    · have e1 : rstr (Xq (w :: q)) = rstr (Xq q) := by
        show rstr (q.reverse.flatMap part ++ spelled w) = _
        rw [rstr_app, hs, if_pos (tt_nil hw), parts_Xq]
      rw [e1, torn_past hw]
      rcases torn_text q fun v hv => h v (.tail _ hv) with h1 | ⟨q1, v, q2, h1, h2, h3, h4⟩
      · exact .inl h1
      · exact .inr ⟨w :: q1, v, q2, by rw [h1]; rfl, h2, h3, h4⟩
theorem rowX_Xq {r : List Wd} (h : r ≠ []) : rowX r = Xq r.reverse := by
  rcases List.eq_nil_or_concat r with e | ⟨q, z, e⟩
  · exact absurd e h
  · rw [List.concat_eq_append] at e; subst e
    rw [rowX_snoc]; simp [Xq]
end Mine

namespace Mine
/-! the words due, told from behind -/
noncomputable def fixl (l : List Tx) : List Tx := if l.getLastD [] = [] then l.dropLast else l
theorem fixl_snoc (l : List Tx) (x : Tx) : fixl (l ++ [x]) = if x = [] then l else l ++ [x] := by simp [fixl]
theorem fixl_app {x : Tx} (hx : x ≠ []) (a l : List Tx) : fixl (a ++ x :: l) = a ++ x :: fixl l := by
  rcases List.eq_nil_or_concat l with rfl | ⟨p, y, rfl⟩
  · rw [fixl_snoc, if_neg hx]; rfl
  · rw [List.concat_eq_append]
    have e : a ++ x :: (p ++ [y]) = (a ++ x :: p) ++ [y] := by simp
    rw [e, fixl_snoc, fixl_snoc]
    split <;> simp
theorem hash_ne : hash ≠ [] := by simp [hash]
noncomputable def mixd (T : List Tx × Bool) (d : List Tx) : List Tx := if T.2 = true then T.1.dropLast ++ [T.1.getLastD [] ++ [10] ++ hash] ++ d.tail else T.1 ++ d
noncomputable def DR (n : Nat) : List (List Wd) → List Tx
  | [] => []
  | [r] => List.replicate n hash ++ fixl (tornR r.reverse).1
  | r :: s :: t => List.replicate n hash ++ mixd (tornR r.reverse) (DR n (s :: t))
theorem torn_ne : ∀ {q : List Wd}, (tornR q).2 = true → (tornR q).1 ≠ []
  | [], h => by cases h
  | w :: q, h => by
    unfold tornR at h ⊢
    split
    · simp
    · rename_i hc
      rw [if_neg hc] at h
      exact torn_ne h
theorem fixl_reps (n : Nat) (a l : List Tx) {x : Tx} (hx : x ≠ []) : fixl (a ++ [x] ++ (List.replicate n hash ++ l)) = a ++ [x] ++ (List.replicate n hash ++ fixl l) := by
  induction n generalizing a x with
  | zero => simpa using fixl_app hx a l
  | succ n ih =>
    have := ih (a ++ [x]) (x := hash) hash_ne
    simpa [List.replicate_succ, List.append_assoc] using this
theorem fixl_reps0 {n : Nat} (hn : n = 1 ∨ n = 2) (a l : List Tx) : fixl (a ++ (List.replicate n hash ++ l)) = a ++ (List.replicate n hash ++ fixl l) := by
  rcases hn with rfl | rfl
  · simpa using fixl_app hash_ne a l
  · have := fixl_reps 1 a l hash_ne
    simpa [List.replicate_succ, List.append_assoc] using this
theorem snoc_cases {α : Type} {l : List α} (h : l ≠ []) : ∃ p x, l = p ++ [x] := by
  rcases List.eq_nil_or_concat l with e | ⟨p, x, e⟩
  · exact absurd e h
  · exact ⟨p, x, by rw [e, List.concat_eq_append]⟩
theorem due_fold {n : Nat} (hn : n = 1 ∨ n = 2) : ∀ (rows : List (List Wd)) (st : List Tx × Bool), rows ≠ [] → (st.2 = true → st.1 ≠ []) → fixl (rows.foldl (dueS n) st).1 = mixd st (DR n rows)
  | [], _, h, _ => absurd rfl h
  | [r], (acc, lo), _, hst => by
    show fixl (dueS n (acc, lo) r).1 = _
    cases lo with
    | false =>
      show fixl (acc ++ (List.replicate n hash ++ (tornR r.reverse).1)) = acc ++ (List.replicate n hash ++ fixl (tornR r.reverse).1)
      exact fixl_reps0 hn _ _
    | true =>
      show fixl (acc.dropLast ++ [acc.getLastD [] ++ [10] ++ hash] ++ (List.replicate (n - 1) hash ++ (tornR r.reverse).1)) = acc.dropLast ++ [acc.getLastD [] ++ [10] ++ hash] ++ (List.replicate n hash ++ fixl (tornR r.reverse).1).tail
      rw [fixl_reps _ _ _ (by simp)]
      rcases hn with rfl | rfl <;> rfl
  | r :: s :: t, (acc, lo), _, hst => by
    show fixl ((s :: t).foldl (dueS n) (dueS n (acc, lo) r)).1 = _
    have hT := torn_ne (q := r.reverse)
    cases lo with
    | false =>
      have e : dueS n (acc, false) r = (acc ++ (List.replicate n hash ++ (tornR r.reverse).1), (tornR r.reverse).2) := rfl
      rw [e, due_fold hn (s :: t) _ (by simp) (fun _ => by rcases hn with rfl | rfl <;> simp)]
      show mixd _ _ = acc ++ (List.replicate n hash ++ mixd (tornR r.reverse) (DR n (s :: t)))
      generalize tornR r.reverse = T at *
      obtain ⟨tw, b⟩ := T
      cases b with
      | false => simp [mixd]
      | true =>
        obtain ⟨p, x, rfl⟩ := snoc_cases (hT rfl)
        have e2 : acc ++ (List.replicate n hash ++ (p ++ [x])) = (acc ++ (List.replicate n hash ++ p)) ++ [x] := by simp
        simp only [mixd, if_true, e2, List.dropLast_concat]
        simp
    | true =>
      have e : dueS n (acc, true) r = (acc.dropLast ++ [acc.getLastD [] ++ [10] ++ hash] ++ (List.replicate (n - 1) hash ++ (tornR r.reverse).1), (tornR r.reverse).2) := rfl
      rw [e, due_fold hn (s :: t) _ (by simp) (fun _ => by simp)]
      have e3 : (DR n (r :: s :: t)).tail = List.replicate (n - 1) hash ++ mixd (tornR r.reverse) (DR n (s :: t)) := by
        rcases hn with rfl | rfl <;> rfl
      show mixd _ _ = acc.dropLast ++ [acc.getLastD [] ++ [10] ++ hash] ++ (DR n (r :: s :: t)).tail
      rw [e3]
      generalize acc.dropLast ++ [acc.getLastD [] ++ [10] ++ hash] = A at *
      generalize tornR r.reverse = T at *
      obtain ⟨tw, b⟩ := T
      cases b with
      | false => simp [mixd]
      | true =>
        obtain ⟨p, x, rfl⟩ := snoc_cases (hT rfl)
        have e2 : A ++ (List.replicate (n - 1) hash ++ (p ++ [x])) = (A ++ (List.replicate (n - 1) hash ++ p)) ++ [x] := by simp
        simp only [mixd, if_true, e2, List.dropLast_concat]
        simp
theorem dueW_DR {n : Nat} (hn : n = 1 ∨ n = 2) {rows : List (List Wd)} (h : rows ≠ []) : dueW n rows = DR n rows := by
  have := due_fold hn rows ([], false) h (fun q => nomatch q)
  simpa [mixd, fixl, dueW, dueF] using this
end Mine

namespace Mine
/-! the notes read back -/
noncomputable def Tl (t1 : Tx) (ws : List Tx) : Prop := (t1 = [] ∧ ws = []) ∨ ∃ c t2, t1 = c :: t2 ∧ nw c = true ∧ RD t2 ws
theorem bare_tl {x : Tx} {t1 : Tx} {ws : List Tx} {t : Tx} (h : outGo t = bareGo x t1) (hx : x ≠ []) (T : Tl t1 ws) : RD t (x :: ws) := by
  rcases T with ⟨rfl, rfl⟩ | ⟨c, t2, rfl, hc, r⟩
  · exact RD.word (by rw [h, bareGo_nil]) hx RD.nil
  · exact RD.word (by rw [h, bareGo_ws hc]) hx r
theorem RD.hash {t1 : Tx} {ws : List Tx} (T : Tl t1 ws) : RD (35 :: t1) (hash :: ws) := bare_tl (outGo_b (by decide) (by decide) (by decide)) hash_ne T
theorem strip_suf : ∀ q : List (Nat × Bool), (strip1 q).1 <:+ q
  | [] => List.suffix_refl _
  | p :: q => by
    by_cases h : wh p.1 = true
    · rw [strip_go h]
      split
      · exact List.suffix_cons _ _
      · exact (strip_suf q).trans (List.suffix_cons _ _)
    · rw [strip_stop (by simpa using h)]; exact List.suffix_refl _
theorem left_pre (w : Wd) : (left1 w).1 <+: w.ps := by
  by_cases h : w.kind = 1
  · rw [left_kind1 h]; exact List.prefix_refl _
  · rw [left_kind h]
    have := strip_suf w.ps.reverse
    rw [← List.reverse_prefix, List.reverse_reverse] at this
    exact this
theorem left_b {b : Bool} {w : Wd} (v : WdV b w) (e : w.kind = 0) : Vb (left1 w).1 := fun p hp => v.b e p ((left_pre w).subset hp)
theorem left_q {b : Bool} {w : Wd} (v : WdV b w) (e : w.kind ≠ 0) : Vq (left1 w).1 := fun p hp => v.q e p ((left_pre w).subset hp)
theorem left_f {b : Bool} {w : Wd} (v : WdV b w) (e : w.kind = 0) : Vf (left1 w).1 := fun p hp => v.f e p (by
  obtain ⟨r, hr⟩ := left_pre w
  rw [← hr]
  cases q : (left1 w).1 with
  | nil => rw [q] at hp; cases hp
  | cons a l => rw [q] at hp; exact hp)
theorem tt_mid {w : Wd} (v : WdV false w) (hor : w.kind > 0 ∨ (left1 w).1 ≠ [] ∨ (left1 w).2 = true) {t1 : Tx} {ws : List Tx} (T : Tl t1 ws) :
    RD (tt w ++ 10 :: 35 :: t1) (if (left1 w).2 = true then (signs (left1 w).1 ++ [10] ++ hash) :: ws else signs (left1 w).1 :: hash :: ws) := by
  have hk := v.k
  have h2 : w.kind ≠ 2 := fun e => by have := v.l e; cases this
  have hk' : w.kind = 0 ∨ w.kind = 1 := by omega
  rcases hk' with e | e
  · cases hl : (left1 w).2 with
    | false =>
      have hne : (left1 w).1 ≠ [] := by
        rcases hor with h | h | h
        · omega
        · exact h
        · rw [hl] at h; cases h
      have et : tt w = enc (left1 w).1 := by simp [tt, e, hl, opn]
      simp only [Bool.false_eq_true, if_false]
      rw [et]
      refine RD.word (t' := 35 :: t1) ?_ (signs_ne hne) (RD.hash T)
      rw [out_enc (left_b v e) (left_f v e) hne, bareGo_ws nw10]
    | true =>
      have et : tt w ++ 10 :: 35 :: t1 = enc (left1 w).1 ++ 92 :: 10 :: 35 :: t1 := by simp [tt, e, hl, opn]
      simp only [if_true]
      rw [et]
      have key : outGo (enc (left1 w).1 ++ 92 :: 10 :: 35 :: t1) = bareGo (signs (left1 w).1 ++ [10] ++ hash) t1 := by
        have step : bareGo (signs (left1 w).1 ++ [10]) (35 :: t1) = bareGo (signs (left1 w).1 ++ [10] ++ hash) t1 := bareGo_c (by decide) (by decide)
        by_cases hne : (left1 w).1 = []
        · rw [hne] at step ⊢
          show outGo (92 :: 10 :: 35 :: t1) = _
          rw [outGo_e, ← step]; rfl
        · rw [out_enc (left_b v e) (left_f v e) hne, bareGo_e, ← step]; rfl
      exact bare_tl key (by simp) T
  · have hl := left_kind1 e
    have et : tt w = spelled w := by simp [tt, hl, e, spelled, opn, shut]
    rw [et, hl]
    exact RD.gap v (g := [10]) (by simp [nw]) (by simp) (RD.hash T)
theorem tt_last {w : Wd} (v : WdV true w) (hor : w.kind > 0 ∨ (left1 w).1 ≠ [] ∨ (left1 w).2 = true) : RD (tt w) (if signs (left1 w).1 = [] then [] else [signs (left1 w).1]) := by
  have hk := v.k
  have hk' : w.kind = 0 ∨ w.kind = 1 ∨ w.kind = 2 := by omega
  have fin : ∀ t x, outGo t = (x, []) → RD t (if x = [] then [] else [x]) := fun t x h => by
    split
    · rename_i hx; subst hx; exact RD.fin h
    · exact RD.word h (by assumption) RD.nil
  have hs0 : signs ([] : List (Nat × Bool)) = [] := rfl
  rcases hk' with e | e | e
  · refine fin _ _ ?_
    cases hl : (left1 w).2 with
    | false =>
      have hne : (left1 w).1 ≠ [] := by
        rcases hor with h | h | h
        · omega
        · exact h
        · rw [hl] at h; cases h
      have et : tt w = enc (left1 w).1 ++ [] := by simp [tt, e, hl, opn]
      rw [et, out_enc (left_b v e) (left_f v e) hne, bareGo_nil]
    | true =>
      have et : tt w = enc (left1 w).1 ++ [92] := by simp [tt, e, hl, opn]
      rw [et]
      by_cases hne : (left1 w).1 = []
      · rw [hne]
        show outGo [92] = _
        rw [outGo_e]; exact bareGo_nil
      · rw [out_enc (left_b v e) (left_f v e) hne, bareGo_e]
        have := bareGo_nil (tok := signs (left1 w).1)
        simpa using this
  · have hl := left_kind1 e
    have et : tt w = spelled w := by simp [tt, hl, e, spelled, opn, shut]
    rw [et, hl, if_neg (signs_ne v.ne)]
    exact RD.lastw v
  · refine fin _ _ ?_
    cases hl : (left1 w).2 with
    | false =>
      have et : tt w = 34 :: (enc (left1 w).1 ++ []) := by simp [tt, e, hl, opn]
      rw [et, outGo_q, quo_enc _ _ _ (left_q v (by omega)), List.nil_append, quoGo_nil]
    | true =>
      have et : tt w = 34 :: (enc (left1 w).1 ++ [92]) := by simp [tt, e, hl, opn]
      rw [et, outGo_q, quo_enc _ _ _ (left_q v (by omega)), List.nil_append, quoGo_e]
      have := quoGo_nil (tok := signs (left1 w).1)
      simpa using this
theorem kinds_of {r : List Wd} (h : ∀ x ∈ r, WdV false x ∨ WdV true x) : ∀ w ∈ r.reverse, w.kind < 3 := fun w hw => by
  rcases h w (List.mem_reverse.mp hw) with v | v <;> exact v.k
theorem mid_read {r : List Wd} (g : GoodMid r) {t1 : Tx} {ws : List Tx} (T : Tl t1 ws) : RD (rstr (rowX r) ++ 10 :: 35 :: t1) (mixd (tornR r.reverse) (hash :: ws)) := by
  rw [rowX_Xq g.1]
  rcases torn_text r.reverse (kinds_of fun x hx => .inl (g.2 x hx)) with ⟨h1, h2⟩ | ⟨q1, w, q2, h1, h2, h3, h4⟩
  · rw [h1, h2]
    exact RD.ws nw10 (RD.hash T)
  · have hm : ∀ x ∈ r.reverse, WdV false x := fun x hx => g.2 x (List.mem_reverse.mp hx)
    rw [h1] at hm
    have hw : WdV false w := hm w (by simp)
    have hq : ∀ x ∈ q2.reverse, WdV false x := fun x hx => hm x (by simp [List.mem_reverse.mp hx])
    rw [h2, h3, List.append_assoc]
    have := RD.parts hq (tt_mid hw h4 T)
    cases hl : (left1 w).2 with
    | false => rw [hl] at this; simpa [mixd] using this
    | true => rw [hl] at this; simpa [mixd] using this
theorem WdV.up {w : Wd} {b : Bool} (v : WdV b w) : WdV true w := ⟨v.ne, v.b, v.f, v.q, v.k, fun _ => rfl⟩
theorem last_read {r : List Wd} (g : GoodLast r) : RD (rstr (rowX r)) (fixl (tornR r.reverse).1) := by
  obtain ⟨q, z, rfl, hq, hz⟩ := g
  rw [rowX_Xq (by simp)]
  have hall : ∀ x ∈ q ++ [z], WdV false x ∨ WdV true x := fun x hx => by
    rcases List.mem_append.mp hx with hx | hx
    · exact .inl (hq x hx)
    · rw [List.mem_singleton.mp hx]; exact .inr hz
  rcases torn_text (q ++ [z]).reverse (kinds_of hall) with ⟨h1, h2⟩ | ⟨q1, w, q2, h1, h2, h3, h4⟩
  · rw [h1, h2]; exact RD.nil
  · have hsplit : WdV true w ∧ ∀ x ∈ q2, WdV false x := by
      have e : z :: q.reverse = q1 ++ w :: q2 := by rw [← h1]; simp
      cases q1 with
      | nil =>
        injection e with e1 e2
        subst e1 e2
        exact ⟨hz, fun x hx => hq x (List.mem_reverse.mp hx)⟩
      | cons a q1 =>
        injection e with e1 e2
        have hm : ∀ x ∈ q1 ++ w :: q2, WdV false x := fun x hx => hq x (List.mem_reverse.mp (e2 ▸ hx))
        exact ⟨(hm w (by simp)).up, fun x hx => hm x (by simp [hx])⟩
    rw [h2, h3]
    have := RD.parts (q := q2.reverse) (fun x hx => hsplit.2 x (List.mem_reverse.mp hx)) (tt_last hsplit.1 h4)
    show RD _ (fixl (q2.reverse.map (fun v => signs v.ps) ++ [signs (left1 w).1]))
    rw [fixl_snoc]
    split
    · rename_i hx; rw [if_pos hx] at this; simpa using this
    · rename_i hx; rw [if_neg hx] at this; exact this
theorem torn_none {r : List Wd} (hr : r ≠ []) (h : ∀ x ∈ r, WdV false x ∨ WdV true x) (e : rstr (rowX r) = []) : tornR r.reverse = ([], false) := by
  rw [rowX_Xq hr] at e
  rcases torn_text r.reverse (kinds_of h) with ⟨_, h2⟩ | ⟨q1, w, q2, h1, h2, h3, h4⟩
  · exact h2
  · rw [h2] at e
    exact absurd (List.append_eq_nil_iff.mp e).2 (tt_ne h4)
theorem notes_read {n : Nat} (hn : n = 1 ∨ n = 2) : ∀ rows : List (List Wd), GoodRows rows → ∃ t1 ws, joinNL (rows.map (noteX n)) = 35 :: t1 ∧ DR n rows = hash :: ws ∧ Tl t1 ws
  | [], h => h.elim
  | [r], h => by
    have hr : r ≠ [] := by obtain ⟨q, z, rfl, _⟩ := h; simp
    have hall : ∀ x ∈ r, WdV false x ∨ WdV true x := by
      obtain ⟨q, z, rfl, hq, hz⟩ := h
      intro x hx
      rcases List.mem_append.mp hx with hx | hx
      · exact .inl (hq x hx)
      · rw [List.mem_singleton.mp hx]; exact .inr hz
    show ∃ t1 ws, noteX n r = 35 :: t1 ∧ List.replicate n hash ++ fixl (tornR r.reverse).1 = hash :: ws ∧ Tl t1 ws
    by_cases e : rstr (rowX r) = []
    · rw [note_none hn e, torn_none hr hall e]
      rcases hn with rfl | rfl
      · exact ⟨[], [], rfl, rfl, .inl ⟨rfl, rfl⟩⟩
      · exact ⟨[32, 35], [hash], rfl, rfl, .inr ⟨32, [35], rfl, rfl, RD.hash (.inl ⟨rfl, rfl⟩)⟩⟩
    · rw [note_full hn e]
      have hL := last_read h
      rcases hn with rfl | rfl
      · exact ⟨32 :: rstr (rowX r), _, rfl, rfl, .inr ⟨32, _, rfl, rfl, hL⟩⟩
      · exact ⟨32 :: 35 :: 32 :: rstr (rowX r), hash :: fixl (tornR r.reverse).1, rfl, rfl, .inr ⟨32, _, rfl, rfl, RD.hash (.inr ⟨32, _, rfl, rfl, hL⟩)⟩⟩
  | r :: s :: t, h => by
    obtain ⟨t1, ws, h1, h2, h3⟩ := notes_read hn (s :: t) h.2
    have hall : ∀ x ∈ r, WdV false x ∨ WdV true x := fun x hx => .inl (h.1.2 x hx)
    have hM := mid_read h.1 h3
    rw [List.map_cons, joinNL_cons _ (by simp), h1]
    have hD : DR n (r :: s :: t) = List.replicate n hash ++ mixd (tornR r.reverse) (hash :: ws) := by rw [← h2]; rfl
    rw [hD]
    by_cases e : rstr (rowX r) = []
    · rw [note_none hn e, torn_none h.1.1 hall e]
      have hR := RD.hash h3
      rcases hn with rfl | rfl
      · exact ⟨10 :: 35 :: t1, hash :: ws, rfl, rfl, .inr ⟨10, _, rfl, rfl, hR⟩⟩
      · exact ⟨32 :: 35 :: 10 :: 35 :: t1, hash :: hash :: ws, rfl, rfl, .inr ⟨32, _, rfl, rfl, RD.hash (.inr ⟨10, _, rfl, rfl, hR⟩)⟩⟩
    · rw [note_full hn e]
      rcases hn with rfl | rfl
      · exact ⟨32 :: (rstr (rowX r) ++ 10 :: 35 :: t1), _, by simp, rfl, .inr ⟨32, _, rfl, rfl, hM⟩⟩
      · exact ⟨32 :: 35 :: 32 :: (rstr (rowX r) ++ 10 :: 35 :: t1), hash :: mixd (tornR r.reverse) (hash :: ws), by simp, rfl, .inr ⟨32, _, rfl, rfl, RD.hash (.inr ⟨32, _, rfl, rfl, hM⟩)⟩⟩
theorem torn_len : ∀ q : List Wd, (tornR q).1.length ≤ q.length
  | [] => Nat.le_refl _
  | w :: q => by
    unfold tornR
    split
    · simp
    · exact Nat.le_trans (torn_len q) (Nat.le_succ _)
theorem fixl_len (l : List Tx) : (fixl l).length ≤ l.length := by unfold fixl; split <;> simp
theorem DR_len {n : Nat} (hn : n = 1 ∨ n = 2) : ∀ rows : List (List Wd), (DR n rows).length ≤ 2 * rows.length + rows.flatten.length
  | [] => Nat.zero_le _
  | [r] => by
    have h1 := torn_len r.reverse
    have h2 := fixl_len (tornR r.reverse).1
    rw [List.length_reverse] at h1
    simp only [DR, List.length_append, List.length_replicate, List.flatten_cons, List.flatten_nil, List.length_nil, List.length_cons]
    omega
  | r :: s :: t => by
    have ih := DR_len hn (s :: t)
    have h1 := torn_len r.reverse
    rw [List.length_reverse] at h1
    have h3 : (mixd (tornR r.reverse) (DR n (s :: t))).length ≤ (tornR r.reverse).1.length + (DR n (s :: t)).length := by
      unfold mixd
      split
      · rename_i hT
        obtain ⟨p, x, e⟩ := snoc_cases (torn_ne hT)
        have hd : 1 ≤ (DR n (s :: t)).length := by
          cases t <;> simp only [DR, List.length_append, List.length_replicate] <;> omega
        rw [e]
        simp only [List.dropLast_concat, List.length_append, List.length_cons, List.length_nil, List.length_tail]
        omega
      · simp
    have e : (DR n (r :: s :: t)).length = n + (mixd (tornR r.reverse) (DR n (s :: t))).length := by simp [DR]
    rw [e, List.flatten_cons, List.length_append, show (r :: s :: t).length = (s :: t).length + 1 from rfl]
    omega
theorem plain_due (ns : List Int) (n : Nat) (hn : n = 1 ∨ n = 2) : readW 64 (joinNL ((RW ns).map (noteX n))) = (dueW n (RW ns), some []) := by
  obtain ⟨t1, ws, h1, h2, h3⟩ := notes_read hn (RW ns) (rw_good ns)
  have hne := (plain_rows ns).2.1
  rw [dueW_DR hn hne, h1, h2]
  refine RD.hash h3 64 ?_
  have h4 := DR_len hn (RW ns)
  have h5 := rw_flat ns
  have h6 := (plain_rows ns).1
  rw [h2] at h4
  omega
end Mine

namespace Mine
noncomputable def Mark0 : Prop := True
local macro_rules | `(tactic| walk_at "go") => `(tactic| repeat' (first | (k_unfold; (try dsimp only)) | walk1 | (dsimp only; walk1)))
local macro_rules | `(tactic| walk_at "eval Name") => `(tactic| ((with_reducible show wpAny _ _ (eval _ (compEnvC _ _ _ _)) _ _ _); with_unfolding_all refine cGlob (by assumption) (by assumption) (by assumption) (by k_dflt k_is) ?_))
local macro_rules | `(tactic| walk_at "eval Name") => `(tactic| ((with_reducible show wpAny _ _ (eval _ (compEnvC _ _ _ _)) _ _ _); with_unfolding_all refine cName (by assumption) (by assumption) ?_))
theorem cCell {M : Model} {A : Around} {E : Value → Shared → Prop} {s : Shared} {g : Heap} {C c : Addr} {m : Str → Option Value} {scope : Scope} {cl : List (Str × Addr)} {env : Env} {x : Str} {pos : Pos} {o : Obj} {v : Value} {Q : Value → Shared → Prop} (F : Fr g C s.heap m) (ho : g.get? c = some o) (hd : o.data = .cell (some v)) (h : Q v s)
    (hk : (compEnvC scope cl C env).scope.kind = .function := by rfl) (hx : (compEnvC scope cl C env).kindOf x = some .cell := by rfl) (hc : (compEnvC scope cl C env).cells.lookup x = some c := by rfl) (hb : (x == ("__debug__" : Str)) = false := by decide) :
    wpAny M A (eval (.Name x pos) (compEnvC scope cl C env)) Q E s := wpAny_Name (wpAny_loadName_cell hk hx hc ⟨o, F.keep _ _ ho, hd⟩ h) hb
local macro_rules | `(tactic| walk_at "eval Name") => `(tactic| ((with_reducible show wpAny _ _ (eval _ (compEnvC _ _ _ _)) _ _ _); with_unfolding_all refine cCell (by assumption) (by assumption) (by assumption) ?_))
local macro_rules | `(tactic| walk_at "subscriptTail") => `(tactic| ((with_reducible show wpAny _ _ (subscriptTail _ _ (Value.ref _) (Value.int _ _)) _ _ _); refine halt ?_))
local macro_rules | `(tactic| walk_at "compareOp NotEq ref ref") => `(tactic| refine halt ?_)
local macro_rules | `(tactic| walk_at "compareOp Eq ref ref") => `(tactic| refine halt ?_)
local macro_rules | `(tactic| walk_at "compareOp In bool ref") => `(tactic| refine halt ?_)
local macro_rules | `(tactic| walk_at "call type:zip") => `(tactic| refine halt ?_)
local macro_rules | `(tactic| walk_at "call ref") => `(tactic| refine halt ?_)
local macro_rules | `(tactic| walk_at "eval ListComp") => `(tactic| ((with_reducible rename Mark0 => hM); refine halt ?_))
local macro_rules | `(tactic| walk_at "exec Assign cons ListComp") => `(tactic| ((with_reducible rename Mark0 => hM); refine halt ?_))
local macro_rules | `(tactic| walk_at "call builtin:str.join") => `(tactic| refine halt ?_)
theorem natsAre_of {vs : List Value} {zs : List Int} (h : IntsAre vs zs) (h0 : ∀ z ∈ zs, 0 ≤ z) : NatsAre vs (zs.map Int.toNat) := by
  refine ⟨by rw [List.length_map, h.length], fun j v n e1 e2 => ?_⟩
  rw [List.getElem?_map] at e2
  cases q : zs[j]? with
  | none => rw [q] at e2; cases e2
  | some z =>
    rw [q] at e2
    cases e2
    obtain ⟨n', t, rfl, hn'⟩ := h.at j v e1
    rw [q] at hn'
    cases hn'
    exact ⟨t, by rw [Int.toNat_of_nonneg (h0 z (List.mem_of_getElem? q))]⟩
theorem news_cef {g h : Heap} {L : Addr} {a b c d e f : Addr × Obj} {mo : List (Addr × Obj)} (N : News g L h ([a, b, c, d, e, f] ++ mo)) : News g L h (f :: e :: c :: mo) := news_sub N (by
  intro p hp
  simp only [List.mem_cons, List.mem_append, List.not_mem_nil, or_false] at hp ⊢
  rcases hp with x | x | x | x
  · exact .inl (.inr (.inr (.inr (.inr (.inr x)))))
  · exact .inl (.inr (.inr (.inr (.inr (.inl x)))))
  · exact .inl (.inr (.inr (.inl x)))
  · exact .inr x)
theorem rows_ok (ns : List Int) : ∀ r ∈ RW ns, RowOk r := (plain_rows ns).2.2
theorem news_72 {g h : Heap} {L : Addr} {a b c d : Addr × Obj} {mo : List (Addr × Obj)} (N : News g L h (a :: b :: c :: d :: mo)) : News g L h (b :: a :: c :: mo) := news_sub N (by
  intro p hp
  simp only [List.mem_cons] at hp ⊢
  rcases hp with x | x | x | x
  · exact .inr (.inl x)
  · exact .inl x
  · exact .inr (.inr (.inl x))
  · exact .inr (.inr (.inr (.inr x))))
theorem news_law2 {g h : Heap} {L : Addr} {a b c d e f : Addr × Obj} {ks mo : List (Addr × Obj)} (N : News g L h (a :: b :: c :: d :: (ks ++ e :: f :: mo))) : News g L h (b :: f :: (ks ++ mo)) := news_sub N (by
  intro p hp
  simp only [List.mem_cons, List.mem_append] at hp ⊢
  rcases hp with x | x | x | x
  · exact .inr (.inl x)
  · exact .inr (.inr (.inr (.inr (.inr (.inr (.inl x))))))
  · exact .inr (.inr (.inr (.inr (.inl x))))
  · exact .inr (.inr (.inr (.inr (.inr (.inr (.inr x)))))))
theorem news_law3 {g h : Heap} {L : Addr} {a b c : Addr × Obj} {ks mo : List (Addr × Obj)} (N : News g L h (a :: b :: c :: (ks ++ mo))) : News g L h (b :: c :: mo) := news_sub N (by
  intro p hp
  simp only [List.mem_cons, List.mem_append] at hp ⊢
  rcases hp with x | x | x
  · exact .inr (.inl x)
  · exact .inr (.inr (.inl x))
  · exact .inr (.inr (.inr (.inr x))))
theorem news_law4 {g h : Heap} {L : Addr} {a b c d : Addr × Obj} {ks mo : List (Addr × Obj)} (N : News g L h (a :: b :: c :: (ks ++ d :: mo))) : News g L h (d :: b :: c :: a :: mo) := news_sub N (by
  intro p hp
  simp only [List.mem_cons, List.mem_append] at hp ⊢
  rcases hp with x | x | x | x | x
  · exact .inr (.inr (.inr (.inr (.inl x))))
  · exact .inr (.inl x)
  · exact .inr (.inr (.inl x))
  · exact .inl x
  · exact .inr (.inr (.inr (.inr (.inr x)))))
theorem cell_store {M : Model} {A : Around} {E : Value → Shared → Prop} {s : Shared} {g : Heap} {L c : Addr} {m : Str → Option Value} {o : Obj} {v₀ : Option Value} {v : Value} {env : Env} {x : Str} {news : List (Addr × Obj)} {gg : Obj → List (Addr × Obj)} {Q : Unit → Shared → Prop} (F : Fr g L s.heap m) (N : News g L s.heap news) (U : UpdF c o news gg) (hd : o.data = .cell v₀)
    (h : ∀ h' o', Fr g L h' m → News g L h' (gg o') → o'.data = .cell (some v) → Q () { s with heap := h' })
    (hk : env.scope.kind = .function := by rfl) (hx : env.kindOf x = some .cell := by rfl) (hc : env.cells.lookup x = some c := by rfl) : wpAny M A (storeName env x v) Q E s := by
  obtain ⟨own, rest, rfl, hg, h1, h2⟩ := U.split
  have hmem := N (c, o) (List.mem_append_right _ (.head _))
  refine wpAny_storeName_cell hk hx hc ⟨o, hmem.1, hd⟩ fun h' hv hs => ?_
  obtain ⟨o', ho', hd'⟩ := hv
  refine h h' o' ⟨F.ns.sameBut hs (Ne.symm hmem.2.1), fun b ob e => (hs.2 b (fun q => ?_)).trans (F.keep b ob e), F.above⟩ (hg o' ▸ N.setAt h1 h2 hs ho') hd'
  rw [q, hmem.2.2] at e; cases e
theorem times_is (x : Int) : ∃ n : Nat, (n = 1 ∨ n = 2) ∧ 1 + x.fmod 2 = (n : Int) := by
  rw [Int.fmod_eq_emod_of_nonneg _ (by decide)]
  rcases Int.emod_two_eq x with h | h <;> rw [h]
  · exact ⟨1, .inl rfl, rfl⟩
  · exact ⟨2, .inr rfl, rfl⟩
theorem law_holds : PySem.Challenge.rw_pg0042_01.Holds := by
  w_on
  o_law
  refine PySem.W.holds_open (q := hd.view_1) (loose := []) (Xt := fun s => xlAt hd.view_1 [] s && recOk (RowW.records PySem.Challenge.rw_pg0042_01.row.toRowW) s) (XP := XL hd.view_1 [])
    (Yf := Hook.obs (kmHook hd.heap_1 seenAt (fun _ => by kernel_rfl) [72])) (Ya := Hook.val (kmHook hd.heap_1 seenAt (fun _ => by kernel_rfl) [72])) (YP := Hook.says (kmHook hd.heap_1 seenAt (fun _ => by kernel_rfl) [72])) (N := 1730) left_whole (Hook.of (kmHook hd.heap_1 seenAt (fun _ => by kernel_rfl) [72])) (Hook.keeps (kmHook hd.heap_1 seenAt (fun _ => by kernel_rfl) [72])) (fun s e => xl_of s (Bool.and_eq_true_iff.mp e).1) XL.keeps
    (by rfl) (by rfl) (by rfl) (fun s e => recFacts_of (Bool.and_eq_true_iff.mp e).2) (by rfl) (by assumption) (by decide +kernel) ⟨rfl, rfl, rfl, rfl, rfl, by decide +kernel⟩ ?hw ?hc
  case hw => w_witness2
  case hc =>
    rename_i said'
    clear said'
    w_strict (
    k_go0
    (all_goals try k_fold)
    with_reducible rename Fr _ _ _ _ => F
    with_reducible rename News _ _ _ _ => N
    with_reducible rename Frag.In _ _ => X
    with_reducible rename Top _ _ _ _ _ _ => T
    with_reducible rename List Int => ns
    with_reducible rename World => w
    with_reducible rename Shared => s₁
    with_reducible rename IntsAre _ _ => hI
    with_reducible rename ¬ _ < _ => hcond
    have G : Gd _ _ := ⟨X, _, _, _, _, T⟩
    walk_at "go"
    with_reducible rename Fr _ _ _ _ => F1
    with_reducible rename News _ _ _ _ => N1
    with_reducible rename IntsAre _ (_ ++ _) => hI2
    obtain ⟨mb, F2⟩ : ∃ mb : Str → Option Value, Fr _ _ _ (fun y => if y = Str.ofString "drawn" then some (Value.ref _) else mb y) := ⟨_, F1⟩
    clear F1
    refine unhalt (rows_spec (by exact G.keeps F2.keep) (at_of rfl rfl rfl) _ _ (nums _) (by exact N1.isList (.head _)) (natsAre_of hI2 (fun z hz => (drawn_bound _ z hz).1)) (by simp [nums, drawnZ]) (nums_len _) (nums_lt _) fun hA tkA R hkA hRn hRr => ?_)
    have F3 := F2.keeps hkA
    have N3 := news_cef (news_more F2 N1 hkA)
    have hRm : ∀ (h'' : Heap), (∀ p ∈ more _ hA, h''.get? p.1 = some p.2) → Rd h'' (.ref R) (.list ((RW ns).map rowD)) := fun (h'' : Heap) q => hRr.keeps (kp_fresh (h'' := h'') q)
    have hm72 := more_ne (h' := hA) (N1.get (.tail _ (.tail _ (.tail _ (.tail _ (.tail _ (.head _)))))))
    have hmL := more_ne (h' := hA) (N1.get (.tail _ (.tail _ (.tail _ (.tail _ (.head _))))))
    generalize more _ hA = mo at *
    clear hRr hRn F2 N1 hkA
    have M0 : Mark0 := trivial
    walk_at "go"
    with_reducible rename Fr _ _ _ _ => F4
    with_reducible rename News _ _ _ _ => N4
    with_reducible rename _ = Data.cell _ => dT
    with_reducible rename _ ≠ _ ∧ _ ≠ _ ∧ _ ≠ _ => o1
    with_reducible rename 72 < _ => l0
    refine cell_store F4 N4 (.tail (Nat.ne_of_lt (Nat.lt_succ_of_lt l0)) (.head fun p hp => by
      rcases List.mem_cons.mp hp with rfl | hp
      · exact Ne.symm o1.2.1
      · exact hmL p hp)) dT fun hB oT F5 N5 dT5 => ?_
    clear F4 N4
    obtain ⟨n, hn, hv⟩ := times_is (List.sum _)
    rw [hv] at dT5
    obtain ⟨tT, dT⟩ : ∃ t, oT.data = Data.cell (some (.int n t)) := ⟨_, dT5⟩
    clear dT5
    (revert F5 N5; (repeat (with_reducible rename Fr _ _ _ _ => Fz; clear Fz)); (repeat (with_reducible rename News _ _ _ _ => Nz; clear Nz)); intro F5 N5)
    walk_at "go"
    have hR5 := hRm hB fun p hp => N5.get (.tail _ (.tail _ (.tail _ hp)))
    obtain ⟨aR, vR, e0, hlR, hrs⟩ := hR5.list_inv'
    cases e0
    have hvR : vR.length = (RW ns).length := by rw [hrs.len, List.length_map]
    have h8 := (plain_rows ns).1
    refine unhalt (comp_list (cl := []) (fun i v => ∃ t, v = Value.str (S (((RW ns).map rowX).getD i [])) t) rfl rfl (by decide) rfl (by decide) rfl ?_)
    walk_at "go"
    refine unhalt ⟨R, vR, rfl, hlR, (by rw [hvR, sizeLine_eq]; omega), ?_, ?_⟩
    · intro C i v s₃ m₃ g E' hv' F' N' hg hx
      have hi : i < (RW ns).length := by rw [← hvR]; exact (List.getElem?_eq_some_iff.mp hv').1
      obtain ⟨v', hv'', hrd⟩ := hrs.get i (rowD (RW ns)[i]) (by simp [hi])
      cases hv'.symm.trans hv''
      have e1 : ((RW ns).map rowX).getD i [] = rowX (RW ns)[i] := by simp [hi]
      rw [e1]
      have ok := rows_ok ns _ (List.getElem_mem hi)
      have hgk : Kp _ g := Kp.trans F5.keep hg
      clear F5 N5
      have X₁ := X.keeps hgk
      have T₁ := T.keeps hgk
      walk_at "go"
      refine unhalt (rowX_spec (by exact G.keeps (Kp.trans hgk F'.keep)) (at_of rfl rfl rfl) _ _ ok (by exact hrd.keeps (Kp.trans hg F'.keep)) fun h₄ tk₄ t₄ hk₄ => ?_)
      exact ⟨⟨_, rfl⟩, _, _, rfl, F'.keeps hk₄⟩
    · intro D h' tk' zs hD hlD hzl hGt hk
      have F6 := F5.keeps hk
      have N6 := news_keeps N5 hk
      clear F5 N5
      walk_at "go"
      refine unhalt (join_nl hlD (strs_of_got (ls := (RW ns).map rowX) (by rw [hzl, hvR]; simp) hGt) (fun l hl => by
        obtain ⟨r, hr, rfl⟩ := List.mem_map.mp hl
        exact Nat.le_trans (rowX_len (rows_ok ns r hr)) (by decide)) (by rw [List.length_map]; exact h8) fun tP kP => ?_)
      generalize hPl : joinNL ((RW ns).map rowX) = plain
      walk_at "go"
      with_reducible rename Fr _ _ _ _ => F7
      with_reducible rename News _ _ _ _ => N7
      have hPlen : plain.length ≤ 100000 := by
        have := joinNL_len 100 ((RW ns).map rowX) (fun l hl => by
          obtain ⟨r, hr, rfl⟩ := List.mem_map.mp hl
          exact rowX_len (rows_ok ns r hr))
        rw [hPl, List.length_map] at this
        omega
      have hR7 := hRm _ fun p hp => N7.get (.tail _ (.tail _ (.tail _ hp)))
      clear hR5 hrs hlR hvR hD hlD hzl hGt hk vR
      obtain ⟨aR, vR, e0, hlR, hrs⟩ := hR7.list_inv'
      cases e0
      have hvR : vR.length = (RW ns).length := by rw [hrs.len, List.length_map]
      obtain ⟨ls, us, hlaid⟩ := rows_laid hrs
      refine unhalt (comp_words (cl := []) F7 rfl rfl rfl rfl (by decide) rfl (by decide) rfl rfl (by decide) rfl rfl ?_)
      walk_at "go"
      refine unhalt ⟨R, vR, ls, us, (RW ns).map (fun r => r.map fun x => signs x.ps), rfl, hlR, by rw [hvR, List.length_map], by omega, F7, ?_, ?_, ?_⟩
      · intro i hi
        obtain ⟨a1, a2, a3⟩ := hlaid i hi
        have hi' : i < (RW ns).length := by omega
        have ok := rows_ok ns _ (List.getElem_mem hi')
        have e1 := a3.len
        rw [List.length_map, List.getD_eq_getElem?_getD, List.getElem?_eq_getElem hi', Option.getD_some] at e1
        refine ⟨a1, a2, ?_, by rw [e1]; exact Nat.le_trans ok.2.1 (by decide)⟩
        rw [e1, List.getD_eq_getElem?_getD, List.getElem?_map, List.getElem?_eq_getElem hi', Option.map_some, Option.getD_some, List.length_map]
      · intro C i j u s₃ m₃ g I2 oI hi hu F' N' hg hx
        obtain ⟨a1, a2, a3⟩ := hlaid i hi
        have hi' : i < (RW ns).length := by omega
        have ok := rows_ok ns _ (List.getElem_mem hi')
        rw [List.getD_eq_getElem?_getD, List.getElem?_eq_getElem hi', Option.getD_some] at a3
        have hj : j < (RW ns)[i].length := by
          have e1 := a3.len
          rw [List.length_map] at e1
          have := (List.getElem?_eq_some_iff.mp hu).1
          omega
        obtain ⟨u', hu', hrd⟩ := a3.get j (wordD (RW ns)[i][j]) (by simp [hj])
        cases hu.symm.trans hu'
        have okj := (ok.2.2 _ (List.getElem_mem hj)).ok
        have e2 : (((RW ns).map (fun r => r.map fun x => signs x.ps)).getD i []).getD j [] = signs (RW ns)[i][j].ps := by simp [hi', hj]
        rw [e2]
        have hgk : Kp _ g := Kp.trans F7.keep hg
        clear F7 N7
        have X₁ := X.keeps hgk
        have T₁ := T.keeps hgk
        obtain ⟨Tw', x', y', z'', rfl, hTw', hx', _, _⟩ := Rd.tuple3 (hrd.keeps hg)
        walk_at "go"
        refine unhalt (tupAt F' hTw' rfl rfl ?_)
        walk_at "go"
        refine unhalt ?_
        refine signs_spec (by exact G.keeps (Kp.trans hgk F'.keep)) (at_of rfl rfl rfl) _ (RW ns)[i][j].ps (by exact hx'.keeps F'.keep) okj.1 fun h₄ tk₄ t₄ hk₄ => ?_
        exact ⟨⟨_, rfl⟩, _, _, rfl, F'.keeps hk₄, news_keeps N' hk₄⟩
      · intro D h' tk zs hD hlD hTx F8 hk8
        rw [← List.map_flatten] at hTx
        obtain ⟨oD, N8, cD, nD, dD⟩ := news_listL F7 (news_butL N7 hk8) hD hlD
        clear F7 N7 hR7 hrs hlR hvR hlaid hlD hD hk8
        have nD72 : D ≠ 72 := by
          rintro rfl
          have e1 := N8.get (.head _)
          have e2 := N8.get (.tail _ (.head _))
          rw [e1] at e2
          cases e2
          cases cD
        have nL72 : s₁.heap.objs.size.succ ≠ 72 := Nat.ne_of_gt (Nat.lt_succ_of_lt l0)
        have N9 := news_72 N8
        clear N8
        have hr72 : ∀ p ∈ (D, oD) :: (s₁.heap.objs.size.succ, oT) :: mo, p.1 ≠ 72 := fun p hp => by
          rcases List.mem_cons.mp hp with rfl | hp
          · exact nD72
          rcases List.mem_cons.mp hp with rfl | hp
          · exact nL72
          · exact hm72 p hp
        walk_at "go"
        with_reducible rename Fr _ _ _ _ => F10
        with_reducible rename News _ _ _ _ => N10
        refine unhalt (read_inF F10 N10 hr72 (.inl rfl) codeHd G (at_of rfl rfl rfl) plain _ hPlen _ (by rw [← hPl]; exact plain_read ns) fun hE tkE T1 W1 vw1 n1 t1 ps1 ks1 F11 N11 tab1 tx1 => ?_)
        clear F10 N10
        walk_at "go"
        with_reducible rename Fr _ _ _ _ => F12
        with_reducible rename News _ _ _ _ => N12
        have rd1 : Rd _ (.ref T1) (ansD _ _) := Rd.mk2 ⟨_, N12.get (.tail _ (.tail _ (.head _))), rfl, _, rfl⟩ (Rd.texts ⟨_, N12.get (.tail _ (.tail _ (.tail _ (.head _)))), rfl, _, rfl⟩ tx1) (Rd.int _ _ _)
        have rd2 : Rd _ (.ref _) (ansD _ _) := Rd.mk2 ⟨_, N12.get (.head _), rfl, _, rfl⟩ (Rd.texts ⟨_, N12.get (.tail _ (.tail _ (.tail _ (.tail _ (List.mem_append_right _ (.head _)))))), cD, nD, by simpa using dD⟩ hTx) (Rd.int' (congrArg (1 + ·) (count_nl plain)))
        refine unhalt (ne_ans rd1 rd2 (small_words (plain_small ns) (by decide)) (by ke_room) ?_)
        have N13 := news_law2 N12
        clear rd1 rd2 N12 tx1 hTx cD dD nD72 hr72
        walk_at "go"
        have hR9 := hRm _ fun p hp => N13.get (.tail _ (.tail _ (List.mem_append_right _ hp)))
        clear vR
        obtain ⟨aR, vR, e0, hlR, hrs⟩ := hR9.list_inv'
        cases e0
        have hvR : vR.length = (RW ns).length := by rw [hrs.len, List.length_map]
        refine unhalt (comp_listS F12 (fun i y => ∃ t, y = Value.str (S (((RW ns).map (noteX n)).getD i [])) t) rfl rfl rfl rfl (by decide) rfl (by decide) rfl rfl rfl ?_)
        walk_at "go"
        refine unhalt ⟨R, vR, rfl, hlR, (by rw [hvR, sizeLine_eq]; omega), F12, ?_, ?_⟩
        · intro C i v s₃ m₃ g E' hv' F' N' hg hx
          have hi : i < (RW ns).length := by rw [← hvR]; exact (List.getElem?_eq_some_iff.mp hv').1
          obtain ⟨v', hv'', hrd⟩ := hrs.get i (rowD (RW ns)[i]) (by simp [hi])
          cases hv'.symm.trans hv''
          have e1 : ((RW ns).map (noteX n)).getD i [] = noteX n (RW ns)[i] := by simp [hi]
          rw [e1]
          have ok := rows_ok ns _ (List.getElem_mem hi)
          have hgk : Kp _ g := Kp.trans F12.keep hg
          have hcell := hg _ _ (N13.get (.tail _ (.head _)))
          clear F12 N13
          have X₁ := X.keeps hgk
          have T₁ := T.keeps hgk
          walk_at "go"
          refine unhalt (noteX_spec (by exact G.keeps (Kp.trans hgk F'.keep)) (at_of rfl rfl rfl) _ _ ok (by exact hrd.keeps (Kp.trans hg F'.keep)) n _ hn fun h₄ tk₄ t₄ hk₄ => ?_)
          exact ⟨⟨_, rfl⟩, _, _, rfl, F'.keeps hk₄⟩
        · intro D2 h2 tk2 zs2 hD2 hl2 hz2 hG2 F14 hk14
          obtain ⟨o2, N14, c2, n2, d2⟩ := news_listL F12 (news_butL N13 hk14) hD2 hl2
          clear F12 N13 hR9 hrs hlR hl2 hD2 hk14
          walk_at "go"
          have hR14 := hRm _ fun p hp => N14.get (.tail _ (.tail _ (.tail _ (List.mem_append_right _ hp))))
          rw [hvR] at hz2
          clear hvR
          obtain ⟨aR, vR2, e0, hlR, hrs⟩ := hR14.list_inv'
          cases e0
          have hvR : vR2.length = (RW ns).length := by rw [hrs.len, List.length_map]
          have hz2' : zs2.toList.length = (RW ns).length := by rw [Array.length_toList, hz2]
          refine unhalt (comp_zipL (fun i y => y = Value.bool true) rfl rfl (by decide) rfl (by decide) rfl rfl (by decide) ?_)
          walk_at "go"
          refine unhalt (zip_make F14 N14 hlR ⟨o2, N14.get (.head _), c2, n2, by simpa using d2⟩ fun z hZ hza FZ NZ => ?_)
          clear FZ NZ
          refine unhalt ⟨z, _, vR2, zs2.toList, rfl, hza, by rw [hvR, hz2'], (by rw [hvR, sizeLine_eq]; omega), ?_, ?_⟩
          · intro C i s₃ m₃ g E' x y hx' hy' F' N' hg ha hb
            have hi : i < (RW ns).length := by rw [← hvR]; exact (List.getElem?_eq_some_iff.mp hx').1
            obtain ⟨v', hv'', hrd⟩ := hrs.get i (rowD (RW ns)[i]) (by simp [hi])
            cases hx'.symm.trans hv''
            obtain ⟨ty, rfl⟩ := hG2 i y (by simpa using hy')
            have e1 : ((RW ns).map (noteX n)).getD i [] = noteX n (RW ns)[i] := by simp [hi]
            rw [e1] at hb
            have ok := rows_ok ns _ (List.getElem_mem hi)
            have hmk := plain_marked ns n hn _ (List.getElem_mem hi)
            have hgk : Kp _ g := Kp.trans F14.keep hg
            have hcell := hg _ _ (N14.get (.tail _ (.tail _ (.head _))))
            clear F14 N14
            have X₁ := X.keeps hgk
            have T₁ := T.keeps hgk
            walk_at "go"
            refine unhalt (markedX_spec (by exact G.keeps (Kp.trans hgk F'.keep)) (at_of rfl rfl rfl) _ _ ok (by exact hrd.keeps (Kp.trans hg F'.keep)) n _ hn _ hmk fun h₄ tk₄ hk₄ => ?_)
            exact ⟨rfl, _, _, rfl, F'.keeps hk₄⟩
          · intro D3 h3 tk3 zs3 hD3 hl3 hz3 hG3 hk3
            have F16 := F14.keeps hk3
            have N16 := news_keeps N14 hk3
            have rl : Rd h3 (.ref D3) (.list (List.replicate zs3.size (.bool true))) := Rd.list (vs := zs3.toList) (by simpa using hl3) (by simp) fun j v d e1 e2 => by
              have e3 := hG3 j v (by simpa using e1)
              rw [List.getElem?_replicate] at e2
              split at e2
              · cases e2; rw [e3]; exact Rd.bool _ _
              · cases e2
            clear F14 N14 hR14 hlR
            walk_at "go"
            refine unhalt (not_in_trues rl (by ke_room) ?_)
            walk_at "go"
            refine unhalt (join_nl ⟨o2, N16.get (.head _), c2, n2, d2⟩ (strs_of_got (ls := (RW ns).map (noteX n)) (by rw [hz2]; simp) hG2) (fun l hl => by
              obtain ⟨r, hr, rfl⟩ := List.mem_map.mp hl
              exact Nat.le_trans (noteX_len (rows_ok ns r hr) hn) (by decide)) (by rw [List.length_map]; exact h8) fun tN kN => ?_)
            have hNlen : (joinNL ((RW ns).map (noteX n))).length ≤ 100000 := by
              have := joinNL_len 200 ((RW ns).map (noteX n)) (fun l hl => by
                obtain ⟨r, hr, rfl⟩ := List.mem_map.mp hl
                exact noteX_len (rows_ok ns r hr) hn)
              rw [List.length_map] at this
              omega
            have hdue := plain_due ns n hn
            generalize hNt : joinNL ((RW ns).map (noteX n)) = notes
            rw [hNt] at hNlen hdue
            clear rl hk3 hl3 hG3 hz3 hza hrs hG2
            walk_at "go"
            with_reducible rename Fr _ _ _ _ => F17
            with_reducible rename News _ _ _ _ => N17
            have tabN := tab1 _ F17.keep fun p hp => N17.get (.tail _ (.tail _ (.tail _ (List.mem_append_left _ hp))))
            have N18 := news_law3 N17
            clear N17
            have hr72 : ∀ p ∈ (s₁.heap.objs.size.succ, oT) :: mo, p.1 ≠ 72 := fun p hp => by
              rcases List.mem_cons.mp hp with rfl | hp
              · exact nL72
              · exact hm72 p hp
            refine unhalt (read_inF F17 N18 hr72 tabN codeHd G (at_of rfl rfl rfl) notes _ hNlen _ hdue fun hP tkP T3 W3 vw3 n3 t3 ps3 ks3 F19 N19 tab3 tx3 => ?_)
            clear F17 N18
            have N20 := news_law4 N19
            clear N19 tab3 tab1 tabN hr72
            walk_at "go"
            with_reducible rename Fr _ _ _ _ => F21
            with_reducible rename News _ _ _ _ => N21
            have hrD := hRm _ fun p hp => N21.get (.tail _ (.tail _ (.tail _ (.tail _ hp))))
            refine unhalt (due_spec (by exact G.keeps F21.keep) (at_of rfl rfl rfl) (.ref R) (RW ns) (by exact hrD) h8 (plain_rows ns).2.1 (fun r hr => (rows_ok ns r hr).2.1) (fun r hr x hx => ((rows_ok ns r hr).2.2 x hx).ok) n _ hn fun hQ tkQ RD vwD eD hkQ hRDn eRD txD => ?_)
            have F22 := F21.keeps hkQ
            have N22 := news_add1 F21 (news_keeps N21 hkQ) hRDn eRD
            clear F21 N21 hrD hkQ hRDn eRD
            walk_at "go"
            with_reducible rename Fr _ _ _ _ => F23
            with_reducible rename News _ _ _ _ => N23
            have rd3 : Rd _ (.ref T3) (ansD _ _) := Rd.mk2 ⟨_, N23.get (.tail _ (.tail _ (.tail _ (.head _)))), rfl, _, rfl⟩ (Rd.texts ⟨_, N23.get (.tail _ (.tail _ (.tail _ (.tail _ (.head _))))), rfl, _, rfl⟩ tx3) (Rd.int _ _ _)
            have rd4 : Rd _ (.ref _) (ansD _ _) := Rd.mk2 ⟨_, N23.get (.head _), rfl, _, rfl⟩ (Rd.texts ⟨_, N23.get (.tail _ (.head _)), rfl, _, rfl⟩ txD) (Rd.int' (congrArg (1 + ·) (count_nl notes)))
            refine unhalt (eq_ans rd3 rd4 (small_due (plain_small ns) (by decide) (by decide)) (by ke_room) ?_)
            walk_at "go"
            first
              | (refine goodW_bool F23 (by assumption) (raisesW_false ?_) ?_
                 · wrow_none_raised
                 · wrow_post
                 walk_say "CLOSED 1")
              | (k_end; wrow_close))
end Mine

set_option maxRecDepth 100000 in
set_option maxHeartbeats 8000000 in
theorem PySem.Challenge.cw_pg0042_01_holds : PySem.Challenge.rw_pg0042_01.Holds := by
  exact Mine.law_holds
