import PyProof.Rows.All
import Wide.All
import OpenK.AllK
import Wide.FinOn
import PySem.Challenge.RW_in0307_01
open PySem PySem.W PyProof.Rows PySem.Calls
set_option Elab.async false
set_option compiler.extract_closed false
set_option rowWalk.seconds 0
set_option linter.unusedVariables false
namespace Mine
/-- the opening in tree form, to its end -/
noncomputable def impP (ex : Thread → Option (List Value)) (st : SharedT → Thread → Option (SharedT × Thread)) : Nat → SharedT → Thread → Option SharedT
  | 0, _, _ => none
  | n + 1, s, t => match ex t with
    | some [] => some s
    | some (_ :: _) => none
    | none => match st s t with
      | some (s', t') => impP ex st n s' t'
      | none => none
theorem impP_of {tb : String → Option Builtin} {p : Program} {w : World} : ∀ {n : Nat} {s s' : SharedT} {t : Thread}, impP Thread.atExitBegin (stepT (denote tb) p w) n s t = some s' → importEnds tb p w n s.abs t = some s'.abs
  | 0, _, _, _, h => by cases h
  | n + 1, s, s', t, h => by
    unfold impP at h
    unfold importEnds
    cases he : t.atExitBegin with
    | some l =>
      rw [he] at h
      cases l with
      | nil => dsimp only at h ⊢; cases h; rfl
      | cons a b => cases h
    | none =>
      rw [he] at h
      cases hs : stepT (denote tb) p w s t with
      | none => rw [hs] at h; cases h
      | some r => obtain ⟨s₂, t₂⟩ := r; rw [hs] at h; dsimp only at h ⊢; rw [stepT_spec hs]; exact impP_of h
/-- the top in tree form, to its end -/
noncomputable def topP (thr : Thread → Bool) (ok : Thread → Bool) (st : SharedT → Thread → Option (SharedT × Thread)) : Nat → SharedT → Thread → Option SharedT
  | 0, _, _ => none
  | n + 1, s, t => match thr t with
    | true => some s
    | false => match ok t with
      | false => none
      | true => match st s t with
        | some (s', t') => topP thr ok st n s' t'
        | none => none
theorem topP_of {tb : String → Option Builtin} {p : Program} {w : World} {n₀ : Nat} {ann : Option Value} : ∀ {n : Nat} {s s' : SharedT} {t : Thread}, topP through (stepOk n₀ ann) (stepT (denote tb) p w) n s t = some s' → topRun tb p w n₀ ann n s.abs t = some s'.abs
  | 0, _, _, _, h => by cases h
  | n + 1, s, s', t, h => by
    unfold topP at h
    unfold topRun
    cases he : through t with
    | true => rw [he] at h; cases h; rfl
    | false =>
      rw [he] at h
      cases hk : stepOk n₀ ann t with
      | false => rw [hk] at h; cases h
      | true =>
        rw [hk] at h
        cases hs : stepT (denote tb) p w s t with
        | none => rw [hs] at h; cases h
        | some r => obtain ⟨s₂, t₂⟩ := r; rw [hs] at h; rw [stepT_spec hs]; exact topP_of h
noncomputable def insAll : List Obj → BT → Nat → Option (BT × Nat)
  | [], t, n => some (t, n)
  | o :: r, t, n => match ((t.ins n o).get n).isSome with
    | true => insAll r (t.ins n o) (n + 1)
    | false => none
theorem insAll_abs {life : Life} : ∀ {l : List Obj} {t t' : BT} {n n' : Nat}, insAll l t n = some (t', n') → absHeap t' n' life = ⟨(absHeap t n life).objs ++ l.toArray, life⟩
  | [], t, t', n, n', h => by
    cases h; simp; rfl
  | o :: r, t, t', n, n', h => by
    unfold insAll at h
    cases hg : ((t.ins n o).get n).isSome with
    | false => rw [hg] at h; cases h
    | true =>
      rw [hg] at h
      have := insAll_abs (life := life) h
      rw [this, absHeap_ins hg]
      unfold Heap.push
      simp
theorem ins_heap {h : Heap} {t : BT} {n : Nat} (e : insAll h.objs.toList .nil 0 = some (t, n)) : absHeap t n h.life = h := by
  have := insAll_abs (life := h.life) e
  rw [this]
  obtain ⟨o, l⟩ := h
  simp [absHeap, BT.list]
/-- the opening, the fence, the top and the looks, in one run -/
noncomputable def wholeP {γ : Type} (sT : Shared × Thread) (ex : Thread → Option (List Value)) (st1 st2 : SharedT → Thread → Option (SharedT × Thread)) (fence : Shared → Option Shared) (good : Shared → Bool) (thr : Thread → Bool) (ok : Nat → Option Value → Thread → Bool) (ann : Shared → Option Value) (stub : Thread) (fin : Shared → Shared → Bool) (look : Shared → γ) (N : Nat) : Option γ :=
  match insAll sT.1.heap.objs.toList .nil 0 with
  | none => none
  | some (Ta, na) => match impP ex st1 N ⟨Ta, na, sT.1.heap.life, sT.1.gens, sT.1.drawn, sT.1.toks, sT.1.os⟩ sT.2 with
    | none => none
    | some s => match fence s.abs with
      | none => none
      | some s₀ => match good s₀ with
        | false => none
        | true => match insAll s₀.heap.objs.toList .nil 0 with
          | none => none
          | some (T, n) => match topP thr (ok s₀.heap.objs.size (ann s₀)) st2 N ⟨T, n, s₀.heap.life, s₀.gens, s₀.drawn, s₀.toks, s₀.os⟩ stub with
            | none => none
            | some S => match fin s₀ S.abs with
              | false => none
              | true => some (look S.abs)
theorem whole_of {α : Type} {p q : Program} {loose : List Str} {Xt : Shared → Bool} {Yf : Shared → α} {N : Nat} {g0 : Bool} {w : World} {v}
    (h : wholeP (start (opening p)) Thread.atExitBegin (stepT (denote treeTable) (opening p) w) (stepT (denote treeTable) p w) (fenceModules? p) (fun s => s.heap.isNs mainGlobals && s.gens.size == 0) through stepOk (fun s => s.heap.nsMap mainGlobals "__annotations__") (topStub p)
      (fun s₀ s₁ => staticsOk (importedModules p.main.body) s₀.heap s₁.heap && namesBound p s₁.heap && gensDone s₁ && laidKept s₀.heap s₁.heap) (fun s => (openSeen q loose (importedModules p.main.body) Xt g0 s, Yf s)) N = some v) :
    (openEnds treeTable p w N).map (fun s => (openSeen q loose (importedModules p.main.body) Xt g0 s, Yf s)) = some v := by
  unfold wholeP at h
  split at h
  · cases h
  · rename_i Ta na ea
    split at h
    · cases h
    · rename_i s es
      have es' := impP_of es
      have ha := ins_heap ea
      unfold SharedT.abs at es'
      dsimp only at es'
      rw [ha] at es'
      split at h
      · cases h
      · rename_i s₀ e0
        have ef : fencedOpening treeTable p w N = some s₀ := by
          unfold fencedOpening
          rw [es']
          exact e0
        split at h
        · cases h
        · rename_i eb
          split at h
          · cases h
          · rename_i T n eT
            split at h
            · cases h
            · rename_i S eS
              have et := topP_of eS
              have hb := ins_heap eT
              rw [show (⟨T, n, s₀.heap.life, s₀.gens, s₀.drawn, s₀.toks, s₀.os⟩ : SharedT).abs = s₀ by unfold SharedT.abs; dsimp only; rw [hb]] at et
              split at h
              · cases h
              · rename_i ez
                unfold openEnds
                rw [ef]
                show (topFrom treeTable p w N s₀).map _ = _
                unfold topFrom
                rw [show (s₀.heap.isNs mainGlobals && s₀.gens.size == 0) = true from eb]
                dsimp only
                rw [et]
                show Option.map _ (match staticsOk (importedModules p.main.body) s₀.heap S.abs.heap && namesBound p S.abs.heap && gensDone S.abs && laidKept s₀.heap S.abs.heap with | true => some S.abs | false => none) = _
                rw [show (staticsOk (importedModules p.main.body) s₀.heap S.abs.heap && namesBound p S.abs.heap && gensDone S.abs && laidKept s₀.heap S.abs.heap) = true from ez]
                exact h
theorem left_of_whole {p q : Program} {loose : List Str} {Xt : Shared → Bool} {α : Type} {Yf : Shared → α} {Ya : World → α} {N : Nat} {g0 : Bool}
    (h : ∀ w, wholeP (start (opening p)) Thread.atExitBegin (stepT (denote treeTable) (opening p) w) (stepT (denote treeTable) p w) (fenceModules? p) (fun s => s.heap.isNs mainGlobals && s.gens.size == 0) through stepOk (fun s => s.heap.nsMap mainGlobals "__annotations__") (topStub p)
      (fun s₀ s₁ => staticsOk (importedModules p.main.body) s₀.heap s₁.heap && namesBound p s₁.heap && gensDone s₁ && laidKept s₀.heap s₁.heap) (fun s => (openSeen q loose (importedModules p.main.body) Xt g0 s, Yf s)) N = some (openGood q loose, Ya w)) : LeftO p q loose Xt Yf Ya N g0 := fun w => whole_of (h w)

theorem wellOk : PySem.Challenge.rw_in0307_01.wellSaid = true := by rw [PySem.W.Fast.te9446332074065402090]; kernel_rfl
local macro_rules | `(tactic| o_law) => `(tactic| refine holds_law wellOk fun said => ?_)
noncomputable def lz : List Str := [PySem.Str.ofString "Whitespace", PySem.Str.ofString "_twin_re_1", PySem.Str.ofString "_special_chars_map"]
noncomputable def qv : Program := PySem.W.view PySem.Challenge.pw_in0307_01 [0, 1, 3, 5, 6, 8, 9, 11, 12, 14, 15, 16, 17, 18, 19, 20, 21, 22]
noncomputable abbrev rowV : RowW := OpenRow.toRowW (OpenLaw.row PySem.Challenge.rw_in0307_01)
noncomputable abbrev xtV (s : Shared) : Bool := xlAt qv [] s && recOk (RowW.records rowV) s
noncomputable def asV : List Addr := [2, 3, 32, 34, 35, 37, 38, 49, 51, 52, 54, 55, 56, 58, 59, 61, 62, 63, 65, 66, 68, 69, 70, 72, 73, 75, 76, 77, 79, 80, 82, 83, 84, 86, 87, 89, 90, 91, 93, 94, 96, 97, 98, 99, 100, 101, 102, 108, 109, 110, 112, 113, 115, 116, 118, 122, 124, 125, 127, 128, 129, 131, 132, 134, 135, 136, 138, 139, 141, 142, 143, 145, 146, 148, 149, 150, 152, 153, 155, 156, 157, 159, 160, 162, 163, 164, 167, 168, 169, 172, 173, 174, 176, 177, 179, 180, 181, 184, 185, 186, 188, 189, 191, 192, 193, 195, 196, 198, 199]
/-- one world's run ends as it should -/
noncomputable def WorldOk (as : List Addr) (K : Params → Frag) (w : World) : Prop :=
  wholeP (start (opening rowV.prog)) Thread.atExitBegin (stepT (denote treeTable) (opening rowV.prog) w) (stepT (denote treeTable) rowV.prog w) (fenceModules? rowV.prog) (fun s => s.heap.isNs mainGlobals && s.gens.size == 0) through stepOk (fun s => s.heap.nsMap mainGlobals "__annotations__") (topStub rowV.prog)
    (fun s₀ s₁ => staticsOk (importedModules rowV.prog.main.body) s₀.heap s₁.heap && namesBound rowV.prog s₁.heap && gensDone s₁ && laidKept s₀.heap s₁.heap) (fun s => (openSeen qv lz (importedModules rowV.prog.main.body) xtV true s, (List.map s.heap.get? as, List.map s.heap.get? [130]))) 4762 = some (openGood qv lz, (List.map (fun p => some p.2) (K w.params), List.map (fun _ => some (tabObj #[])) [130]))
theorem left_of_ok {as : List Addr} {K : Params → Frag} (h : ∀ w, WorldOk as K w) : LeftO rowV.prog qv lz xtV (α := List (Option Obj) × List (Option Obj)) (fun s => (List.map s.heap.get? as, List.map s.heap.get? [130])) (fun w => (List.map (fun p => some p.2) (K w.params), List.map (fun _ => some (tabObj #[])) [130])) 4762 true := fun w => whole_of (h w)
set_option hygiene false in
local macro_rules | `(tactic| o_head $H) => `(tactic| (refine holds_open (q := qv) (loose := lz) (Xt := xtV) (XP := XL qv []) (Yf := Hook.obs $H) (Ya := Hook.val $H) (YP := Hook.says $H) (N := 4762) ?hl (Hook.of $H) (Hook.keeps $H) (fun s e => xl_of s (Bool.and_eq_true_iff.mp e).1) XL.keeps (by rfl) (by rfl) (by rfl) (fun s e => recFacts_of (Bool.and_eq_true_iff.mp e).2) (by rfl) (by first | assumption | decide +kernel) (by decide +kernel) ⟨rfl, rfl, rfl, rfl, rfl, by decide +kernel⟩ ?hw ?hc; (case hl => exact f.elim)))
set_option maxRecDepth 100000 in
set_option maxHeartbeats 8000000 in
/-- proves nothing: the library writes out the known part of the heap (gen.heap_1) on its way -/
theorem gen (f : False) : PySem.Challenge.rw_in0307_01.Holds := by
  w_on
  o_law
  k_head
  all_goals exact f.elim
set_option maxRecDepth 100000
theorem world_ff (w : World) : WorldOk asV gen.heap_1 ((w.withFollow "special-get-raises" false).withFollow "comprehension-iter-twice" false) := by
  delta WorldOk
  rw [PySem.W.Fast.te1435165496053646825, PySem.W.Fast.te3805553451399329143, PySem.W.Fast.te10156331382660048174, PySem.W.Fast.te11892475500146522536, PySem.W.Fast.te14364793385576792824, PySem.W.Fast.te14289696077712309145, PySem.W.Fast.te6613529449190102663, PySem.W.Fast.te8920871248978507458, PySem.W.Fast.te5923862056798008813, PySem.W.Fast.te4187177175401517315]
  kernel_rfl
theorem world_ft (w : World) : WorldOk asV gen.heap_1 ((w.withFollow "special-get-raises" true).withFollow "comprehension-iter-twice" false) := by
  delta WorldOk
  rw [PySem.W.Fast.te1435165496053646825, PySem.W.Fast.te3805553451399329143, PySem.W.Fast.te10156331382660048174, PySem.W.Fast.te11892475500146522536, PySem.W.Fast.te14364793385576792824, PySem.W.Fast.te14289696077712309145, PySem.W.Fast.te6613529449190102663, PySem.W.Fast.te8920871248978507458, PySem.W.Fast.te5923862056798008813, PySem.W.Fast.te4187177175401517315]
  kernel_rfl
theorem world_tf (w : World) : WorldOk asV gen.heap_1 ((w.withFollow "special-get-raises" false).withFollow "comprehension-iter-twice" true) := by
  delta WorldOk
  rw [PySem.W.Fast.te1435165496053646825, PySem.W.Fast.te3805553451399329143, PySem.W.Fast.te10156331382660048174, PySem.W.Fast.te11892475500146522536, PySem.W.Fast.te14364793385576792824, PySem.W.Fast.te14289696077712309145, PySem.W.Fast.te6613529449190102663, PySem.W.Fast.te8920871248978507458, PySem.W.Fast.te5923862056798008813, PySem.W.Fast.te4187177175401517315]
  kernel_rfl
theorem world_tt (w : World) : WorldOk asV gen.heap_1 ((w.withFollow "special-get-raises" true).withFollow "comprehension-iter-twice" true) := by
  delta WorldOk
  rw [PySem.W.Fast.te1435165496053646825, PySem.W.Fast.te3805553451399329143, PySem.W.Fast.te10156331382660048174, PySem.W.Fast.te11892475500146522536, PySem.W.Fast.te14364793385576792824, PySem.W.Fast.te14289696077712309145, PySem.W.Fast.te6613529449190102663, PySem.W.Fast.te8920871248978507458, PySem.W.Fast.te5923862056798008813, PySem.W.Fast.te4187177175401517315]
  kernel_rfl
theorem worlds (w : World) : WorldOk asV gen.heap_1 w :=
  byRow2 "comprehension-iter-twice" (P := WorldOk asV gen.heap_1) (fun v => byRow2 "special-get-raises" (P := fun u => WorldOk asV gen.heap_1 (u.withFollow "comprehension-iter-twice" false)) world_ff world_ft v) (fun v => byRow2 "special-get-raises" (P := fun u => WorldOk asV gen.heap_1 (u.withFollow "comprehension-iter-twice" true)) world_tf world_tt v) w
set_option hygiene false in
local macro_rules | `(tactic| o_head $H) => `(tactic| (refine holds_open (q := qv) (loose := lz) (Xt := xtV) (XP := XL qv []) (Yf := Hook.obs $H) (Ya := Hook.val $H) (YP := Hook.says $H) (N := 4762) ?hl (Hook.of $H) (Hook.keeps $H) (fun s e => xl_of s (Bool.and_eq_true_iff.mp e).1) XL.keeps (by rfl) (by rfl) (by rfl) (fun s e => recFacts_of (Bool.and_eq_true_iff.mp e).2) (by rfl) (by first | assumption | decide +kernel) (by decide +kernel) ⟨rfl, rfl, rfl, rfl, rfl, by decide +kernel⟩ ?hw ?hc; (case hl => exact left_of_ok worlds)))
set_option hygiene false in
local macro_rules | `(tactic| k_head) => `(tactic| o_head (kmHook gen.heap_1 asV (fun _ => by kernel_rfl) [130]))
set_option maxHeartbeats 8000000 in
open_top hd for PySem.Challenge.rw_in0307_01
end Mine
namespace Mine
theorem fill : PySem.Challenge.rw_in0307_01 = PySem.Challenge.rw_in0307_01 ∧ gen.heap_1 = gen.heap_1 := by k_fill; exact ⟨rfl, rfl⟩
end Mine
open Mine
theorem Mine.off_Base : True := by w_top off; trivial
namespace Mine
noncomputable abbrev PR : Program := PySem.Challenge.rw_in0307_01.row.prog
/-- what every heap of the call bears: the written part, the top -/
structure Gd (w : World) (h : Heap) : Prop where
  K : (gen.heap_1 w.params).In h
  T : ∃ p loose mean mg mb, Top p loose mean mg mb h
theorem Gd.keeps {w : World} {h h' : Heap} (G : Gd w h) (k : h.StaysIn h') : Gd w h' :=
  ⟨G.K.keeps k, let ⟨p, l, me, mg, mb, T⟩ := G.T; ⟨p, l, me, mg, mb, T.keeps k⟩⟩
theorem Gd.nolimit {w : World} {h : Heap} (G : Gd w h) : h.NoLimit := let ⟨_, _, _, _, _, T⟩ := G.T; T.nolimit
/-- what every call stands in -/
structure Ar (A : Around) (d u : Nat) : Prop where
  hh : A.handled = none
  hd : A.depth + d ≤ 900
  hu : A.units + u ≤ 9000
section
variable {w : World} {A : Around} {s : Shared}
theorem call_fn {R : Result → Shared → Prop} {name qual : Str} {params : Arguments} {body : List Stmt} {scope : Scope} {dV kV doc pm cdv ct oc : Value} {an od : Option Addr} {osl : Array (Option Value)} {f : Addr} {args : Args} {binds : List (Str × Value)}
    (G : Gd w s.heap) (hroom : A.depth < recursionLimit)
    (ho : (gen.heap_1 w.params).lookup f = some ⟨oc, od, .func (fnOf name qual params body scope dV kV doc pm an cdv ct), osl⟩) (hcd : codeIn (gen.heap_1 w.params) cdv qual = true)
    (hbind : BindsTo s (fnOf name qual params body scope dV kV doc pm an cdv ct) args binds) (hloc : ∀ y ∈ binds, scope.names.lookup y.1 = some .local)
    (h : ∀ h₁ m, m = (fun y => binds.reverse.lookup y) → Fr s.heap s.heap.objs.size h₁ m →
      wpAny (model PR w) (A.deeper (envOf qual scope s.heap.objs.size f cdv)) (execs body (envOf qual scope s.heap.objs.size f cdv))
        (fun fl s' => R (.ok (.ret (match fl with | .ret v => v | _ => .none))) s') (fun _ _ => False)
        { s with heap := h₁, toks := s.toks + binds.length })
    (hco : scope.isCoroutine = false) (hgen : scope.isGenerator = false) (hk : scope.kind = .function)
    (hcell : ∀ x ∈ scope.names, x.2 ≠ .cell) : codeAny (model PR w) A (.call (.ref f) args) R s := by
  refine codeAny_call_def (fd := fnOf name qual params body scope dV kV doc pm an cdv ct) (body := body) (binds := binds) hroom (G.K _ _ ho) rfl G.nolimit (codeRec_of G.K hcd) rfl hbind hcell hloc (fun h₁ hns hk₁ => ?_) hco hgen hk
  exact wpAny_mono (h h₁ _ rfl ⟨hns, hk₁, Nat.le_refl _⟩) (fun _ _ x => x) (fun _ _ x => x.elim)
end
end Mine
theorem Mine.off_Lib1 : True := by w_top off; trivial
namespace Mine
noncomputable abbrev tupOf (vs : List Value) : Obj := { cls := .type "tuple", data := .seq vs.toArray }
theorem Ar.into {A : Around} {d u d' u' : Nat} (h : Ar A d u) (hd : d' + 1 ≤ d) (hu : u' + 3 ≤ u) (env : Env) : Ar (A.deeper env) d' u' :=
  ⟨h.hh, by have := h.hd; show A.depth + 1 + d' ≤ 900; lia, by have := h.hu; show A.units + 3 + u' ≤ 9000; lia⟩
theorem Ar.mono {A : Around} {d u d' u' : Nat} (h : Ar A d u) (hd : d' ≤ d) (hu : u' ≤ u) : Ar A d' u' :=
  ⟨h.hh, by have := h.hd; lia, by have := h.hu; lia⟩
theorem Ar.room {A : Around} {d u : Nat} (h : Ar A d u) : A.depth < recursionLimit := by have := h.hd; simp only [recursionLimit]; lia
theorem Ar.unitsD {A : Around} {d u k : Nat} (h : Ar A d u) (hk : k + 3 ≤ u) (env : Env) : (A.deeper env).units + k < cLine := by have := h.hu; show A.units + 3 + k < 9900; lia
theorem Ar.units0 {A : Around} {d u : Nat} (h : Ar A d u) (env : Env) : (A.deeper env).units < cLine := by have := h.hu; show A.units + 3 < 9900; lia
theorem Ar.hhD {A : Around} {d u : Nat} (h : Ar A d u) (env : Env) : (A.deeper env).handled = none := h.hh
theorem aszL {vs : List Value} (h : vs.length ≤ 100000) : vs.toArray.size ≤ sizeLine := by rw [sizeLine_eq, List.size_toArray]; lia
theorem lt_self (x : Str) : decide (x.cps.toList < x.cps.toList) = false := decide_eq_false (List.lt_irrefl _)
theorem subN {h₀ : Heap} {L : Addr} {h : Heap} {l l' : List (Addr × Obj)} (N : News h₀ L h l) (hs : ∀ p ∈ l', p ∈ l) : News h₀ L h l' := fun p hp => N p (hs p hp)
theorem gentoks {α : Type} {M : Model} {A : Around} {t : Sem α} {Q : α → Shared → Prop} {E : Value → Shared → Prop} {h : Heap} {g : Array GenState} {d : Drawn} {t₀ : Nat} {os : OsState} (x : ∀ tk, wpAny M A t Q E ⟨h, g, d, tk, os⟩) : wpAny M A t Q E ⟨h, g, d, t₀, os⟩ := x t₀
theorem bne_f {a b : Str} (h : (a == b) = true) : (a != b) = false := by unfold bne; rw [h]; rfl
theorem bne_t {a b : Str} (h : (a == b) = false) : (a != b) = true := by unfold bne; rw [h]; rfl
theorem fitsL {n : Nat} (h : n ≤ 100000) : n ≤ sizeLine := by rw [sizeLine_eq]; lia
theorem stayF {h₀ h h' : Heap} {L : Addr} {m : Str → Option Value} (F : Fr h₀ L h m) (k : h.StaysIn h') : Fr h₀ L h' m :=
  ⟨F.ns.keeps k, fun b o e => k b o (F.keep b o e), F.above⟩
theorem stayN {h₀ h h' : Heap} {L : Addr} {news : List (Addr × Obj)} (N : News h₀ L h news) (k : h.StaysIn h') : News h₀ L h' news :=
  fun p hp => ⟨k _ _ (N p hp).1, (N p hp).2⟩
theorem moreN {h₀ h h' : Heap} {L a : Addr} {o : Obj} {m : Str → Option Value} {news : List (Addr × Obj)} (F : Fr h₀ L h m) (N : News h₀ L h' news) (hn : h.get? a = none) (ho : h'.get? a = some o) : News h₀ L h' ((a, o) :: news) := by
  intro p hp
  rcases List.mem_cons.mp hp with rfl | hp
  · refine ⟨ho, fun e => ?_, ?_⟩
    · obtain ⟨oL, _, _, hL, _⟩ := F.ns
      have e' : a = L := e
      rw [e', hL] at hn; cases hn
    · cases q : h₀.get? a with
      | none => rfl
      | some o' => rw [F.keep _ _ q] at hn; cases hn
  · exact N p hp
noncomputable def AllNe (d : Nat) : List (Addr × Obj) → Prop
  | [] => True
  | p :: r => @Ne Nat p.1 d ∧ AllNe d r
theorem allNe_of {d : Addr} : ∀ {l : List (Addr × Obj)}, (∀ p ∈ l, p.1 ≠ d) → AllNe d l
  | [], _ => trivial
  | p :: _, h => ⟨h p (.head _), allNe_of fun q hq => h q (.tail _ hq)⟩
theorem neN' {h₀ h : Heap} {L a : Addr} {news : List (Addr × Obj)} (N : News h₀ L h news) (hn : h.get? a = none) : ∀ p ∈ news, p.1 ≠ a :=
  fun p hp e => by have := (N p hp).1; rw [e, hn] at this; cases this
theorem at0 {h₀ h : Heap} {L a : Addr} {o : Obj} {r : List (Addr × Obj)} (N : News h₀ L h ((a, o) :: r)) : h.get? a = some o := (N _ (.head _)).1
theorem fresh0 {h₀ h : Heap} {L a : Addr} {o : Obj} {r : List (Addr × Obj)} (N : News h₀ L h ((a, o) :: r)) : h₀.get? a = none := (N _ (.head _)).2.2
theorem cj1 {a b : Prop} (h : a ∧ b) : a := h.1
theorem cj2 {x a b : Prop} (h : x ∧ a ∧ b) : a := h.2.1
theorem cj3 {x y a b : Prop} (h : x ∧ y ∧ a ∧ b) : a := h.2.2.1
theorem cj4 {x y z a b : Prop} (h : x ∧ y ∧ z ∧ a ∧ b) : a := h.2.2.2.1
theorem cj5 {x y z w a b : Prop} (h : x ∧ y ∧ z ∧ w ∧ a ∧ b) : a := h.2.2.2.2.1
theorem ce2 {x a : Prop} (h : x ∧ a) : a := h.2
theorem ce3 {x y a : Prop} (h : x ∧ y ∧ a) : a := h.2.2
theorem ce4 {x y z a : Prop} (h : x ∧ y ∧ z ∧ a) : a := h.2.2.2
theorem ce5 {x y z w a : Prop} (h : x ∧ y ∧ z ∧ w ∧ a) : a := h.2.2.2.2
/-- the named rest of a block -/
noncomputable def RunTo (qk : Flow → Shared → Prop) (f : Flow) (s : Shared) : Prop := qk f s
noncomputable def NextTo (qk : Flow → Shared → Prop) (M : Model) (A : Around) (rest : List Stmt) (env : Env) (Q : Flow → Shared → Prop) (E : Value → Shared → Prop) : Prop :=
  (∀ s, wpAny M A (execs rest env) Q E s → qk .next s) ∧ (∀ v s, Q (.ret v) s → qk (.ret v) s) ∧ (∀ s, Q .brk s → qk .brk s) ∧ (∀ s, Q .cont s → qk .cont s)
section
variable {M : Model} {A : Around} {rest : List Stmt} {st : Stmt} {env : Env} {Q qk : Flow → Shared → Prop} {E : Value → Shared → Prop} {s : Shared} {h : Heap} {g : Array GenState} {d : Drawn} {t₀ : Nat} {os : OsState} {v : Value}
theorem NextTo.next (n : NextTo qk M A rest env Q E) (x : wpAny M A (execs rest env) Q E s) : RunTo qk .next s := n.1 _ x
theorem NextTo.ret (n : NextTo qk M A rest env Q E) (x : Q (.ret v) s) : RunTo qk (.ret v) s := n.2.1 _ _ x
theorem NextTo.brk (n : NextTo qk M A rest env Q E) (x : Q .brk s) : RunTo qk .brk s := n.2.2.1 _ x
theorem NextTo.cont (n : NextTo qk M A rest env Q E) (x : Q .cont s) : RunTo qk .cont s := n.2.2.2 _ x
theorem execs_consQ (x : ∀ tk qk, NextTo qk M A rest env Q E → wpAny M A (exec st env) (RunTo qk) E ⟨h, g, d, tk, os⟩) : wpAny M A (execs (st :: rest) env) Q E ⟨h, g, d, t₀, os⟩ :=
  wpAny_execs_cons (x t₀ _ ⟨fun _ y => y, fun _ _ y => y, fun _ y => y, fun _ y => y⟩)
theorem execs_lastQ (x : ∀ tk, wpAny M A (exec st env) Q E ⟨h, g, d, tk, os⟩) : wpAny M A (execs [st] env) Q E ⟨h, g, d, t₀, os⟩ :=
  wpAny_execs_cons (wpAny_mono (x t₀) (fun f _ y => by cases f <;> first | exact wpAny_execs_nil y | exact y) fun _ _ y => y)
theorem execs_consR (x : ∀ qk, NextTo qk M A rest env Q E → wpAny M A (exec st env) (RunTo qk) E s) : wpAny M A (execs (st :: rest) env) Q E s :=
  wpAny_execs_cons (x _ ⟨fun _ y => y, fun _ _ y => y, fun _ y => y, fun _ y => y⟩)
theorem execs_lastR (x : wpAny M A (exec st env) Q E s) : wpAny M A (execs [st] env) Q E s :=
  wpAny_execs_cons (wpAny_mono x (fun f _ y => by cases f <;> first | exact wpAny_execs_nil y | exact y) fun _ _ y => y)
end
theorem letGo_str (value : Expr) (x : Str) (t : Tok) (r : Value) : letTemporaryGo value (.str x t) r = pure () := by cases value <;> rfl
theorem slice_ss5 {prog : Program} {w : World} {A : Around} {E : Value → Shared → Prop} {value ea eb : Expr} {ps : Pos} {x : Str} {t : Tok} {h₀ : Heap} {L : Addr} {m : Str → Option Value} {news : List (Addr × Obj)} {Q : Value → Shared → Prop} {h : Heap} {g : Array GenState} {d : Drawn} {tk : Nat} {os : OsState} {i j : Int} {ui uj : Tok}
    (hF : Fr h₀ L h m) (hN : News h₀ L h news) (hx : x.length ≤ 100000)
    (k : ∀ h' t' tk', Fr h₀ L h' m → News h₀ L h' news → Q (.str (Txt.slice x (some i) (some j)) t') ⟨h', g, d, tk', os⟩) :
    wpAny (model prog w) A (subscriptTail value (.Slice (some ea) (some eb) none ps) (.str x t) (.ref h.objs.size)) Q E ⟨h.push { cls := .type "slice", data := .fields #[.int i ui, .int j uj, .none] }, g, d, tk, os⟩ :=
  slice_strN_ss (s := ⟨h, g, d, tk, os⟩) hF hN (fun h' t' k' a b => k h' t' k' a b) rfl (letGo_str _ _ _) (fitsL hx)
theorem slice_sn5 {prog : Program} {w : World} {A : Around} {E : Value → Shared → Prop} {value ea : Expr} {ps : Pos} {x : Str} {t : Tok} {h₀ : Heap} {L : Addr} {m : Str → Option Value} {news : List (Addr × Obj)} {Q : Value → Shared → Prop} {h : Heap} {g : Array GenState} {d : Drawn} {tk : Nat} {os : OsState} {i : Int} {ui : Tok}
    (hF : Fr h₀ L h m) (hN : News h₀ L h news) (hx : x.length ≤ 100000)
    (k : ∀ h' t' tk', Fr h₀ L h' m → News h₀ L h' news → Q (.str (Txt.slice x (some i) none) t') ⟨h', g, d, tk', os⟩) :
    wpAny (model prog w) A (subscriptTail value (.Slice (some ea) none none ps) (.str x t) (.ref h.objs.size)) Q E ⟨h.push { cls := .type "slice", data := .fields #[.int i ui, .none, .none] }, g, d, tk, os⟩ :=
  slice_strN_sn (s := ⟨h, g, d, tk, os⟩) hF hN (fun h' t' k' a b => k h' t' k' a b) rfl (letGo_str _ _ _) (fitsL hx)
theorem upd_hd {D : Addr} {o o' : Obj} {r : List (Addr × Obj)} (hoff : ∀ p ∈ r, p.1 ≠ D) : Upd D o o' ((D, o) :: r) ((D, o') :: r) := .head hoff
theorem upd_tl {D : Addr} {o o' : Obj} {p : Addr × Obj} {r r' : List (Addr × Obj)} (hne : p.1 ≠ D) (hu : Upd D o o' r r') : Upd D o o' (p :: r) (p :: r') := .tail hne hu
/-- a test walked by itself -/
noncomputable def TestQ (b : Bool) (h₀ : Heap) (L : Addr) (g : Array GenState) (d : Drawn) (os : OsState) (m : Str → Option Value) (news : List (Addr × Obj)) (b' : Bool) (s' : Shared) : Prop := b' = b ∧ ∃ h' tk', s' = ⟨h', g, d, tk', os⟩ ∧ Fr h₀ L h' m ∧ News h₀ L h' news
theorem TestQ.mk {b : Bool} {h₀ : Heap} {L : Addr} {g : Array GenState} {d : Drawn} {os : OsState} {m : Str → Option Value} {news : List (Addr × Obj)} {h' : Heap} {tk' : Nat} (F : Fr h₀ L h' m) (N : News h₀ L h' news) : TestQ b h₀ L g d os m news b ⟨h', g, d, tk', os⟩ := ⟨rfl, _, _, rfl, F, N⟩
theorem cutT {M : Model} {A : Around} {E : Value → Shared → Prop} {t : Sem Bool} {Q : Bool → Shared → Prop} {h₀ : Heap} {L : Addr} {m : Str → Option Value} {news : List (Addr × Obj)} {h : Heap} {g : Array GenState} {d : Drawn} {tk : Nat} {os : OsState} (b : Bool) (_F : Fr h₀ L h m) (_N : News h₀ L h news)
    (step : wpAny M A t (TestQ b h₀ L g d os m news) E ⟨h, g, d, tk, os⟩) (rest : ∀ h' tk', Fr h₀ L h' m → News h₀ L h' news → Q b ⟨h', g, d, tk', os⟩) : wpAny M A t Q E ⟨h, g, d, tk, os⟩ :=
  wpAny_mono step (fun b' s' x => by obtain ⟨rfl, h', tk', rfl, F, N⟩ := x; exact rest _ _ F N) fun _ _ x => x
/-! rules with the state spelt out: no store of projections piles up -/
section
variable {M : Model} {prog : Program} {w : World} {A : Around} {E : Value → Shared → Prop} {env : Env} {h : Heap} {g : Array GenState} {d : Drawn} {tk : Nat} {os : OsState} {Q : Value → Shared → Prop} {h₀ : Heap} {L : Addr} {m : Str → Option Value} {news news' : List (Addr × Obj)} {a b : Int} {t u : Tok} {x : Str} {v : Value} {vs : List Value}
theorem r_int {k : Nat} {pos : Pos} (y : Q (.int a tk) ⟨h, g, d, tk + 1, os⟩) : wpAny M A (eval (.Constant (.int a) k pos) env) Q E ⟨h, g, d, tk, os⟩ := wpAny_Constant_int y
theorem r_str {k : Nat} {pos : Pos} (y : Q (.str x tk) ⟨h, g, d, tk + 1, os⟩) : wpAny M A (eval (.Constant (.str x) k pos) env) Q E ⟨h, g, d, tk, os⟩ := Constant_str y
theorem r_add (y : Q (.int (a + b) tk) ⟨h, g, d, tk + 1, os⟩) : wpAny (model prog w) A (binaryOp .Add (.int a t) (.int b u)) Q E ⟨h, g, d, tk, os⟩ := add_int y
theorem r_sub (y : Q (.int (a - b) tk) ⟨h, g, d, tk + 1, os⟩) : wpAny (model prog w) A (binaryOp .Sub (.int a t) (.int b u)) Q E ⟨h, g, d, tk, os⟩ := sub_int y
theorem r_neg (y : Q (.int (-a) tk) ⟨h, g, d, tk + 1, os⟩) : wpAny (model prog w) A (unaryOp .USub (.int a t)) Q E ⟨h, g, d, tk, os⟩ := neg_int y
theorem r_iadd (y : Q (.int (a + b) tk) ⟨h, g, d, tk + 1, os⟩) : wpAny (model prog w) A (inplaceOp .Add (.int a t) (.int b u)) Q E ⟨h, g, d, tk, os⟩ := iadd_int y
noncomputable def upd (m : Str → Option Value) (x : Str) (v : Value) : Str → Option Value := fun y => if y = x then some v else m y
theorem upd_eq : upd m x v x = some v := if_pos rfl
theorem upd_ne {y : Str} {r : Option Value} (n : decide (y = x) = false) (e : m y = r) : upd m x v y = r := (if_neg (of_decide_eq_false n)).trans e
noncomputable def locK (cs : Scope) (x : Str) : Bool := (match cs.kind with | .function => true | _ => false) && (match cs.names.lookup x with | some .local => true | _ => false) && !(x == "__debug__")
theorem locK.of {cs : Scope} (e : locK cs x = true) : cs.kind = .function ∧ cs.names.lookup x = some .local ∧ (x == "__debug__") = false := by
  unfold locK at e
  simp only [Bool.and_eq_true, Bool.not_eq_true'] at e
  obtain ⟨⟨h1, h2⟩, h3⟩ := e
  refine ⟨?_, ?_, h3⟩
  · revert h1; cases cs.kind <;> intro h1 <;> first | rfl | cases h1
  · revert h2
    cases cs.names.lookup x with
    | none => intro h2; cases h2
    | some k => cases k <;> intro h2 <;> first | rfl | cases h2
theorem nmL {cn : Str} {cs : Scope} {f : Addr} {ccd : Value} {pos : Pos} {s : Shared} (F : Fr h₀ L s.heap m) (hv : m x = some v) (hx : locK cs x = true) (y : Q v s) : wpAny M A (eval (.Name x pos) (envOf cn cs L f ccd)) Q E s :=
  nameX_L (cl := []) F hv y (locK.of hx).1 (locK.of hx).2.1 (locK.of hx).2.2
theorem nmK {cn : Str} {cs : Scope} {f : Addr} {ccd : Value} {pos : Pos} {s : Shared} (hx : locK cs x = true) (F : Fr h₀ L s.heap m) (hv : m x = some v) (y : Q v s) : wpAny M A (eval (.Name x pos) (envOf cn cs L f ccd)) Q E s := nmL F hv hx y
theorem ldL {cn : Str} {cs : Scope} {f : Addr} {ccd : Value} {s : Shared} (F : Fr h₀ L s.heap m) (hv : m x = some v) (hx : locK cs x = true) (y : Q v s) : wpAny M A (loadName (envOf cn cs L f ccd) x) Q E s :=
  wpAny_loadName_local (locK.of hx).1 (locK.of hx).2.1 F.ns hv y
theorem r_store {name : Str} {scope : Scope} {cd : Value} {f : Addr} {Q : Unit → Shared → Prop} (F : Fr h₀ L h m) (N : News h₀ L h news) (hx : locK scope x = true)
    (y : ∀ h', Fr h₀ L h' (upd m x v) → News h₀ L h' news → Q () ⟨h', g, d, tk + 1, os⟩) : wpAny M A (storeName (envOf name scope L f cd) x v) Q E ⟨h, g, d, tk, os⟩ :=
  stN (s := ⟨h, g, d, tk, os⟩) F N y (locK.of hx).1 (locK.of hx).2.1
noncomputable def SlQ (Q : Value → Shared → Prop) (l u st : Value) (s : Shared) : Prop := Q (.ref s.heap.objs.size) { s with heap := s.heap.push { cls := .type "slice", data := .fields #[l, u, st] } }
theorem SlQ.go {l u st : Value} (y : Q (.ref h.objs.size) ⟨h.push { cls := .type "slice", data := .fields #[l, u, st] }, g, d, tk, os⟩) : SlQ Q l u st ⟨h, g, d, tk, os⟩ := y
theorem r_slice {s : Shared} {lo up st : Option Expr} {p : Pos} (y : wpAny M A (evalPart lo env) (fun l s₁ => wpAny M A (evalPart up env) (fun u s₂ => wpAny M A (evalPart st env) (SlQ Q l u) E s₂) E s₁) E s) : wpAny M A (eval (.Slice lo up st p) env) Q E s :=
  wpAny_Slice y
theorem r_tuple (F : Fr h₀ L h m) (N : News h₀ L h news) (hz : vs.length ≤ sizeLine)
    (y : ∀ D h', Fr h₀ L h' m → News h₀ L h' ((D, { cls := .type "tuple", data := .seq vs.toArray }) :: news) → (∀ p ∈ news, p.1 < D) → Q (.ref D) ⟨h', g, d, tk, os⟩) : wpAny M A (newTuple vs) Q E ⟨h, g, d, tk, os⟩ :=
  kup_newTuple (s := ⟨h, g, d, tk, os⟩) F N y hz
theorem r_list (F : Fr h₀ L h m) (N : News h₀ L h news) (hz : vs.length ≤ sizeLine)
    (y : ∀ l h', Fr h₀ L h' m → News h₀ L h' ((l, listOf vs.toArray 0) :: news) → (∀ p ∈ news, p.1 < l) → Q (.ref l) ⟨h', g, d, tk, os⟩) : wpAny M A (newList vs) Q E ⟨h, g, d, tk, os⟩ :=
  newList_K (s := ⟨h, g, d, tk, os⟩) F N y hz
theorem r_append {D : Addr} {its : Array Value} {n : Nat} (F : Fr h₀ L h m) (N : News h₀ L h news) (U : Upd D (listOf its n) (listOf (its.push v) (n + 1)) news news') (hz : its.size ≤ sizeLine)
    (y : ∀ h', Fr h₀ L h' m → News h₀ L h' news' → Q .none ⟨h', g, d, tk, os⟩) : wpAny (model prog w) A (call (.builtin "list.append") [.ref D, v]) Q E ⟨h, g, d, tk, os⟩ :=
  append_K (s := ⟨h, g, d, tk, os⟩) F N U y hz
theorem r_unpack {elts : List Expr} {k : Nat} {pos : Pos} {D : Addr} {items : Array Value} {Q : Unit → Shared → Prop} (F : Fr h₀ L h m) (N : News h₀ L h news) (ht : IsTup h D items) (hh : A.handled = none)
    (hn : (assignEach elts env).length = items.size) (hstar : (assignEach elts env).findIdx? (·.1) = none)
    (y : ∀ h', Fr h₀ L h' m → News h₀ L h' news → wpAny (model prog w) A (assignInOrder ((assignEach elts env).map (·.2)) items.toList) Q E ⟨h', g, d, tk, os⟩) : wpAny (model prog w) A (assign (.Tuple elts k pos) env (.ref D)) Q E ⟨h, g, d, tk, os⟩ :=
  unpackN_ (s := ⟨h, g, d, tk, os⟩) F N ht hh hn hstar y
end
noncomputable def Halt (P : Prop) : Prop := P
theorem Halt.out {P : Prop} (h : Halt P) : P := h
theorem Halt.in {P : Prop} (h : P) : Halt P := h
/-- the sign at a place: a text of one sign, or none -/
noncomputable abbrev ch (x : Str) (i : Int) : Str := Txt.slice x (some i) (some (i + 1))
noncomputable def signF (x : Str) (i : Int) : Str × Int := if (ch x i == Str.ofString "\\") = true then (ch x (i + 1), i + 1 + 1) else (ch x i, i + 1)
inductive Rel2 {α β : Type} (R : α → β → Prop) : List α → List β → Prop
  | nil : Rel2 R [] []
  | cons {a b l r} : R a b → Rel2 R l r → Rel2 R (a :: l) (b :: r)
theorem Rel2.mono {α β : Type} {R S : α → β → Prop} {l : List α} {r : List β} (h : Rel2 R l r) (k : ∀ a b, R a b → S a b) : Rel2 S l r := by
  induction h with
  | nil => exact .nil
  | cons a _ ih => exact .cons (k _ _ a) ih
theorem Rel2.snoc {α β : Type} {R : α → β → Prop} {l : List α} {r : List β} {a : α} {b : β} (h : Rel2 R l r) (k : R a b) : Rel2 R (l ++ [a]) (r ++ [b]) := by
  induction h with
  | nil => exact .cons k .nil
  | cons x _ ih => exact .cons x ih
theorem Rel2.get {α β : Type} {R : α → β → Prop} {l : List α} {r : List β} (h : Rel2 R l r) : ∀ {k : Nat} {a : α}, l[k]? = some a → ∃ b, r[k]? = some b ∧ R a b ∧ r.drop k = b :: r.drop (k + 1) := by
  induction h with
  | nil => intro k a e; simp at e
  | cons x _ ih =>
    intro k a e
    cases k with
    | zero => simp at e; subst e; exact ⟨_, rfl, x, rfl⟩
    | succ k => obtain ⟨b, h1, h2, h3⟩ := ih (by simpa using e); exact ⟨b, by simpa using h1, h2, by simpa using h3⟩
theorem Rel2.length {α β : Type} {R : α → β → Prop} {l : List α} {r : List β} (h : Rel2 R l r) : l.length = r.length := by
  induction h with
  | nil => rfl
  | cons _ _ ih => simp [ih]
noncomputable def PairIn (B : Addr → Obj → Prop) (v : Value) (p : Str × Str) : Prop := ∃ a t1 t2, v = .ref a ∧ B a (tupOf [.str p.1 t1, .str p.2 t2])
theorem PairIn.mono {B C : Addr → Obj → Prop} {v : Value} {p : Str × Str} (h : PairIn B v p) (k : ∀ a o, B a o → C a o) : PairIn C v p := let ⟨a, t1, t2, e, b⟩ := h; ⟨a, t1, t2, e, k _ _ b⟩
theorem ownOff_cons {a b : Addr} {o : Obj} {imm : List (Addr × Obj)} (h : OwnOff imm [b]) (hne : a ≠ b) : OwnOff ((a, o) :: imm) [b] := fun p hp c hc => by
  rcases List.mem_cons.mp hp with rfl | hp
  · rw [List.mem_singleton.mp hc]; exact hne
  · exact h p hp c hc
theorem eq_nil_t {prog : Program} {w : World} {A : Around} {E : Value → Shared → Prop} {s : Shared} {l b : Addr} {Q : Value → Shared → Prop} (hl : s.heap.IsList l #[]) (hb : s.heap.IsList b #[]) (hu : A.units < cLine)
    (h : Q (.bool true) s) : wpAny (model prog w) A (compareOp .Eq (.ref l) (.ref b)) Q E s :=
  PySem.SeqAt.eq_listAt (e := fun _ => true) hl hb rfl hu (fun j h1 => absurd h1 (by simp)) h
theorem eq_nil_f {prog : Program} {w : World} {A : Around} {E : Value → Shared → Prop} {s : Shared} {l b : Addr} {v : Value} {r : List Value} {Q : Value → Shared → Prop} (hl : s.heap.IsList l (v :: r).toArray) (hb : s.heap.IsList b #[]) (hu : A.units < cLine)
    (h : Q (.bool false) s) : wpAny (model prog w) A (compareOp .Eq (.ref l) (.ref b)) Q E s :=
  PySem.SeqAt.eq_list_lengthsAt hl hb (by simp) hu h
inductive RunP (x : Str) : Nat → Int → List (Str × Str) → List (Str × Str) → Int → Prop
  | stop {i ps} : ps ≠ [] → (ch x i == Str.ofString "]") = true → RunP x 0 i ps ps i
  | single {n i ps qs j} : (ps = [] ∨ (ch x i == Str.ofString "]") = false) → (ch x (signF x i).2 == Str.ofString "-") = false → ((signF x i).1 == Str.ofString "") = false →
      RunP x n (signF x i).2 (ps ++ [((signF x i).1, (signF x i).1)]) qs j → RunP x (n + 1) i ps qs j
  | pair {n i ps qs j} : (ps = [] ∨ (ch x i == Str.ofString "]") = false) → (ch x (signF x i).2 == Str.ofString "-") = true → (Txt.slice x (some ((signF x i).2 + 1)) (some ((signF x i).2 + 2)) == Str.ofString "]") = false →
      ((signF x i).1 == Str.ofString "") = false → (decide ((signF x ((signF x i).2 + 1)).1.cps.toList < (signF x i).1.cps.toList)) = false →
      RunP x n (signF x ((signF x i).2 + 1)).2 (ps ++ [((signF x i).1, (signF x ((signF x i).2 + 1)).1)]) qs j → RunP x (n + 1) i ps qs j
inductive oneJ (x : Str) (tx : Tok) (qs : List (Str × Str)) (jj : Int) (b : Bool) (n : Nat) (m : Str → Option Value) : List (Addr × Obj) → Prop
  | mk {i : Int} {ti : Tok} {ps : List (Str × Str)} {vs : List Value} {e : Nat} {imm : List (Addr × Obj)} {pl : Addr} (hrun : RunP x n i ps qs jj) (hrel : Rel2 (PairIn fun a o => (a, o) ∈ imm) vs ps) (hoff : OwnOff imm [pl]) (hlen : n + ps.length ≤ 1000)
      (m1 : m (Str.ofString "text") = some (.str x tx)) (m2 : m (Str.ofString "i") = some (.int i ti)) (m3 : m (Str.ofString "pairs") = some (.ref pl)) (m4 : m (Str.ofString "barred") = some (.bool b)) : oneJ x tx qs jj b n m ((pl, listOf vs.toArray e) :: imm)
theorem oneJ_end {x : Str} {tx : Tok} {qs : List (Str × Str)} {j : Int} {b : Bool} {n : Nat} {h₀ h' : Heap} {L T pl : Addr} {m' : Str → Option Value} {u v : Str} {tu tv : Tok} (mid : List (Addr × Obj)) {imm : List (Addr × Obj)} {vs : List Value} {e tk : Nat} {ps : List (Str × Str)} {s : Shared} {i : Int} {ti : Tok} {b' : Bool}
    (N : News h₀ L h' ((T, tupOf [.str u tu, .str v tv]) :: (mid ++ (pl, listOf (vs.toArray.push (.ref T)) e) :: imm))) (F : Fr h₀ L h' m') (hrun : RunP x n i (ps ++ [(u, v)]) qs j) (hrel : Rel2 (PairIn fun a o => (a, o) ∈ imm) vs ps) (hoff : OwnOff imm [pl]) (hne : T ≠ pl)
    (hlen : n + 1 + ps.length ≤ 1000) (m1 : m' (Str.ofString "text") = some (.str x tx)) (m2 : m' (Str.ofString "i") = some (.int i ti)) (m3 : m' (Str.ofString "pairs") = some (.ref pl)) (m4 : m' (Str.ofString "barred") = some (.bool b')) (hb : b' = b) :
    WhileStep h₀ L s (oneJ x tx qs j b) (n + 1) .next { s with heap := h', toks := tk } := by
  rw [List.push_toArray] at N
  refine WhileStep.intro (n' := n) (news₂ := (pl, listOf (vs ++ [Value.ref T]).toArray e) :: (T, tupOf [.str u tu, .str v tv]) :: imm) F (subN N ?_) (Nat.lt_succ_self _)
    (.mk hrun ?_ (ownOff_cons hoff hne) (by simp; lia) m1 m2 m3 (hb ▸ m4))
  · intro p hp
    rcases List.mem_cons.mp hp with rfl | hp
    · exact .tail _ (List.mem_append.mpr (.inr (.head _)))
    · rcases List.mem_cons.mp hp with rfl | hp
      · exact .head _
      · exact .tail _ (List.mem_append.mpr (.inr (.tail _ hp)))
  · exact (hrel.mono fun a b h => h.mono fun a o h => .tail _ h).snoc ⟨T, tu, tv, rfl, .head _⟩
end Mine
theorem Mine.off_Loop : True := by w_top off; trivial
namespace Mine
section
variable {prog : Program} {w : World} {A : Around} {s : Shared} {env : Env} {h₀ : Heap} {target : Expr} {body : List Stmt} {R : Result → Shared → Prop}
/-- behind a turn of a for -/
noncomputable def TurnP (h₀ : Heap) (L : Addr) (s : Shared) (it : Addr) (itO : Obj) (J : (Str → Option Value) → List (Addr × Obj) → Prop) (R : Result → Shared → Prop) (f : Flow) (s₃ : Shared) : Prop :=
  match f with
  | .ret v => R (.ok (.ret v)) s₃
  | .brk => R (.ok .next) s₃
  | _ => ∃ h' tk m' news', s₃ = { s with heap := h', toks := tk } ∧ Fr h₀ L h' m' ∧ News h₀ L h' ((it, itO) :: news') ∧ (∀ p ∈ news', p.1 ≠ it) ∧ J m' news'
theorem TurnP.next {L : Addr} {it : Addr} {itO : Obj} {J : (Str → Option Value) → List (Addr × Obj) → Prop} {h' : Heap} {tk : Nat} {m' : Str → Option Value} {news' : List (Addr × Obj)}
    (F : Fr h₀ L h' m') (N : News h₀ L h' ((it, itO) :: news')) (hn : ∀ p ∈ news', p.1 ≠ it) (hJ : J m' news') : TurnP h₀ L s it itO J R .next { s with heap := h', toks := tk } := ⟨h', tk, m', news', rfl, F, N, hn, hJ⟩
theorem iter_W {I : Addr} {fp : List Addr} {n : Nat} {P : Nat → Value → Prop} {St : Nat → Heap → Prop} {m : Str → Option Value} {news : List (Addr × Obj)} (W : Walks prog w A I fp [I] n P St)
    (J : Nat → (Str → Option Value) → List (Addr × Obj) → Prop)
    (hl : ∀ b ∈ fp, b ≠ I → ∃ o, ∀ h m news i, J i m news → Fr h₀ env.locals h m → News h₀ env.locals h news → h.get? b = some o)
    (hSI : ∀ i h, St i h → ∃ o, h.get? I = some o ∧ o.isFreed = false)
    (hgo : ∀ i (s' : Shared) v (Q' : Unit → Shared → Prop), St i s'.heap → Q' () s' → wpAny (model prog w) A (letOwnedTupleGo target (.ref I) v) Q' (fun _ _ => False) s')
    (hI : h₀.get? I = none) (hIL : env.locals ≠ I) (hnw : ∀ p ∈ news, p.1 ≠ I) (hst : St 0 s.heap) (F : Fr h₀ env.locals s.heap m) (N : News h₀ env.locals s.heap news) (h0 : J 0 m news)
    (turn : ∀ i v m₁ news₁ h tk itO, i < n → P i v → J i m₁ news₁ → Fr h₀ env.locals h m₁ → News h₀ env.locals h ((I, itO) :: news₁) → (∀ p ∈ news₁, p.1 ≠ I) →
      wpAny (model prog w) A (assign target env v) (fun _ s₃ => wpAny (model prog w) A (execs body env) (TurnP h₀ env.locals s I itO (J (i + 1)) R) (fun _ _ => False) s₃) (fun _ _ => False) { s with heap := h, toks := tk })
    (done : ∀ m' news' h' tk, J n m' news' → Fr h₀ env.locals h' m' → News h₀ env.locals h' news' → R (.ok .next) { s with heap := h', toks := tk }) :
    codeAny (model prog w) A (.forLoop target (.ref I) body [] env) R s := by
  have old : ∀ b o, h₀.get? b = some o → b ∉ [I] := fun b o e hb => by rw [List.mem_singleton.mp hb, hI] at e; cases e
  refine codeAny_forLoop_any
    (fun k s' => ∃ h' tk m' news' i, s' = { s with heap := h', toks := tk } ∧ St i h' ∧ Fr h₀ env.locals h' m' ∧ News h₀ env.locals h' news' ∧ (∀ p ∈ news', p.1 ≠ I) ∧ J i m' news' ∧ i ≤ n ∧ k = n + 1 - i) ?_ (n + 1)
    ⟨s.heap, s.toks, m, news, 0, rfl, hst, F, N, hnw, h0, Nat.zero_le _, rfl⟩
  rintro k s' ⟨h', tk, m', news', i, rfl, hst', F', N', hnw', hJ, hi, rfl⟩
  have next : ∀ h₁ : Heap, (∀ b o, b ∉ [I] → h'.get? b = some o → h₁.get? b = some o) → Fr h₀ env.locals h₁ m' ∧ News h₀ env.locals h₁ news' := fun h₁ hk₁ =>
    ⟨⟨F'.ns.at' fun o e => hk₁ _ o (by simpa using hIL) e, fun b o e => hk₁ b o (old b o e) (F'.keep b o e), F'.above⟩, fun p hp => ⟨hk₁ _ _ (by simpa using hnw' p hp) (N' p hp).1, (N' p hp).2⟩⟩
  by_cases hlt : i < n
  · refine W.item i _ _ _ hlt hst' fun v h₁ tk₁ hP hst₁ hk₁ => ?_
    obtain ⟨F₁, N₁⟩ := next h₁ hk₁
    refine wpAny_noRaise (hgo (i + 1) _ v _ hst₁ ?_)
    obtain ⟨itO, hit, hfr⟩ := hSI _ _ hst₁
    have NI : News h₀ env.locals h₁ ((I, itO) :: news') := fun p hp => by
      rcases List.mem_cons.mp hp with rfl | hp
      · exact ⟨hit, fun e => hIL e.symm, hI⟩
      · exact N₁ p hp
    refine wpAny_noRaise (wpAny_mono (turn i v m' news' h₁ tk₁ itO hlt hP hJ F₁ NI hnw') (fun _ s₂ h₂ => wpAny_noRaise (wpAny_mono h₂ (fun f s₃ h₃ => ?_) fun _ _ e => e)) fun _ _ e => e)
    cases f with
    | ret v => exact h₃
    | brk => exact h₃
    | cont =>
      obtain ⟨h₃', tk₃, m₂, news₂, rfl, F₃, N₃, hn₃, hJ₃⟩ := h₃
      have N₃' : News h₀ env.locals h₃' news₂ := fun p hp => N₃ p (.tail _ hp)
      refine ⟨n + 1 - (i + 1), by lia, h₃', tk₃, m₂, news₂, i + 1, rfl, ?_, F₃, N₃', hn₃, hJ₃, hlt, rfl⟩
      refine W.frame _ _ _ hst₁ fun b hb o e => ?_
      by_cases hbI : b = I
      · subst hbI; rw [hit] at e; cases e; exact (N₃ _ (.head _)).1
      · obtain ⟨o', ho'⟩ := hl b hb hbI
        have e1 := ho' h₁ m' news' i hJ F₁ N₁
        rw [e] at e1; cases e1
        exact ho' h₃' m₂ news₂ (i + 1) hJ₃ F₃ N₃'
    | next =>
      obtain ⟨h₃', tk₃, m₂, news₂, rfl, F₃, N₃, hn₃, hJ₃⟩ := h₃
      have N₃' : News h₀ env.locals h₃' news₂ := fun p hp => N₃ p (.tail _ hp)
      refine ⟨n + 1 - (i + 1), by lia, h₃', tk₃, m₂, news₂, i + 1, rfl, ?_, F₃, N₃', hn₃, hJ₃, hlt, rfl⟩
      refine W.frame _ _ _ hst₁ fun b hb o e => ?_
      by_cases hbI : b = I
      · subst hbI; rw [hit] at e; cases e; exact (N₃ _ (.head _)).1
      · obtain ⟨o', ho'⟩ := hl b hb hbI
        have e1 := ho' h₁ m' news' i hJ F₁ N₁
        rw [e] at e1; cases e1
        exact ho' h₃' m₂ news₂ (i + 1) hJ₃ F₃ N₃'
  · have hin : i = n := by lia
    subst hin
    refine W.done _ _ _ hst' fun h₁ tk₁ hk₁ => wpAny_execs_nil ?_
    obtain ⟨F₁, N₁⟩ := next h₁ hk₁
    exact done m' news' h₁ tk₁ hJ F₁ N₁
/-- over a list that stands at an address while the loop runs -/
theorem iter_list {l : Addr} {vs : List Value} {m : Str → Option Value} {news : List (Addr × Obj)} (J : Nat → (Str → Option Value) → List (Addr × Obj) → Prop) {lo : Obj}
    (hh : A.handled = none) (hlo : lo.cls = .type "list" ∧ ∃ k, lo.data = .seq vs.toArray k)
    (hl : ∀ h m news i, J i m news → Fr h₀ env.locals h m → News h₀ env.locals h news → h.get? l = some lo)
    (F : Fr h₀ env.locals s.heap m) (N : News h₀ env.locals s.heap news) (h0 : J 0 m news)
    (turn : ∀ i v m₁ news₁ h tk it itO s₀, vs[i]? = some v → J i m₁ news₁ → Fr h₀ env.locals h m₁ → News h₀ env.locals h ((it, itO) :: news₁) → (∀ p ∈ news₁, p.1 ≠ it) → s₀.gens = s.gens → s₀.drawn = s.drawn → s₀.os = s.os →
      wpAny (model prog w) A (assign target env v) (fun _ s₃ => wpAny (model prog w) A (execs body env) (TurnP h₀ env.locals s₀ it itO (J (i + 1)) R) (fun _ _ => False) s₃) (fun _ _ => False) { s with heap := h, toks := tk })
    (done : ∀ m' news' h' tk, J vs.length m' news' → Fr h₀ env.locals h' m' → News h₀ env.locals h' news' → R (.ok .next) { s with heap := h', toks := tk }) :
    wpAny (model prog w) A (pyIter (.ref l)) (fun it s₂ => codeAny (model prog w) A (.forLoop target it body [] env) R s₂) (fun _ _ => False) s := by
  have hll := hl _ _ _ _ h0 F N
  have hls : s.heap.IsList l vs.toArray := ⟨lo, hll, hlo.1, hlo.2⟩
  have hne : l ≠ s.heap.objs.size := Nat.ne_of_lt (Heap.lt_size hll)
  refine wpAny_pyIter_list hls ?_
  have W := Walks.list (prog := prog) (w := w) hh s.heap.objs.size l hne vs.toArray
  have hpush : ∀ b o, s.heap.get? b = some o → (s.heap.push { cls := .type "list_iterator", data := .fields #[.ref l, .int 0 0] }).get? b = some o := fun b o e => Heap.get?_push_of_some _ e
  refine iter_W (h₀ := h₀) (m := m) (news := news) W J ?_ ?_ (fun i s' v Q' st hQ' => letGo_listiter st.1 hQ') (next_is_new F) ?_ ?_ ⟨⟨_, Heap.get?_push_size _ rfl, rfl, rfl⟩, hls.at fun o e => hpush _ _ e⟩ (F.push _) (fun p hp => ⟨hpush _ _ (N p hp).1, (N p hp).2⟩) h0 ?_ ?_
  · intro b hb hbI
    rcases List.mem_cons.mp hb with e | hb
    · exact absurd e hbI
    · rw [List.mem_singleton.mp hb]; exact ⟨lo, hl⟩
  · rintro i h ⟨⟨o, ho, hc, hd⟩, _⟩
    refine ⟨o, ho, ?_⟩
    obtain ⟨c, d, dt, sl⟩ := o
    dsimp only at hd
    subst hd
    rfl
  · intro e; exact absurd F.ns.lt (e ▸ Nat.lt_irrefl _)
  · intro p hp e; exact absurd (Heap.lt_size (N p hp).1) (e ▸ Nat.lt_irrefl _)
  · intro i v m₁ news₁ h tk itO hi hP hJ F₁ N₁ hn
    exact turn i v m₁ news₁ h tk _ itO _ (by simpa using hP) hJ F₁ N₁ hn rfl rfl rfl
  · intro m' news' h' tk hJ F' N'
    exact done m' news' h' tk (by simpa using hJ) F' N'
/-- over a range with a step that is not nought -/
theorem iter_range {r : Addr} {a b c : Int} {t u v : Tok} {n : Nat} {x : Str} {px : Pos} {m : Str → Option Value} {news : List (Addr × Obj)} (J : Nat → (Str → Option Value) → List (Addr × Obj) → Prop)
    (hh : A.handled = none) (hr : IsRange s.heap r a b c t u v) (hsmall : Builtin.Range.small a b c = true) (hn : Builtin.Range.rangeSize a b c = (n : Int))
    (F : Fr h₀ env.locals s.heap m) (N : News h₀ env.locals s.heap news) (h0 : J 0 m news)
    (turn : ∀ i t m₁ news₁ h tk it itO s₀, i < n → J i m₁ news₁ → Fr h₀ env.locals h m₁ → News h₀ env.locals h ((it, itO) :: news₁) → (∀ p ∈ news₁, p.1 ≠ it) → s₀.gens = s.gens → s₀.drawn = s.drawn → s₀.os = s.os →
      wpAny (model prog w) A (assign (.Name x px) env (.int (a + i * c) t)) (fun _ s₃ => wpAny (model prog w) A (execs body env) (TurnP h₀ env.locals s₀ it itO (J (i + 1)) R) (fun _ _ => False) s₃) (fun _ _ => False) { s with heap := h, toks := tk })
    (done : ∀ m' news' h' tk, J n m' news' → Fr h₀ env.locals h' m' → News h₀ env.locals h' news' → R (.ok .next) { s with heap := h', toks := tk }) :
    wpAny (model prog w) A (pyIter (.ref r)) (fun it s₂ => codeAny (model prog w) A (.forLoop (.Name x px) it body [] env) R s₂) (fun _ _ => False) s := by
  refine wpAny_pyIter_range hr hsmall ?_
  have W := Walks.range (prog := prog) (w := w) hh s.heap.objs.size a c n
  refine iter_W (h₀ := h₀) (m := m) (news := news) W J ?_ ?_ (fun i s' v Q' st hQ' => wpAny_pure hQ') (next_is_new F) ?_ ?_ (by show IsRangeIter _ _ _ _ _; rw [hn]; simpa using Heap.get?_push_size _ rfl) (F.push _) (fun p hp => ⟨Heap.get?_push_of_some _ (N p hp).1, (N p hp).2⟩) h0 ?_ ?_
  · intro b hb hbI
    exact absurd (List.mem_singleton.mp hb) hbI
  · intro i h hst
    exact ⟨_, hst, rfl⟩
  · intro e; exact absurd F.ns.lt (e ▸ Nat.lt_irrefl _)
  · intro p hp e; exact absurd (Heap.lt_size (N p hp).1) (e ▸ Nat.lt_irrefl _)
  · rintro i v m₁ news₁ h tk itO hi ⟨t, rfl⟩ hJ F₁ N₁ hn
    exact turn i t m₁ news₁ h tk _ itO _ hi hJ F₁ N₁ hn rfl rfl rfl
  · intro m' news' h' tk hJ F' N'
    exact done m' news' h' tk hJ F' N'
end
end Mine
theorem Mine.off_CallC : True := by w_top off; trivial
namespace Mine
section
variable {w : World} {A : Around} {s : Shared}
theorem call_fnC {R : Result → Shared → Prop} {name qual : Str} {params : Arguments} {body : List Stmt} {scope : Scope} {dV kV doc pm cdv ct oc : Value} {an od : Option Addr} {osl : Array (Option Value)} {f : Addr} {args : Args} {binds : List (Str × Value)}
    (G : Gd w s.heap) (hroom : A.depth < recursionLimit)
    (ho : (gen.heap_1 w.params).lookup f = some ⟨oc, od, .func (fnOf name qual params body scope dV kV doc pm an cdv ct), osl⟩) (hcd : codeIn (gen.heap_1 w.params) cdv qual = true)
    (hbind : BindsTo s (fnOf name qual params body scope dV kV doc pm an cdv ct) args binds) (hkind : (binds.all fun y => scope.names.lookup y.1 == some .local || scope.names.lookup y.1 == some .cell) = true)
    (hnd : ((cellsFrom 0 scope.names []).map (·.1)).Nodup)
    (h : ∀ h₁ tk cells, Fr s.heap s.heap.objs.size h₁ (bindL (envOfC qual scope s.heap.objs.size f cdv).kindOf binds fun _ => none) → News s.heap s.heap.objs.size h₁ cells →
      CellsAre (bindC (envOfC qual scope s.heap.objs.size f cdv).kindOf binds fun _ => none) (cellsFrom (s.heap.objs.size + 1) scope.names []) cells →
      wpAny (model PR w) (A.deeper (envOfC qual scope s.heap.objs.size f cdv)) (execs body (envOfC qual scope s.heap.objs.size f cdv))
        (fun fl s' => R (.ok (.ret (match fl with | .ret v => v | _ => .none))) s') (fun _ _ => False)
        { s with heap := h₁, toks := tk })
    (hco : scope.isCoroutine = false) (hgen : scope.isGenerator = false) (hk : scope.kind = .function) : codeAny (model PR w) A (.call (.ref f) args) R s := by
  refine codeAny_call_function hroom (G.K _ _ ho) rfl hco hgen rfl (codeRec_of G.K hcd) (hbind _ _ _ _ ?_)
  refine wpAny_newFunctionEnv_cells hk (kindsX hkind _) fun env' he s' x => ?_
  subst he
  refine ⟨G.nolimit.keeps x.toInCall.keep, codeAny_func ?_⟩
  obtain ⟨h₁, tk, rfl, _⟩ := x.done
  have hk₁ := x.toInCall.keep
  obtain ⟨cells, NC, Y⟩ := Cl.news (h₀ := s.heap) (Nat.le_refl _) fun n c hm => ⟨x.cell n c (lookup_of_mem_nodup (cellsFrom_names scope.names 0 (s.heap.objs.size + 1) [] [] rfl ▸ hnd) hm), x.above n c hm⟩
  exact wpAny_mono (h h₁ tk cells ⟨x.toInCall.ns, hk₁, Nat.le_refl _⟩ NC Y) (fun _ _ x => x) (fun _ _ x => x.elim)
end
end Mine
theorem Mine.off_CompLib : True := by w_top off; trivial
namespace Mine
section
variable {prog : Program} {w : World} {A : Around} {s : Shared} {env : Env} {E : Value → Shared → Prop}
theorem tests1 {M : Model} {c : Expr} {Q : Bool → Shared → Prop} (h : wpAny M A (isTrue c env (eval c env)) Q E s) :
    wpAny M A (forIn [c] true fun c r => if r = true then do let ok ← isTrue c env (eval c env); pure (ForInStep.yield ok) else pure (ForInStep.yield r)) Q E s := by
  rw [List.forIn_cons]
  simp only [if_true]
  refine wpAny_bind (wpAny_bind (wpAny_mono h (fun ok s' hq => wpAny_pure ?_) fun _ _ e => e))
  dsimp only
  rw [List.forIn_nil]
  exact wpAny_pure hq
theorem nameG_L {M : Model} {x : Str} {pos : Pos} {v : Value} {m : Str → Option Value} {Q : Value → Shared → Prop} (n : s.heap.Ns env.locals m) (hv : m x = some v) (h : Q v s)
    (hk : env.scope.kind = .function) (hx : env.kindOf x = some .local) (hd : (x == ("__debug__" : Str)) = false) : wpAny M A (eval (.Name x pos) env) Q E s := wpAny_Name (wpAny_loadName_local hk hx n hv h) hd
theorem nameG_C {M : Model} {x : Str} {pos : Pos} {v : Value} {c : Addr} {Q : Value → Shared → Prop} (hc : env.cells.lookup x = some c) (hv : s.heap.IsCell c (some v)) (h : Q v s)
    (hk : env.scope.kind = .function) (hx : env.kindOf x = some .cell) (hd : (x == ("__debug__" : Str)) = false) : wpAny M A (eval (.Name x pos) env) Q E s := wpAny_Name (wpAny_loadName_cell hk hx hc hv h) hd
/-- a list comprehension with one test over a list, its element the item itself; the answer's length alone is told -/
theorem comp_filter {x : Str} {px pe : Pos} {iter c : Expr} {scope : Scope} {cl : List (Str × Addr)} {pos : Pos} {Q : Value → Shared → Prop} {l : Addr} {vs : List Value} (p : Value → Bool)
    (hclos : closureFor scope env = pure cl) (hcell : ∀ y ∈ scope.names, y.2 ≠ .cell) (hkind : scope.kind = .function)
    (hnames : ∀ y ∈ scope.names, y.2 = .local → scope.names.lookup y.1 = some .local) (hx : scope.names.lookup x = some .local) (hxk : ∀ C, (compEnvC scope cl C env).kindOf x = some .local) (hxd : (x == ("__debug__" : Str)) = false)
    (hh : A.handled = none) (hlen : vs.length ≤ 1000)
    (hl : s.heap.IsList l vs.toArray)
    (hev : ∀ Q' : Value → Shared → Prop, Q' (.ref l) s → wpAny (model prog w) A (eval iter env) Q' E s)
    (htest : ∀ C v s₃ m₃ E', v ∈ vs → s₃.heap.Ns C m₃ → m₃ x = some v → (∀ b o, s.heap.get? b = some o → s₃.heap.get? b = some o) →
      wpAny (model prog w) A (isTrue c (compEnvC scope cl C env) (eval c (compEnvC scope cl C env))) (fun ok s₄ => ok = p v ∧ Keeps s₃ s₄) E' s₃)
    (hQ : ∀ D h' tk ys k, s.heap.get? D = none → h'.get? D = some (listOf ys k) → ys.toList.length = (vs.filter p).length → s.heap.StaysIn h' → Q (.ref D) { s with heap := h', toks := tk })
    (hs : ∀ x, foldedSetIterable iter env x = pure x) :
    wpAny (model prog w) A (eval (.ListComp (.Name x pe) [⟨.Name x px, iter, [c], 0⟩] scope pos) env) Q E s := by
  refine wpAny_ListComp_free p (fun v y => y = v) hclos hcell hkind hnames hx (hev _ ?_) hs
  obtain ⟨lo, hlo, _⟩ := id hl
  have hne : l ≠ s.heap.objs.size := Nat.ne_of_lt (Heap.lt_size hlo)
  refine wpAny_pyIter_list hl ?_
  have W := Walks.list (prog := prog) (w := w) hh s.heap.objs.size l hne vs.toArray
  have hpush : ∀ b o, s.heap.get? b = some o → (s.heap.push { cls := .type "list_iterator", data := .fields #[.ref l, .int 0 0] }).get? b = some o := fun b o e => Heap.get?_push_of_some _ e
  have hnI : ∀ b o, s.heap.get? b = some o → b ∉ [s.heap.objs.size] := fun b o e hb => by rw [List.mem_singleton.mp hb] at e; exact absurd (Heap.lt_size e) (Nat.lt_irrefl _)
  refine ⟨_, _, _, _, _, _, rfl, W, ?_, ⟨⟨_, Heap.get?_push_size _ rfl, rfl, rfl⟩, hl.at fun o e => hpush _ _ e⟩, ?_, ⟨?_, ?_⟩, ?_⟩
  · rw [sizeLine_eq, List.size_toArray]; lia
  · intro b hb
    show b < (s.heap.push _).objs.size
    rw [Heap.size_push]
    rcases List.mem_cons.mp hb with rfl | hb
    · exact Nat.lt_succ_self _
    · rw [List.mem_singleton.mp hb]; exact Nat.lt_succ_of_lt (Heap.lt_size hlo)
  · intro C i v s₃ m₃ E' _ hP hn hm hk _
    refine tests1 (htest C v s₃ m₃ E' ?_ hn hm fun b o e => hk b o (hnI b o e) (hpush b o e))
    exact List.mem_of_getElem? (by simpa using hP)
  · intro C i v s₃ m₃ E' _ hP hpv hn hm hk _
    exact nameG_L (env := compEnvC scope cl C env) hn hm ⟨rfl, _, _, rfl, fun _ _ e => e⟩ hkind (hxk C) hxd
  · intro D h' tk ys vs' hD hl' hpl hlen' hP hF hk
    have hvs : vs' = vs := by
      refine List.ext_getElem? fun j => ?_
      by_cases hj : j < vs'.length
      · have e := List.getElem?_eq_getElem hj
        rw [e]
        have := hP j _ e
        simpa using this.symm
      · rw [List.getElem?_eq_none (by lia), List.getElem?_eq_none (by have := hlen'; simp only [List.size_toArray] at this; lia)]
    subst hvs
    have hDn : s.heap.get? D = none := by
      cases q : s.heap.get? D with
      | none => rfl
      | some o => have := hpush _ _ q; dsimp only at hD; rw [this] at hD; cases hD
    obtain ⟨k0, hpl⟩ := hpl
    refine hQ D h' tk ys k0 hDn ?_ ?_ (fun b o e => hk b o (hnI b o e) (hpush b o e))
    · exact hpl
    · exact hF.length.symm
theorem ne_nil {l b : Addr} {ys : Array Value} {Q : Value → Shared → Prop} (hl : s.heap.IsList l ys) (hb : s.heap.IsList b #[]) (hu : A.units < cLine)
    (h : Q (.bool (!ys.toList.isEmpty)) s) : wpAny (model prog w) A (compareOp .NotEq (.ref l) (.ref b)) Q E s := by
  obtain ⟨l0⟩ := ys
  cases l0 with
  | nil => exact PySem.SeqAt.RcNeAt.lists (e := fun _ => true) hl hb rfl hu (fun j h1 => absurd h1 (by simp)) prog w E Q h
  | cons v r => exact PySem.SeqAt.RcNeAt.lists_lengths hl hb (by simp) hu prog w E Q h
theorem PairIn.uniq {h : Heap} {v : Value} {p q : Str × Str} (x : PairIn (fun a o => h.get? a = some o) v p) (y : PairIn (fun a o => h.get? a = some o) v q) : p = q := by
  obtain ⟨a, t1, t2, rfl, e⟩ := x
  obtain ⟨b, u1, u2, e2, e'⟩ := y
  cases e2
  have e : h.get? a = _ := e
  have e' : h.get? a = _ := e'
  rw [e] at e'
  simp only [tupOf, Option.some.injEq, Obj.mk.injEq, Data.seq.injEq, true_and, and_true] at e'
  have e3 : [Value.str p.1 t1, Value.str p.2 t2] = [Value.str q.1 u1, Value.str q.2 u2] := by simpa using e'
  simp only [List.cons.injEq, Value.str.injEq, and_true] at e3
  exact Prod.ext e3.1.1 e3.2.1
noncomputable def pOf (h : Heap) (f : Str × Str → Bool) (v : Value) : Bool := @decide (∃ q, PairIn (fun a o => h.get? a = some o) v q ∧ f q = true) (Classical.propDecidable _)
theorem pOf_is {h : Heap} {f : Str × Str → Bool} {v : Value} {q : Str × Str} (x : PairIn (fun a o => h.get? a = some o) v q) : pOf h f v = f q := by
  unfold pOf
  by_cases hf : f q = true
  · rw [hf]; exact @decide_eq_true _ (Classical.propDecidable _) ⟨q, x, hf⟩
  · rw [Bool.eq_false_iff.mpr hf]
    refine @decide_eq_false _ (Classical.propDecidable _) ?_
    rintro ⟨q', x', hf'⟩
    rw [x.uniq x'] at hf
    exact hf hf'
theorem pOf_filter {h : Heap} {f : Str × Str → Bool} {vs : List Value} {ps : List (Str × Str)} (x : Rel2 (PairIn fun a o => h.get? a = some o) vs ps) : (vs.filter (pOf h f)).length = (ps.filter f).length := by
  induction x with
  | nil => rfl
  | cons a _ ih =>
    simp only [List.filter_cons, pOf_is a]
    split <;> simp [ih]
theorem Rel2.mem {α β : Type} {R : α → β → Prop} {l : List α} {r : List β} (h : Rel2 R l r) {a : α} (ha : a ∈ l) : ∃ b, b ∈ r ∧ R a b := by
  induction h with
  | nil => cases ha
  | cons x _ ih =>
    rcases List.mem_cons.mp ha with rfl | ha
    · exact ⟨_, .head _, x⟩
    · obtain ⟨b, h1, h2⟩ := ih ha; exact ⟨b, .tail _ h1, h2⟩
end
end Mine
theorem Mine.off_TupTo : True := by w_top off; trivial
namespace Mine
section
variable {prog : Program} {w : World} {A : Around} {E : Value → Shared → Prop} {s : Shared} {h₀ : Heap} {L : Addr} {m : Str → Option Value} {news : List (Addr × Obj)}
theorem sliceApplied_to2 {sl : Addr} {u : Tok} {Q : Int × Int × Nat → Shared → Prop} (hs : s.heap.IsSliceOf sl .none (.int 2 u) .none) (h : Q (0, 1, 2) s) :
    wpAny (model prog w) A (Builtin.Slice.sliceApplied (.ref sl) (pure (3 : Int))) Q E s := by
  obtain ⟨os, hos, hcs, hds⟩ := id hs
  unfold Builtin.Slice.sliceApplied Builtin.Slice.sliceFields
  refine wpAny_bind (wpAny_bind (wpAny_field hos hds (x := .none) rfl (wpAny_bind (wpAny_field hos hds (x := .int 2 u) rfl (wpAny_bind (wpAny_field hos hds (x := .none) rfl (wpAny_pure ?_)))))))
  refine wpAny_bind (slicePart_none ?_)
  show wpAny _ _ (if ((1 : Int) == 0) = true then _ else _) _ _ s
  rw [if_neg (by decide)]
  refine wpAny_bind (slicePart_none (wpAny_bind (slicePart_int (wpAny_bind (wpAny_pure ?_)))))
  exact wpAny_pure h
theorem getItem_to2 {t sl : Addr} {a b c : Value} {u : Tok} {Q : Value → Shared → Prop} (ht : IsTup s.heap t #[a, b, c]) (hs : s.heap.IsSliceOf sl .none (.int 2 u) .none)
    (h : Q (.ref s.heap.objs.size) { s with heap := s.heap.push (tupOf [a, b]) }) : wpAny (model prog w) A (getItem (.ref t) (.ref sl)) Q E s := by
  obtain ⟨os, hos, hcs, hds⟩ := id hs
  have hTs : s.TypeIs (.ref sl) "slice" := ⟨os, hos, hcs⟩
  unfold getItem
  try with_reducible refine wpAny_holding ?_
  first | refine wpAny_bind (wpAny_pure ?_) | skip
  refine wpAny_bind (wpAny_sequenceKey ht.typeIs (by decide) ?_)
  refine wpAny_bind (wpAny_callSpecial?_slot (name := Str.ofString "__getitem__") ht.typeIs slot_tuple_getitem
    (wpAny_call_entry slot_tuple_getitem ht.typeIs entry_tuple_getitem ?_ (args_tuple_getitem _ _)))
  show wpAny _ _ (Builtin.Tuple.tupleItemsOf (.ref t) >>= _) _ _ s
  refine wpAny_bind (tupleItemsOf_ ht ?_)
  refine wpAny_bind (wpAny_typeOf hTs ?_)
  rw [if_pos (by decide)]
  refine wpAny_bind (sliceApplied_to2 hs ?_)
  have hdrop : sizeOk (.seq #[a, b]) := Nat.le_of_ble_eq_true rfl
  show wpAny _ _ (if ((0 : Int) == 0 && (1 : Int) == 1 && (2 : Nat) == 3) = true then _ else _) _ _ s
  rw [if_neg (by decide)]
  first
    | exact wpAny_bind (m := Builtin.Tuple.tupleExact _) (wpAny_newObj_type (wpAny_pure ⟨_, rfl, wpAny_pure h⟩) hdrop)
    | exact wpAny_bind (m := Builtin.Tuple.tupleExact _) (wpAny_newObj_type (wpAny_bind (wpAny_pure (wpAny_pure ⟨_, rfl, wpAny_pure h⟩))) hdrop)
    | exact wpAny_bind (wpAny_bind (m := Builtin.Tuple.tupleExact _) (wpAny_newObj_type (wpAny_pure (wpAny_pure ⟨_, rfl, wpAny_pure h⟩)) hdrop))
    | exact wpAny_bind (wpAny_bind (m := Builtin.Tuple.tupleExact _) (wpAny_newObj_type (wpAny_pure ⟨_, rfl, wpAny_pure h⟩) hdrop))
theorem slice_to2 {value slice : PySem.Expr} {t : Addr} {a b c : Value} {u : Tok} {Q : Value → Shared → Prop}
    (F : Fr h₀ L s.heap m) (N : News h₀ L s.heap news) (ht : IsTup s.heap t #[a, b, c])
    (h : ∀ D h', Fr h₀ L h' m → News h₀ L h' ((D, tupOf [a, b]) :: news) → (∀ p ∈ news, p.1 ≠ D) → Q (.ref D) { s with heap := h' })
    (hs : subscripted slice false (.ref t) (.ref s.heap.objs.size) = operate [.ref s.heap.objs.size, .ref t] (getItem (.ref t) (.ref s.heap.objs.size)))
    (hg : ∀ r, letTemporaryGo value (.ref t) r = pure ()) :
    wpAny (model prog w) A (subscriptTail value slice (.ref t) (.ref s.heap.objs.size)) Q E { s with heap := s.heap.push { cls := .type "slice", data := .fields #[.none, .int 2 u, .none] } } := by
  have ht' : IsTup (s.heap.push { cls := .type "slice", data := .fields #[.none, .int 2 u, .none] }) t #[a, b, c] := ht.keeps fun _ _ e => Heap.get?_push_of_some _ e
  refine subscriptTail_ops (s := { s with heap := s.heap.push { cls := .type "slice", data := .fields #[.none, .int 2 u, .none] } }) ht'.typeIs slot_tuple_getitem.lookup
    (getItem_to2 ht' (Heap.IsSliceOf.new ..) ?_) hs hg
  have N1 := News.push (F.push { cls := .type "slice", data := .fields #[.none, .int 2 u, .none] }) (N.grown fun _ _ e => Heap.get?_push_of_some _ e) (tupOf [a, b])
  rw [Heap.size_push] at N1
  show Q (.ref (s.heap.push _).objs.size) _
  rw [Heap.size_push]
  refine h _ _ ((F.push _).push _) N1 fun p hp e => ?_
  have q : p.1 < s.heap.objs.size := Heap.lt_size (N p hp).1
  rw [e] at q
  exact absurd q (Nat.not_lt.mpr (Nat.le_succ _))
end
end Mine
theorem Mine.off_CompInt : True := by w_top off; trivial
namespace Mine
noncomputable def pV (p : Int → Bool) : Value → Bool
  | .int i _ => p i
  | _ => false
noncomputable def IntTo (f : Int → Int) (v y : Value) : Prop := ∃ i t u, v = .int i t ∧ y = .int (f i) u
theorem ints_paired {p : Int → Bool} {f : Int → Int} {vs : List Value} {ns : List Int} (h : IntsAre vs ns) : ∀ {ys : List Value}, Paired (IntTo f) (vs.filter (pV p)) ys → IntsAre ys ((ns.filter p).map f) := by
  induction h with
  | nil => intro ys k; cases k; exact .nil
  | cons n t _ ih =>
    intro ys k
    rw [List.filter_cons] at k
    rw [List.filter_cons]
    by_cases hp : p n = true
    · rw [if_pos (show pV p (.int n t) = true from hp)] at k
      rw [if_pos hp]
      cases k with
      | cons a b =>
        obtain ⟨i, t', u, e1, e2⟩ := a
        cases e1
        subst e2
        exact .cons _ _ (ih b)
    · rw [if_neg (show ¬ pV p (.int n t) = true from hp)] at k
      rw [if_neg hp]
      exact ih k
theorem ints_of_get {vs : List Value} {g : Nat → Int} (h : ∀ j v, vs[j]? = some v → ∃ t, v = Value.int (g j) t) : IntsAre vs ((List.range vs.length).map g) := by
  induction vs generalizing g with
  | nil => exact .nil
  | cons v r ih =>
    obtain ⟨t, rfl⟩ := h 0 v rfl
    rw [List.length_cons, List.range_succ_eq_map, List.map_cons, List.map_map]
    exact .cons _ _ (ih fun j v e => h (j + 1) v (by simpa using e))
theorem ints_get {vs : List Value} {ns : List Int} (h : IntsAre vs ns) : ∀ {i : Nat} {v : Value}, vs[i]? = some v → ∃ t, v = Value.int (ns.getD i 0) t := by
  induction h with
  | nil => intro i v e; cases e
  | cons n t _ ih =>
    intro i v e
    cases i with
    | zero => simp at e; exact ⟨t, e.symm⟩
    | succ i => obtain ⟨u, hu⟩ := ih (i := i) (by simpa using e); exact ⟨u, by simpa using hu⟩
section
variable {prog : Program} {w : World} {A : Around} {s : Shared} {env : Env} {E : Value → Shared → Prop}
theorem tests0 {M : Model} {Q : Bool → Shared → Prop} (h : Q true s) :
    wpAny M A (forIn ([] : List Expr) true fun c r => if r = true then do let ok ← isTrue c env (eval c env); pure (ForInStep.yield ok) else pure (ForInStep.yield r)) Q E s := by
  rw [List.forIn_nil]
  exact wpAny_pure h
theorem walks_bound {I : Addr} {fp wr : List Addr} {n : Nat} {P : Nat → Value → Prop} {St : Nat → Heap → Prop} (W : Walks prog w A I fp wr n P St) : Walks prog w A I fp wr n (fun i v => P i v ∧ i < n) St where
  sub := W.sub
  frame := W.frame
  item := fun i s Q E hi st hQ => W.item i s Q E hi st fun v h' tk hP st' hk => hQ v h' tk ⟨hP, hi⟩ st' hk
  done := W.done
  self := W.self
theorem iter_core {elt iter : Expr} {x : Str} {px : Pos} {ifs : List Expr} {scope : Scope} {cl : List (Str × Addr)} {pos : Pos} {Q : Value → Shared → Prop} {I : Addr} {fp : List Addr} {n : Nat} {P : Nat → Value → Prop} {St : Nat → Heap → Prop} {s₂ : Shared} (p : Int → Bool) (f : Int → Int) (g : Nat → Int) (Inv : Heap → Prop)
    (W : Walks prog w A I fp [I] n P St) (hn : n ≤ 100000) (hst : St 0 s₂.heap) (hfp : ∀ b ∈ fp, b < s₂.heap.objs.size) {K : Nat → Prop} (hP : ∀ i v, P i v → ∃ t, v = Value.int (g i) t) (hPn : ∀ i v, P i v → K i) (hpres : ∀ h', (∀ b o, b ∉ [I] → s₂.heap.get? b = some o → h'.get? b = some o) → Inv h')
    (htest : ∀ C i t s₃ m₃ E', K i → s₃.heap.Ns C m₃ → m₃ x = some (.int (g i) t) → Inv s₃.heap → s₂.heap.objs.size ≤ C →
      wpAny (model prog w) A (forIn ifs true fun c r => if r = true then do let ok ← isTrue c (compEnvC scope cl C env) (eval c (compEnvC scope cl C env)); pure (ForInStep.yield ok) else pure (ForInStep.yield r)) (fun ok s₄ => ok = p (g i) ∧ Keeps s₃ s₄) E' s₃)
    (helt : ∀ C i t s₃ m₃ E', K i → p (g i) = true → s₃.heap.Ns C m₃ → m₃ x = some (.int (g i) t) → Inv s₃.heap → s₂.heap.objs.size ≤ C →
      wpAny (model prog w) A (eval elt (compEnvC scope cl C env)) (fun y s₄ => (∃ u, y = .int (f (g i)) u) ∧ Keeps s₃ s₄) E' s₃)
    (hQ : ∀ D h' tk ys k, s₂.heap.get? D = none → h'.get? D = some (listOf ys k) → IntsAre ys.toList ((((List.range n).map g).filter p).map f) → Inv h' → Q (.ref D) { s₂ with heap := h', toks := tk }) :
    ∃ I' fp wr n P St, Value.ref I = .ref I' ∧ Walks prog w A I' fp wr n P St ∧ n ≤ sizeLine ∧ St 0 s₂.heap ∧ (∀ b ∈ fp, b < s₂.heap.objs.size) ∧
      QuietOnC prog w A env scope cl x ifs elt wr P (pV p) (IntTo f) s₂ ∧
      (∀ D h' tk ys (vs : List Value), s₂.heap.get? D = none → h'.IsList D ys → h'.PlainList D ys → vs.length = n → (∀ j v, vs[j]? = some v → P j v) → Paired (IntTo f) (vs.filter (pV p)) ys.toList →
        (∀ b o, b ∉ wr → s₂.heap.get? b = some o → h'.get? b = some o) → Q (.ref D) { s₂ with heap := h', toks := tk }) := by
  refine ⟨I, fp, [I], n, P, St, rfl, W, by rw [sizeLine_eq]; lia, hst, hfp, ⟨?_, ?_⟩, ?_⟩
  · intro C i v s₃ m₃ E' hsC hv hns hm hk _
    obtain ⟨t, rfl⟩ := hP _ _ hv
    exact htest C i t s₃ m₃ E' (hPn _ _ hv) hns hm (hpres _ hk) hsC
  · intro C i v s₃ m₃ E' hsC hv hpv hns hm hk _
    obtain ⟨t, rfl⟩ := hP _ _ hv
    refine wpAny_mono (helt C i t s₃ m₃ E' (hPn _ _ hv) hpv hns hm (hpres _ hk) hsC) (fun y s₄ h => ?_) fun _ _ e => e
    obtain ⟨⟨u, rfl⟩, k⟩ := h
    exact ⟨⟨_, _, _, rfl, rfl⟩, k⟩
  · intro D h' tk ys vs hD hl hpl hlen hv hF hk
    obtain ⟨k0, hpl⟩ := hpl
    have hi := ints_of_get (g := g) fun j v e => hP j v (hv j v e)
    rw [hlen] at hi
    exact hQ D h' tk ys k0 hD hpl (ints_paired hi hF) (hpres _ hk)
theorem iter_coreA {elt iter : Expr} {x : Str} {px : Pos} {ifs : List Expr} {scope : Scope} {cl : List (Str × Addr)} {pos : Pos} {Q : Flow → Shared → Prop} {y : Str} {m₂ : Str → Option Value} {I : Addr} {fp : List Addr} {n : Nat} {P : Nat → Value → Prop} {St : Nat → Heap → Prop} {s₂ : Shared} (p : Int → Bool) (f : Int → Int) (g : Nat → Int) (Inv : Heap → Prop)
    (W : Walks prog w A I fp [I] n P St) (hn : n ≤ 100000) (hst : St 0 s₂.heap) (hfp : ∀ b ∈ fp, b < s₂.heap.objs.size) {K : Nat → Prop} (hP : ∀ i v, P i v → ∃ t, v = Value.int (g i) t) (hPn : ∀ i v, P i v → K i) (hpres : ∀ h', (∀ b o, b ∉ [I] → s₂.heap.get? b = some o → h'.get? b = some o) → Inv h')
    (htest : ∀ C i t s₃ m₃ E', K i → s₃.heap.Ns C m₃ → m₃ x = some (.int (g i) t) → Inv s₃.heap → s₂.heap.objs.size ≤ C →
      wpAny (model prog w) A (forIn ifs true fun c r => if r = true then do let ok ← isTrue c (compEnvC scope cl C env) (eval c (compEnvC scope cl C env)); pure (ForInStep.yield ok) else pure (ForInStep.yield r)) (fun ok s₄ => ok = p (g i) ∧ Keeps s₃ s₄) E' s₃)
    (helt : ∀ C i t s₃ m₃ E', K i → p (g i) = true → s₃.heap.Ns C m₃ → m₃ x = some (.int (g i) t) → Inv s₃.heap → s₂.heap.objs.size ≤ C →
      wpAny (model prog w) A (eval elt (compEnvC scope cl C env)) (fun y s₄ => (∃ u, y = .int (f (g i)) u) ∧ Keeps s₃ s₄) E' s₃)
    (hLI : env.locals ≠ I) (hns : s₂.heap.Ns env.locals m₂)
    (hQ : ∀ D h' tk ys k, s₂.heap.get? D = none → h'.get? D = some (listOf ys k) → IntsAre ys.toList ((((List.range n).map g).filter p).map f) → h'.Ns env.locals (fun z => if z = y then some (.ref D) else m₂ z) → (∀ b o, b ≠ env.locals → b ∉ [I] → s₂.heap.get? b = some o → h'.get? b = some o) → Q .next { s₂ with heap := h', toks := tk }) :
    ∃ I' fp wr n P St m, Value.ref I = .ref I' ∧ Walks prog w A I' fp wr n P St ∧ n ≤ sizeLine ∧ St 0 s₂.heap ∧ (∀ b ∈ fp, b < s₂.heap.objs.size) ∧ env.locals ∉ wr ∧ s₂.heap.Ns env.locals m ∧
      QuietOnC prog w A env scope cl x ifs elt wr P (pV p) (IntTo f) s₂ ∧
      (∀ D h' tk ys (vs : List Value), s₂.heap.get? D = none → h'.IsList D ys → h'.PlainList D ys → vs.length = n → (∀ j v, vs[j]? = some v → P j v) → Paired (IntTo f) (vs.filter (pV p)) ys.toList →
        h'.Ns env.locals (fun z => if z = y then some (.ref D) else m z) → (∀ b o, b ≠ env.locals → b ∉ wr → s₂.heap.get? b = some o → h'.get? b = some o) → Q .next { s₂ with heap := h', toks := tk }) := by
  refine ⟨I, fp, [I], n, P, St, m₂, rfl, W, by rw [sizeLine_eq]; lia, hst, hfp, by simpa using hLI, hns, ⟨?_, ?_⟩, ?_⟩
  · intro C i v s₃ m₃ E' hsC hv hns hm hk _
    obtain ⟨t, rfl⟩ := hP _ _ hv
    exact htest C i t s₃ m₃ E' (hPn _ _ hv) hns hm (hpres _ hk) hsC
  · intro C i v s₃ m₃ E' hsC hv hpv hns hm hk _
    obtain ⟨t, rfl⟩ := hP _ _ hv
    refine wpAny_mono (helt C i t s₃ m₃ E' (hPn _ _ hv) hpv hns hm (hpres _ hk) hsC) (fun y s₄ h => ?_) fun _ _ e => e
    obtain ⟨⟨u, rfl⟩, k⟩ := h
    exact ⟨⟨_, _, _, rfl, rfl⟩, k⟩
  · intro D h' tk ys vs hD hl hpl hlen hv hF hN hk
    obtain ⟨k0, hpl⟩ := hpl
    have hi := ints_of_get (g := g) fun j v e => hP j v (hv j v e)
    rw [hlen] at hi
    exact hQ D h' tk ys k0 hD hpl (ints_paired hi hF) hN hk
/-- the frame and the ledger, as a comprehension keeps them -/
noncomputable abbrev FN (h₀ : Heap) (L : Addr) (m : Str → Option Value) (news : List (Addr × Obj)) (h : Heap) : Prop := Fr h₀ L h m ∧ News h₀ L h news
theorem FN.pres {h₀ h h' : Heap} {L I : Addr} {m : Str → Option Value} {news : List (Addr × Obj)} {O : Obj} (x : FN h₀ L m news h) (hI : I = h.objs.size) (hk : ∀ b o, b ∉ [I] → (h.push O).get? b = some o → h'.get? b = some o) : FN h₀ L m news h' := by
  subst hI
  have key : ∀ b o, h.get? b = some o → h'.get? b = some o := fun b o e => hk b o (fun hb => by rw [List.mem_singleton.mp hb] at e; exact absurd (Heap.lt_size e) (Nat.lt_irrefl _)) (Heap.get?_push_of_some _ e)
  exact ⟨stayF x.1 key, stayN x.2 key⟩
theorem FN.comp {h₀ h h' : Heap} {L C : Addr} {m m₃ : Str → Option Value} {news : List (Addr × Obj)} {O : Obj} (x : FN h₀ L m news h) (hC : (h.push O).objs.size ≤ C) (y : FN h₀ L m news h') (hn : h'.Ns C m₃) : FN h₀ C m₃ news h' := by
  have hC' : h.objs.size < C := by rw [Heap.size_push] at hC; exact hC
  refine ⟨⟨hn, y.1.keep, Nat.le_of_lt (Nat.lt_of_le_of_lt x.1.above (Nat.lt_trans x.1.ns.lt hC'))⟩, fun p hp => ⟨(y.2 p hp).1, fun e => ?_, (y.2 p hp).2.2⟩⟩
  have := Heap.lt_size (x.2 p hp).1
  rw [e] at this
  exact Nat.lt_irrefl _ (Nat.lt_trans hC' this)
theorem FN.more {h₀ h h' : Heap} {L D : Addr} {m : Str → Option Value} {news : List (Addr × Obj)} {o O : Obj} (x : FN h₀ L m news h) (hD : (h.push O).get? D = none) (ho : h'.get? D = some o) (y : FN h₀ L m news h') : Fr h₀ L h' m ∧ News h₀ L h' ((D, o) :: news) ∧ (∀ p ∈ news, p.1 ≠ D) := by
  have hD' : h.get? D = none := by
    cases q : h.get? D with
    | none => rfl
    | some o => rw [Heap.get?_push_of_some O q] at hD; cases hD
  exact ⟨y.1, moreN x.1 y.2 hD' ho, neN' x.2 hD'⟩
theorem FN.moreA {h₀ h h' : Heap} {L D I : Addr} {m m' : Str → Option Value} {news : List (Addr × Obj)} {o O : Obj} (x : FN h₀ L m news h) (hI : I = h.objs.size) (hD : (h.push O).get? D = none) (ho : h'.get? D = some o) (hn : h'.Ns L m') (hk : ∀ b o, b ≠ L → b ∉ [I] → (h.push O).get? b = some o → h'.get? b = some o) : Fr h₀ L h' m' ∧ News h₀ L h' ((D, o) :: news) ∧ (∀ p ∈ news, p.1 ≠ D) := by
  subst hI
  have key : ∀ b o, b ≠ L → h.get? b = some o → h'.get? b = some o := fun b o hb e => hk b o hb (fun hb => by rw [List.mem_singleton.mp hb] at e; exact absurd (Heap.lt_size e) (Nat.lt_irrefl _)) (Heap.get?_push_of_some _ e)
  have hD' : h.get? D = none := by
    cases q : h.get? D with
    | none => rfl
    | some o => rw [Heap.get?_push_of_some O q] at hD; cases hD
  have F' : Fr h₀ L h' m' := ⟨hn, fun b o e => key b o (Nat.ne_of_lt (Nat.lt_of_lt_of_le (Heap.lt_size e) x.1.above)) (x.1.keep b o e), x.1.above⟩
  have N' : News h₀ L h' news := fun p hp => ⟨key _ _ (x.2 p hp).2.1 (x.2 p hp).1, (x.2 p hp).2⟩
  exact ⟨F', moreN x.1 N' hD' ho, neN' x.2 hD'⟩
/-- over a list of ints that the head makes -/
theorem comp_listE {elt iter : Expr} {x : Str} {px : Pos} {ifs : List Expr} {scope : Scope} {cl : List (Str × Addr)} {pos : Pos} {Q : Value → Shared → Prop} {h₀ : Heap} {L : Addr} {m : Str → Option Value} {news : List (Addr × Obj)} (_fn : FN h₀ L m news s.heap) (p : Int → Bool) (f : Int → Int) (PN : List Int → Prop)
    (hclos : closureFor scope env = pure cl) (hcell : ∀ y ∈ scope.names, y.2 ≠ .cell) (hkind : scope.kind = .function)
    (hnames : ∀ y ∈ scope.names, y.2 = .local → scope.names.lookup y.1 = some .local) (hx : scope.names.lookup x = some .local)
    (hh : A.handled = none) 
    (hev : ∀ Q' : Value → Shared → Prop, (∀ l vs ns h₁ tk, FN h₀ L m news h₁ → s.heap.StaysIn h₁ → h₁.IsList l vs.toArray → IntsAre vs ns → PN ns → vs.length ≤ 100000 → Q' (.ref l) { s with heap := h₁, toks := tk }) → wpAny (model prog w) A (eval iter env) Q' E s)
    (htest : ∀ C i t s₃ m₃ E', s₃.heap.Ns C m₃ → m₃ x = some (.int i t) → FN h₀ L m news s₃.heap → FN h₀ C m₃ news s₃.heap →
      wpAny (model prog w) A (forIn ifs true fun c r => if r = true then do let ok ← isTrue c (compEnvC scope cl C env) (eval c (compEnvC scope cl C env)); pure (ForInStep.yield ok) else pure (ForInStep.yield r)) (fun ok s₄ => ok = p i ∧ Keeps s₃ s₄) E' s₃)
    (helt : ∀ C i t s₃ m₃ E', p i = true → s₃.heap.Ns C m₃ → m₃ x = some (.int i t) → FN h₀ L m news s₃.heap → FN h₀ C m₃ news s₃.heap →
      wpAny (model prog w) A (eval elt (compEnvC scope cl C env)) (fun y s₄ => (∃ u, y = .int (f i) u) ∧ Keeps s₃ s₄) E' s₃)
    (hQ : ∀ D h' tk ys k ns, PN ns → s.heap.StaysIn h' → Fr h₀ L h' m → News h₀ L h' ((D, listOf ys k) :: news) → (∀ p ∈ news, p.1 ≠ D) → IntsAre ys.toList ((ns.filter p).map f) → Q (.ref D) { s with heap := h', toks := tk })
    (hs : ∀ x, foldedSetIterable iter env x = pure x) :
    wpAny (model prog w) A (eval (.ListComp elt [⟨.Name x px, iter, ifs, 0⟩] scope pos) env) Q E s := by
  refine wpAny_ListComp_free (pV p) (IntTo f) hclos hcell hkind hnames hx (hev _ fun l vs ns h₁ tk₁ fn hst hl hvs hpn hlen => ?_) hs
  obtain ⟨lo, hlo, _⟩ := id hl
  have hne : l ≠ h₁.objs.size := Nat.ne_of_lt (Heap.lt_size hlo)
  refine wpAny_pyIter_list hl ?_
  have W := Walks.list (prog := prog) (w := w) hh h₁.objs.size l hne vs.toArray
  have hpush : ∀ b o, h₁.get? b = some o → (h₁.push { cls := .type "list_iterator", data := .fields #[.ref l, .int 0 0] }).get? b = some o := fun b o e => Heap.get?_push_of_some _ e
  have hlen2 := hvs.length
  have hg : ∀ i v, vs.toArray[i]? = some v → ∃ t, v = Value.int (ns.getD i 0) t := by
    intro i v e
    exact ints_get hvs (by simpa using e)
  have hmem : ∀ i, i < vs.toArray.size → ns.getD i 0 ∈ ns := by
    intro i hi
    rw [List.size_toArray, hlen2] at hi
    rw [List.getD_eq_getElem?_getD, List.getElem?_eq_getElem hi]
    exact List.getElem_mem hi
  have hns : (List.range vs.toArray.size).map (fun i => ns.getD i 0) = ns := by
    rw [List.size_toArray, hlen2]
    apply List.ext_getElem?
    intro i
    by_cases hi : i < ns.length
    · simp [List.getElem?_range hi, List.getElem?_eq_getElem hi]
    · simp [List.getElem?_eq_none (Nat.le_of_not_lt hi), hi]
  refine iter_core (K := fun i => i < vs.toArray.size) p f (fun i => ns.getD i 0) (fun h => FN h₀ L m news h ∧ s.heap.StaysIn h) W (by rw [List.size_toArray]; omega) ⟨⟨_, Heap.get?_push_size _ rfl, rfl, rfl⟩, hl.at fun o e => hpush _ _ e⟩ ?_ hg ?_ (fun h' hk => ⟨fn.pres rfl hk, fun b o e => hk b o (fun hb => by rw [List.mem_singleton.mp hb] at e; exact absurd (Heap.lt_size (hst _ _ e)) (Nat.lt_irrefl _)) (Heap.get?_push_of_some _ (hst b o e))⟩) ?_ ?_ ?_ (iter := iter) (pos := pos) (px := px)
  · intro b hb
    show b < (h₁.push _).objs.size
    rw [Heap.size_push]
    rcases List.mem_cons.mp hb with rfl | hb
    · exact Nat.lt_succ_self _
    · rw [List.mem_singleton.mp hb]; exact Nat.lt_succ_of_lt (Heap.lt_size hlo)
  · intro i v e
    exact (Array.getElem?_eq_some_iff.mp e).1
  · intro C i t s₃ m₃ E' hi hn hm hk hsC
    exact htest C _ t s₃ m₃ E' hn hm hk.1 (fn.comp hsC hk.1 hn)
  · intro C i t s₃ m₃ E' hi hp hn hm hk hsC
    exact helt C _ t s₃ m₃ E' hp hn hm hk.1 (fn.comp hsC hk.1 hn)
  · intro D h' tk ys k hD hl' hys hk
    rw [hns] at hys
    obtain ⟨a, b, c⟩ := fn.more hD hl' hk.1
    exact hQ D h' tk ys k ns hpn hk.2 a b c hys
/-- over a list of ints -/
theorem comp_listA {elt iter : Expr} {x : Str} {px : Pos} {ifs : List Expr} {scope : Scope} {cl : List (Str × Addr)} {pos spos py : Pos} {y : Str} {Q : Flow → Shared → Prop} {l : Addr} {vs : List Value} {ns : List Int} {h₀ : Heap} {L : Addr} {m : Str → Option Value} {news : List (Addr × Obj)} (_fn : FN h₀ L m news s.heap) (p : Int → Bool) (f : Int → Int)
    (hL : env.locals = L) (hsw : swapsWith (.ListComp elt [⟨.Name x px, iter, ifs, 0⟩] scope pos) (some (.Name y py)) spos.line env = pure true) (hy : env.kindOf y = some .local) (hp : (env.scope.kind == .class || (env.scope.kind == .module && env.locals != env.globals)) = false)
    (hclos : closureFor scope env = pure cl) (hcell : ∀ y ∈ scope.names, y.2 ≠ .cell) (hkind : scope.kind = .function)
    (hnames : ∀ y ∈ scope.names, y.2 = .local → scope.names.lookup y.1 = some .local) (hx : scope.names.lookup x = some .local)
    (hh : A.handled = none) (hlen : vs.length ≤ 100000) (hvs : IntsAre vs ns)
    (hev : ∀ Q' : Value → Shared → Prop, (∀ h₁ tk, FN h₀ L m news h₁ → h₁.IsList l vs.toArray → Q' (.ref l) { s with heap := h₁, toks := tk }) → wpAny (model prog w) A (eval iter env) Q' E s)
    (htest : ∀ C i t s₃ m₃ E', i ∈ ns → s₃.heap.Ns C m₃ → m₃ x = some (.int i t) → FN h₀ L m news s₃.heap → FN h₀ C m₃ news s₃.heap →
      wpAny (model prog w) A (forIn ifs true fun c r => if r = true then do let ok ← isTrue c (compEnvC scope cl C env) (eval c (compEnvC scope cl C env)); pure (ForInStep.yield ok) else pure (ForInStep.yield r)) (fun ok s₄ => ok = p i ∧ Keeps s₃ s₄) E' s₃)
    (helt : ∀ C i t s₃ m₃ E', i ∈ ns → p i = true → s₃.heap.Ns C m₃ → m₃ x = some (.int i t) → FN h₀ L m news s₃.heap → FN h₀ C m₃ news s₃.heap →
      wpAny (model prog w) A (eval elt (compEnvC scope cl C env)) (fun y s₄ => (∃ u, y = .int (f i) u) ∧ Keeps s₃ s₄) E' s₃)
    (hQ : ∀ D h' tk ys k, Fr h₀ L h' (fun z => if z = y then some (.ref D) else m z) → News h₀ L h' ((D, listOf ys k) :: news) → (∀ p ∈ news, p.1 ≠ D) → IntsAre ys.toList ((ns.filter p).map f) → Q .next { s with heap := h', toks := tk })
    (hs : ∀ x, foldedSetIterable iter env x = pure x) :
    wpAny (model prog w) A (exec (.Assign [.Name y py] (.ListComp elt [⟨.Name x px, iter, ifs, 0⟩] scope pos) spos) env) Q E s := by
  subst hL
  refine wpAny_Assign_ListComp_free (pV p) (IntTo f) hsw hclos hcell hkind hnames hx hy hp (hev _ fun h₁ tk₁ fn hl => ?_) hs
  obtain ⟨lo, hlo, _⟩ := id hl
  have hne : l ≠ h₁.objs.size := Nat.ne_of_lt (Heap.lt_size hlo)
  refine wpAny_pyIter_list hl ?_
  have W := Walks.list (prog := prog) (w := w) hh h₁.objs.size l hne vs.toArray
  have hpush : ∀ b o, h₁.get? b = some o → (h₁.push { cls := .type "list_iterator", data := .fields #[.ref l, .int 0 0] }).get? b = some o := fun b o e => Heap.get?_push_of_some _ e
  have hlen2 := hvs.length
  have hg : ∀ i v, vs.toArray[i]? = some v → ∃ t, v = Value.int (ns.getD i 0) t := by
    intro i v e
    exact ints_get hvs (by simpa using e)
  have hmem : ∀ i, i < vs.toArray.size → ns.getD i 0 ∈ ns := by
    intro i hi
    rw [List.size_toArray, hlen2] at hi
    rw [List.getD_eq_getElem?_getD, List.getElem?_eq_getElem hi]
    exact List.getElem_mem hi
  have hns : (List.range vs.toArray.size).map (fun i => ns.getD i 0) = ns := by
    rw [List.size_toArray, hlen2]
    apply List.ext_getElem?
    intro i
    by_cases hi : i < ns.length
    · simp [List.getElem?_range hi, List.getElem?_eq_getElem hi]
    · simp [List.getElem?_eq_none (Nat.le_of_not_lt hi), hi]
  refine iter_coreA (y := y) (m₂ := m) (K := fun i => i < vs.toArray.size) p f (fun i => ns.getD i 0) (FN h₀ env.locals m news) W (by rw [List.size_toArray]; omega) ⟨⟨_, Heap.get?_push_size _ rfl, rfl, rfl⟩, hl.at fun o e => hpush _ _ e⟩ ?_ hg ?_ (fun h' hk => fn.pres rfl hk) ?_ ?_ ?l1 ?l2 ?_ (iter := iter) (pos := pos) (px := px)
  · intro b hb
    show b < (h₁.push _).objs.size
    rw [Heap.size_push]
    rcases List.mem_cons.mp hb with rfl | hb
    · exact Nat.lt_succ_self _
    · rw [List.mem_singleton.mp hb]; exact Nat.lt_succ_of_lt (Heap.lt_size hlo)
  · intro i v e
    exact (Array.getElem?_eq_some_iff.mp e).1
  · intro C i t s₃ m₃ E' hi hn hm hk hsC
    exact htest C _ t s₃ m₃ E' (hmem i hi) hn hm hk (fn.comp hsC hk hn)
  · intro C i t s₃ m₃ E' hi hp hn hm hk hsC
    exact helt C _ t s₃ m₃ E' (hmem i hi) hp hn hm hk (fn.comp hsC hk hn)
  case l1 => intro e; exact absurd fn.1.ns.lt (e ▸ Nat.lt_irrefl _)
  case l2 => exact (fn.1.push _).ns
  · intro D h' tk ys k hD hl' hys hN hk
    rw [hns] at hys
    obtain ⟨a, b, c⟩ := fn.moreA rfl hD hl' hN hk
    exact hQ D h' tk ys k a b c hys
/-- over a range of step one -/
theorem comp_rangeA {elt iter : Expr} {x : Str} {px : Pos} {ifs : List Expr} {scope : Scope} {cl : List (Str × Addr)} {pos spos py : Pos} {y : Str} {Q : Flow → Shared → Prop} {a b : Int} {n : Nat} {h₀ : Heap} {L : Addr} {m : Str → Option Value} {news : List (Addr × Obj)} (_fn : FN h₀ L m news s.heap) (p : Int → Bool) (f : Int → Int)
    (hL : env.locals = L) (hsw : swapsWith (.ListComp elt [⟨.Name x px, iter, ifs, 0⟩] scope pos) (some (.Name y py)) spos.line env = pure true) (hy : env.kindOf y = some .local) (hp : (env.scope.kind == .class || (env.scope.kind == .module && env.locals != env.globals)) = false)
    (hclos : closureFor scope env = pure cl) (hcell : ∀ y ∈ scope.names, y.2 ≠ .cell) (hkind : scope.kind = .function)
    (hnames : ∀ y ∈ scope.names, y.2 = .local → scope.names.lookup y.1 = some .local) (hx : scope.names.lookup x = some .local)
    (hh : A.handled = none) (hlen : n ≤ 100000) (hsmall : Builtin.Range.small a b 1 = true) (hn : Builtin.Range.rangeSize a b 1 = (n : Int))
    (hev : ∀ Q' : Value → Shared → Prop, (∀ r h₁ tk t u v, FN h₀ L m news h₁ → IsRange h₁ r a b 1 t u v → Q' (.ref r) { s with heap := h₁, toks := tk }) → wpAny (model prog w) A (eval iter env) Q' E s)
    (htest : ∀ C (i : Nat) t s₃ m₃ E', i < n → s₃.heap.Ns C m₃ → m₃ x = some (.int (a + (i : Nat)) t) → FN h₀ L m news s₃.heap → FN h₀ C m₃ news s₃.heap →
      wpAny (model prog w) A (forIn ifs true fun c r => if r = true then do let ok ← isTrue c (compEnvC scope cl C env) (eval c (compEnvC scope cl C env)); pure (ForInStep.yield ok) else pure (ForInStep.yield r)) (fun ok s₄ => ok = p (a + (i : Nat)) ∧ Keeps s₃ s₄) E' s₃)
    (helt : ∀ C (i : Nat) t s₃ m₃ E', i < n → p (a + (i : Nat)) = true → s₃.heap.Ns C m₃ → m₃ x = some (.int (a + (i : Nat)) t) → FN h₀ L m news s₃.heap → FN h₀ C m₃ news s₃.heap →
      wpAny (model prog w) A (eval elt (compEnvC scope cl C env)) (fun y s₄ => (∃ u, y = .int (f (a + (i : Nat))) u) ∧ Keeps s₃ s₄) E' s₃)
    (hQ : ∀ D h' tk ys k, Fr h₀ L h' (fun z => if z = y then some (.ref D) else m z) → News h₀ L h' ((D, listOf ys k) :: news) → (∀ p ∈ news, p.1 ≠ D) → IntsAre ys.toList ((((List.range n).map fun i => a + ((i : Nat) : Int)).filter p).map f) → Q .next { s with heap := h', toks := tk })
    (hs : ∀ x, foldedSetIterable iter env x = pure x) :
    wpAny (model prog w) A (exec (.Assign [.Name y py] (.ListComp elt [⟨.Name x px, iter, ifs, 0⟩] scope pos) spos) env) Q E s := by
  subst hL
  refine wpAny_Assign_ListComp_free (pV p) (IntTo f) hsw hclos hcell hkind hnames hx hy hp (hev _ fun r h₁ tk₁ t u v fn hr => ?_) hs
  refine wpAny_pyIter_range hr hsmall ?_
  have W := walks_bound (Walks.range (prog := prog) (w := w) hh h₁.objs.size a 1 n)
  refine iter_coreA (y := y) (m₂ := m) (K := fun i => i < n) p f (fun i => a + (i : Nat)) (FN h₀ env.locals m news) W hlen (by show IsRangeIter _ _ _ _ _; rw [hn]; simpa using Heap.get?_push_size _ rfl) ?_ ?_ ?_ (fun h' hk => fn.pres rfl hk) ?_ ?_ ?l1 ?l2 ?_ (iter := iter) (pos := pos) (px := px)
  · intro b hb
    show b < (h₁.push _).objs.size
    rw [Heap.size_push, List.mem_singleton.mp hb]
    exact Nat.lt_succ_self _
  · rintro i v ⟨⟨t, rfl⟩, _⟩
    exact ⟨t, by simp⟩
  · exact fun i v h => h.2
  · intro C i t s₃ m₃ E' hi hn hm hk hsC; exact htest C i t s₃ m₃ E' hi hn hm hk (fn.comp hsC hk hn)
  · intro C i t s₃ m₃ E' hi hp hn hm hk hsC; exact helt C i t s₃ m₃ E' hi hp hn hm hk (fn.comp hsC hk hn)
  case l1 => intro e; exact absurd fn.1.ns.lt (e ▸ Nat.lt_irrefl _)
  case l2 => exact (fn.1.push _).ns
  · intro D h' tk ys k hD hl' hys hN hk
    obtain ⟨a, b, c⟩ := fn.moreA rfl hD hl' hN hk
    exact hQ D h' tk ys k a b c hys
/-- over a range, no test, the element some int of which pj holds -/
theorem comp_rangeS {elt iter : Expr} {x : Str} {px : Pos} {scope : Scope} {cl : List (Str × Addr)} {pos : Pos} {Q : Value → Shared → Prop} {a b : Int} {n : Nat} {h₀ : Heap} {L : Addr} {m : Str → Option Value} {news : List (Addr × Obj)} (_fn : FN h₀ L m news s.heap) (pj : Int → Prop)
    (hclos : closureFor scope env = pure cl) (hcell : ∀ y ∈ scope.names, y.2 ≠ .cell) (hkind : scope.kind = .function)
    (hnames : ∀ y ∈ scope.names, y.2 = .local → scope.names.lookup y.1 = some .local) (hx : scope.names.lookup x = some .local)
    (hh : A.handled = none) (hlen : n ≤ 100000) (hsmall : Builtin.Range.small a b 1 = true) (hn : Builtin.Range.rangeSize a b 1 = (n : Int))
    (hev : ∀ Q' : Value → Shared → Prop, (∀ r h₁ tk t u v, FN h₀ L m news h₁ → IsRange h₁ r a b 1 t u v → Q' (.ref r) { s with heap := h₁, toks := tk }) → wpAny (model prog w) A (eval iter env) Q' E s)
    (helt : ∀ C (i : Nat) t s₃ m₃ E', i < n → m₃ x = some (.int (a + (i : Nat)) t) → FN h₀ C m₃ news s₃.heap →
      wpAny (model prog w) A (eval elt (compEnvC scope cl C env)) (fun y s₄ => (∃ j u, y = .int j u ∧ pj j) ∧ Keeps s₃ s₄) E' s₃)
    (hQ : ∀ D h' tk ys k ms, Fr h₀ L h' m → News h₀ L h' ((D, listOf ys k) :: news) → (∀ p ∈ news, p.1 ≠ D) → IntsAre ys.toList ms → ms.length = n → (∀ j ∈ ms, pj j) → Q (.ref D) { s with heap := h', toks := tk })
    (hs : ∀ x, foldedSetIterable iter env x = pure x) :
    wpAny (model prog w) A (eval (.ListComp elt [⟨.Name x px, iter, [], 0⟩] scope pos) env) Q E s := by
  refine wpAny_ListComp_free (fun _ => true) (fun _ y => ∃ j u, y = .int j u ∧ pj j) hclos hcell hkind hnames hx (hev _ fun r h₁ tk₁ t u v fn hr => ?_) hs
  refine wpAny_pyIter_range hr hsmall ?_
  have W := walks_bound (Walks.range (prog := prog) (w := w) hh h₁.objs.size a 1 n)
  refine ⟨_, _, _, n, _, _, rfl, W, by rw [sizeLine_eq]; lia, (by show IsRangeIter _ _ _ _ _; rw [hn]; simpa using Heap.get?_push_size _ rfl), ?_, ⟨?_, ?_⟩, ?_⟩
  · intro b hb
    show b < (h₁.push _).objs.size
    rw [Heap.size_push, List.mem_singleton.mp hb]
    exact Nat.lt_succ_self _
  · intro C i v s₃ m₃ E' hsC hv hns hm hk _
    exact tests0 ⟨rfl, _, _, rfl, fun _ _ e => e⟩
  · rintro C i v s₃ m₃ E' hsC ⟨⟨t, rfl⟩, hi⟩ _ hns hm hk _
    exact helt C i t s₃ m₃ E' hi (by simpa using hm) (fn.comp hsC (fn.pres rfl hk) hns)
  · intro D h' tk ys vs hD hl hpl hlen' hv hF hk
    obtain ⟨k0, hpl⟩ := hpl
    obtain ⟨a', b', c'⟩ := fn.more hD hpl (fn.pres rfl hk)
    rw [List.filter_eq_self.mpr (fun _ _ => rfl)] at hF
    obtain ⟨ms, h1, h2, h3⟩ : ∃ ms, IntsAre ys.toList ms ∧ ms.length = vs.length ∧ ∀ j ∈ ms, pj j := by
      clear hv hlen' hpl hl b'
      generalize ys.toList = l at hF
      induction hF with
      | nil => exact ⟨[], .nil, rfl, fun _ h => nomatch h⟩
      | cons h _ ih =>
        obtain ⟨j, u, rfl, hp⟩ := h
        obtain ⟨ms, h1, h2, h3⟩ := ih
        exact ⟨j :: ms, .cons _ _ h1, by simp [h2], fun k hk => by rcases List.mem_cons.mp hk with rfl | hk; exact hp; exact h3 _ hk⟩
    exact hQ D h' tk ys k0 ms a' b' c' h1 (h2.trans hlen') h3
theorem sum_lst {l : Addr} {vs : List Value} {ns : List Int} {Q : Value → Shared → Prop} (hh : A.handled = none) (hl : s.heap.IsList l vs.toArray) (hi : IntsAre vs ns) (hfit : PySem.SumFits ns)
    (h : ∀ h' tk t', s.heap.StaysIn h' → Q (.int ns.sum t') { s with heap := h', toks := tk }) : wpAny (model prog w) A (call (.builtin "sum") [.ref l]) Q E s := by
  obtain ⟨xs, e⟩ := hi.allInts.items
  have hns : ns = xs.toList.map (·.1) := by
    rw [← hi.numsOf, ← nums_intItems, ← e]
  rw [e] at hl
  subst hns
  refine sum_intList hh hl (fun j hj => ?_) fun h' tk t' hk => ?_
  · rw [numAt_eq, preSum_eq]; exact hfit j (by simpa using hj)
  · have := h h' tk t' hk
    rw [preSum_eq, List.take_of_length_le (by simp)]; exact this
/-- a list that the base bears, its length -/
theorem len_lst {l : Addr} {vs : List Value} {n : Nat} {Q : Value → Shared → Prop} (hl : s.heap.IsList l vs.toArray) (he : vs.length = n) (hb : n ≤ 100000)
    (h : Q (.int (n : Int) (s.toks + 1)) { s with toks := s.toks + 1 + 1 }) : wpAny (model prog w) A (call (.builtin "len") [.ref l]) Q E s := by
  refine PyProof.Rows.len_list hl ?_ ?_
  · rw [List.size_toArray]; lia
  · rw [List.size_toArray, he]; exact h
theorem min_one {h₀ : Heap} {L l : Addr} {m : Str → Option Value} {news : List (Addr × Obj)} {vs : List Value} {k : Int} {Q : Value → Shared → Prop} (F : Fr h₀ L s.heap m) (N : News h₀ L s.heap news) (hl : s.heap.IsList l vs.toArray) (hi : IntsAre vs [k]) (hh : A.handled = none)
    (h : ∀ h' (t : Tok) tk, Fr h₀ L h' m → News h₀ L h' news → Q (.int k t) { s with heap := h', toks := tk }) : wpAny (model prog w) A (call (.builtin "min") [.ref l]) Q E s :=
  kso_min F N hl hi (by simp) hh fun h' M t tk F' N' hM _ => by
    rw [List.mem_singleton.mp hM]
    exact h h' t tk F' N'
theorem range1F {h₀ : Heap} {L : Addr} {m : Str → Option Value} {news : List (Addr × Obj)} {n : Int} {t : Tok} {Q : Value → Shared → Prop} (F : Fr h₀ L s.heap m) (N : News h₀ L s.heap news)
    (h : ∀ r h' tk t₁ u₁ v₁, Fr h₀ L h' m → News h₀ L h' news → IsRange h' r 0 n 1 t₁ u₁ v₁ → Q (.ref r) { s with heap := h', toks := tk }) : wpAny (model prog w) A (call (.type "range") [.int n t]) Q E s :=
  range1_rows F N fun h' tk t₁ u₁ v₁ hr F' N' _ => h _ h' tk t₁ u₁ v₁ F' N' hr
theorem range2F {h₀ : Heap} {L : Addr} {m : Str → Option Value} {news : List (Addr × Obj)} {a b : Int} {t u : Tok} {Q : Value → Shared → Prop} (F : Fr h₀ L s.heap m) (N : News h₀ L s.heap news)
    (h : ∀ r h' tk t₁ u₁ v₁, Fr h₀ L h' m → News h₀ L h' news → IsRange h' r a b 1 t₁ u₁ v₁ → Q (.ref r) { s with heap := h', toks := tk }) : wpAny (model prog w) A (call (.type "range") [.int a t, .int b u]) Q E s :=
  range2_rows F N fun h' tk t₁ u₁ v₁ hr F' N' _ => h _ h' tk t₁ u₁ v₁ F' N' hr
end
section
variable {prog : Program} {w : World} {A : Around} {s : Shared} {env : Env} {h₀ : Heap} {target : Expr} {body : List Stmt} {R : Result → Shared → Prop}
theorem iter_listL {L : Addr} (hL : env.locals = L) {l : Addr} {vs : List Value} {m : Str → Option Value} {news : List (Addr × Obj)} (J : Nat → (Str → Option Value) → List (Addr × Obj) → Prop) {lo : Obj}
    (hh : A.handled = none) (hlo : lo.cls = .type "list" ∧ ∃ k, lo.data = .seq vs.toArray k)
    (hl : ∀ h m news i, J i m news → Fr h₀ L h m → News h₀ L h news → h.get? l = some lo)
    (F : Fr h₀ L s.heap m) (N : News h₀ L s.heap news) (h0 : J 0 m news)
    (turn : ∀ i v m₁ news₁ h tk it itO s₀, vs[i]? = some v → J i m₁ news₁ → Fr h₀ L h m₁ → News h₀ L h ((it, itO) :: news₁) → (∀ p ∈ news₁, p.1 ≠ it) → s₀.gens = s.gens → s₀.drawn = s.drawn → s₀.os = s.os →
      wpAny (model prog w) A (assign target env v) (fun _ s₃ => wpAny (model prog w) A (execs body env) (TurnP h₀ L s₀ it itO (J (i + 1)) R) (fun _ _ => False) s₃) (fun _ _ => False) { s with heap := h, toks := tk })
    (done : ∀ m' news' h' tk, J vs.length m' news' → Fr h₀ L h' m' → News h₀ L h' news' → R (.ok .next) { s with heap := h', toks := tk }) :
    wpAny (model prog w) A (pyIter (.ref l)) (fun it s₂ => codeAny (model prog w) A (.forLoop target it body [] env) R s₂) (fun _ _ => False) s := by
  subst hL
  exact iter_list J hh hlo hl F N h0 turn done
theorem iter_rangeL {L : Addr} (hL : env.locals = L) {r : Addr} {a b c : Int} {t u v : Tok} {n : Nat} {x : Str} {px : Pos} {m : Str → Option Value} {news : List (Addr × Obj)} (J : Nat → (Str → Option Value) → List (Addr × Obj) → Prop)
    (hh : A.handled = none) (hr : IsRange s.heap r a b c t u v) (hsmall : Builtin.Range.small a b c = true) (hn : Builtin.Range.rangeSize a b c = (n : Int))
    (F : Fr h₀ L s.heap m) (N : News h₀ L s.heap news) (h0 : J 0 m news)
    (turn : ∀ i t m₁ news₁ h tk it itO s₀, i < n → J i m₁ news₁ → Fr h₀ L h m₁ → News h₀ L h ((it, itO) :: news₁) → (∀ p ∈ news₁, p.1 ≠ it) → s₀.gens = s.gens → s₀.drawn = s.drawn → s₀.os = s.os →
      wpAny (model prog w) A (assign (.Name x px) env (.int (a + i * c) t)) (fun _ s₃ => wpAny (model prog w) A (execs body env) (TurnP h₀ L s₀ it itO (J (i + 1)) R) (fun _ _ => False) s₃) (fun _ _ => False) { s with heap := h, toks := tk })
    (done : ∀ m' news' h' tk, J n m' news' → Fr h₀ L h' m' → News h₀ L h' news' → R (.ok .next) { s with heap := h', toks := tk }) :
    wpAny (model prog w) A (pyIter (.ref r)) (fun it s₂ => codeAny (model prog w) A (.forLoop (.Name x px) it body [] env) R s₂) (fun _ _ => False) s := by
  subst hL
  exact iter_range J hh hr hsmall hn F N h0 turn done
end
section
variable {prog : Program} {w : World} {A : Around} {env : Env} {h₀ : Heap} {target : Expr} {body : List Stmt} {R : Result → Shared → Prop} {hp : Heap} {g : Array GenState} {d : Drawn} {t0 : Nat} {os : OsState}
/-- iter_listL with the state spelt out -/
theorem loopL {L : Addr} (hL : env.locals = L) {l : Addr} {vs : List Value} {m : Str → Option Value} {news : List (Addr × Obj)} (J : Nat → (Str → Option Value) → List (Addr × Obj) → Prop) {lo : Obj}
    (hh : A.handled = none) (hlo : lo.cls = .type "list" ∧ ∃ k, lo.data = .seq vs.toArray k)
    (hl : ∀ h m news i, J i m news → Fr h₀ L h m → News h₀ L h news → h.get? l = some lo)
    (F : Fr h₀ L hp m) (N : News h₀ L hp news) (h0 : J 0 m news)
    (turn : ∀ i v m₁ news₁ h tk it itO, vs[i]? = some v → J i m₁ news₁ → Fr h₀ L h m₁ → News h₀ L h ((it, itO) :: news₁) → (∀ p ∈ news₁, p.1 ≠ it) →
      wpAny (model prog w) A (assign target env v) (fun _ s₃ => wpAny (model prog w) A (execs body env) (TurnP h₀ L ⟨hp, g, d, t0, os⟩ it itO (J (i + 1)) R) (fun _ _ => False) s₃) (fun _ _ => False) ⟨h, g, d, tk, os⟩)
    (done : ∀ m' news' h' tk, J vs.length m' news' → Fr h₀ L h' m' → News h₀ L h' news' → R (.ok .next) ⟨h', g, d, tk, os⟩) :
    wpAny (model prog w) A (pyIter (.ref l)) (fun it s₂ => codeAny (model prog w) A (.forLoop target it body [] env) R s₂) (fun _ _ => False) ⟨hp, g, d, t0, os⟩ := by
  refine iter_listL hL J hh hlo hl F N h0 (fun i v m₁ news₁ h tk it itO s₀ a b c e f q1 q2 q3 => ?_) done
  obtain ⟨x1, x2, x3, x4, x5⟩ := s₀
  dsimp only at q1 q2 q3
  subst q1 q2 q3
  exact turn i v m₁ news₁ h tk it itO a b c e f
theorem loopR {L : Addr} (hL : env.locals = L) {r : Addr} {a b c : Int} {t u v : Tok} {n : Nat} {x : Str} {px : Pos} {m : Str → Option Value} {news : List (Addr × Obj)} (J : Nat → (Str → Option Value) → List (Addr × Obj) → Prop)
    (hh : A.handled = none) (hr : IsRange hp r a b c t u v) (hsmall : Builtin.Range.small a b c = true) (hn : Builtin.Range.rangeSize a b c = (n : Int))
    (F : Fr h₀ L hp m) (N : News h₀ L hp news) (h0 : J 0 m news)
    (turn : ∀ i t m₁ news₁ h tk it itO, i < n → J i m₁ news₁ → Fr h₀ L h m₁ → News h₀ L h ((it, itO) :: news₁) → (∀ p ∈ news₁, p.1 ≠ it) →
      wpAny (model prog w) A (assign (.Name x px) env (.int (a + i * c) t)) (fun _ s₃ => wpAny (model prog w) A (execs body env) (TurnP h₀ L ⟨hp, g, d, t0, os⟩ it itO (J (i + 1)) R) (fun _ _ => False) s₃) (fun _ _ => False) ⟨h, g, d, tk, os⟩)
    (done : ∀ m' news' h' tk, J n m' news' → Fr h₀ L h' m' → News h₀ L h' news' → R (.ok .next) ⟨h', g, d, tk, os⟩) :
    wpAny (model prog w) A (pyIter (.ref r)) (fun it s₂ => codeAny (model prog w) A (.forLoop (.Name x px) it body [] env) R s₂) (fun _ _ => False) ⟨hp, g, d, t0, os⟩ := by
  refine iter_rangeL hL J hh hr hsmall hn F N h0 (fun i t m₁ news₁ h tk it itO s₀ a b c e f q1 q2 q3 => ?_) done
  obtain ⟨x1, x2, x3, x4, x5⟩ := s₀
  dsimp only at q1 q2 q3
  subst q1 q2 q3
  exact turn i t m₁ news₁ h tk it itO a b c e f
theorem TurnP.go {L it : Addr} {itO : Obj} {J : (Str → Option Value) → List (Addr × Obj) → Prop} {h' : Heap} {tk : Nat} {m' : Str → Option Value} {news' : List (Addr × Obj)}
    (F : Fr h₀ L h' m') (N : News h₀ L h' ((it, itO) :: news')) (hn : ∀ p ∈ news', p.1 ≠ it) (hJ : J m' news') : TurnP h₀ L ⟨hp, g, d, t0, os⟩ it itO J R .next ⟨h', g, d, tk, os⟩ := ⟨h', tk, m', news', rfl, F, N, hn, hJ⟩
end
theorem ldX {M : Model} {A : Around} {E : Value → Shared → Prop} {s : Shared} {h₀ : Heap} {L a : Addr} {m : Str → Option Value} {cn : Str} {cs : Scope} {ccd : Value} {cl : List (Str × Addr)} {x : Str} {v : Value} {Q : Value → Shared → Prop} (F : Fr h₀ L s.heap m) (hv : m x = some v) (h : Q v s)
    (hk : cs.kind = .function) (hx : (envX cn cs L a ccd cl).kindOf x = some .local) : wpAny M A (loadName (envX cn cs L a ccd cl) x) Q E s := wpAny_loadName_local hk hx F.ns hv h
theorem allNe_mem {d : Addr} : ∀ {l : List (Addr × Obj)}, AllNe d l → ∀ p ∈ l, p.1 ≠ d
  | [], _, _, hp => nomatch hp
  | _ :: _, h, p, hp => by
    rcases List.mem_cons.mp hp with rfl | hp
    · exact h.1
    · exact allNe_mem h.2 _ hp
theorem sum_lstF {prog : Program} {w : World} {A : Around} {E : Value → Shared → Prop} {s : Shared} {h₀ : Heap} {L : Addr} {m : Str → Option Value} {news : List (Addr × Obj)} {l : Addr} {vs : List Value} {ns : List Int} {Q : Value → Shared → Prop} (F : Fr h₀ L s.heap m) (N : News h₀ L s.heap news) (hh : A.handled = none) (hl : s.heap.IsList l vs.toArray) (hi : IntsAre vs ns) (hfit : PySem.SumFits ns)
    (h : ∀ h' tk t', Fr h₀ L h' m → News h₀ L h' news → Q (.int ns.sum t') { s with heap := h', toks := tk }) : wpAny (model prog w) A (call (.builtin "sum") [.ref l]) Q E s :=
  sum_lst hh hl hi hfit fun h' tk t' hk => h h' tk t' (stayF F hk) (stayN N hk)
theorem ints_get2 {vs : List Value} {ns : List Int} (h : IntsAre vs ns) : ∀ {i : Nat} {v : Value}, vs[i]? = some v → ∃ n t, v = Value.int n t ∧ ns[i]? = some n := by
  induction h with
  | nil => intro i v e; cases e
  | cons n t _ ih =>
    intro i v e
    cases i with
    | zero => simp at e; exact ⟨n, t, e.symm, rfl⟩
    | succ i => obtain ⟨n, t, h1, h2⟩ := ih (i := i) (by simpa using e); exact ⟨n, t, h1, by simpa using h2⟩
theorem foldl_take_succ {α β : Type} {f : β → α → β} {z : β} {l : List α} {k : Nat} {a : α} (h : l[k]? = some a) : (l.take (k + 1)).foldl f z = f ((l.take k).foldl f z) a := by
  rw [List.take_succ, h]; simp
/-- over a text, sign by sign -/
theorem iter_strL {prog : Program} {w : World} {A : Around} {s : Shared} {env : Env} {h₀ : Heap} {body : List Stmt} {R : Result → Shared → Prop} {L : Addr} (hL : env.locals = L) {x : Str} {tx : Tok} {y : Str} {px : Pos} {m : Str → Option Value} {news : List (Addr × Obj)} (J : Nat → (Str → Option Value) → List (Addr × Obj) → Prop)
    (hh : A.handled = none) (F : Fr h₀ L s.heap m) (N : News h₀ L s.heap news) (h0 : J 0 m news)
    (turn : ∀ i c u m₁ news₁ h tk it itO s₀, x.cps[i]? = some c → J i m₁ news₁ → Fr h₀ L h m₁ → News h₀ L h ((it, itO) :: news₁) → (∀ p ∈ news₁, p.1 ≠ it) → s₀.gens = s.gens → s₀.drawn = s.drawn → s₀.os = s.os →
      wpAny (model prog w) A (assign (.Name y px) env (.str ⟨#[c]⟩ u)) (fun _ s₃ => wpAny (model prog w) A (execs body env) (TurnP h₀ L s₀ it itO (J (i + 1)) R) (fun _ _ => False) s₃) (fun _ _ => False) { s with heap := h, toks := tk })
    (done : ∀ m' news' h' tk, J x.cps.size m' news' → Fr h₀ L h' m' → News h₀ L h' news' → R (.ok .next) { s with heap := h', toks := tk }) :
    wpAny (model prog w) A (pyIter (.str x tx)) (fun it s₂ => codeAny (model prog w) A (.forLoop (.Name y px) it body [] env) R s₂) (fun _ _ => False) s := by
  subst hL
  have go : ∀ (cls : String) (o : Obj), Walks prog w A s.heap.objs.size [s.heap.objs.size] [s.heap.objs.size] x.cps.size (SignAt x) (fun i h => h.IsStrIter s.heap.objs.size cls x tx i) → (s.heap.push o).IsStrIter s.heap.objs.size cls x tx 0 →
      codeAny (model prog w) A (.forLoop (.Name y px) (.ref s.heap.objs.size) body [] env) R { s with heap := s.heap.push o } := by
    intro cls o W hst
    refine iter_W (h₀ := h₀) (m := m) (news := news) W J ?_ ?_ (fun i s' v Q' st hQ' => wpAny_pure hQ') (next_is_new F) ?_ ?_ hst (F.push _) (fun p hp => ⟨Heap.get?_push_of_some _ (N p hp).1, (N p hp).2⟩) h0 ?_ ?_
    · intro b hb hbI
      exact absurd (List.mem_singleton.mp hb) hbI
    · rintro i h ⟨o, ho, hc, hd⟩
      refine ⟨o, ho, ?_⟩
      obtain ⟨c, d, dt, sl⟩ := o
      dsimp only at hd
      subst hd
      rfl
    · intro e; exact absurd F.ns.lt (e ▸ Nat.lt_irrefl _)
    · intro p hp e; exact absurd (Heap.lt_size (N p hp).1) (e ▸ Nat.lt_irrefl _)
    · rintro i v m₁ news₁ h tk itO hi ⟨c, u, hc, rfl⟩ hJ F₁ N₁ hn
      exact turn i c u m₁ news₁ h tk _ itO _ hc hJ F₁ N₁ hn rfl rfl rfl
    · intro m' news' h' tk hJ F' N'
      exact done m' news' h' tk hJ F' N'
  cases ha : x.cps.all (· < 128)
  · exact wpAny_pyIter_wide ha (go "str_iterator" _ (Walks.strWide hh _ x tx) ⟨_, Heap.get?_push_size _ rfl, rfl, rfl⟩)
  · exact wpAny_pyIter_ascii ha (go "str_ascii_iterator" _ (Walks.strAscii hh _ x tx) ⟨_, Heap.get?_push_size _ rfl, rfl, rfl⟩)
/-- a callee's frame over a base in which the caller's own are hidden -/
theorem rebaseFr {h h₁ : Heap} {L : Addr} {m : Str → Option Value} {as : List (Addr × Obj)} (F : Fr h L h₁ m) (hall : ∀ p ∈ as, h.get? p.1 = some p.2) : Fr (hideAll h (as.map (·.1))) L h₁ m ∧ News (hideAll h (as.map (·.1))) L h₁ as := by
  refine ⟨⟨F.ns, fun b o e => F.keep b o (of_hideAll _ e), by rw [hideAll_size]; exact F.above⟩, fun p hp => ⟨F.keep _ _ (hall p hp), fun e => ?_, hideAll_none _ (List.mem_map.mpr ⟨p, hp, rfl⟩)⟩⟩
  have := Heap.lt_size (hall p hp)
  rw [e] at this
  exact absurd F.above (Nat.not_le.mpr this)
theorem stays_hide {h₀ h : Heap} {as : List (Addr × Obj)} (k : h₀.StaysIn h) (hn : ∀ p ∈ as, h₀.get? p.1 = none) : h₀.StaysIn (hideAll h (as.map (·.1))) := fun b o e => by
  refine hideAll_get _ (k b o e) fun hb => ?_
  obtain ⟨p, hp, rfl⟩ := List.mem_map.mp hb
  rw [hn p hp] at e; cases e
noncomputable def TurnB (h₀ : Heap) (L : Addr) (s : Shared) (it : Addr) (itO : Obj) (J P : (Str → Option Value) → List (Addr × Obj) → Prop) (f : Flow) (s₃ : Shared) : Prop :=
  match f with
  | .ret _ => False
  | .brk => ∃ h' tk m' news', s₃ = { s with heap := h', toks := tk } ∧ Fr h₀ L h' m' ∧ News h₀ L h' news' ∧ P m' news'
  | _ => ∃ h' tk m' news', s₃ = { s with heap := h', toks := tk } ∧ Fr h₀ L h' m' ∧ News h₀ L h' ((it, itO) :: news') ∧ (∀ p ∈ news', p.1 ≠ it) ∧ J m' news'
theorem TurnB.next {h₀ : Heap} {s : Shared} {L : Addr} {it : Addr} {itO : Obj} {J P : (Str → Option Value) → List (Addr × Obj) → Prop} {h' : Heap} {tk : Nat} {m' : Str → Option Value} {news' : List (Addr × Obj)}
    (F : Fr h₀ L h' m') (N : News h₀ L h' ((it, itO) :: news')) (hn : ∀ p ∈ news', p.1 ≠ it) (hJ : J m' news') : TurnB h₀ L s it itO J P .next { s with heap := h', toks := tk } := ⟨h', tk, m', news', rfl, F, N, hn, hJ⟩
theorem TurnB.brk {h₀ : Heap} {s : Shared} {L : Addr} {it : Addr} {itO : Obj} {J P : (Str → Option Value) → List (Addr × Obj) → Prop} {h' : Heap} {tk : Nat} {m' : Str → Option Value} {news' : List (Addr × Obj)}
    (F : Fr h₀ L h' m') (N : News h₀ L h' news') (hP : P m' news') : TurnB h₀ L s it itO J P .brk { s with heap := h', toks := tk } := ⟨h', tk, m', news', rfl, F, N, hP⟩
theorem iter_strB {prog : Program} {w : World} {A : Around} {s : Shared} {env : Env} {h₀ : Heap} {body : List Stmt} {R : Result → Shared → Prop} {L : Addr} (hL : env.locals = L) {x : Str} {tx : Tok} {y : Str} {px : Pos} {m : Str → Option Value} {news : List (Addr × Obj)} (J : Nat → (Str → Option Value) → List (Addr × Obj) → Prop) (P : (Str → Option Value) → List (Addr × Obj) → Prop)
    (hh : A.handled = none) (F : Fr h₀ L s.heap m) (N : News h₀ L s.heap news) (h0 : J 0 m news)
    (turn : ∀ i c u m₁ news₁ h tk it itO s₀, x.cps[i]? = some c → J i m₁ news₁ → Fr h₀ L h m₁ → News h₀ L h ((it, itO) :: news₁) → (∀ p ∈ news₁, p.1 ≠ it) → s₀.gens = s.gens → s₀.drawn = s.drawn → s₀.os = s.os →
      wpAny (model prog w) A (assign (.Name y px) env (.str ⟨#[c]⟩ u)) (fun _ s₃ => wpAny (model prog w) A (execs body env) (TurnB h₀ L s₀ it itO (J (i + 1)) P) (fun _ _ => False) s₃) (fun _ _ => False) { s with heap := h, toks := tk })
    (last : ∀ m' news', J x.cps.size m' news' → P m' news')
    (done : ∀ m' news' h' tk, P m' news' → Fr h₀ L h' m' → News h₀ L h' news' → R (.ok .next) { s with heap := h', toks := tk }) :
    wpAny (model prog w) A (pyIter (.str x tx)) (fun it s₂ => codeAny (model prog w) A (.forLoop (.Name y px) it body [] env) R s₂) (fun _ _ => False) s := by
  refine iter_strL hL J hh F N h0 (fun i c u m₁ news₁ h tk it itO s₀ hc hJ F₁ N₁ hn hg hd ho => ?_) fun m' news' h' tk hJ F' N' => done m' news' h' tk (last _ _ hJ) F' N'
  refine wpAny_mono (turn i c u m₁ news₁ h tk it itO s₀ hc hJ F₁ N₁ hn hg hd ho) (fun _ s₃ h₃ => wpAny_mono h₃ (fun f s₄ h₄ => ?_) fun _ _ e => e) fun _ _ e => e
  cases f with
  | ret v => exact h₄.elim
  | brk =>
    obtain ⟨h', tk', m', news', rfl, F', N', hP⟩ := h₄
    obtain ⟨a, b, c, d, e⟩ := s₀
    dsimp only at hg hd ho
    subst hg hd ho
    exact done m' news' h' tk' hP F' N'
  | next => exact h₄
  | cont => exact h₄
end Mine
local macro_rules | `(tactic| walk_at $s:str) => `(tactic| k_extra $s)
local macro_rules | `(tactic| k_room) => `(tactic| ((try simp only [depth_under_make, depth_under_kw, depth_in1, depth_deeper, depth_caller, recursionLimit]); omega))
local macro_rules | `(tactic| k_ne) => `(tactic| walk_at "ne1")
theorem Mine.off_S1 : True := by w_top off; trivial
theorem Mine.rs_S1 {M : Model} {A : Around} {E : Value → Shared → Prop} {s : Shared} {Q : Flow → Shared → Prop} {p : Pos} {env : Env} (h : wpAny M A (exec (Stmt.Pass p) env) Q E s) : wpAny M A (exec (Stmt.Pass p) env) Q E s := by first | (walk1; fail) | exact h
namespace Mine
theorem reg_S1c : True := by
  k_with_none
  k_with "cj" => (first | with_reducible assumption | exact cj1 (by with_reducible assumption) | exact cj2 (by with_reducible assumption) | exact cj3 (by with_reducible assumption) | exact cj4 (by with_reducible assumption) | exact cj5 (by with_reducible assumption) | exact ce2 (by with_reducible assumption) | exact ce3 (by with_reducible assumption) | exact ce4 (by with_reducible assumption) | exact ce5 (by with_reducible assumption))
  k_with "ne1" => (refine neN ?_; first | with_reducible assumption | (refine Ne.symm ?_; with_reducible assumption) | walk_at "cj" | (refine Ne.symm ?_; walk_at "cj") | (refine Nat.ne_of_lt ?_; walk_at "cj") | (refine Nat.ne_of_gt ?_; walk_at "cj") | ((try dsimp only); omega))
  k_with "eval Constant int" => (refine r_int ?_)
  k_with "eval Constant str" => (refine r_str ?_)
  k_with "binaryOp Add int int" => (refine r_add ?_)
  k_with "binaryOp Sub int int" => (refine r_sub ?_)
  k_with "unaryOp USub int" => (refine r_neg ?_)
  k_with "inplaceOp Add int int" => (refine r_iadd ?_)
  k_with "eval Slice" => (refine r_slice ?_)
  k_with "SlQ" => (refine SlQ.go ?_)
  k_with "mget" => (first | with_reducible assumption | with_reducible exact upd_eq | ((with_reducible refine Eq.trans upd_eq ?_); rfl) | ((with_reducible refine upd_ne (by kernel_rfl) ?_); walk_at "mget") | (goal_lacks upd; first | exact if_pos rfl | (refine Eq.trans (if_neg (by decide)) ?_; walk_at "mget")))
  k_with "newTuple" => ((refine' r_tuple (by walk_at "asm") (by walk_at "asm") (by exact Nat.le_of_ble_eq_true rfl) ?_); intro _ _ _ _ _; walk_at "lt"; (try k_sweep))
  k_with "ite" => (first | with_reducible refine ite_tt ?_ | with_reducible refine ite_ff ?_ | (refine ite_pos (by with_reducible assumption) ?_) | (refine ite_neg (by refine ne_true_of_eq_false ?_; with_reducible assumption) ?_))
  k_with "tup" => (first | (refine News.isTup (by walk_at "asm") (by walk_at "mem")) | with_reducible assumption | (refine stays_tup (Fr.keep (by walk_at "asm")) (by walk_at "asm")))
  k_with "lst" => (first | (refine News.isList (by walk_at "asm") (by walk_at "mem")) | with_reducible assumption | (refine stays_list (Fr.keep (by walk_at "asm")) (by walk_at "asm")))
  k_with "off" => (first | exact List.forall_mem_nil _ | exact OwnOff.ne (by with_reducible assumption) (List.Mem.head _) | (refine List.forall_mem_cons.mpr ?_; refine And.intro ?_ ?_; (focus k_ne); (walk_at "off")))
  k_with "upd" => (first | (apply upd_hd; walk_at "off") | (apply upd_tl; (case hne => k_ne); (case hu => walk_at "upd")))
  k_with "RunTo" => ((first | refine NextTo.next (by with_reducible assumption) ?_ | refine NextTo.ret (by with_reducible assumption) ?_ | refine NextTo.brk (by with_reducible assumption) ?_ | refine NextTo.cont (by with_reducible assumption) ?_); (try dsimp only))
  k_with "go" => (repeat' (first | (k_unfold; (try dsimp only)) | walk1 | (dsimp only; walk1)))
  k_with "sides" => (((case b => (k_is)); (case c => (k_is)); (case a => (exact Ar.room (by assumption))); (case d => (exact BindsTo.of_eq rfl)); (case e => (exact locs rfl)); (case g => (rfl)); (case h => (rfl)); (case i => (rfl)); (case j => (decide))))
  k_with "mem" => (first | exact List.Mem.head _ | (refine' List.Mem.tail _ ?_; walk_at "mem"))
  k_with "units" => (first | exact Ar.units0 (by assumption) _ | exact Ar.unitsD (by assumption) (by decide) _)
  k_with "asm" => (with_reducible assumption)
  k_with "lt" => (((rename ∀ p ∈ _, (p : Addr × Obj).1 < _ => l9); (replace l9 := allLt_of l9); (dsimp only [AllLt] at l9)))
  k_with "ne" => (((rename ∀ p ∈ _, (p : Addr × Obj).1 ≠ _ => l9); (replace l9 := allNe_of l9); (dsimp only [AllNe] at l9)))
  k_with "storeName" => ((with_reducible refine' r_store (by walk_at "asm") (by walk_at "asm") (by kernel_rfl) ?_); intro _ _ _; (try k_sweep))
  k_with "exec While Compare cons nil" => (refine Halt.out ?_)
  k_with "exec While BoolOp cons nil" => (refine Halt.out ?_)
  k_with "exec While Constant cons nil" => (refine Halt.out ?_)
  k_with "exec While Name cons nil" => (refine Halt.out ?_)
  k_with "exec While" => (refine Halt.out ?_)
  k_with "execs cons" => (first | (refine execs_lastQ (fun tk => ?_)) | (refine execs_consQ (fun tk qk hqk => ?_)))
  k_with "newList" => (((refine' r_list (by walk_at "asm") (by walk_at "asm") (by exact Nat.le_of_ble_eq_true rfl) ?_); intro _ _ _ _ _; walk_at "lt"; (try k_sweep)))
  k_with "subscriptTail Name Slice str ref" => ((with_reducible first | refine' slice_ss5 (by walk_at "asm") (by walk_at "asm") (by with_reducible assumption) ?_ | refine' slice_sn5 (by walk_at "asm") (by walk_at "asm") (by with_reducible assumption) ?_); intro _ _ _ _ _; (try k_sweep))
  k_with "handled" => (first | exact Ar.hhD (by assumption) _ | exact Ar.hh (by assumption) | rfl)
  k_with "assign Tuple" => (((with_reducible show wpAny _ _ (assign (Expr.Tuple _ _ _) _ (Value.ref _)) _ _ _); k_dflt (refine' r_unpack (by walk_at "asm") (by walk_at "asm") (by walk_at "tup") (by walk_at "handled") rfl rfl ?_); intro _ _ _; (try k_sweep)))
  k_with "asz" => (k_dflt (first | exact aszL (by with_reducible assumption) | exact Nat.le_of_ble_eq_true rfl))
  k_with "call builtin:list.append" => (((with_reducible show wpAny _ _ (call (Value.builtin _) [Value.ref _, _]) _ _ _); (refine' r_append (by walk_at "asm") (by walk_at "asm") (by walk_at "upd") (by walk_at "asz") ?_); intro _ _ _; (try k_sweep)))
  k_with "sub" => ((intro _ hpK9; first | exact List.mem_of_mem_tail hpK9 | (simp only [List.mem_cons, List.mem_append] at hpK9 ⊢; grind)))
  k_with "exec For Tuple Name cons nil" => ((k_dflt (refine' wpAny_For ?_ (by intro _; rfl))))
  k_with "exec For Name Name cons nil" => ((k_dflt (refine' wpAny_For ?_ (by intro _; rfl))))
  k_with "exec For Name Call cons nil" => ((k_dflt (refine' wpAny_For ?_ (by intro _; rfl))))
  k_with "exec For Name List cons nil" => ((k_dflt (refine' wpAny_For ?_ (by intro _; rfl))))
  k_with "exec For Name Attribute cons nil" => ((k_dflt (refine' wpAny_For ?_ (by intro _; rfl))))
  k_with "pyIter ref" => (refine Halt.out ?_)
  k_with "subscriptTail Name Constant ref int" => (((with_reducible show wpAny _ _ (subscriptTail _ _ (Value.ref _) (Value.int _ _)) _ _ _); (refine' item_tupleL (by refine' News.isTup (by walk_at "asm") (by walk_at "mem")) (by decide) (by decide) rfl rfl ?_ (by with_unfolding_all rfl) (by intro _; with_unfolding_all rfl))))
  k_with "eval Name" => ((goal_lacks compEnvC; first | (with_reducible refine' nmK (by decide +kernel) (by walk_at "asm") (by walk_at "mget") ?_) | k_dflt (first | (goal_lacks envOf; refine' nameX_L (by walk_at "asm") (by walk_at "mget") ?_ rfl (by with_unfolding_all rfl) (by decide)) | (goal_lacks envOf; refine' nameX_C (by walk_at "asm") rfl (by walk_at "mem") (by walk_at "asm") ?_ rfl (by with_unfolding_all rfl) (by decide)) | (refine' nameX_K (by walk_at "asm") (by walk_at "asm") (by k_asm) (by k_is) ?_ rfl (by with_unfolding_all rfl) (by decide)) | (refine' nameX_B (by walk_at "asm") (by walk_at "asm") (by k_asm) (by k_is) (by boot_fast) (by decide) ?_ rfl (by with_unfolding_all rfl) (by decide)))))
  k_with "loadName" => ((first | (with_reducible refine' ldL (by walk_at "asm") (by walk_at "mget") (by kernel_rfl) ?_) | k_dflt (refine' ldX (by walk_at "asm") (by walk_at "mget") ?_ rfl (by with_unfolding_all rfl))))
  trivial
set_option maxRecDepth 100000 in
set_option maxHeartbeats 4000000 in
theorem sign_walk {w : World} {s : Shared} {A : Around} {x : Str} {i : Int} {tx ti : Tok} {R : Result → Shared → Prop} (G : Gd w s.heap) (hA : Ar A 1 10) (hx : x.length ≤ 100000)
   (hR : ∀ a h' tk t1 t2, s.heap.StaysIn h' → s.heap.get? a = none → h'.get? a = some (tupOf [.str (signF x i).1 t1, .int (signF x i).2 t2]) → R (.ok (.ret (.ref a))) {s with heap := h', toks := tk}) :
   codeAny (model PR w) A (.call (.ref 149) ⟨[.str x tx, .int i ti], []⟩) R s := by
  refine' call_fn (binds := [(Str.ofString "text", .str x tx), (Str.ofString "i", .int i ti)]) G ?a ?b ?c ?d ?e ?f ?g ?h ?i ?j
  walk_at "sides"
  intro h₁ m hm F
  have m1 : m (Str.ofString "text") = some (.str x tx) := by rw [hm]; rfl
  have m2 : m (Str.ofString "i") = some (.int i ti) := by rw [hm]; rfl
  clear hm
  obtain ⟨p, loose, mean, mg, mb, T⟩ := G.T
  have X := G.K
  have N : News s.heap s.heap.objs.size h₁ [] := News.nil
  walk_at "go"
  · rename ((_ : Str) == _) = true => hc
    unfold signF at hR
    rw [if_pos hc] at hR
    exact hR _ _ _ _ _ (Fr.keep (by assumption)) (fresh0 (by assumption)) (at0 (by assumption))
  · rename ((_ : Str) == _) = false => hc
    unfold signF at hR
    rw [if_neg (by rw [hc]; decide)] at hR
    exact hR _ _ _ _ _ (Fr.keep (by assumption)) (fresh0 (by assumption)) (at0 (by assumption))
end Mine
theorem Mine.off_S2 : True := by w_top off; trivial
theorem Mine.rs_S2 {M : Model} {A : Around} {E : Value → Shared → Prop} {s : Shared} {Q : Flow → Shared → Prop} {p : Pos} {env : Env} (h : wpAny M A (exec (Stmt.Pass p) env) Q E s) : wpAny M A (exec (Stmt.Pass p) env) Q E s := by first | (walk1; fail) | exact h
namespace Mine
theorem reg_S2c : True := by
  k_with_none
  k_with "cj" => (first | with_reducible assumption | exact cj1 (by with_reducible assumption) | exact cj2 (by with_reducible assumption) | exact cj3 (by with_reducible assumption) | exact cj4 (by with_reducible assumption) | exact cj5 (by with_reducible assumption) | exact ce2 (by with_reducible assumption) | exact ce3 (by with_reducible assumption) | exact ce4 (by with_reducible assumption) | exact ce5 (by with_reducible assumption))
  k_with "ne1" => (refine neN ?_; first | with_reducible assumption | (refine Ne.symm ?_; with_reducible assumption) | walk_at "cj" | (refine Ne.symm ?_; walk_at "cj") | (refine Nat.ne_of_lt ?_; walk_at "cj") | (refine Nat.ne_of_gt ?_; walk_at "cj") | ((try dsimp only); omega))
  k_with "eval Constant int" => (refine r_int ?_)
  k_with "eval Constant str" => (refine r_str ?_)
  k_with "binaryOp Add int int" => (refine r_add ?_)
  k_with "binaryOp Sub int int" => (refine r_sub ?_)
  k_with "unaryOp USub int" => (refine r_neg ?_)
  k_with "inplaceOp Add int int" => (refine r_iadd ?_)
  k_with "eval Slice" => (refine r_slice ?_)
  k_with "SlQ" => (refine SlQ.go ?_)
  k_with "mget" => (first | with_reducible assumption | with_reducible exact upd_eq | ((with_reducible refine Eq.trans upd_eq ?_); rfl) | ((with_reducible refine upd_ne (by kernel_rfl) ?_); walk_at "mget") | (goal_lacks upd; first | exact if_pos rfl | (refine Eq.trans (if_neg (by decide)) ?_; walk_at "mget")))
  k_with "newTuple" => ((refine' r_tuple (by walk_at "asm") (by walk_at "asm") (by exact Nat.le_of_ble_eq_true rfl) ?_); intro _ _ _ _ _; walk_at "lt"; (try k_sweep))
  k_with "ite" => (first | with_reducible refine ite_tt ?_ | with_reducible refine ite_ff ?_ | (refine ite_pos (by with_reducible assumption) ?_) | (refine ite_neg (by refine ne_true_of_eq_false ?_; with_reducible assumption) ?_))
  k_with "tup" => (first | (refine News.isTup (by walk_at "asm") (by walk_at "mem")) | with_reducible assumption | (refine stays_tup (Fr.keep (by walk_at "asm")) (by walk_at "asm")))
  k_with "lst" => (first | (refine News.isList (by walk_at "asm") (by walk_at "mem")) | with_reducible assumption | (refine stays_list (Fr.keep (by walk_at "asm")) (by walk_at "asm")))
  k_with "off" => (first | exact List.forall_mem_nil _ | exact OwnOff.ne (by with_reducible assumption) (List.Mem.head _) | (refine List.forall_mem_cons.mpr ?_; refine And.intro ?_ ?_; (focus k_ne); (walk_at "off")))
  k_with "upd" => (first | (apply upd_hd; walk_at "off") | (apply upd_tl; (case hne => k_ne); (case hu => walk_at "upd")))
  k_with "RunTo" => ((first | refine NextTo.next (by with_reducible assumption) ?_ | refine NextTo.ret (by with_reducible assumption) ?_ | refine NextTo.brk (by with_reducible assumption) ?_ | refine NextTo.cont (by with_reducible assumption) ?_); (try dsimp only))
  k_with "go" => (repeat' (first | (k_unfold; (try dsimp only)) | walk1 | (dsimp only; walk1)))
  k_with "sides" => (((case b => (k_is)); (case c => (k_is)); (case a => (exact Ar.room (by assumption))); (case d => (exact BindsTo.of_eq rfl)); (case e => (exact locs rfl)); (case g => (rfl)); (case h => (rfl)); (case i => (rfl)); (case j => (decide))))
  k_with "mem" => (first | exact List.Mem.head _ | (refine' List.Mem.tail _ ?_; walk_at "mem"))
  k_with "units" => (first | exact Ar.units0 (by assumption) _ | exact Ar.unitsD (by assumption) (by decide) _)
  k_with "asm" => (with_reducible assumption)
  k_with "lt" => (((rename ∀ p ∈ _, (p : Addr × Obj).1 < _ => l9); (replace l9 := allLt_of l9); (dsimp only [AllLt] at l9)))
  k_with "ne" => (((rename ∀ p ∈ _, (p : Addr × Obj).1 ≠ _ => l9); (replace l9 := allNe_of l9); (dsimp only [AllNe] at l9)))
  k_with "storeName" => ((with_reducible refine' r_store (by walk_at "asm") (by walk_at "asm") (by kernel_rfl) ?_); intro _ _ _; (try k_sweep))
  k_with "exec While Compare cons nil" => (refine Halt.out ?_)
  k_with "exec While BoolOp cons nil" => (refine Halt.out ?_)
  k_with "exec While Constant cons nil" => (refine Halt.out ?_)
  k_with "exec While Name cons nil" => (refine Halt.out ?_)
  k_with "exec While" => (refine Halt.out ?_)
  k_with "execs cons" => (first | (refine execs_lastQ (fun tk => ?_)) | (refine execs_consQ (fun tk qk hqk => ?_)))
  k_with "newList" => (((refine' r_list (by walk_at "asm") (by walk_at "asm") (by exact Nat.le_of_ble_eq_true rfl) ?_); intro _ _ _ _ _; walk_at "lt"; (try k_sweep)))
  k_with "subscriptTail Name Slice str ref" => ((with_reducible first | refine' slice_ss5 (by walk_at "asm") (by walk_at "asm") (by with_reducible assumption) ?_ | refine' slice_sn5 (by walk_at "asm") (by walk_at "asm") (by with_reducible assumption) ?_); intro _ _ _ _ _; (try k_sweep))
  k_with "handled" => (first | exact Ar.hhD (by assumption) _ | exact Ar.hh (by assumption) | rfl)
  k_with "assign Tuple" => (((with_reducible show wpAny _ _ (assign (Expr.Tuple _ _ _) _ (Value.ref _)) _ _ _); k_dflt (refine' r_unpack (by walk_at "asm") (by walk_at "asm") (by walk_at "tup") (by walk_at "handled") rfl rfl ?_); intro _ _ _; (try k_sweep)))
  k_with "asz" => (k_dflt (first | exact aszL (by with_reducible assumption) | exact Nat.le_of_ble_eq_true rfl))
  k_with "call builtin:list.append" => (((with_reducible show wpAny _ _ (call (Value.builtin _) [Value.ref _, _]) _ _ _); (refine' r_append (by walk_at "asm") (by walk_at "asm") (by walk_at "upd") (by walk_at "asz") ?_); intro _ _ _; (try k_sweep)))
  k_with "sub" => ((intro _ hpK9; first | exact List.mem_of_mem_tail hpK9 | (simp only [List.mem_cons, List.mem_append] at hpK9 ⊢; grind)))
  k_with "exec For Tuple Name cons nil" => ((k_dflt (refine' wpAny_For ?_ (by intro _; rfl))))
  k_with "exec For Name Name cons nil" => ((k_dflt (refine' wpAny_For ?_ (by intro _; rfl))))
  k_with "exec For Name Call cons nil" => ((k_dflt (refine' wpAny_For ?_ (by intro _; rfl))))
  k_with "exec For Name List cons nil" => ((k_dflt (refine' wpAny_For ?_ (by intro _; rfl))))
  k_with "exec For Name Attribute cons nil" => ((k_dflt (refine' wpAny_For ?_ (by intro _; rfl))))
  k_with "pyIter ref" => (refine Halt.out ?_)
  k_with "subscriptTail Name Constant ref int" => (((with_reducible show wpAny _ _ (subscriptTail _ _ (Value.ref _) (Value.int _ _)) _ _ _); (refine' item_tupleL (by refine' News.isTup (by walk_at "asm") (by walk_at "mem")) (by decide) (by decide) rfl rfl ?_ (by with_unfolding_all rfl) (by intro _; with_unfolding_all rfl))))
  k_with "eval Name" => ((goal_lacks compEnvC; first | (with_reducible refine' nmK (by decide +kernel) (by walk_at "asm") (by walk_at "mget") ?_) | k_dflt (first | (goal_lacks envOf; refine' nameX_L (by walk_at "asm") (by walk_at "mget") ?_ rfl (by with_unfolding_all rfl) (by decide)) | (goal_lacks envOf; refine' nameX_C (by walk_at "asm") rfl (by walk_at "mem") (by walk_at "asm") ?_ rfl (by with_unfolding_all rfl) (by decide)) | (refine' nameX_K (by walk_at "asm") (by walk_at "asm") (by k_asm) (by k_is) ?_ rfl (by with_unfolding_all rfl) (by decide)) | (refine' nameX_B (by walk_at "asm") (by walk_at "asm") (by k_asm) (by k_is) (by boot_fast) (by decide) ?_ rfl (by with_unfolding_all rfl) (by decide)))))
  k_with "loadName" => ((first | (with_reducible refine' ldL (by walk_at "asm") (by walk_at "mget") (by kernel_rfl) ?_) | k_dflt (refine' ldX (by walk_at "asm") (by walk_at "mget") ?_ rfl (by with_unfolding_all rfl))))
  trivial
theorem sign_call {w : World} {s : Shared} {A : Around} {x : Str} {i : Int} {tx ti : Tok} {Q : Value → Shared → Prop} {E : Value → Shared → Prop} {h₀ : Heap} {L : Addr} {m : Str → Option Value} {news : List (Addr × Obj)}
   (F : Fr h₀ L s.heap m) (N : News h₀ L s.heap news) (G : Gd w h₀) (hA : Ar A 1 10) (hx : x.length ≤ 100000)
   (h : ∀ a h' tk t1 t2, Fr h₀ L h' m → News h₀ L h' ((a, tupOf [.str (signF x i).1 t1, .int (signF x i).2 t2]) :: news) → (∀ p ∈ news, p.1 ≠ a) → Q (.ref a) {s with heap := h', toks := tk}) :
   wpAny (model PR w) A (call (.ref 149) [.str x tx, .int i ti] []) Q E s := by
  refine wpAny_call (sign_walk (G.keeps F.keep) hA hx fun a h' tk t1 t2 hk hn ho => ?_)
  exact h a h' tk t1 t2 (stayF F hk) (moreN F (stayN N hk) hn ho) (neN' N hn)
theorem rg_S2c_1 : True := by
  k_with "call ref" => (((with_reducible show wpAny _ _ (call (Value.ref 149) _ _) _ _ _); (refine' sign_call (by k_asm) (by k_asm) (by k_asm) (by exact Ar.into (by assumption) (by decide) (by decide) _) (by size_fits) ?_; k_whole); intro _ _ _ _ _ _ _ l1K9; (replace l1K9 := allNe_of l1K9; simp only [AllNe, and_true] at l1K9); (try k_sweep)))
  trivial
theorem rg_S2c_2 : True := by
  k_with "compareOp Eq ref ref" => ((k_dflt (first | (refine' eq_nil_f (by refine' News.isList (by k_asm) (by walk_at "mem")) (by refine' News.isList (by k_asm) (by walk_at "mem")) (by walk_at "units") ?_) | (refine' eq_nil_t (by refine' News.isList (by k_asm) (by walk_at "mem")) (by refine' News.isList (by k_asm) (by walk_at "mem")) (by walk_at "units") ?_))))
  k_with "exec If Name" => (refine Halt.out ?_)
  trivial
/-- behind «if barred» -/
noncomputable def OneOut (s : Shared) (o : Bool × List (Str × Str)) (j : Int) (R : Result → Shared → Prop) : Prop := ∀ a h' tk t, s.heap.StaysIn h' → ∀ l e vs imm, News s.heap s.heap.objs.size h' ((a, tupOf [.bool o.1, .ref l, .int j t]) :: (l, listOf vs.toArray e) :: imm) →
   Rel2 (PairIn fun a o => (a, o) ∈ imm) vs o.2 → R (.ok (.ret (.ref a))) {s with heap := h', toks := tk}
theorem out3 {h₀ h : Heap} {L a l : Addr} {ao lo : Obj} {r imm : List (Addr × Obj)} (N : News h₀ L h ((a, ao) :: r)) (hl : (l, lo) ∈ (a, ao) :: r) (hi : ∀ p ∈ imm, p ∈ (a, ao) :: r) : News h₀ L h ((a, ao) :: (l, lo) :: imm) := subN N fun p hp => by
  rcases List.mem_cons.mp hp with rfl | hp
  · exact .head _
  · rcases List.mem_cons.mp hp with rfl | hp
    · exact hl
    · exact hi _ hp
noncomputable def barP (h₀ : Heap) (L : Addr) (s : Shared) (x : Str) (tx : Tok) (j : Int) (b : Bool) (f : Flow) (s' : Shared) : Prop :=
  f = .next ∧ ∃ h tk m ti, s' = { s with heap := h, toks := tk } ∧ Fr h₀ L h m ∧ News h₀ L h [] ∧ m (Str.ofString "text") = some (.str x tx) ∧ m (Str.ofString "i") = some (.int j ti) ∧ (∃ b', m (Str.ofString "barred") = some (.bool b') ∧ b' = b)
set_option maxRecDepth 100000 in
set_option maxHeartbeats 4000000 in
theorem one_set {w : World} {s : Shared} {A : Around} {x : Str} {i : Int} {tx ti : Tok} {R : Result → Shared → Prop} (G : Gd w s.heap) (hA : Ar A 3 20) (hx : x.length ≤ 100000)
   (hc : (ch x i == Str.ofString "[") = true) (hc1 : (ch x i == Str.ofString ".") = false) (hc2 : (ch x i == Str.ofString "\\") = false) {b : Bool} (hb : (ch x (i + 1) == Str.ofString "^") = b) {n : Nat} {qs : List (Str × Str)} {j : Int}
   (hr : RunP x n (if b = true then i + 1 + 1 else i + 1) [] qs j) (hn : n ≤ 1000)
   (hR : OneOut s (b, qs) (j + 1) R) :
   codeAny (model PR w) A (.call (.ref 156) ⟨[.str x tx, .int i ti], []⟩) R s := by
  refine' call_fn (binds := [(Str.ofString "text", .str x tx), (Str.ofString "i", .int i ti)]) G ?a ?b ?c ?d ?e ?f ?g ?h ?i ?j
  walk_at "sides"
  intro h₁ m hm F
  have m1 : m (Str.ofString "text") = some (.str x tx) := by rw [hm]; rfl
  have m2 : m (Str.ofString "i") = some (.int i ti) := by rw [hm]; rfl
  clear hm
  obtain ⟨p, loose, mean, mg, mb, T⟩ := G.T
  have X := G.K
  have N : News s.heap s.heap.objs.size h₁ [] := News.nil
  have hcn : (ch x i != Str.ofString "[") = false := bne_f hc
  walk_at "go"
  refine Halt.in ?_
  refine wpAny_mono (Q := barP s.heap s.heap.objs.size s x tx (if b = true then i + 1 + 1 else i + 1) b) ?fst (fun f s' hp => ?snd) (fun _ _ h => h)
  case fst =>
    refine wpAny_If ?_
    cases b <;> walk_at "go" <;> exact ⟨rfl, _, _, _, _, rfl, by assumption, by assumption, by walk_at "mget", by walk_at "mget", _, by walk_at "mget", hb⟩
  obtain ⟨rfl, h₂, tk₂, m, ti₂, rfl, F, N, m1, m2, b'', m3, rfl⟩ := hp
  walk_at "go"
  refine Halt.in ?_
  refine While_inv (oneJ x tx qs j b'') (n₀ := n) (by assumption) (by assumption) ?_ ?_ PassesOwn.never
  · exact .mk (vs := []) hr .nil (fun p hp => nomatch hp) (by simpa using hn) (by walk_at "mget") (by walk_at "mget") (by walk_at "mget") (by walk_at "mget")
  · intro n₁ m₁ news₁ h₂ tk₂ F₂ N₂ hJ
    induction hJ
    rename_i i₁ ti₁ ps vs e imm pl hrun hrel hoff hlen m1 m2 m3 m4
    have hvs : vs.length ≤ 100000 := by have := hrel.length; lia
    cases hrun with
    | stop h1 h2 =>
      cases hrel with
      | nil => exact absurd rfl h1
      | cons r1 r2 =>
        have h3 := bne_f h2
        walk_at "go"
        exact hR _ _ _ _ (Fr.keep (by assumption)) _ _ _ imm (out3 (by assumption) (by walk_at "mem") (fun p hp => .tail _ (.tail _ (.tail _ hp)))) (.cons r1 r2)
    | single h1 h2 h3 h4 =>
      have h5 := bne_t h3
      have h8 := lt_self (signF x i₁).1
      refine cutT true F₂ N₂ ?step ?rest
      case step =>
        cases hrel with
        | nil =>
          walk_at "go"
          exact TestQ.mk (by with_reducible assumption) (by first | with_reducible assumption | exact subN (by with_reducible assumption) (by walk_at "sub"))
        | cons r1 r2 =>
          have h6 := h1.resolve_left (by intro h; cases h)
          have h7 := bne_t h6
          walk_at "go"
          exact TestQ.mk (by with_reducible assumption) (by first | with_reducible assumption | exact subN (by with_reducible assumption) (by walk_at "sub"))
      clear F₂ N₂
      intro h₃ tk₃ F₃ N₃
      walk_at "go"
      exact oneJ_end [_] (by assumption) (by assumption) h4 hrel hoff (by k_ne) hlen (by walk_at "mget") (by walk_at "mget") (by walk_at "mget") (by walk_at "mget") rfl
    | pair h1 h2 h3 h4 h5 h9 =>
      have h8 := bne_t h3
      refine cutT true F₂ N₂ ?step2 ?rest2
      case step2 =>
        cases hrel with
        | nil =>
          walk_at "go"
          exact TestQ.mk (by with_reducible assumption) (by first | with_reducible assumption | exact subN (by with_reducible assumption) (by walk_at "sub"))
        | cons r1 r2 =>
          have h6 := h1.resolve_left (by intro h; cases h)
          have h7 := bne_t h6
          walk_at "go"
          exact TestQ.mk (by with_reducible assumption) (by first | with_reducible assumption | exact subN (by with_reducible assumption) (by walk_at "sub"))
      clear F₂ N₂
      intro h₃ tk₃ F₃ N₃
      walk_at "go"
      exact oneJ_end [_, _] (by assumption) (by assumption) h9 hrel hoff (by k_ne) hlen (by walk_at "mget") (by walk_at "mget") (by walk_at "mget") (by walk_at "mget") rfl
end Mine
theorem Mine.off_S3 : True := by w_top off; trivial
theorem Mine.rs_S3 {M : Model} {A : Around} {E : Value → Shared → Prop} {s : Shared} {Q : Flow → Shared → Prop} {p : Pos} {env : Env} (h : wpAny M A (exec (Stmt.Pass p) env) Q E s) : wpAny M A (exec (Stmt.Pass p) env) Q E s := by first | (walk1; fail) | exact h
namespace Mine
theorem reg_S3c : True := by
  k_with_none
  k_with "cj" => (first | with_reducible assumption | exact cj1 (by with_reducible assumption) | exact cj2 (by with_reducible assumption) | exact cj3 (by with_reducible assumption) | exact cj4 (by with_reducible assumption) | exact cj5 (by with_reducible assumption) | exact ce2 (by with_reducible assumption) | exact ce3 (by with_reducible assumption) | exact ce4 (by with_reducible assumption) | exact ce5 (by with_reducible assumption))
  k_with "ne1" => (refine neN ?_; first | with_reducible assumption | (refine Ne.symm ?_; with_reducible assumption) | walk_at "cj" | (refine Ne.symm ?_; walk_at "cj") | (refine Nat.ne_of_lt ?_; walk_at "cj") | (refine Nat.ne_of_gt ?_; walk_at "cj") | ((try dsimp only); omega))
  k_with "eval Constant int" => (refine r_int ?_)
  k_with "eval Constant str" => (refine r_str ?_)
  k_with "binaryOp Add int int" => (refine r_add ?_)
  k_with "binaryOp Sub int int" => (refine r_sub ?_)
  k_with "unaryOp USub int" => (refine r_neg ?_)
  k_with "inplaceOp Add int int" => (refine r_iadd ?_)
  k_with "eval Slice" => (refine r_slice ?_)
  k_with "SlQ" => (refine SlQ.go ?_)
  k_with "mget" => (first | with_reducible assumption | with_reducible exact upd_eq | ((with_reducible refine Eq.trans upd_eq ?_); rfl) | ((with_reducible refine upd_ne (by kernel_rfl) ?_); walk_at "mget") | (goal_lacks upd; first | exact if_pos rfl | (refine Eq.trans (if_neg (by decide)) ?_; walk_at "mget")))
  k_with "newTuple" => ((refine' r_tuple (by walk_at "asm") (by walk_at "asm") (by exact Nat.le_of_ble_eq_true rfl) ?_); intro _ _ _ _ _; walk_at "lt"; (try k_sweep))
  k_with "ite" => (first | with_reducible refine ite_tt ?_ | with_reducible refine ite_ff ?_ | (refine ite_pos (by with_reducible assumption) ?_) | (refine ite_neg (by refine ne_true_of_eq_false ?_; with_reducible assumption) ?_))
  k_with "tup" => (first | (refine News.isTup (by walk_at "asm") (by walk_at "mem")) | with_reducible assumption | (refine stays_tup (Fr.keep (by walk_at "asm")) (by walk_at "asm")))
  k_with "lst" => (first | (refine News.isList (by walk_at "asm") (by walk_at "mem")) | with_reducible assumption | (refine stays_list (Fr.keep (by walk_at "asm")) (by walk_at "asm")))
  k_with "off" => (first | exact List.forall_mem_nil _ | exact OwnOff.ne (by with_reducible assumption) (List.Mem.head _) | (refine List.forall_mem_cons.mpr ?_; refine And.intro ?_ ?_; (focus k_ne); (walk_at "off")))
  k_with "upd" => (first | (apply upd_hd; walk_at "off") | (apply upd_tl; (case hne => k_ne); (case hu => walk_at "upd")))
  k_with "RunTo" => ((first | refine NextTo.next (by with_reducible assumption) ?_ | refine NextTo.ret (by with_reducible assumption) ?_ | refine NextTo.brk (by with_reducible assumption) ?_ | refine NextTo.cont (by with_reducible assumption) ?_); (try dsimp only))
  k_with "go" => (repeat' (first | (k_unfold; (try dsimp only)) | walk1 | (dsimp only; walk1)))
  k_with "sides" => (((case b => (k_is)); (case c => (k_is)); (case a => (exact Ar.room (by assumption))); (case d => (exact BindsTo.of_eq rfl)); (case e => (exact locs rfl)); (case g => (rfl)); (case h => (rfl)); (case i => (rfl)); (case j => (decide))))
  k_with "mem" => (first | exact List.Mem.head _ | (refine' List.Mem.tail _ ?_; walk_at "mem"))
  k_with "units" => (first | exact Ar.units0 (by assumption) _ | exact Ar.unitsD (by assumption) (by decide) _)
  k_with "asm" => (with_reducible assumption)
  k_with "lt" => (((rename ∀ p ∈ _, (p : Addr × Obj).1 < _ => l9); (replace l9 := allLt_of l9); (dsimp only [AllLt] at l9)))
  k_with "ne" => (((rename ∀ p ∈ _, (p : Addr × Obj).1 ≠ _ => l9); (replace l9 := allNe_of l9); (dsimp only [AllNe] at l9)))
  k_with "storeName" => ((with_reducible refine' r_store (by walk_at "asm") (by walk_at "asm") (by kernel_rfl) ?_); intro _ _ _; (try k_sweep))
  k_with "exec While Compare cons nil" => (refine Halt.out ?_)
  k_with "exec While BoolOp cons nil" => (refine Halt.out ?_)
  k_with "exec While Constant cons nil" => (refine Halt.out ?_)
  k_with "exec While Name cons nil" => (refine Halt.out ?_)
  k_with "exec While" => (refine Halt.out ?_)
  k_with "execs cons" => (first | (refine execs_lastQ (fun tk => ?_)) | (refine execs_consQ (fun tk qk hqk => ?_)))
  k_with "newList" => (((refine' r_list (by walk_at "asm") (by walk_at "asm") (by exact Nat.le_of_ble_eq_true rfl) ?_); intro _ _ _ _ _; walk_at "lt"; (try k_sweep)))
  k_with "subscriptTail Name Slice str ref" => ((with_reducible first | refine' slice_ss5 (by walk_at "asm") (by walk_at "asm") (by with_reducible assumption) ?_ | refine' slice_sn5 (by walk_at "asm") (by walk_at "asm") (by with_reducible assumption) ?_); intro _ _ _ _ _; (try k_sweep))
  k_with "handled" => (first | exact Ar.hhD (by assumption) _ | exact Ar.hh (by assumption) | rfl)
  k_with "assign Tuple" => (((with_reducible show wpAny _ _ (assign (Expr.Tuple _ _ _) _ (Value.ref _)) _ _ _); k_dflt (refine' r_unpack (by walk_at "asm") (by walk_at "asm") (by walk_at "tup") (by walk_at "handled") rfl rfl ?_); intro _ _ _; (try k_sweep)))
  k_with "asz" => (k_dflt (first | exact aszL (by with_reducible assumption) | exact Nat.le_of_ble_eq_true rfl))
  k_with "call builtin:list.append" => (((with_reducible show wpAny _ _ (call (Value.builtin _) [Value.ref _, _]) _ _ _); (refine' r_append (by walk_at "asm") (by walk_at "asm") (by walk_at "upd") (by walk_at "asz") ?_); intro _ _ _; (try k_sweep)))
  k_with "sub" => ((intro _ hpK9; first | exact List.mem_of_mem_tail hpK9 | (simp only [List.mem_cons, List.mem_append] at hpK9 ⊢; grind)))
  k_with "exec For Tuple Name cons nil" => ((k_dflt (refine' wpAny_For ?_ (by intro _; rfl))))
  k_with "exec For Name Name cons nil" => ((k_dflt (refine' wpAny_For ?_ (by intro _; rfl))))
  k_with "exec For Name Call cons nil" => ((k_dflt (refine' wpAny_For ?_ (by intro _; rfl))))
  k_with "exec For Name List cons nil" => ((k_dflt (refine' wpAny_For ?_ (by intro _; rfl))))
  k_with "exec For Name Attribute cons nil" => ((k_dflt (refine' wpAny_For ?_ (by intro _; rfl))))
  k_with "pyIter ref" => (refine Halt.out ?_)
  k_with "subscriptTail Name Constant ref int" => (((with_reducible show wpAny _ _ (subscriptTail _ _ (Value.ref _) (Value.int _ _)) _ _ _); (refine' item_tupleL (by refine' News.isTup (by walk_at "asm") (by walk_at "mem")) (by decide) (by decide) rfl rfl ?_ (by with_unfolding_all rfl) (by intro _; with_unfolding_all rfl))))
  k_with "eval Name" => ((goal_lacks compEnvC; first | (with_reducible refine' nmK (by decide +kernel) (by walk_at "asm") (by walk_at "mget") ?_) | k_dflt (first | (goal_lacks envOf; refine' nameX_L (by walk_at "asm") (by walk_at "mget") ?_ rfl (by with_unfolding_all rfl) (by decide)) | (goal_lacks envOf; refine' nameX_C (by walk_at "asm") rfl (by walk_at "mem") (by walk_at "asm") ?_ rfl (by with_unfolding_all rfl) (by decide)) | (refine' nameX_K (by walk_at "asm") (by walk_at "asm") (by k_asm) (by k_is) ?_ rfl (by with_unfolding_all rfl) (by decide)) | (refine' nameX_B (by walk_at "asm") (by walk_at "asm") (by k_asm) (by k_is) (by boot_fast) (by decide) ?_ rfl (by with_unfolding_all rfl) (by decide)))))
  k_with "loadName" => ((first | (with_reducible refine' ldL (by walk_at "asm") (by walk_at "mget") (by kernel_rfl) ?_) | k_dflt (refine' ldX (by walk_at "asm") (by walk_at "mget") ?_ rfl (by with_unfolding_all rfl))))
  trivial
set_option maxRecDepth 100000 in
set_option maxHeartbeats 4000000 in
theorem one_dot {w : World} {s : Shared} {A : Around} {x : Str} {i : Int} {tx ti : Tok} {R : Result → Shared → Prop} (G : Gd w s.heap) (hA : Ar A 3 20) (hx : x.length ≤ 100000)
   (hc : (ch x i == Str.ofString ".") = true)
   (hR : OneOut s (true, []) (i + 1) R) :
   codeAny (model PR w) A (.call (.ref 156) ⟨[.str x tx, .int i ti], []⟩) R s := by
  refine' call_fn (binds := [(Str.ofString "text", .str x tx), (Str.ofString "i", .int i ti)]) G ?a ?b ?c ?d ?e ?f ?g ?h ?i ?j
  walk_at "sides"
  intro h₁ m hm F
  have m1 : m (Str.ofString "text") = some (.str x tx) := by rw [hm]; rfl
  have m2 : m (Str.ofString "i") = some (.int i ti) := by rw [hm]; rfl
  clear hm
  obtain ⟨p, loose, mean, mg, mb, T⟩ := G.T
  have X := G.K
  have N : News s.heap s.heap.objs.size h₁ [] := News.nil
  walk_at "go"
  exact hR _ _ _ _ (Fr.keep (by assumption)) _ _ [] [] (out3 (by assumption) (by walk_at "mem") (fun p hp => nomatch hp)) .nil
theorem rg_S3c_1 : True := by
  k_with "exec If BoolOp" => (refine Halt.out ?_)
  trivial
noncomputable def escs : List Str := [Str.ofString "|", Str.ofString "]", Str.ofString "^", Str.ofString "-", Str.ofString "\n"]
noncomputable def escP (h₀ : Heap) (L : Addr) (s : Shared) (x : Str) (tx : Tok) (i : Int) (T : Str) (b : Bool) (s' : Shared) : Prop :=
  b = false ∧ ∃ h tk m ti tt, s' = { s with heap := h, toks := tk } ∧ Fr h₀ L h m ∧ News h₀ L h [] ∧ m (Str.ofString "text") = some (.str x tx) ∧ m (Str.ofString "i") = some (.int i ti) ∧ m (Str.ofString "told") = some (.str T tt)
set_option maxRecDepth 100000 in
set_option maxHeartbeats 4000000 in
theorem one_esc {w : World} {s : Shared} {A : Around} {x : Str} {i : Int} {tx ti : Tok} {R : Result → Shared → Prop} (G : Gd w s.heap) (hA : Ar A 3 20) (hx : x.length ≤ 100000)
   (hc : (ch x i == Str.ofString "\\") = true) (hc1 : (ch x i == Str.ofString ".") = false) {T : Str} (hT : Txt.slice x (some (i + 1)) (some (i + 2)) = T) (hm : T ∈ escs)
   (hR : OneOut s (false, [(T, T)]) (i + 2) R) :
   codeAny (model PR w) A (.call (.ref 156) ⟨[.str x tx, .int i ti], []⟩) R s := by
  refine' call_fn (binds := [(Str.ofString "text", .str x tx), (Str.ofString "i", .int i ti)]) G ?a ?b ?c ?d ?e ?f ?g ?h ?i ?j
  walk_at "sides"
  intro h₁ m hm0 F
  have m1 : m (Str.ofString "text") = some (.str x tx) := by rw [hm0]; rfl
  have m2 : m (Str.ofString "i") = some (.int i ti) := by rw [hm0]; rfl
  clear hm0
  obtain ⟨p, loose, mean, mg, mb, T0⟩ := G.T
  have X := G.K
  have N : News s.heap s.heap.objs.size h₁ [] := News.nil
  walk_at "go"
  refine Halt.in ?_
  refine wpAny_If ?_
  refine wpAny_mono (Q := escP s.heap s.heap.objs.size s x tx i T) ?fst (fun b s' hp => ?snd) (fun _ _ h => h)
  case fst =>
    simp only [hT] at *
    simp only [escs, List.mem_cons, List.not_mem_nil, or_false] at hm
    rcases hm with rfl | rfl | rfl | rfl | rfl
    all_goals (walk_at "go"; exact ⟨rfl, _, _, _, _, _, rfl, by assumption, by assumption, by walk_at "mget", by walk_at "mget", by walk_at "mget"⟩)
  obtain ⟨rfl, h₂, tk₂, m, ti₂, tt₂, rfl, F, N, m1, m2, m3⟩ := hp
  walk_at "go"
  exact hR _ _ _ _ (Fr.keep (by assumption)) _ _ [_] [_] (out3 (by assumption) (by walk_at "mem") (fun p hp => by rw [List.mem_singleton.mp hp]; walk_at "mem")) (.cons ⟨_, _, _, rfl, .head _⟩ .nil)
end Mine
theorem Mine.off_S4 : True := by w_top off; trivial
theorem Mine.rs_S4 {M : Model} {A : Around} {E : Value → Shared → Prop} {s : Shared} {Q : Flow → Shared → Prop} {p : Pos} {env : Env} (h : wpAny M A (exec (Stmt.Pass p) env) Q E s) : wpAny M A (exec (Stmt.Pass p) env) Q E s := by first | (walk1; fail) | exact h
namespace Mine
theorem reg_S4c : True := by
  k_with_none
  k_with "cj" => (first | with_reducible assumption | exact cj1 (by with_reducible assumption) | exact cj2 (by with_reducible assumption) | exact cj3 (by with_reducible assumption) | exact cj4 (by with_reducible assumption) | exact cj5 (by with_reducible assumption) | exact ce2 (by with_reducible assumption) | exact ce3 (by with_reducible assumption) | exact ce4 (by with_reducible assumption) | exact ce5 (by with_reducible assumption))
  k_with "ne1" => (refine neN ?_; first | with_reducible assumption | (refine Ne.symm ?_; with_reducible assumption) | walk_at "cj" | (refine Ne.symm ?_; walk_at "cj") | (refine Nat.ne_of_lt ?_; walk_at "cj") | (refine Nat.ne_of_gt ?_; walk_at "cj") | ((try dsimp only); omega))
  k_with "eval Constant int" => (refine r_int ?_)
  k_with "eval Constant str" => (refine r_str ?_)
  k_with "binaryOp Add int int" => (refine r_add ?_)
  k_with "binaryOp Sub int int" => (refine r_sub ?_)
  k_with "unaryOp USub int" => (refine r_neg ?_)
  k_with "inplaceOp Add int int" => (refine r_iadd ?_)
  k_with "eval Slice" => (refine r_slice ?_)
  k_with "SlQ" => (refine SlQ.go ?_)
  k_with "mget" => (first | with_reducible assumption | with_reducible exact upd_eq | ((with_reducible refine Eq.trans upd_eq ?_); rfl) | ((with_reducible refine upd_ne (by kernel_rfl) ?_); walk_at "mget") | (goal_lacks upd; first | exact if_pos rfl | (refine Eq.trans (if_neg (by decide)) ?_; walk_at "mget")))
  k_with "newTuple" => ((refine' r_tuple (by walk_at "asm") (by walk_at "asm") (by exact Nat.le_of_ble_eq_true rfl) ?_); intro _ _ _ _ _; walk_at "lt"; (try k_sweep))
  k_with "ite" => (first | with_reducible refine ite_tt ?_ | with_reducible refine ite_ff ?_ | (refine ite_pos (by with_reducible assumption) ?_) | (refine ite_neg (by refine ne_true_of_eq_false ?_; with_reducible assumption) ?_))
  k_with "tup" => (first | (refine News.isTup (by walk_at "asm") (by walk_at "mem")) | with_reducible assumption | (refine stays_tup (Fr.keep (by walk_at "asm")) (by walk_at "asm")))
  k_with "lst" => (first | (refine News.isList (by walk_at "asm") (by walk_at "mem")) | with_reducible assumption | (refine stays_list (Fr.keep (by walk_at "asm")) (by walk_at "asm")))
  k_with "off" => (first | exact List.forall_mem_nil _ | exact OwnOff.ne (by with_reducible assumption) (List.Mem.head _) | (refine List.forall_mem_cons.mpr ?_; refine And.intro ?_ ?_; (focus k_ne); (walk_at "off")))
  k_with "upd" => (first | (apply upd_hd; walk_at "off") | (apply upd_tl; (case hne => k_ne); (case hu => walk_at "upd")))
  k_with "RunTo" => ((first | refine NextTo.next (by with_reducible assumption) ?_ | refine NextTo.ret (by with_reducible assumption) ?_ | refine NextTo.brk (by with_reducible assumption) ?_ | refine NextTo.cont (by with_reducible assumption) ?_); (try dsimp only))
  k_with "go" => (repeat' (first | (k_unfold; (try dsimp only)) | walk1 | (dsimp only; walk1)))
  k_with "sides" => (((case b => (k_is)); (case c => (k_is)); (case a => (exact Ar.room (by assumption))); (case d => (exact BindsTo.of_eq rfl)); (case e => (exact locs rfl)); (case g => (rfl)); (case h => (rfl)); (case i => (rfl)); (case j => (decide))))
  k_with "mem" => (first | exact List.Mem.head _ | (refine' List.Mem.tail _ ?_; walk_at "mem"))
  k_with "units" => (first | exact Ar.units0 (by assumption) _ | exact Ar.unitsD (by assumption) (by decide) _)
  k_with "asm" => (with_reducible assumption)
  k_with "lt" => (((rename ∀ p ∈ _, (p : Addr × Obj).1 < _ => l9); (replace l9 := allLt_of l9); (dsimp only [AllLt] at l9)))
  k_with "ne" => (((rename ∀ p ∈ _, (p : Addr × Obj).1 ≠ _ => l9); (replace l9 := allNe_of l9); (dsimp only [AllNe] at l9)))
  k_with "storeName" => ((with_reducible refine' r_store (by walk_at "asm") (by walk_at "asm") (by kernel_rfl) ?_); intro _ _ _; (try k_sweep))
  k_with "exec While Compare cons nil" => (refine Halt.out ?_)
  k_with "exec While BoolOp cons nil" => (refine Halt.out ?_)
  k_with "exec While Constant cons nil" => (refine Halt.out ?_)
  k_with "exec While Name cons nil" => (refine Halt.out ?_)
  k_with "exec While" => (refine Halt.out ?_)
  k_with "execs cons" => (first | (refine execs_lastQ (fun tk => ?_)) | (refine execs_consQ (fun tk qk hqk => ?_)))
  k_with "newList" => (((refine' r_list (by walk_at "asm") (by walk_at "asm") (by exact Nat.le_of_ble_eq_true rfl) ?_); intro _ _ _ _ _; walk_at "lt"; (try k_sweep)))
  k_with "subscriptTail Name Slice str ref" => ((with_reducible first | refine' slice_ss5 (by walk_at "asm") (by walk_at "asm") (by with_reducible assumption) ?_ | refine' slice_sn5 (by walk_at "asm") (by walk_at "asm") (by with_reducible assumption) ?_); intro _ _ _ _ _; (try k_sweep))
  k_with "handled" => (first | exact Ar.hhD (by assumption) _ | exact Ar.hh (by assumption) | rfl)
  k_with "assign Tuple" => (((with_reducible show wpAny _ _ (assign (Expr.Tuple _ _ _) _ (Value.ref _)) _ _ _); k_dflt (refine' r_unpack (by walk_at "asm") (by walk_at "asm") (by walk_at "tup") (by walk_at "handled") rfl rfl ?_); intro _ _ _; (try k_sweep)))
  k_with "asz" => (k_dflt (first | exact aszL (by with_reducible assumption) | exact Nat.le_of_ble_eq_true rfl))
  k_with "call builtin:list.append" => (((with_reducible show wpAny _ _ (call (Value.builtin _) [Value.ref _, _]) _ _ _); (refine' r_append (by walk_at "asm") (by walk_at "asm") (by walk_at "upd") (by walk_at "asz") ?_); intro _ _ _; (try k_sweep)))
  k_with "sub" => ((intro _ hpK9; first | exact List.mem_of_mem_tail hpK9 | (simp only [List.mem_cons, List.mem_append] at hpK9 ⊢; grind)))
  k_with "exec For Tuple Name cons nil" => ((k_dflt (refine' wpAny_For ?_ (by intro _; rfl))))
  k_with "exec For Name Name cons nil" => ((k_dflt (refine' wpAny_For ?_ (by intro _; rfl))))
  k_with "exec For Name Call cons nil" => ((k_dflt (refine' wpAny_For ?_ (by intro _; rfl))))
  k_with "exec For Name List cons nil" => ((k_dflt (refine' wpAny_For ?_ (by intro _; rfl))))
  k_with "exec For Name Attribute cons nil" => ((k_dflt (refine' wpAny_For ?_ (by intro _; rfl))))
  k_with "pyIter ref" => (refine Halt.out ?_)
  k_with "subscriptTail Name Constant ref int" => (((with_reducible show wpAny _ _ (subscriptTail _ _ (Value.ref _) (Value.int _ _)) _ _ _); (refine' item_tupleL (by refine' News.isTup (by walk_at "asm") (by walk_at "mem")) (by decide) (by decide) rfl rfl ?_ (by with_unfolding_all rfl) (by intro _; with_unfolding_all rfl))))
  k_with "eval Name" => ((goal_lacks compEnvC; first | (with_reducible refine' nmK (by decide +kernel) (by walk_at "asm") (by walk_at "mget") ?_) | k_dflt (first | (goal_lacks envOf; refine' nameX_L (by walk_at "asm") (by walk_at "mget") ?_ rfl (by with_unfolding_all rfl) (by decide)) | (goal_lacks envOf; refine' nameX_C (by walk_at "asm") rfl (by walk_at "mem") (by walk_at "asm") ?_ rfl (by with_unfolding_all rfl) (by decide)) | (refine' nameX_K (by walk_at "asm") (by walk_at "asm") (by k_asm) (by k_is) ?_ rfl (by with_unfolding_all rfl) (by decide)) | (refine' nameX_B (by walk_at "asm") (by walk_at "asm") (by k_asm) (by k_is) (by boot_fast) (by decide) ?_ rfl (by with_unfolding_all rfl) (by decide)))))
  k_with "loadName" => ((first | (with_reducible refine' ldL (by walk_at "asm") (by walk_at "mget") (by kernel_rfl) ?_) | k_dflt (refine' ldX (by walk_at "asm") (by walk_at "mget") ?_ rfl (by with_unfolding_all rfl))))
  trivial
noncomputable def OneIn (B : Addr → Obj → Prop) (v : Value) (o : Bool × List (Str × Str)) : Prop := ∃ a l vs e, v = .ref a ∧ B a (tupOf [.bool o.1, .ref l]) ∧ B l (listOf vs.toArray e) ∧ Rel2 (PairIn B) vs o.2 ∧ vs.length ≤ 1000
noncomputable def okPair (g : Str) (p : Str × Str) : Bool := (!decide (g.cps.toList < p.1.cps.toList)) && (!decide (p.2.cps.toList < g.cps.toList))
noncomputable def fitF (x : Str) : Int → List (Bool × List (Str × Str)) → Bool
  | _, [] => true
  | i, (b, ps) :: r => if (ch x i == Str.ofString "") = true then false else if (b == ps.any (okPair (ch x i))) = true then false else fitF x (i + 1) r
theorem anyLen {α : Type} {ys : Array Value} {ps : List α} {f : α → Bool} (h : ys.toList.length = (ps.filter f).length) : (!ys.toList.isEmpty) = ps.any f := by
  rw [Bool.eq_iff_iff]
  simp only [Bool.not_eq_true', List.any_eq_true]
  constructor
  · intro e
    have : 0 < (ps.filter f).length := by rw [← h]; cases hy : ys.toList with | nil => rw [hy] at e; cases e | cons _ _ => simp
    obtain ⟨a, ha⟩ := List.exists_mem_of_length_pos this
    obtain ⟨h1, h2⟩ := List.mem_filter.mp ha
    exact ⟨a, h1, h2⟩
  · rintro ⟨a, h1, h2⟩
    have := List.length_pos_of_mem (List.mem_filter.mpr ⟨h1, h2⟩)
    rw [← h] at this
    cases hy : ys.toList with | nil => rw [hy] at this; cases this | cons _ _ => rfl
theorem drop2 {h₀ : Heap} {L : Addr} {h : Heap} {a b : Addr × Obj} {l : List (Addr × Obj)} (N : News h₀ L h (a :: b :: l)) : News h₀ L h l := subN N fun _ hp => .tail _ (.tail _ hp)
inductive fitJ (L : Addr) (x : Str) (tx : Tok) (i : Int) (ones : List (Bool × List (Str × Str))) (k : Nat) (m : Str → Option Value) : List (Addr × Obj) → Prop
  | mk {o : Obj} {tp : Tok} {cv : Option Value} (hd2 : o.data = .cell cv) (k2 : m (Str.ofString "text") = some (.str x tx)) (k3 : m (Str.ofString "place") = some (.int (i + (k : Int)) tp)) (k4 : fitF x (i + (k : Int)) (ones.drop k) = fitF x i ones) : fitJ L x tx i ones k m [(L + 1, o)]
theorem rg_S4c_1 : True := by
  k_with "eval ListComp" => (refine Halt.out ?_)
  k_with "compareOp NotEq ref ref" => ((refine' ne_nil (by walk_at "lst") (by walk_at "lst") (by walk_at "units") ?_))
  trivial
set_option maxRecDepth 100000 in
set_option maxHeartbeats 4000000 in
theorem fit_walk {w : World} {s : Shared} {A : Around} {x : Str} {i : Int} {tx ti : Tok} {R : Result → Shared → Prop} (G : Gd w s.heap) (hA : Ar A 1 10) (hx : x.length ≤ 100000)
   {l : Addr} {vs : List Value} {e : Nat} {ones : List (Bool × List (Str × Str))} (hl : s.heap.get? l = some (listOf vs.toArray e)) (hrel : Rel2 (OneIn fun a o => s.heap.get? a = some o) vs ones)
   (hR : ∀ h' tk, s.heap.StaysIn h' → R (.ok (.ret (.bool (fitF x i ones)))) {s with heap := h', toks := tk}) :
   codeAny (model PR w) A (.call (.ref 168) ⟨[.ref l, .str x tx, .int i ti], []⟩) R s := by
  refine' call_fnC (binds := [(Str.ofString "ones", .ref l), (Str.ofString "text", .str x tx), (Str.ofString "place", .int i ti)]) G ?a ?b ?c ?d ?e ?f ?g ?i ?j ?k
  (case b => k_is)
  (case c => k_is)
  (case a => exact Ar.room (by assumption))
  (case d => exact BindsTo.of_eq rfl)
  (case e => exact rfl)
  (case f => decide +kernel)
  (case i => rfl)
  (case j => rfl)
  (case k => rfl)
  intro h₁ tk₁ cells F N Y
  obtain ⟨o, rfl, hd1⟩ := CellsAre.one Y
  clear Y
  generalize hm : bindL _ _ _ = m at F
  have m1 : m (Str.ofString "ones") = some (.ref l) := by rw [← hm]; rfl
  have m2 : m (Str.ofString "text") = some (.str x tx) := by rw [← hm]; rfl
  have m3 : m (Str.ofString "place") = some (.int i ti) := by rw [← hm]; rfl
  clear hm
  obtain ⟨p, loose, mean, mg, mb, T⟩ := G.T
  have X := G.K
  walk_at "go"
  refine Halt.in ?_
  refine loopL (L := s.heap.objs.size) rfl (vs := vs) (lo := listOf vs.toArray e) (fitJ s.heap.objs.size x tx i ones) ?hh ⟨rfl, _, rfl⟩ (fun h m news k _ F _ => F.keep _ _ hl) (by assumption) (by assumption) ?h0 ?turn ?done
  case hh => exact Ar.hhD (by assumption) _
  case h0 => exact .mk (tp := ti) hd1 m2 (by simpa using m3) (by simp)
  case done =>
    intro m' news' h' tk hJ F' N'
    induction hJ
    rename_i o' tp cv hd2 k2 k3 k4
    have hlen := hrel.length
    rw [show ones.drop vs.length = [] by rw [hlen]; simp] at k4
    simp only [fitF] at k4
    dsimp only
    rw [← k4] at hR
    walk_at "go"
    exact hR _ _ F'.keep
  case turn =>
    intro k v m₁ news₁ h tk it itO hv hJ F' N' hn
    induction hJ
    rename_i o' tp cv hd2 k2 k3 k4
    obtain ⟨⟨b, ps⟩, hb1, ⟨a, l2, vs2, e2, rfl, ha, hl2, hps, hlen2⟩, hdrop⟩ := hrel.get hv
    have hT : IsTup s.heap a #[.bool b, .ref l2] := ⟨_, ha, rfl, _, rfl⟩
    rw [hdrop] at k4
    replace hn := allNe_of hn
    simp only [AllNe, and_true] at hn
    walk_at "go"
    · rename ((_ : Str) == _) = true => hc
      simp only [fitF] at k4
      rw [if_pos hc] at k4
      rw [← k4] at hR
      exact NextTo.ret (by with_reducible assumption) (hR _ _ (Fr.keep (by assumption)))
    · rename ((_ : Str) == _) = false => hc
      refine Halt.in ?_
      simp only [fitF] at k4
      rw [if_neg (by rw [hc]; decide)] at k4
      rename Fr _ _ _ _ => F9
      rename News _ _ _ _ => N9
      have hl2' := F9.keep _ _ hl2
      refine comp_filter (l := l2) (vs := vs2) (pOf s.heap (okPair (ch x (i + k)))) rfl (by decide) rfl (by decide) rfl (fun _ => rfl) (by decide) (Ar.hhD (by assumption) _) hlen2 ⟨_, hl2', rfl, _, rfl⟩ ?ev ?test ?cont (by intro _; rfl)
      case ev =>
        intro Q' hq
        walk_at "go"
        exact hq
      case test => 
        intro C v s₃ m₃ E' hv hn3 hm3 hk3
        obtain ⟨q, hq, hpq⟩ := hps.mem hv
        rw [pOf_is hpq]
        obtain ⟨a3, t1, t2, rfl, ha3⟩ := hpq
        have hT3 : IsTup s₃.heap a3 #[.str q.1 t1, .str q.2 t2] := ⟨_, hk3 _ _ (F9.keep _ _ ha3), rfl, _, rfl⟩
        walk_at "go"
        all_goals first | exact ⟨_, _, rfl, fun _ _ e => e⟩ | skip
        · rename _ < _ => hc
          show false = (_ && _)
          rw [show ch x (i + (k : Int)) = Txt.slice x (some (i + k)) (some (i + k + 1)) from rfl, decide_eq_true hc]; rfl
        · rename ¬ _ < _ => hc
          show _ = (_ && _)
          rw [show ch x (i + (k : Int)) = Txt.slice x (some (i + k)) (some (i + k + 1)) from rfl, decide_eq_false hc]; rfl
      case cont =>
        intro D h' tk' ys kk hDn hD hlenD hstay
        have F10 := stayF F9 hstay
        have N10 := stayN N9 hstay
        replace N10 := moreN F9 N10 hDn hD
        rw [pOf_filter hps] at hlenD
        have hany : (!ys.toList.isEmpty) = ps.any (okPair (ch x (i + k))) := anyLen hlenD
        clear N9 F9
        walk_at "go"
        · rename (_ == !_) = true => hc2
          rw [hany] at hc2
          rw [if_pos hc2] at k4
          rw [← k4] at hR
          exact NextTo.ret (by with_reducible assumption) (hR _ _ (Fr.keep (by assumption)))
        rotate_left 3
        · rename (_ == !_) = false => hc2
          rw [hany] at hc2
          rw [if_neg (by rw [hc2]; decide)] at k4
          rename Fr _ _ _ _ => F11
          rename News _ _ _ _ => N11
          refine TurnP.go F11 (drop2 N11) ?n1 ?n2
          case n1 => intro p hp; rw [List.mem_singleton.mp hp]; exact hn
          case n2 =>
            rename _ = Data.cell (some (Value.str _ _)) => d9
            have e9 : i + (k : Int) + 1 = i + ((k + 1 : Nat) : Int) := by lia
            exact .mk d9 (by walk_at "mget") ((if_pos rfl).trans (by rw [e9])) (by rw [← k4, e9])
        all_goals first | exact Str.ofString "" | exact Value.none | exact (0 : Nat)
end Mine
theorem Mine.off_S5 : True := by w_top off; trivial
theorem Mine.rs_S5 {M : Model} {A : Around} {E : Value → Shared → Prop} {s : Shared} {Q : Flow → Shared → Prop} {p : Pos} {env : Env} (h : wpAny M A (exec (Stmt.Pass p) env) Q E s) : wpAny M A (exec (Stmt.Pass p) env) Q E s := by first | (walk1; fail) | exact h
namespace Mine
theorem reg_S5c : True := by
  k_with_none
  k_with "cj" => (first | with_reducible assumption | exact cj1 (by with_reducible assumption) | exact cj2 (by with_reducible assumption) | exact cj3 (by with_reducible assumption) | exact cj4 (by with_reducible assumption) | exact cj5 (by with_reducible assumption) | exact ce2 (by with_reducible assumption) | exact ce3 (by with_reducible assumption) | exact ce4 (by with_reducible assumption) | exact ce5 (by with_reducible assumption))
  k_with "ne1" => (refine neN ?_; first | with_reducible assumption | (refine Ne.symm ?_; with_reducible assumption) | walk_at "cj" | (refine Ne.symm ?_; walk_at "cj") | (refine Nat.ne_of_lt ?_; walk_at "cj") | (refine Nat.ne_of_gt ?_; walk_at "cj") | ((try dsimp only); omega))
  k_with "eval Constant int" => (refine r_int ?_)
  k_with "eval Constant str" => (refine r_str ?_)
  k_with "binaryOp Add int int" => (refine r_add ?_)
  k_with "binaryOp Sub int int" => (refine r_sub ?_)
  k_with "unaryOp USub int" => (refine r_neg ?_)
  k_with "inplaceOp Add int int" => (refine r_iadd ?_)
  k_with "eval Slice" => (refine r_slice ?_)
  k_with "SlQ" => (refine SlQ.go ?_)
  k_with "mget" => (first | with_reducible assumption | with_reducible exact upd_eq | ((with_reducible refine Eq.trans upd_eq ?_); rfl) | ((with_reducible refine upd_ne (by kernel_rfl) ?_); walk_at "mget") | (goal_lacks upd; first | exact if_pos rfl | (refine Eq.trans (if_neg (by decide)) ?_; walk_at "mget")))
  k_with "newTuple" => ((refine' r_tuple (by walk_at "asm") (by walk_at "asm") (by exact Nat.le_of_ble_eq_true rfl) ?_); intro _ _ _ _ _; walk_at "lt"; (try k_sweep))
  k_with "ite" => (first | with_reducible refine ite_tt ?_ | with_reducible refine ite_ff ?_ | (refine ite_pos (by with_reducible assumption) ?_) | (refine ite_neg (by refine ne_true_of_eq_false ?_; with_reducible assumption) ?_))
  k_with "tup" => (first | (refine News.isTup (by walk_at "asm") (by walk_at "mem")) | with_reducible assumption | (refine stays_tup (Fr.keep (by walk_at "asm")) (by walk_at "asm")))
  k_with "lst" => (first | (refine News.isList (by walk_at "asm") (by walk_at "mem")) | with_reducible assumption | (refine stays_list (Fr.keep (by walk_at "asm")) (by walk_at "asm")))
  k_with "off" => (first | exact List.forall_mem_nil _ | exact OwnOff.ne (by with_reducible assumption) (List.Mem.head _) | (refine List.forall_mem_cons.mpr ?_; refine And.intro ?_ ?_; (focus k_ne); (walk_at "off")))
  k_with "upd" => (first | (apply upd_hd; walk_at "off") | (apply upd_tl; (case hne => k_ne); (case hu => walk_at "upd")))
  k_with "RunTo" => ((first | refine NextTo.next (by with_reducible assumption) ?_ | refine NextTo.ret (by with_reducible assumption) ?_ | refine NextTo.brk (by with_reducible assumption) ?_ | refine NextTo.cont (by with_reducible assumption) ?_); (try dsimp only))
  k_with "go" => (repeat' (first | (k_unfold; (try dsimp only)) | walk1 | (dsimp only; walk1)))
  k_with "sides" => (((case b => (k_is)); (case c => (k_is)); (case a => (exact Ar.room (by assumption))); (case d => (exact BindsTo.of_eq rfl)); (case e => (exact locs rfl)); (case g => (rfl)); (case h => (rfl)); (case i => (rfl)); (case j => (decide))))
  k_with "mem" => (first | exact List.Mem.head _ | (refine' List.Mem.tail _ ?_; walk_at "mem"))
  k_with "units" => (first | exact Ar.units0 (by assumption) _ | exact Ar.unitsD (by assumption) (by decide) _)
  k_with "asm" => (with_reducible assumption)
  k_with "lt" => (((rename ∀ p ∈ _, (p : Addr × Obj).1 < _ => l9); (replace l9 := allLt_of l9); (dsimp only [AllLt] at l9)))
  k_with "ne" => (((rename ∀ p ∈ _, (p : Addr × Obj).1 ≠ _ => l9); (replace l9 := allNe_of l9); (dsimp only [AllNe] at l9)))
  k_with "storeName" => ((with_reducible refine' r_store (by walk_at "asm") (by walk_at "asm") (by kernel_rfl) ?_); intro _ _ _; (try k_sweep))
  k_with "exec While Compare cons nil" => (refine Halt.out ?_)
  k_with "exec While BoolOp cons nil" => (refine Halt.out ?_)
  k_with "exec While Constant cons nil" => (refine Halt.out ?_)
  k_with "exec While Name cons nil" => (refine Halt.out ?_)
  k_with "exec While" => (refine Halt.out ?_)
  k_with "execs cons" => (first | (refine execs_lastQ (fun tk => ?_)) | (refine execs_consQ (fun tk qk hqk => ?_)))
  k_with "newList" => (((refine' r_list (by walk_at "asm") (by walk_at "asm") (by exact Nat.le_of_ble_eq_true rfl) ?_); intro _ _ _ _ _; walk_at "lt"; (try k_sweep)))
  k_with "subscriptTail Name Slice str ref" => ((with_reducible first | refine' slice_ss5 (by walk_at "asm") (by walk_at "asm") (by with_reducible assumption) ?_ | refine' slice_sn5 (by walk_at "asm") (by walk_at "asm") (by with_reducible assumption) ?_); intro _ _ _ _ _; (try k_sweep))
  k_with "handled" => (first | exact Ar.hhD (by assumption) _ | exact Ar.hh (by assumption) | rfl)
  k_with "assign Tuple" => (((with_reducible show wpAny _ _ (assign (Expr.Tuple _ _ _) _ (Value.ref _)) _ _ _); k_dflt (refine' r_unpack (by walk_at "asm") (by walk_at "asm") (by walk_at "tup") (by walk_at "handled") rfl rfl ?_); intro _ _ _; (try k_sweep)))
  k_with "asz" => (k_dflt (first | exact aszL (by with_reducible assumption) | exact Nat.le_of_ble_eq_true rfl))
  k_with "call builtin:list.append" => (((with_reducible show wpAny _ _ (call (Value.builtin _) [Value.ref _, _]) _ _ _); (refine' r_append (by walk_at "asm") (by walk_at "asm") (by walk_at "upd") (by walk_at "asz") ?_); intro _ _ _; (try k_sweep)))
  k_with "sub" => ((intro _ hpK9; first | exact List.mem_of_mem_tail hpK9 | (simp only [List.mem_cons, List.mem_append] at hpK9 ⊢; grind)))
  k_with "exec For Tuple Name cons nil" => ((k_dflt (refine' wpAny_For ?_ (by intro _; rfl))))
  k_with "exec For Name Name cons nil" => ((k_dflt (refine' wpAny_For ?_ (by intro _; rfl))))
  k_with "exec For Name Call cons nil" => ((k_dflt (refine' wpAny_For ?_ (by intro _; rfl))))
  k_with "exec For Name List cons nil" => ((k_dflt (refine' wpAny_For ?_ (by intro _; rfl))))
  k_with "exec For Name Attribute cons nil" => ((k_dflt (refine' wpAny_For ?_ (by intro _; rfl))))
  k_with "pyIter ref" => (refine Halt.out ?_)
  k_with "subscriptTail Name Constant ref int" => (((with_reducible show wpAny _ _ (subscriptTail _ _ (Value.ref _) (Value.int _ _)) _ _ _); (refine' item_tupleL (by refine' News.isTup (by walk_at "asm") (by walk_at "mem")) (by decide) (by decide) rfl rfl ?_ (by with_unfolding_all rfl) (by intro _; with_unfolding_all rfl))))
  k_with "eval Name" => ((goal_lacks compEnvC; first | (with_reducible refine' nmK (by decide +kernel) (by walk_at "asm") (by walk_at "mget") ?_) | k_dflt (first | (goal_lacks envOf; refine' nameX_L (by walk_at "asm") (by walk_at "mget") ?_ rfl (by with_unfolding_all rfl) (by decide)) | (goal_lacks envOf; refine' nameX_C (by walk_at "asm") rfl (by walk_at "mem") (by walk_at "asm") ?_ rfl (by with_unfolding_all rfl) (by decide)) | (refine' nameX_K (by walk_at "asm") (by walk_at "asm") (by k_asm) (by k_is) ?_ rfl (by with_unfolding_all rfl) (by decide)) | (refine' nameX_B (by walk_at "asm") (by walk_at "asm") (by k_asm) (by k_is) (by boot_fast) (by decide) ?_ rfl (by with_unfolding_all rfl) (by decide)))))
  k_with "loadName" => ((first | (with_reducible refine' ldL (by walk_at "asm") (by walk_at "mget") (by kernel_rfl) ?_) | k_dflt (refine' ldX (by walk_at "asm") (by walk_at "mget") ?_ rfl (by with_unfolding_all rfl))))
  trivial
theorem rg_S5c_1 : True := by
  k_with "subscriptTail Name Slice ref ref" => (((with_reducible show wpAny _ _ (subscriptTail _ (Expr.Slice none (some _) none _) _ _) _ _ _); (refine' slice_to2 (s := ⟨_, _, _, _, _⟩) (by walk_at "asm") (by walk_at "asm") (by walk_at "tup") ?_ (by with_unfolding_all rfl) (by intro _; with_unfolding_all rfl)); intro _ _ _ _ _; walk_at "ne"; (try k_sweep)))
  trivial
inductive OneP (x : Str) : Int → Bool × List (Str × Str) → Int → Prop
  | dot {i} : (ch x i == Str.ofString ".") = true → OneP x i (true, []) (i + 1)
  | esc {i T} : (ch x i == Str.ofString "\\") = true → Txt.slice x (some (i + 1)) (some (i + 2)) = T → T ∈ escs → OneP x i (false, [(T, T)]) (i + 2)
  | set {i b n qs j} : (ch x i == Str.ofString "[") = true → (ch x (i + 1) == Str.ofString "^") = b → RunP x n (if b = true then i + 1 + 1 else i + 1) [] qs j → n ≤ 1000 → OneP x i (b, qs) (j + 1)
noncomputable abbrev One := Bool × List (Str × Str)
noncomputable abbrev Piece := Int × List One
inductive PcP (x : Str) : Nat → Bool → Int → List Piece → Int → List One → List Piece → Prop
  | stop {i d k os} : ¬ i < x.length → PcP x 0 false i d k os (d ++ [(k, os)])
  | opn {n i d k os r} : i < x.length → (Txt.slice x (some i) (some (i + 6)) == Str.ofString "(?>.*?") = true → PcP x n true (i + 6) (d ++ [(k, os)]) 1 [] r → PcP x (n + 1) false i d k os r
  | cls {n i d k os r} : i < x.length → (ch x i == Str.ofString ")") = true → PcP x n false (i + 1) (d ++ [(k, os)]) 0 [] r → PcP x (n + 1) true i d k os r
  | dst {n i d k os r} : i < x.length → (Txt.slice x (some i) (some (i + 6)) == Str.ofString "(?>.*?") = false → (Txt.slice x (some i) (some (i + 2)) == Str.ofString ".*") = true → PcP x n false (i + 2) (d ++ [(k, os)]) 2 [] r → PcP x (n + 1) false i d k os r
  | one {n b i d k os r o j} : i < x.length → (b = false → (Txt.slice x (some i) (some (i + 6)) == Str.ofString "(?>.*?") = false ∧ (Txt.slice x (some i) (some (i + 2)) == Str.ofString ".*") = false) → (b = true → (ch x i == Str.ofString ")") = false) →
      OneP x i o j → PcP x n b j d k (os ++ [o]) r → PcP x (n + 1) b i d k os r
noncomputable def PieceIn (B : Addr → Obj → Prop) (v : Value) (p : Piece) : Prop := ∃ a l vs e t, v = .ref a ∧ B a (tupOf [.int p.1 t, .ref l]) ∧ B l (listOf vs.toArray e) ∧ Rel2 (OneIn B) vs p.2 ∧ vs.length ≤ 1000
theorem OneIn.mono {B C : Addr → Obj → Prop} {v : Value} {o : One} (h : OneIn B v o) (k : ∀ a o, B a o → C a o) : OneIn C v o := by
  obtain ⟨a, l, vs, e, rfl, h1, h2, h3, h4⟩ := h
  exact ⟨a, l, vs, e, rfl, k _ _ h1, k _ _ h2, h3.mono fun _ _ h => h.mono k, h4⟩
theorem PieceIn.mono {B C : Addr → Obj → Prop} {v : Value} {o : Piece} (h : PieceIn B v o) (k : ∀ a o, B a o → C a o) : PieceIn C v o := by
  obtain ⟨a, l, vs, e, t, rfl, h1, h2, h3, h4⟩ := h
  exact ⟨a, l, vs, e, t, rfl, k _ _ h1, k _ _ h2, h3.mono fun _ _ h => h.mono k, h4⟩
theorem RunP.len {x : Str} {n : Nat} {i j : Int} {ps qs : List (Str × Str)} (h : RunP x n i ps qs j) : qs.length = ps.length + n := by
  induction h with
  | stop => rfl
  | single _ _ _ _ ih => rw [ih]; simp; lia
  | pair _ _ _ _ _ _ ih => rw [ih]; simp; lia
theorem OneP.len {x : Str} {i j : Int} {o : One} (h : OneP x i o j) : o.2.length ≤ 1000 := by
  cases h with
  | dot => simp
  | esc => simp
  | set _ _ h1 h2 => have := h1.len; simp at this; simpa [this] using h2
theorem one_walk {w : World} {s : Shared} {A : Around} {x : Str} {i : Int} {tx ti : Tok} {R : Result → Shared → Prop} (G : Gd w s.heap) (hA : Ar A 3 20) (hx : x.length ≤ 100000) {o : One} {j : Int}
   (ho : OneP x i o j) (hR : OneOut s o j R) : codeAny (model PR w) A (.call (.ref 156) ⟨[.str x tx, .int i ti], []⟩) R s := by
  cases ho with
  | dot h1 => exact one_dot G hA hx h1 hR
  | esc h1 h2 h3 => exact one_esc G hA hx h1 (by rw [eq_of_beq h1]; decide) h2 h3 hR
  | set h1 h2 h3 h4 => exact one_set G hA hx h1 (by rw [eq_of_beq h1]; decide) (by rw [eq_of_beq h1]; decide) h2 h3 h4 hR
theorem fr_ne {h₀ h : Heap} {L a : Addr} {m : Str → Option Value} (F : Fr h₀ L h m) (hn : h.get? a = none) : a ≠ L := by
  obtain ⟨oL, _, _, hL, _⟩ := F.ns
  rintro rfl
  rw [hn] at hL; cases hL
theorem fr_new {h₀ h : Heap} {L a : Addr} {m : Str → Option Value} (F : Fr h₀ L h m) (hn : h.get? a = none) : h₀.get? a = none := by
  cases hq : h₀.get? a with
  | none => rfl
  | some o' => have := F.keep _ _ hq; rw [hn] at this; cases this
theorem newsLift {h₀ h h' : Heap} {L L' : Addr} {m : Str → Option Value} {news new : List (Addr × Obj)} (F : Fr h₀ L h m) (N : News h₀ L h news) (k : h.StaysIn h') (M : News h L' h' new) : News h₀ L h' (new ++ news) := by
  intro p hp
  rcases List.mem_append.mp hp with hp | hp
  · exact ⟨(M p hp).1, fr_ne F (M p hp).2.2, fr_new F (M p hp).2.2⟩
  · exact stayN N k p hp
theorem newsOff {h₀ h h' : Heap} {L L' : Addr} {news new : List (Addr × Obj)} (N : News h₀ L h news) (M : News h L' h' new) {p q : Addr × Obj} (hp : p ∈ new) (hq : q ∈ news) : p.1 ≠ q.1 := by
  intro e
  have h1 := (M p hp).2.2
  rw [e, (N q hq).1] at h1
  cases h1
theorem one_call {w : World} {s : Shared} {A : Around} {x : Str} {i : Int} {tx ti : Tok} {Q : Value → Shared → Prop} {E : Value → Shared → Prop} {h₀ : Heap} {L : Addr} {m : Str → Option Value} {pl cl : Addr} {po co : Obj} {imm : List (Addr × Obj)} {o : One} {j : Int}
   (F : Fr h₀ L s.heap m) (N : News h₀ L s.heap ((pl, po) :: (cl, co) :: imm)) (G : Gd w h₀) (hA : Ar A 3 20) (hx : x.length ≤ 100000) (ho : OneP x i o j) (o1 : OwnOff imm [pl]) (o2 : OwnOff imm [cl]) {ct : Addr} {cto : Obj} (hct : (ct, cto) ∈ imm)
   (h : ∀ a l h' tk t e vs imm₂, Fr h₀ L h' m → News h₀ L h' ((a, tupOf [.bool o.1, .ref l, .int j t]) :: (pl, po) :: (cl, co) :: imm₂) → (∀ p ∈ imm, p ∈ imm₂) → (l, listOf vs.toArray e) ∈ imm₂ → Rel2 (PairIn fun a o => (a, o) ∈ imm₂) vs o.2 → OwnOff imm₂ [pl] → OwnOff imm₂ [cl] → @Ne Nat a pl → @Ne Nat a cl → (ct, cto) ∈ imm₂ → Q (.ref a) {s with heap := h', toks := tk}) :
   wpAny (model PR w) A (call (.ref 156) [.str x tx, .int i ti] []) Q E s := by
  refine wpAny_call (one_walk (G.keeps F.keep) hA hx ho fun a h' tk t hk l e vs imm' M hr => ?_)
  have hN := newsLift F N hk M
  refine h a l h' tk t e vs ((l, listOf vs.toArray e) :: (imm' ++ imm)) (stayF F hk) ?_ (fun p hp => .tail _ (List.mem_append.mpr (.inr hp))) (.head _) (hr.mono fun _ _ h => h.mono fun _ _ h => .tail _ (List.mem_append.mpr (.inl h))) ?_ ?_ (newsOff N M (.head _) (.head _)) (newsOff N M (.head _) (.tail _ (.head _))) (.tail _ (List.mem_append.mpr (.inr hct)))
  · refine subN hN fun p hp => ?_
    simp only [List.mem_cons, List.mem_append] at hp ⊢
    grind
  · rintro p hp c hc
    rw [List.mem_singleton.mp hc]
    rcases List.mem_cons.mp hp with rfl | hp
    · exact newsOff N M (.tail _ (.head _)) (.head _)
    · rcases List.mem_append.mp hp with hp | hp
      · exact newsOff N M (.tail _ (.tail _ hp)) (.head _)
      · exact o1 _ hp _ (.head _)
  · rintro p hp c hc
    rw [List.mem_singleton.mp hc]
    rcases List.mem_cons.mp hp with rfl | hp
    · exact newsOff N M (.tail _ (.head _)) (.tail _ (.head _))
    · rcases List.mem_append.mp hp with hp | hp
      · exact newsOff N M (.tail _ (.tail _ hp)) (.tail _ (.head _))
      · exact o2 _ hp _ (.head _)
theorem swap3 {h₀ : Heap} {L : Addr} {h : Heap} {a b c : Addr × Obj} {l : List (Addr × Obj)} (N : News h₀ L h (a :: b :: c :: l)) : News h₀ L h (a :: c :: b :: l) := subN N fun p hp => by simp only [List.mem_cons] at hp ⊢; grind
theorem off1 {a b : Addr} {o : Obj} (h : a ≠ b) : OwnOff [(a, o)] [b] := fun p hp c hc => by rw [List.mem_singleton.mp hp, List.mem_singleton.mp hc]; exact h
theorem last_item {prog : Program} {w : World} {A : Around} {E : Value → Shared → Prop} {s : Shared} {h₀ : Heap} {L : Addr} {news : List (Addr × Obj)} {value slice : Expr} {a : Addr} {l : List Value} {n : Nat} {k : Int} {u : Tok} {x : Value} {Q : Value → Shared → Prop}
    (N : News h₀ L s.heap news) (hm : (a, listOf (l ++ [x]).toArray n) ∈ news) (hk : k = -1) (h : Q x s)
    (hs : subscripted slice false (.ref a) (.int k u) = operate [.ref a, .int k u] (getItem (.ref a) (.int k u)) := by with_unfolding_all rfl) (hg : ∀ r, letTemporaryGo value (.ref a) r = pure () := by intro _; with_unfolding_all rfl) :
    wpAny (model prog w) A (subscriptTail value slice (.ref a) (.int k u)) Q E s := by
  refine kim_back (lo := listOf (l ++ [x]).toArray n) (n := n) (l := l ++ [x]) N hm rfl rfl (by lia) (by rw [List.length_append, List.length_singleton]; lia) (by rw [hk]; decide) ?_ h hs hg
  rw [show (k + ((l ++ [x]).length : Int)).toNat = l.length by rw [List.length_append, List.length_singleton]; lia]
  simp
theorem second_item {prog : Program} {w : World} {A : Around} {E : Value → Shared → Prop} {s : Shared} {h₀ : Heap} {L : Addr} {news : List (Addr × Obj)} {value slice : Expr} {a : Addr} {u : Tok} {x y : Value} {Q : Value → Shared → Prop}
    (N : News h₀ L s.heap news) (hm : (a, tupOf [x, y]) ∈ news) (h : Q y s)
    (hs : subscripted slice false (.ref a) (.int 1 u) = operate [.ref a, .int 1 u] (getItem (.ref a) (.int 1 u)) := by with_unfolding_all rfl) :
    wpAny (model prog w) A (subscriptTail value slice (.ref a) (.int 1 u)) Q E s :=
  kba_turn (value' := PySem.Expr.Name (PySem.Str.ofString "_") ⟨0, 0, 0, 0⟩) (fun _ => rfl) (item_tupleL ⟨tupOf [x, y], (N _ hm).1, rfl, _, rfl⟩ (by decide) (by decide) (l := [x, y]) (j := 1) rfl rfl h hs (fun _ => rfl))
inductive pcJ (x : Str) (r : List Piece) (n : Nat) (m : Str → Option Value) : List (Addr × Obj) → Prop
  | mk {tx : Tok} {i : Int} {ti : Tok} {b : Bool} {d : List Piece} {k : Int} {os : List One} {pv : List Value} {pe : Nat} {cv : List Value} {ce : Nat} {imm : List (Addr × Obj)} {pl cl ct : Addr} {t : Tok} (hrun : PcP x n b i d k os r) (hct : (ct, tupOf [.int k t, .ref cl]) ∈ imm) (hd : Rel2 (PieceIn fun a o => (a, o) ∈ imm) pv d) (hos : Rel2 (OneIn fun a o => (a, o) ∈ imm) cv os)
    (o1 : OwnOff imm [pl]) (o2 : OwnOff imm [cl]) (hne : pl ≠ cl) (l1 : n + pv.length ≤ 999) (l2 : n + cv.length ≤ 1000) (hi : 0 ≤ i)
    (m1 : m (Str.ofString "text") = some (.str x tx)) (m2 : m (Str.ofString "i") = some (.int i ti)) (m3 : m (Str.ofString "pieces") = some (.ref pl)) (m4 : m (Str.ofString "held") = some (.bool b)) : pcJ x r n m ((pl, listOf (pv ++ [Value.ref ct]).toArray pe) :: (cl, listOf cv.toArray ce) :: imm)
theorem allLt_mem {a : Addr} : ∀ {l : List (Addr × Obj)}, AllLt a l → ∀ p ∈ l, p.1 < a
  | [], _, _, hp => nomatch hp
  | _ :: _, h, p, hp => by
    rcases List.mem_cons.mp hp with rfl | hp
    · exact h.1
    · exact allLt_mem h.2 _ hp
theorem pc_end {x : Str} {r : List Piece} {n : Nat} {b b' : Bool} {i : Int} {d : List Piece} {k k' : Int} {os : List One} {h₀ h' : Heap} {L pl cl ct cl' ct' : Addr} {m' : Str → Option Value} {t t' tx ti : Tok} {imm : List (Addr × Obj)} {pv cv : List Value} {pe ce tk : Nat} {s : Shared}
    (N : News h₀ L h' ((ct', tupOf [.int k' t', .ref cl']) :: (cl', listOf #[] 0) :: (pl, listOf ((pv ++ [Value.ref ct]).toArray.push (.ref ct')) pe) :: (cl, listOf cv.toArray ce) :: imm)) (F : Fr h₀ L h' m') (hrun : PcP x n b i (d ++ [(k, os)]) k' [] r)
    (hct : (ct, tupOf [.int k t, .ref cl]) ∈ imm) (hd : Rel2 (PieceIn fun a o => (a, o) ∈ imm) pv d) (hos : Rel2 (OneIn fun a o => (a, o) ∈ imm) cv os) (o1 : OwnOff imm [pl]) (hne : pl ≠ cl) (n1 : pl < cl' ∧ cl < cl' ∧ AllLt cl' imm) (n2 : cl' < ct' ∧ pl < ct' ∧ cl < ct' ∧ AllLt ct' imm)
    (l1 : (n + 1) + pv.length ≤ 999) (l2 : (n + 1) + cv.length ≤ 1000) (hi : 0 ≤ i) (m1 : m' (Str.ofString "text") = some (.str x tx)) (m2 : m' (Str.ofString "i") = some (.int i ti)) (m3 : m' (Str.ofString "pieces") = some (.ref pl)) (m4 : m' (Str.ofString "held") = some (.bool b')) (hb : b' = b) :
    WhileStep h₀ L s (pcJ x r) (n + 1) .next { s with heap := h', toks := tk } := by
  rw [List.push_toArray] at N
  refine WhileStep.intro (n' := n) (news₂ := (pl, listOf ((pv ++ [Value.ref ct]) ++ [Value.ref ct']).toArray pe) :: (cl', listOf [].toArray 0) :: (ct', tupOf [.int k' t', .ref cl']) :: (cl, listOf cv.toArray ce) :: imm) F (subN N ?_) (Nat.lt_succ_self _)
    (.mk hrun (.head _) ?_ .nil ?_ ?_ (Nat.ne_of_lt n1.1) (by simp only [List.length_append, List.length_singleton]; lia) (by simp only [List.length_nil]; lia) hi m1 m2 m3 (hb ▸ m4))
  · intro p hp
    simp only [List.mem_cons] at hp ⊢
    grind
  · exact (hd.mono fun _ _ h => h.mono fun _ _ h => .tail _ (.tail _ h)).snoc ⟨_, _, _, _, _, rfl, .tail _ (.tail _ hct), .tail _ (.head _), hos.mono fun _ _ h => h.mono fun _ _ h => .tail _ (.tail _ h), by lia⟩
  · exact ownOff_cons (ownOff_cons o1 hne.symm) (Nat.ne_of_gt n2.2.1)
  · refine ownOff_cons (ownOff_cons ?_ (Nat.ne_of_lt n1.2.1)) (Nat.ne_of_gt n2.1)
    intro p hp c hc
    rw [List.mem_singleton.mp hc]
    exact Nat.ne_of_lt (allLt_mem n1.2.2 _ hp)
noncomputable def PcOut (s : Shared) (r : List Piece) (R : Result → Shared → Prop) : Prop := ∀ l h' tk, s.heap.StaysIn h' → ∀ e vs imm, News s.heap s.heap.objs.size h' ((l, listOf vs.toArray e) :: imm) → Rel2 (PieceIn fun a o => (a, o) ∈ imm) vs r → vs.length ≤ 1000 → R (.ok (.ret (.ref l))) {s with heap := h', toks := tk}
theorem rgm_S5_1 : True := by
  k_with "subscriptTail Name UnaryOp ref int" => (((with_reducible show wpAny _ _ (subscriptTail _ _ (Value.ref _) (Value.int _ _)) _ _ _); k_dflt (refine' last_item (by walk_at "asm") (by exact List.Mem.tail _ (List.Mem.head _)) rfl ?_ (by with_unfolding_all rfl) (by intro _; with_unfolding_all rfl))))
  trivial
theorem rg_S5c_2 : True := by
  k_with "subscriptTail Subscript Name UnaryOp Constant ref int" => (((with_reducible show wpAny _ _ (subscriptTail _ (Expr.Constant (Const.int 1) _ _) (Value.ref _) (Value.int _ _)) _ _ _); k_dflt (refine' second_item (by walk_at "asm") (by exact List.mem_cons_of_mem _ (List.mem_cons_of_mem _ (List.mem_cons_of_mem _ (by with_reducible assumption)))) ?_ (by with_unfolding_all rfl))))
  k_with "subscriptTail Name Constant ref int" => (((with_reducible show wpAny _ _ (subscriptTail _ (Expr.Constant (Const.int 1) _ _) (Value.ref _) (Value.int _ _)) _ _ _); (refine' second_item (by walk_at "asm") (by exact List.mem_cons_of_mem _ (List.mem_cons_of_mem _ (List.mem_cons_of_mem _ (by with_reducible assumption)))) ?_ (by with_unfolding_all rfl))))
  k_with "call ref" => (((with_reducible show wpAny _ _ (call (Value.ref 156) _ _) _ _ _); (refine' one_call (by k_asm) (by k_asm) (by k_asm) (by exact Ar.into (by assumption) (by decide) (by decide) _) (by with_reducible assumption) (by with_reducible assumption) (by with_reducible assumption) (by with_reducible assumption) (by with_reducible assumption) ?_; k_whole); intro _ _ _ _ _ _ _ _ _ _ _ _ _ _ _ _ _ _; (try k_sweep)))
  trivial
theorem signF_le (x : Str) (i : Int) : i + 1 ≤ (signF x i).2 := by unfold signF; split <;> simp only <;> lia
theorem RunP.le {x : Str} {n : Nat} {i j : Int} {ps qs : List (Str × Str)} (h : RunP x n i ps qs j) : i ≤ j := by
  induction h with
  | stop => exact Int.le_refl _
  | @single n i _ _ _ _ _ _ _ ih => have := signF_le x i; lia
  | @pair n i _ _ _ _ _ _ _ _ _ ih => have := signF_le x i; have := signF_le x ((signF x i).2 + 1); lia
theorem OneP.le {x : Str} {i j : Int} {o : One} (h : OneP x i o j) : i ≤ j := by
  cases h with
  | dot => lia
  | esc => lia
  | set _ _ h1 _ => have := h1.le; split at this <;> lia
theorem pc_one {x : Str} {r : List Piece} {n : Nat} {b b' : Bool} {i j : Int} {d : List Piece} {k : Int} {os : List One} {o : One} {h₀ h' : Heap} {L pl cl ct a l D : Addr} {m' : Str → Option Value} {t t3 tx ti : Tok} {imm : List (Addr × Obj)} {pv cv vs : List Value} {pe ce e tk : Nat} {s : Shared}
    (N : News h₀ L h' ((D, tupOf [.bool o.1, .ref l]) :: (a, tupOf [.bool o.1, .ref l, .int j t3]) :: (pl, listOf (pv ++ [Value.ref ct]).toArray pe) :: (cl, listOf (cv.toArray.push (.ref D)) ce) :: imm)) (F : Fr h₀ L h' m') (hone : OneP x i o j) (hrun : PcP x n b j d k (os ++ [o]) r)
    {imm₀ : List (Addr × Obj)} (hsub : ∀ p ∈ imm₀, p ∈ imm) (hct : (ct, tupOf [.int k t, .ref cl]) ∈ imm₀) (hd : Rel2 (PieceIn fun a o => (a, o) ∈ imm₀) pv d) (hos : Rel2 (OneIn fun a o => (a, o) ∈ imm₀) cv os) (hl : (l, listOf vs.toArray e) ∈ imm) (hr : Rel2 (PairIn fun a o => (a, o) ∈ imm) vs o.2)
    (o1 : OwnOff imm [pl]) (o2 : OwnOff imm [cl]) (hne : pl ≠ cl) (n1 : a ≠ D ∧ pl ≠ D ∧ cl ≠ D ∧ AllNe D imm)
    (l1 : (n + 1) + pv.length ≤ 999) (l2 : (n + 1) + cv.length ≤ 1000) (hi : 0 ≤ i) (m1 : m' (Str.ofString "text") = some (.str x tx)) (m2 : m' (Str.ofString "i") = some (.int j ti)) (m3 : m' (Str.ofString "pieces") = some (.ref pl)) (m4 : m' (Str.ofString "held") = some (.bool b')) (hb : b' = b) :
    WhileStep h₀ L s (pcJ x r) (n + 1) .next { s with heap := h', toks := tk } := by
  rw [List.push_toArray] at N
  have hvl : vs.length ≤ 1000 := by rw [hr.length]; exact hone.len
  refine WhileStep.intro (n' := n) (news₂ := (pl, listOf (pv ++ [Value.ref ct]).toArray pe) :: (cl, listOf (cv ++ [Value.ref D]).toArray ce) :: (D, tupOf [.bool o.1, .ref l]) :: imm) F (subN N ?_) (Nat.lt_succ_self _)
    (.mk hrun (.tail _ (hsub _ hct)) ?_ ?_ ?_ ?_ hne (by lia) (by simp only [List.length_append, List.length_singleton]; lia) (by have := hone.le; lia) m1 m2 m3 (hb ▸ m4))
  · intro p hp
    simp only [List.mem_cons] at hp ⊢
    grind
  · exact hd.mono fun _ _ h => h.mono fun _ _ h => .tail _ (hsub _ h)
  · exact (hos.mono fun _ _ h => h.mono fun _ _ h => List.Mem.tail _ (hsub _ h)).snoc ⟨_, _, _, _, rfl, .head _, .tail _ hl, hr.mono fun _ _ h => h.mono fun _ _ h => .tail _ h, hvl⟩
  · exact ownOff_cons o1 n1.2.1.symm
  · exact ownOff_cons o2 n1.2.2.1.symm
set_option maxRecDepth 100000 in
set_option maxHeartbeats 4000000 in
theorem pieces_walk {w : World} {s : Shared} {A : Around} {X x : Str} {tX : Tok} {R : Result → Shared → Prop} (G : Gd w s.heap) (hA : Ar A 4 40) (hX : X.length ≤ 100000) (hx : x.length ≤ 100000)
   (e1 : Txt.slice X none (some 4) = Str.ofString "(?s:") (e2 : Txt.slice X (some (-3)) none = Str.ofString ")\\Z") (e3 : Txt.slice X (some 4) (some (-3)) = x) {n : Nat} {r : List Piece} (hp : PcP x n false 0 [] 0 [] r) (hn : n ≤ 990)
   (hR : PcOut s r R) :
   codeAny (model PR w) A (.call (.ref 163) ⟨[.str X tX], []⟩) R s := by
  refine' call_fn (binds := [(Str.ofString "text", .str X tX)]) G ?a ?b ?c ?d ?e ?f ?g ?h ?i ?j
  walk_at "sides"
  intro h₁ m hm F
  have m1 : m (Str.ofString "text") = some (.str X tX) := by rw [hm]; rfl
  clear hm
  obtain ⟨p, loose, mean, mg, mb, T⟩ := G.T
  have K := G.K
  have N : News s.heap s.heap.objs.size h₁ [] := News.nil
  walk_at "go"
  · rename (_ != _) = true => hc
    rw [e1] at hc; exact absurd hc (by decide)
  · rename (_ != _) = true => hc
    rw [e2] at hc; exact absurd hc (by decide)
  refine Halt.in ?_
  rename News _ _ _ _ => N9
  refine While_inv (pcJ x r) (n₀ := n) (by assumption) (swap3 N9) ?_ ?_ PassesOwn.never
  · exact .mk (pv := []) (cv := []) hp (.head _) .nil .nil (off1 (by k_ne)) (off1 (by k_ne)) (by k_ne) (by simp only [List.length_nil]; lia) (by simp only [List.length_nil]; lia) (Int.le_refl 0) ((if_neg (by decide)).trans ((if_neg (by decide)).trans ((if_neg (by decide)).trans ((if_pos rfl).trans (by rw [e3]))))) (by walk_at "mget") (by walk_at "mget") (by walk_at "mget")
  · intro n₁ m₁ news₁ h₂ tk₂ F₂ N₂ hJ
    induction hJ
    rename_i tx i ti b' d k os pv pe cv ce imm pl cl ct t hrun hct hd hos o1 o2 hne l1 l2 hi m1 m2 m3 m4
    have hne2 := hne.symm
    have hvs : cv.length ≤ 100000 := by lia
    have hvs2 : (pv ++ [Value.ref ct]).length ≤ 100000 := by simp; lia
    cases hrun with
    | stop h1 =>
      walk_at "go"
      refine hR _ _ _ (Fr.keep (by assumption)) _ _ _ (by assumption) (Rel2.snoc (hd.mono fun _ _ h => h.mono fun _ _ h => .tail _ h) ⟨_, _, _, _, _, rfl, .tail _ hct, .head _, hos.mono fun _ _ h => h.mono fun _ _ h => .tail _ h, by lia⟩) (by simp only [List.length_append, List.length_singleton]; lia)
    | opn h1 h2 h3 =>
      walk_at "go"
      exact pc_end (by with_reducible assumption) (by with_reducible assumption) h3 hct hd hos o1 hne (by with_reducible assumption) (by with_reducible assumption) l1 l2 (by lia) (by walk_at "mget") (by walk_at "mget") (by walk_at "mget") (by walk_at "mget") rfl
    | cls h1 h2 h3 =>
      walk_at "go"
      exact pc_end (by with_reducible assumption) (by with_reducible assumption) h3 hct hd hos o1 hne (by with_reducible assumption) (by with_reducible assumption) l1 l2 (by lia) (by walk_at "mget") (by walk_at "mget") (by walk_at "mget") (by walk_at "mget") rfl
    | dst h1 h2 h3 h4 =>
      walk_at "go"
      exact pc_end (by with_reducible assumption) (by with_reducible assumption) h4 hct hd hos o1 hne (by with_reducible assumption) (by with_reducible assumption) l1 l2 (by lia) (by walk_at "mget") (by walk_at "mget") (by walk_at "mget") (by walk_at "mget") rfl
    | one h1 h2 h3 h4 h5 =>
      cases b' with
      | false =>
        obtain ⟨h6, h7⟩ := h2 rfl
        walk_at "go"
        exact pc_one (by with_reducible assumption) (by with_reducible assumption) h4 h5 (by with_reducible assumption) hct hd hos (by with_reducible assumption) (by with_reducible assumption) (by with_reducible assumption) (by with_reducible assumption) hne (by with_reducible assumption) l1 l2 hi (by walk_at "mget") (by walk_at "mget") (by walk_at "mget") (by walk_at "mget") rfl
      | true =>
        have h6 := h3 rfl
        walk_at "go"
        exact pc_one (by with_reducible assumption) (by with_reducible assumption) h4 h5 (by with_reducible assumption) hct hd hos (by with_reducible assumption) (by with_reducible assumption) (by with_reducible assumption) (by with_reducible assumption) hne (by with_reducible assumption) l1 l2 hi (by walk_at "mget") (by walk_at "mget") (by walk_at "mget") (by walk_at "mget") rfl
end Mine
theorem Mine.off_S6 : True := by w_top off; trivial
theorem Mine.rs_S6 {M : Model} {A : Around} {E : Value → Shared → Prop} {s : Shared} {Q : Flow → Shared → Prop} {p : Pos} {env : Env} (h : wpAny M A (exec (Stmt.Pass p) env) Q E s) : wpAny M A (exec (Stmt.Pass p) env) Q E s := by first | (walk1; fail) | exact h
namespace Mine
theorem reg_S6 : True := by
  k_with_none
  k_with "cj" => (first | with_reducible assumption | exact cj1 (by with_reducible assumption) | exact cj2 (by with_reducible assumption) | exact cj3 (by with_reducible assumption) | exact cj4 (by with_reducible assumption) | exact cj5 (by with_reducible assumption) | exact ce2 (by with_reducible assumption) | exact ce3 (by with_reducible assumption) | exact ce4 (by with_reducible assumption) | exact ce5 (by with_reducible assumption))
  k_with "ne1" => (refine neN ?_; first | with_reducible assumption | (refine Ne.symm ?_; with_reducible assumption) | walk_at "cj" | (refine Ne.symm ?_; walk_at "cj") | (refine Nat.ne_of_lt ?_; walk_at "cj") | (refine Nat.ne_of_gt ?_; walk_at "cj") | ((try dsimp only); omega))
  k_with "eval Constant int" => (refine r_int ?_)
  k_with "eval Constant str" => (refine r_str ?_)
  k_with "binaryOp Add int int" => (refine r_add ?_)
  k_with "binaryOp Sub int int" => (refine r_sub ?_)
  k_with "unaryOp USub int" => (refine r_neg ?_)
  k_with "inplaceOp Add int int" => (refine r_iadd ?_)
  k_with "eval Slice" => (refine r_slice ?_)
  k_with "SlQ" => (refine SlQ.go ?_)
  k_with "mget" => (first | with_reducible assumption | with_reducible exact upd_eq | ((with_reducible refine Eq.trans upd_eq ?_); rfl) | ((with_reducible refine upd_ne (by kernel_rfl) ?_); walk_at "mget") | (goal_lacks upd; first | exact if_pos rfl | (refine Eq.trans (if_neg (by decide)) ?_; walk_at "mget")))
  k_with "newTuple" => ((refine' r_tuple (by walk_at "asm") (by walk_at "asm") (by exact Nat.le_of_ble_eq_true rfl) ?_); intro _ _ _ _ _; walk_at "lt"; (try k_sweep))
  k_with "ite" => (first | with_reducible refine ite_tt ?_ | with_reducible refine ite_ff ?_ | (refine ite_pos (by with_reducible assumption) ?_) | (refine ite_neg (by refine ne_true_of_eq_false ?_; with_reducible assumption) ?_))
  k_with "tup" => (first | (refine News.isTup (by walk_at "asm") (by walk_at "mem")) | with_reducible assumption | (refine stays_tup (Fr.keep (by walk_at "asm")) (by walk_at "asm")))
  k_with "lst" => (first | (refine News.isList (by walk_at "asm") (by walk_at "mem")) | with_reducible assumption | (refine stays_list (Fr.keep (by walk_at "asm")) (by walk_at "asm")))
  k_with "off" => (first | exact List.forall_mem_nil _ | exact OwnOff.ne (by with_reducible assumption) (List.Mem.head _) | (refine List.forall_mem_cons.mpr ?_; refine And.intro ?_ ?_; (focus k_ne); (walk_at "off")))
  k_with "upd" => (first | (apply upd_hd; walk_at "off") | (apply upd_tl; (case hne => k_ne); (case hu => walk_at "upd")))
  k_with "RunTo" => ((first | refine NextTo.next (by with_reducible assumption) ?_ | refine NextTo.ret (by with_reducible assumption) ?_ | refine NextTo.brk (by with_reducible assumption) ?_ | refine NextTo.cont (by with_reducible assumption) ?_); (try dsimp only))
  k_with "go" => (repeat' (first | (k_unfold; (try dsimp only)) | walk1 | (dsimp only; walk1)))
  k_with "sides" => (((case b => (k_is)); (case c => (k_is)); (case a => (exact Ar.room (by assumption))); (case d => (exact BindsTo.of_eq rfl)); (case e => (exact locs rfl)); (case g => (rfl)); (case h => (rfl)); (case i => (rfl)); (case j => (decide))))
  k_with "mem" => (first | exact List.Mem.head _ | (refine' List.Mem.tail _ ?_; walk_at "mem"))
  k_with "units" => (first | exact Ar.units0 (by assumption) _ | exact Ar.unitsD (by assumption) (by decide) _)
  k_with "asm" => (with_reducible assumption)
  k_with "lt" => (((rename ∀ p ∈ _, (p : Addr × Obj).1 < _ => l9); (replace l9 := allLt_of l9); (dsimp only [AllLt] at l9)))
  k_with "ne" => (((rename ∀ p ∈ _, (p : Addr × Obj).1 ≠ _ => l9); (replace l9 := allNe_of l9); (dsimp only [AllNe] at l9)))
  k_with "storeName" => ((with_reducible refine' r_store (by walk_at "asm") (by walk_at "asm") (by kernel_rfl) ?_); intro _ _ _; (try k_sweep))
  k_with "exec While Compare cons nil" => (refine Halt.out ?_)
  k_with "exec While BoolOp cons nil" => (refine Halt.out ?_)
  k_with "exec While Constant cons nil" => (refine Halt.out ?_)
  k_with "exec While Name cons nil" => (refine Halt.out ?_)
  k_with "exec While" => (refine Halt.out ?_)
  k_with "execs cons" => (first | (refine execs_lastQ (fun tk => ?_)) | (refine execs_consQ (fun tk qk hqk => ?_)))
  k_with "newList" => (((refine' r_list (by walk_at "asm") (by walk_at "asm") (by exact Nat.le_of_ble_eq_true rfl) ?_); intro _ _ _ _ _; walk_at "lt"; (try k_sweep)))
  k_with "subscriptTail Name Slice str ref" => ((with_reducible first | refine' slice_ss5 (by walk_at "asm") (by walk_at "asm") (by with_reducible assumption) ?_ | refine' slice_sn5 (by walk_at "asm") (by walk_at "asm") (by with_reducible assumption) ?_); intro _ _ _ _ _; (try k_sweep))
  k_with "handled" => (first | exact Ar.hhD (by assumption) _ | exact Ar.hh (by assumption) | rfl)
  k_with "assign Tuple" => (((with_reducible show wpAny _ _ (assign (Expr.Tuple _ _ _) _ (Value.ref _)) _ _ _); k_dflt (refine' r_unpack (by walk_at "asm") (by walk_at "asm") (by walk_at "tup") (by walk_at "handled") rfl rfl ?_); intro _ _ _; (try k_sweep)))
  k_with "asz" => (k_dflt (first | exact aszL (by with_reducible assumption) | exact Nat.le_of_ble_eq_true rfl))
  k_with "call builtin:list.append" => (((with_reducible show wpAny _ _ (call (Value.builtin _) [Value.ref _, _]) _ _ _); (refine' r_append (by walk_at "asm") (by walk_at "asm") (by walk_at "upd") (by walk_at "asz") ?_); intro _ _ _; (try k_sweep)))
  k_with "sub" => ((intro _ hpK9; first | exact List.mem_of_mem_tail hpK9 | (simp only [List.mem_cons, List.mem_append] at hpK9 ⊢; grind)))
  k_with "exec For Tuple Name cons nil" => ((k_dflt (refine' wpAny_For ?_ (by intro _; rfl))))
  k_with "exec For Name Name cons nil" => ((k_dflt (refine' wpAny_For ?_ (by intro _; rfl))))
  k_with "exec For Name Call cons nil" => ((k_dflt (refine' wpAny_For ?_ (by intro _; rfl))))
  k_with "exec For Name List cons nil" => ((k_dflt (refine' wpAny_For ?_ (by intro _; rfl))))
  k_with "exec For Name Attribute cons nil" => ((k_dflt (refine' wpAny_For ?_ (by intro _; rfl))))
  k_with "pyIter ref" => (refine Halt.out ?_)
  k_with "subscriptTail Name Constant ref int" => (((with_reducible show wpAny _ _ (subscriptTail _ _ (Value.ref _) (Value.int _ _)) _ _ _); (refine' item_tupleL (by refine' News.isTup (by walk_at "asm") (by walk_at "mem")) (by decide) (by decide) rfl rfl ?_ (by with_unfolding_all rfl) (by intro _; with_unfolding_all rfl))))
  k_with "eval Name" => ((goal_lacks compEnvC; first | (with_reducible refine' nmK (by decide +kernel) (by walk_at "asm") (by walk_at "mget") ?_) | k_dflt (first | (goal_lacks envOf; refine' nameX_L (by walk_at "asm") (by walk_at "mget") ?_ rfl (by with_unfolding_all rfl) (by decide)) | (goal_lacks envOf; refine' nameX_C (by walk_at "asm") rfl (by walk_at "mem") (by walk_at "asm") ?_ rfl (by with_unfolding_all rfl) (by decide)) | (refine' nameX_K (by walk_at "asm") (by walk_at "asm") (by k_asm) (by k_is) ?_ rfl (by with_unfolding_all rfl) (by decide)) | (refine' nameX_B (by walk_at "asm") (by walk_at "asm") (by k_asm) (by k_is) (by boot_fast) (by decide) ?_ rfl (by with_unfolding_all rfl) (by decide)))))
  k_with "loadName" => ((first | (with_reducible refine' ldL (by walk_at "asm") (by walk_at "mget") (by kernel_rfl) ?_) | k_dflt (refine' ldX (by walk_at "asm") (by walk_at "mget") ?_ rfl (by with_unfolding_all rfl))))
  trivial
inductive SeaP (x : Str) (ones : List One) (last : Int) : Nat → Int → Int → Prop
  | hit {p : Int} : p ≤ last → fitF x p ones = true → SeaP x ones last 0 p p
  | miss {n : Nat} {p q : Int} : p ≤ last → fitF x p ones = false → SeaP x ones last n (p + 1) q → SeaP x ones last (n + 1) p q
noncomputable def starF (x : Str) (p : Int) (n : Nat) (ones : List One) : List Int := (((List.range n).map fun i => p + ((i : Nat) : Int)).filter fun q => fitF x q ones).map fun q => q + (ones.length : Int)
inductive EndP (x : Str) : List Piece → List Int → List Int → Prop
  | nil {ps} : EndP x [] ps ps
  | fix {p : Int} {ones : List One} {r : List Piece} {out : List Int} : fitF x p ones = true → EndP x r [p + (ones.length : Int)] out → EndP x ((0, ones) :: r) [p] out
  | look {n : Nat} {p q : Int} {ones : List One} {r : List Piece} {out : List Int} : SeaP x ones ((x.length : Int) - (ones.length : Int)) n p q → EndP x r [q + (ones.length : Int)] out → EndP x ((1, ones) :: r) [p] out
  | star {n : Nat} {p : Int} {ones : List One} : 0 ≤ p → p + (n : Int) = (x.length : Int) - (ones.length : Int) + 1 → EndP x [(2, ones)] [p] (starF x p n ones)
inductive endsJ (L : Addr) (x : Str) (pieces : List Piece) (out : List Int) (k : Nat) (m : Str → Option Value) : List (Addr × Obj) → Prop
  | mk {oT oO : Obj} {pl : Addr} {pv : List Value} {pe : Nat} {ns : List Int} {tx : Tok} {cv : Option Value} (hd1 : oT.data = .cell (some (.str x tx))) (hd2 : oO.data = .cell cv) (hpv : IntsAre pv ns) (hE : EndP x (pieces.drop k) ns out) (hlen : pv.length ≤ 20000)
      (k1 : m (Str.ofString "places") = some (.ref pl)) (k2 : @Ne Nat pl (L + 1 + 1)) (k3 : @Ne Nat pl (L + 1)) : endsJ L x pieces out k m [(pl, listOf pv.toArray pe), (L + 1 + 1, oO), (L + 1, oT)]
theorem rg_S6_1 : True := by
  k_with "call builtin:len" => (((with_reducible show wpAny _ _ (call (Value.builtin _) [Value.ref _]) _ _ _); k_dflt (refine' len_lst (by walk_at "lst") (by with_reducible assumption) (by omega) ?_)))
  trivial
theorem fit_call {w : World} {s : Shared} {A : Around} {x : Str} {i : Int} {tx ti : Tok} {Q : Value → Shared → Prop} {E : Value → Shared → Prop} {h₀ : Heap} {L : Addr} {m : Str → Option Value} {l : Addr} {vs : List Value} {e : Nat} {ones : List One}
   (F : Fr h₀ L s.heap m) (G : Gd w h₀) (hA : Ar A 1 10) (hx : x.length ≤ 100000) (hl : h₀.get? l = some (listOf vs.toArray e)) (hrel : Rel2 (OneIn fun a o => h₀.get? a = some o) vs ones)
   {news : List (Addr × Obj)} (N : News h₀ L s.heap news) (h : ∀ h' tk, s.heap.StaysIn h' → Fr h₀ L h' m → News h₀ L h' news → Q (.bool (fitF x i ones)) {s with heap := h', toks := tk}) :
   wpAny (model PR w) A (call (.ref 168) [.ref l, .str x tx, .int i ti] []) Q E s := by
  refine wpAny_call (fit_walk (G.keeps F.keep) hA hx (F.keep _ _ hl) (hrel.mono fun _ _ h => h.mono fun a o e => F.keep a o e) fun h' tk hk => ?_)
  exact h h' tk hk (stayF F hk) (stayN N hk)
theorem rg_S6_2 : True := by
  k_with "call ref" => (((with_reducible show wpAny _ _ (call (Value.ref 168) _ _) _ _ _); (refine' fit_call (by walk_at "asm") (by with_reducible assumption) (by exact Ar.into (by assumption) (by decide) (by decide) _) (by omega) (by with_reducible assumption) (by with_reducible assumption) (by walk_at "asm") ?_); intro _ _ _ _ _))
  k_with "eval ListComp" => (refine Halt.out ?_)
  k_with "exec Assign cons ListComp" => (refine Halt.out ?_)
  trivial
theorem swap2 {h₀ : Heap} {L : Addr} {h : Heap} {a b c d e : Addr × Obj} (N : News h₀ L h [a, b, c, d, e]) : News h₀ L h [b, a, d, e] := subN N fun p hp => by simp only [List.mem_cons] at hp ⊢; grind
theorem swap3' {h₀ : Heap} {L : Addr} {h : Heap} {a b c d e f : Addr × Obj} (N : News h₀ L h [a, b, c, d, e, f]) : News h₀ L h [c, a, e, f] := subN N fun p hp => by simp only [List.mem_cons] at hp ⊢; grind
theorem ne4 {a b c d : Addr} {oa ob oc : Obj} (h1 : a ≠ d) (h2 : b ≠ d) (h3 : c ≠ d) : ∀ p ∈ ([(a, oa), (b, ob), (c, oc)] : List (Addr × Obj)), p.1 ≠ d := fun p hp => by
  simp only [List.mem_cons, List.not_mem_nil, or_false] at hp
  rcases hp with rfl | rfl | rfl
  · exact h1
  · exact h2
  · exact h3
theorem rg_S6_3 : True := by
  k_with "call builtin:min" => (((with_reducible show wpAny _ _ (call (Value.builtin _) [Value.ref _]) _ _ _); k_dflt (refine' min_one (by walk_at "asm") (by walk_at "asm") (by walk_at "lst") (by with_reducible assumption) (by walk_at "handled") ?_); intro _ _ _ _ _; (try k_sweep)))
  k_with "call type:range" => (((with_reducible show wpAny _ _ (call _ [Value.int _ _, Value.int _ _]) _ _ _); k_dflt (refine' range2F (by walk_at "asm") (by walk_at "asm") ?_); intro _ _ _ _ _ _ _ _ _; (try k_sweep)))
  trivial
theorem ne_nil_one {prog : Program} {w : World} {A : Around} {E : Value → Shared → Prop} {s : Shared} {l b : Addr} {v : Value} {Q : Value → Shared → Prop} (hl : s.heap.IsList l [v].toArray) (hb : s.heap.IsList b #[]) (hu : A.units < cLine)
    (h : Q (.bool true) s) : wpAny (model prog w) A (compareOp .NotEq (.ref l) (.ref b)) Q E s := ne_nil hl hb hu h
theorem rg_S6_4 : True := by
  k_with "compareOp NotEq ref ref" => (k_dflt (refine' ne_nil_one (by walk_at "lst") (by walk_at "lst") (by walk_at "units") ?_))
  trivial
theorem ints_one {vs : List Value} {p : Int} (h : IntsAre vs [p]) : ∃ t, vs = [Value.int p t] := by
  cases h with | cons n t r => cases r; exact ⟨t, rfl⟩
inductive lookJ (L : Addr) (tx : Tok) (x : Str) (ones : List One) (l2 it pl : Addr) (itO : Obj) (pv : List Value) (pe : Nat) (last q : Int) (k : Nat) (m : Str → Option Value) : List (Addr × Obj) → Prop
  | mk {oT oO : Obj} {fl : Addr} {fv : List Value} {fe : Nat} {fs : List Int} {tl : Tok} (r1 : oT.data = .cell (some (.str x tx))) (r2 : oO.data = .cell (some (.ref l2))) (r3 : IntsAre fv fs) (r4 : fs = if k = 0 then [] else [q + (ones.length : Int)])
      (r5 : m (Str.ofString "further") = some (.ref fl)) (r6 : m (Str.ofString "last") = some (.int last tl)) (r7 : @Ne Nat fl (L + 1 + 1)) (r8 : @Ne Nat fl (L + 1)) (r9 : @Ne Nat fl it) (r10 : @Ne Nat fl pl) : lookJ L tx x ones l2 it pl itO pv pe last q k m [(fl, listOf fv.toArray fe), (it, itO), (pl, listOf pv.toArray pe), (L + 1 + 1, oO), (L + 1, oT)]
inductive whJ (x : Str) (ones : List One) (last q : Int) (fl : Addr) (news₀ : List (Addr × Obj)) (n : Nat) (m : Str → Option Value) : List (Addr × Obj) → Prop
  | mk {p : Int} {tp tl : Tok} (sea : SeaP x ones last n p q) (q1 : m (Str.ofString "place") = some (.int p tp)) (q2 : m (Str.ofString "further") = some (.ref fl)) (q3 : m (Str.ofString "last") = some (.int last tl)) : whJ x ones last q fl news₀ n m news₀
set_option maxRecDepth 100000 in
set_option maxHeartbeats 4000000 in
theorem ends_walk {w : World} {s : Shared} {A : Around} {x : Str} {tx : Tok} {R : Result → Shared → Prop} (G : Gd w s.heap) (hA : Ar A 4 40) (hx : x.length ≤ 10000)
   {l : Addr} {vs : List Value} {e : Nat} {pieces : List Piece} {out : List Int} (hl : s.heap.get? l = some (listOf vs.toArray e)) (hrel : Rel2 (PieceIn fun a o => s.heap.get? a = some o) vs pieces) (hend : EndP x pieces [0] out)
   (hR : ∀ a h' tk ov oe, s.heap.StaysIn h' → h'.get? a = some (listOf ov oe) → IntsAre ov.toList out → R (.ok (.ret (.ref a))) {s with heap := h', toks := tk}) :
   codeAny (model PR w) A (.call (.ref 173) ⟨[.ref l, .str x tx], []⟩) R s := by
  refine' call_fnC (binds := [(Str.ofString "pieces", .ref l), (Str.ofString "text", .str x tx)]) G ?a ?b ?c ?d ?e ?f ?g ?i ?j ?k
  (case b => k_is)
  (case c => k_is)
  (case a => exact Ar.room (by assumption))
  (case d => exact BindsTo.of_eq rfl)
  (case e => exact rfl)
  (case f => decide +kernel)
  (case i => rfl)
  (case j => rfl)
  (case k => rfl)
  intro h₁ tk₁ cells F N Y
  obtain ⟨o1, o2, rfl, hd1, hd2⟩ := CellsAre.two Y
  clear Y
  generalize hm : bindL _ _ _ = m at F
  have m1 : m (Str.ofString "pieces") = some (.ref l) := by rw [← hm]; rfl
  clear hm
  obtain ⟨p, loose, mean, mg, mb, T⟩ := G.T
  have X := G.K
  walk_at "go"
  refine Halt.in ?_
  refine loopL (L := s.heap.objs.size) rfl (vs := vs) (lo := listOf vs.toArray e) (endsJ s.heap.objs.size x pieces out) ?hh ⟨rfl, _, rfl⟩ (fun h m news k _ F _ => F.keep _ _ hl) (by assumption) (by assumption) ?h0 ?turn ?done
  case hh => exact Ar.hhD (by assumption) _
  case h0 => exact .mk (pv := [_]) hd2 hd1 (.cons _ _ .nil) hend (by simp) (by walk_at "mget") (by k_ne) (by k_ne)
  case done =>
    intro m' news' h' tk hJ F' N'
    induction hJ
    rename_i oT oO pl pv pe ns tx' cv hd1 hd2 hpv hE hlen k1 k2 k3
    have hlen := hrel.length
    rw [show pieces.drop vs.length = [] by rw [hlen]; simp] at hE
    cases hE
    dsimp only
    walk_at "go"
    exact hR _ _ _ _ _ F'.keep (at0 N') (by simpa using hpv)
  case turn =>
    intro k v m₁ news₁ h tk it itO hv hJ F' N' hn
    induction hJ
    rename_i oT oO pl pv pe ns tx' cv hd1 hd2 hpv hE hlen k1 k2 k3
    obtain ⟨⟨kd, ones⟩, hb1, ⟨a, l2, vs2, e2, t2, rfl, ha, hl2, hps, hlen2⟩, hdrop⟩ := hrel.get hv
    have hlen3 := hps.length
    dsimp only at hlen3
    have hL2 : s.heap.IsList l2 vs2.toArray := ⟨_, hl2, rfl, _, rfl⟩
    have hT : IsTup s.heap a #[.int kd t2, .ref l2] := ⟨_, ha, rfl, _, rfl⟩
    rw [hdrop] at hE
    generalize hrest : pieces.drop (k + 1) = rest at hE
    replace hn := allNe_of hn
    simp only [AllNe, and_true] at hn
    cases hE with
    | fix h1 h2 =>
      walk_at "go"
      refine Halt.in ?_
      rename Fr _ _ _ _ => F9
      rename News _ _ _ _ => N9
      rename _ = Data.cell (some (Value.ref l2)) => d9
      refine comp_listA (p := fun i => fitF x i ones) (f := fun i => i + (ones.length : Int)) (l := pl) ⟨F9, N9⟩ rfl ?sw rfl (by rfl) rfl (by decide) rfl ?nm rfl (Ar.hhD (by assumption) _) (by lia) hpv ?ev ?test ?elt ?cont (by intro _; rfl)
      case sw => rfl
      case nm => decide
      case ev =>
        intro Q' hq
        walk_at "go"
        exact hq _ _ ⟨by with_reducible assumption, by with_reducible assumption⟩ (by walk_at "lst")
      case test =>
        intro C i t s₃ m₃ E' hi hn3 hm3 fn _
        obtain ⟨F10, N10⟩ := fn
        rw [List.mem_singleton.mp hi] at hm3 ⊢
        refine tests1 ?_
        walk_at "go"
        exact ⟨_, _, rfl, by assumption⟩
      case elt =>
        intro C i t s₃ m₃ E' hi hp hn3 hm3 fn _
        obtain ⟨F10, N10⟩ := fn
        walk_at "go"
        exact ⟨_, _, rfl, fun _ _ e => e⟩
      case cont =>
        intro D h' tk' ys ke F11 N11 hne hys
        have hne := allNe_of hne
        simp only [AllNe, and_true] at hne
        rw [List.filter_cons, if_pos h1] at hys
        have hyl := hys.length
        walk_at "go"
        refine TurnP.next (by assumption) (swap2 (by assumption)) ?n1 ?n2
        case n1 => exact ne4 hne.1.symm hn.2.1 hn.2.2
        case n2 => rw [← Array.toArray_toList (xs := ys)]; exact .mk (by assumption) (by assumption) hys (by rw [hrest]; exact h2) (by rw [hyl]; simp) (by walk_at "mget") (by k_ne) (by k_ne)
    | look h1 h2 =>
      rename_i n0 p0 q0
      obtain ⟨tp, rfl⟩ := ints_one hpv
      walk_at "go"
      refine Halt.in ?_
      rename Fr _ _ _ _ => F9
      rename News _ _ _ _ => N9
      rename _ = Data.cell (some (Value.ref l2)) => d9
      refine loopL (L := s.heap.objs.size) rfl (vs := [Value.int p0 tp]) (lo := listOf [Value.int p0 tp].toArray pe) (lookJ s.heap.objs.size tx' x ones l2 it pl itO [Value.int p0 tp] pe ((x.length : Int) - (ones.length : Int)) q0) ?hh ⟨rfl, _, rfl⟩ ?hl F9 N9 ?h0 ?turn ?done
      case hh => exact Ar.hhD (by assumption) _
      case hl =>
        intro h m news i hJ F N
        induction hJ
        exact (N _ (.tail _ (.tail _ (.head _)))).1
      case h0 => exact .mk (fv := []) hd1 d9 .nil rfl (by walk_at "mget") (by walk_at "mget") (by k_ne) (by k_ne) (by k_ne) (by k_ne)
      case done =>
        intro m' news' h' tk' hJ F' N'
        induction hJ
        rename_i oT' oO' fl fv fe fs tl r1 r2 r3 r4 r5 r6 r7 r8 r9 r10
        clear F9 N9
        simp only [List.length_singleton, Nat.one_ne_zero, if_false] at r4
        subst r4
        have hfl := r3.length
        walk_at "go"
        refine TurnP.next (by assumption) (swap2 (by assumption)) ?n1 ?n2
        case n1 => exact ne4 r9 hn.2.1 hn.2.2
        case n2 => exact .mk r1 r2 r3 (by rw [hrest]; exact h2) (by rw [hfl]; simp) (by walk_at "mget") r7 r8
      case turn =>
        intro j v m₂ news₂ h₂ tk₂ it₂ itO₂ hv₂ hJ F' N' hn₂
        induction hJ
        rename_i oT' oO' fl fv fe fs tl r1 r2 r3 r4 r5 r6 r7 r8 r9 r10
        clear F9 N9
        cases j with
        | succ j => simp at hv₂
        | zero =>
          simp only [List.getElem?_cons_zero, Option.some.injEq] at hv₂
          subst hv₂
          simp only [if_true] at r4
          subst r4
          cases r3
          replace hn₂ := allNe_of hn₂
          have hn₃ := hn₂
          simp only [AllNe, and_true] at hn₂
          walk_at "go"
          refine Halt.in ?_
          rename Fr _ _ _ _ => F9
          rename News _ _ _ _ => N9
          refine While_inv (whJ x ones ((x.length : Int) - (ones.length : Int)) q0 fl _) (by exact F9) (by exact N9) (.mk h1 (by walk_at "mget") (by walk_at "mget") (by walk_at "mget")) ?_ PassesOwn.never
          intro n₁ m₁ news₁ h₃ tk₃ F₃ N₃ hJ
          induction hJ
          rename_i p₃ tp₃ tl₃ sea q1 q2 q3
          clear F9 N9
          cases sea with
          | hit s1 s2 =>
            walk_at "go"
            refine TurnP.next (by with_reducible assumption) (by with_reducible assumption) (allNe_mem (by exact hn₃)) ?_
            exact .mk (fv := [_]) r1 r2 (.cons _ _ .nil) rfl (by walk_at "mget") (by walk_at "mget") r7 r8 r9 r10
          | miss s1 s2 s3 =>
            walk_at "go"
            exact WhileStep.intro (by with_reducible assumption) (by with_reducible assumption) (Nat.lt_succ_self _) (.mk s3 (by walk_at "mget") (by walk_at "mget") (by walk_at "mget"))
    | star h0 h1 =>
      rename_i n0 p0
      obtain ⟨tp, rfl⟩ := ints_one hpv
      walk_at "go"
      refine Halt.in ?_
      rename Fr _ _ _ _ => F9
      rename News _ _ _ _ => N9
      rename _ = Data.cell (some (Value.ref l2)) => d9
      refine comp_rangeA (p := fun i => fitF x i ones) (f := fun i => i + (ones.length : Int)) (a := p0) (b := (x.length : Int) - (ones.length : Int) + 1) (n := n0) ⟨F9, N9⟩ rfl ?sw rfl (by rfl) rfl (by decide) rfl ?nm rfl (Ar.hhD (by assumption) _) (by lia) (small_one (by lia) (by lia) (by lia) (by lia)) ?sz ?ev ?test ?elt ?cont (by intro _; rfl)
      case sw => rfl
      case nm => decide
      case sz => rw [rangeSize_nat]; lia
      case ev =>
        intro Q' hq
        walk_at "go"
        exact hq _ _ _ _ _ _ ⟨by with_reducible assumption, by with_reducible assumption⟩ (by with_reducible assumption)
      case test =>
        intro C i t s₃ m₃ E' hi hn3 hm3 fn _
        obtain ⟨F10, N10⟩ := fn
        refine tests1 ?_
        walk_at "go"
        exact ⟨_, _, rfl, by assumption⟩
      case elt =>
        intro C i t s₃ m₃ E' hi hp hn3 hm3 fn _
        obtain ⟨F10, N10⟩ := fn
        walk_at "go"
        exact ⟨_, _, rfl, fun _ _ e => e⟩
      case cont =>
        intro D h' tk' ys ke F11 N11 hne hys
        have hne := allNe_of hne
        simp only [AllNe, and_true] at hne
        have hyl := hys.length
        walk_at "go"
        have hyb : ys.toList.length ≤ 20000 := by
          rw [hyl, List.length_map]
          refine Nat.le_trans (List.length_filter_le _ _) ?_
          rw [List.length_map, List.length_range]
          lia
        refine TurnP.next (by with_reducible assumption) (swap3' (by with_reducible assumption)) ?n1 ?n2
        case n1 => exact ne4 hne.2.1.symm hn.2.1 hn.2.2
        case n2 => rw [← Array.toArray_toList (xs := ys)]; exact .mk (by assumption) (by assumption) hys (by rw [hrest]; exact .nil) hyb (by walk_at "mget") hne.2.2.2.1.symm hne.2.2.2.2.symm
end Mine
theorem Mine.off_S7 : True := by w_top off; trivial
theorem Mine.rs_S7 {M : Model} {A : Around} {E : Value → Shared → Prop} {s : Shared} {Q : Flow → Shared → Prop} {p : Pos} {env : Env} (h : wpAny M A (exec (Stmt.Pass p) env) Q E s) : wpAny M A (exec (Stmt.Pass p) env) Q E s := by first | (walk1; fail) | exact h
namespace Mine
theorem reg_S7 : True := by
  k_with_none
  k_with "cj" => (first | with_reducible assumption | exact cj1 (by with_reducible assumption) | exact cj2 (by with_reducible assumption) | exact cj3 (by with_reducible assumption) | exact cj4 (by with_reducible assumption) | exact cj5 (by with_reducible assumption) | exact ce2 (by with_reducible assumption) | exact ce3 (by with_reducible assumption) | exact ce4 (by with_reducible assumption) | exact ce5 (by with_reducible assumption))
  k_with "ne1" => (refine neN ?_; first | with_reducible assumption | (refine Ne.symm ?_; with_reducible assumption) | walk_at "cj" | (refine Ne.symm ?_; walk_at "cj") | (refine Nat.ne_of_lt ?_; walk_at "cj") | (refine Nat.ne_of_gt ?_; walk_at "cj") | ((try dsimp only); omega))
  k_with "eval Constant int" => (refine r_int ?_)
  k_with "eval Constant str" => (refine r_str ?_)
  k_with "binaryOp Add int int" => (refine r_add ?_)
  k_with "binaryOp Sub int int" => (refine r_sub ?_)
  k_with "unaryOp USub int" => (refine r_neg ?_)
  k_with "inplaceOp Add int int" => (refine r_iadd ?_)
  k_with "eval Slice" => (refine r_slice ?_)
  k_with "SlQ" => (refine SlQ.go ?_)
  k_with "mget" => (first | with_reducible assumption | with_reducible exact upd_eq | ((with_reducible refine Eq.trans upd_eq ?_); rfl) | ((with_reducible refine upd_ne (by kernel_rfl) ?_); walk_at "mget") | (goal_lacks upd; first | exact if_pos rfl | (refine Eq.trans (if_neg (by decide)) ?_; walk_at "mget")))
  k_with "newTuple" => ((refine' r_tuple (by walk_at "asm") (by walk_at "asm") (by exact Nat.le_of_ble_eq_true rfl) ?_); intro _ _ _ _ _; walk_at "lt"; (try k_sweep))
  k_with "ite" => (first | with_reducible refine ite_tt ?_ | with_reducible refine ite_ff ?_ | (refine ite_pos (by with_reducible assumption) ?_) | (refine ite_neg (by refine ne_true_of_eq_false ?_; with_reducible assumption) ?_))
  k_with "tup" => (first | (refine News.isTup (by walk_at "asm") (by walk_at "mem")) | with_reducible assumption | (refine stays_tup (Fr.keep (by walk_at "asm")) (by walk_at "asm")))
  k_with "lst" => (first | (refine News.isList (by walk_at "asm") (by walk_at "mem")) | with_reducible assumption | (refine stays_list (Fr.keep (by walk_at "asm")) (by walk_at "asm")))
  k_with "off" => (first | exact List.forall_mem_nil _ | exact OwnOff.ne (by with_reducible assumption) (List.Mem.head _) | (refine List.forall_mem_cons.mpr ?_; refine And.intro ?_ ?_; (focus k_ne); (walk_at "off")))
  k_with "upd" => (first | (apply upd_hd; walk_at "off") | (apply upd_tl; (case hne => k_ne); (case hu => walk_at "upd")))
  k_with "RunTo" => ((first | refine NextTo.next (by with_reducible assumption) ?_ | refine NextTo.ret (by with_reducible assumption) ?_ | refine NextTo.brk (by with_reducible assumption) ?_ | refine NextTo.cont (by with_reducible assumption) ?_); (try dsimp only))
  k_with "go" => (repeat' (first | (k_unfold; (try dsimp only)) | walk1 | (dsimp only; walk1)))
  k_with "sides" => (((case b => (k_is)); (case c => (k_is)); (case a => (exact Ar.room (by assumption))); (case d => (exact BindsTo.of_eq rfl)); (case e => (exact locs rfl)); (case g => (rfl)); (case h => (rfl)); (case i => (rfl)); (case j => (decide))))
  k_with "mem" => (first | exact List.Mem.head _ | (refine' List.Mem.tail _ ?_; walk_at "mem"))
  k_with "units" => (first | exact Ar.units0 (by assumption) _ | exact Ar.unitsD (by assumption) (by decide) _)
  k_with "asm" => (with_reducible assumption)
  k_with "lt" => (((rename ∀ p ∈ _, (p : Addr × Obj).1 < _ => l9); (replace l9 := allLt_of l9); (dsimp only [AllLt] at l9)))
  k_with "ne" => (((rename ∀ p ∈ _, (p : Addr × Obj).1 ≠ _ => l9); (replace l9 := allNe_of l9); (dsimp only [AllNe] at l9)))
  k_with "storeName" => ((with_reducible refine' r_store (by walk_at "asm") (by walk_at "asm") (by kernel_rfl) ?_); intro _ _ _; (try k_sweep))
  k_with "exec While Compare cons nil" => (refine Halt.out ?_)
  k_with "exec While BoolOp cons nil" => (refine Halt.out ?_)
  k_with "exec While Constant cons nil" => (refine Halt.out ?_)
  k_with "exec While Name cons nil" => (refine Halt.out ?_)
  k_with "exec While" => (refine Halt.out ?_)
  k_with "execs cons" => (first | (refine execs_lastQ (fun tk => ?_)) | (refine execs_consQ (fun tk qk hqk => ?_)))
  k_with "newList" => (((refine' r_list (by walk_at "asm") (by walk_at "asm") (by exact Nat.le_of_ble_eq_true rfl) ?_); intro _ _ _ _ _; walk_at "lt"; (try k_sweep)))
  k_with "subscriptTail Name Slice str ref" => ((with_reducible first | refine' slice_ss5 (by walk_at "asm") (by walk_at "asm") (by with_reducible assumption) ?_ | refine' slice_sn5 (by walk_at "asm") (by walk_at "asm") (by with_reducible assumption) ?_); intro _ _ _ _ _; (try k_sweep))
  k_with "handled" => (first | exact Ar.hhD (by assumption) _ | exact Ar.hh (by assumption) | rfl)
  k_with "assign Tuple" => (((with_reducible show wpAny _ _ (assign (Expr.Tuple _ _ _) _ (Value.ref _)) _ _ _); k_dflt (refine' r_unpack (by walk_at "asm") (by walk_at "asm") (by walk_at "tup") (by walk_at "handled") rfl rfl ?_); intro _ _ _; (try k_sweep)))
  k_with "asz" => (k_dflt (first | exact aszL (by with_reducible assumption) | exact Nat.le_of_ble_eq_true rfl))
  k_with "call builtin:list.append" => (((with_reducible show wpAny _ _ (call (Value.builtin _) [Value.ref _, _]) _ _ _); (refine' r_append (by walk_at "asm") (by walk_at "asm") (by walk_at "upd") (by walk_at "asz") ?_); intro _ _ _; (try k_sweep)))
  k_with "sub" => ((intro _ hpK9; first | exact List.mem_of_mem_tail hpK9 | (simp only [List.mem_cons, List.mem_append] at hpK9 ⊢; grind)))
  k_with "exec For Tuple Name cons nil" => ((k_dflt (refine' wpAny_For ?_ (by intro _; rfl))))
  k_with "exec For Name Name cons nil" => ((k_dflt (refine' wpAny_For ?_ (by intro _; rfl))))
  k_with "exec For Name Call cons nil" => ((k_dflt (refine' wpAny_For ?_ (by intro _; rfl))))
  k_with "exec For Name List cons nil" => ((k_dflt (refine' wpAny_For ?_ (by intro _; rfl))))
  k_with "exec For Name Attribute cons nil" => ((k_dflt (refine' wpAny_For ?_ (by intro _; rfl))))
  k_with "pyIter ref" => (refine Halt.out ?_)
  k_with "subscriptTail Name Constant ref int" => (((with_reducible show wpAny _ _ (subscriptTail _ _ (Value.ref _) (Value.int _ _)) _ _ _); (refine' item_tupleL (by refine' News.isTup (by walk_at "asm") (by walk_at "mem")) (by decide) (by decide) rfl rfl ?_ (by with_unfolding_all rfl) (by intro _; with_unfolding_all rfl))))
  k_with "eval Name" => ((goal_lacks compEnvC; first | (with_reducible refine' nmK (by decide +kernel) (by walk_at "asm") (by walk_at "mget") ?_) | k_dflt (first | (goal_lacks envOf; refine' nameX_L (by walk_at "asm") (by walk_at "mget") ?_ rfl (by with_unfolding_all rfl) (by decide)) | (goal_lacks envOf; refine' nameX_C (by walk_at "asm") rfl (by walk_at "mem") (by walk_at "asm") ?_ rfl (by with_unfolding_all rfl) (by decide)) | (refine' nameX_K (by walk_at "asm") (by walk_at "asm") (by k_asm) (by k_is) ?_ rfl (by with_unfolding_all rfl) (by decide)) | (refine' nameX_B (by walk_at "asm") (by walk_at "asm") (by k_asm) (by k_is) (by boot_fast) (by decide) ?_ rfl (by with_unfolding_all rfl) (by decide)))))
  k_with "loadName" => ((first | (with_reducible refine' ldL (by walk_at "asm") (by walk_at "mget") (by kernel_rfl) ?_) | k_dflt (refine' ldX (by walk_at "asm") (by walk_at "mget") ?_ rfl (by with_unfolding_all rfl))))
  trivial
theorem rg_S7_1 : True := by
  k_with "eval ListComp" => (refine Halt.out ?_)
  k_with "call type:range" => (((with_reducible show wpAny _ _ (call _ [Value.int _ _]) _ _ _); k_dflt (refine' range1F (by walk_at "asm") (by walk_at "asm") ?_); intro _ _ _ _ _ _ _ _ _; (try k_sweep)))
  trivial
theorem pick_mem {items : Array Value} {lo hi st : Option Int} {v : Value} (h : v ∈ (slicePick items lo hi st).toList) : v ∈ items.toList := by
  unfold slicePick at h
  simp only [List.mem_filterMap] at h
  obtain ⟨i, _, h⟩ := h
  exact Array.mem_toList_iff.mpr (Array.mem_of_getElem? h)
theorem drop1 {h₀ : Heap} {L : Addr} {h : Heap} {a : Addr × Obj} {l : List (Addr × Obj)} (N : News h₀ L h (a :: l)) : News h₀ L h l := subN N fun _ hp => .tail _ hp
theorem sumFits63 {ms : List Int} (hn : ms.length ≤ 63) (hb : ∀ j ∈ ms, 0 ≤ j ∧ j < 1000000) : PySem.SumFits ms := sumFits_small (fun x hx => by have := hb x hx; lia) (by lia)
theorem sum63 {ms : List Int} (hn : ms.length ≤ 63) (hb : ∀ j ∈ ms, 0 ≤ j ∧ j < 1000000) : 0 ≤ ms.sum ∧ ms.sum ≤ 63000000 := by
  have : 0 ≤ ms.sum ∧ ms.sum ≤ 1000000 * (ms.length : Int) := by
    clear hn
    induction ms with
    | nil => simp
    | cons a r ih =>
      have h1 := hb a (.head _)
      have h2 := ih fun j hj => hb j (.tail _ hj)
      simp only [List.sum_cons, List.length_cons]
      lia
  lia
theorem ints_sub {vs : List Value} {ns : List Int} (h : IntsAre vs ns) : ∀ v ∈ vs, ∃ j t, v = Value.int j t := by
  induction h with
  | nil => exact fun _ h => nomatch h
  | cons n t _ ih => exact fun v hv => by rcases List.mem_cons.mp hv with rfl | hv; exact ⟨_, _, rfl⟩; exact ih v hv
theorem ints_all : ∀ {vs : List Value}, (∀ v ∈ vs, ∃ j t, v = Value.int j t) → ∃ ns, IntsAre vs ns
  | [], _ => ⟨[], .nil⟩
  | v :: r, h => by
    obtain ⟨j, t, rfl⟩ := h _ (.head _)
    obtain ⟨ns, hn⟩ := ints_all (vs := r) fun v hv => h v (.tail _ hv)
    exact ⟨j :: ns, .cons _ _ hn⟩
theorem nameG_F {M : Model} {A : Around} {E : Value → Shared → Prop} {s : Shared} {env : Env} {x : Str} {pos : Pos} {v : Value} {h₀ : Heap} {L : Addr} {m : Str → Option Value} {Q : Value → Shared → Prop} (F : Fr h₀ L s.heap m) (hv : m x = some v) (h : Q v s) (hL : env.locals = L)
    (hk : env.scope.kind = .function) (hx : env.kindOf x = some .local) (hd : (x == ("__debug__" : Str)) = false) : wpAny M A (eval (.Name x pos) env) Q E s := by
  subst hL
  exact nameG_L F.ns hv h hk hx hd
theorem rgm_S7_1 : True := by
  k_with "eval Name" => ((k_dflt ((with_reducible show wpAny _ _ (eval _ (compEnvC _ _ _ _)) _ _ _); first | (refine' nameG_F (by walk_at "asm") (by walk_at "mget") ?_ (by rfl) (by rfl) (by with_unfolding_all rfl) (by decide)) | (refine' nameG_C (by rfl) (by refine' ⟨_, News.get (by walk_at "asm") (by walk_at "mem"), ?_⟩; walk_at "asm") ?_ (by rfl) (by with_unfolding_all rfl) (by decide)))))
  trivial
theorem slice3_lst {prog : Program} {w : World} {A : Around} {E : Value → Shared → Prop} {s : Shared} {h₀ : Heap} {L : Addr} {m : Str → Option Value} {news : List (Addr × Obj)} {value slice : PySem.Expr} {l : Addr} {vs : List Value} {vl vu vk : Value} {lo hi st : Option Int} {ops : List Value} {Q : Value → Shared → Prop}
    (F : Fr h₀ L s.heap m) (N : News h₀ L s.heap news) (hl : s.heap.IsList l vs.toArray) (pl : IsPart vl lo) (pu : IsPart vu hi) (pk : IsPart vk st) (h0 : st ≠ some 0) (hz : vs.length ≤ 100000)
    (h : ∀ D h' (ws : List Value), Fr h₀ L h' m → News h₀ L h' ((D, listOf ws.toArray 0) :: news) → s.heap.StaysIn h' → (∀ v ∈ ws, v ∈ vs) → ws.length ≤ vs.length → Q (.ref D) { s with heap := h' })
    (hs : subscripted slice false (.ref l) (.ref s.heap.objs.size) = operate ops (getItem (.ref l) (.ref s.heap.objs.size)))
    (ht : ∀ r, letTemporaryGo value (.ref l) r = pure ()) :
    wpAny (model prog w) A (subscriptTail value slice (.ref l) (.ref s.heap.objs.size)) Q E { s with heap := s.heap.push { cls := .type "slice", data := .fields #[vl, vu, vk] } } := by
  refine subscriptTail_ops (Heap.IsList.typeIs (s := { s with heap := s.heap.push { cls := .type "slice", data := .fields #[vl, vu, vk] } }) (hl.push _)) list_getitem_lookup
    (wpAny_getItem_list_slice (hl.push _) (Heap.IsSliceOf.new ..) pl pu pk h0 ?_ (aszL hz)) hs ht
  have N1 := News.push (F.push { cls := .type "slice", data := .fields #[vl, vu, vk] }) (N.grown fun _ _ e => Heap.get?_push_of_some _ e) { cls := .type "list", data := .seq (slicePick vs.toArray lo hi st) }
  rw [Heap.size_push] at N1
  show Q (.ref (s.heap.push _).objs.size) _
  rw [Heap.size_push]
  exact h _ _ (slicePick vs.toArray lo hi st).toList ((F.push _).push _) (by rw [Array.toArray_toList]; exact N1) (fun b o e => Heap.get?_push_of_some _ (Heap.get?_push_of_some _ e)) (fun v hv => by simpa using pick_mem hv) (by have := slicePick_size_le vs.toArray lo hi st; simpa using this)
theorem slice3_l5 {prog : Program} {w : World} {A : Around} {E : Value → Shared → Prop} {hp : Heap} {g : Array GenState} {d : Drawn} {tk : Nat} {os : OsState} {h₀ : Heap} {L : Addr} {m : Str → Option Value} {news : List (Addr × Obj)} {value slice : PySem.Expr} {l : Addr} {vs : List Value} {vl vu vk : Value} {lo hi st : Option Int} {ops : List Value} {Q : Value → Shared → Prop}
    (F : Fr h₀ L hp m) (N : News h₀ L hp news) (hl : hp.IsList l vs.toArray) (pl : IsPart vl lo) (pu : IsPart vu hi) (pk : IsPart vk st) (h0 : st ≠ some 0) (hz : vs.length ≤ 100000)
    (hs : subscripted slice false (.ref l) (.ref hp.objs.size) = operate ops (getItem (.ref l) (.ref hp.objs.size)))
    (ht : ∀ r, letTemporaryGo value (.ref l) r = pure ())
    (h : ∀ D h' (ws : List Value), Fr h₀ L h' m → News h₀ L h' ((D, listOf ws.toArray 0) :: news) → hp.StaysIn h' → (∀ v ∈ ws, v ∈ vs) → ws.length ≤ vs.length → Q (.ref D) ⟨h', g, d, tk, os⟩) :
    wpAny (model prog w) A (subscriptTail value slice (.ref l) (.ref hp.objs.size)) Q E ⟨hp.push { cls := .type "slice", data := .fields #[vl, vu, vk] }, g, d, tk, os⟩ :=
  slice3_lst (s := ⟨hp, g, d, tk, os⟩) F N hl pl pu pk h0 hz h hs ht
theorem newTupleS {M : Model} {A : Around} {E : Value → Shared → Prop} {s : Shared} {h₀ : Heap} {L : Addr} {m : Str → Option Value} {news : List (Addr × Obj)} {vs : List Value} {Q : Value → Shared → Prop} (F : Fr h₀ L s.heap m) (N : News h₀ L s.heap news)
    (h : ∀ D h', Fr h₀ L h' m → News h₀ L h' ((D, tupOf vs) :: news) → s.heap.StaysIn h' → Q (.ref D) { s with heap := h' }) (hz : vs.length ≤ sizeLine) : wpAny M A (newTuple vs) Q E s :=
  wpAny_newTuple (h _ _ (F.push _) (News.push F N _) (fun b o e => Heap.get?_push_of_some _ e)) (by simpa using hz)
theorem rgm_S7_2 : True := by
  k_with "newTuple" => ((k_dflt (refine' newTupleS (by walk_at "asm") (by walk_at "asm") ?_ (by exact Nat.le_of_ble_eq_true rfl)); intro _ _ _ _ _))
  trivial
theorem rg_S7_2 : True := by
  k_with "subscriptTail Name Slice ref ref" => (((with_reducible show wpAny _ _ (subscriptTail _ (Expr.Slice (some _) none (some _) _) _ _) _ _ _); k_dflt (refine' slice3_l5 (by walk_at "asm") (by walk_at "asm") (by walk_at "lst") (.int _ _) .none (.int _ _) (by decide) (by with_reducible assumption) (by with_unfolding_all rfl) (by intro _; with_unfolding_all rfl) ?_); intro _ _ _ _ _ _ _ _))
  k_with "call builtin:sum" => (((with_reducible show wpAny _ _ (call (Value.builtin _) [Value.ref _]) _ _ _); refine Halt.out ?_))
  trivial
theorem sub_ints {vs ws : List Value} {ns : List Int} (h : IntsAre vs ns) (hn : ns.length ≤ 63) (hw : ∀ v ∈ ws, v ∈ vs) (hl : ws.length ≤ vs.length) : ∃ ms, IntsAre ws ms ∧ ms.length ≤ 63 ∧ ws.length ≤ 100000 := by
  obtain ⟨ms, hm⟩ := ints_all fun v hv => ints_sub h v (hw v hv)
  have := hm.length
  have := h.length
  exact ⟨ms, hm, by lia, by lia⟩
set_option maxRecDepth 100000 in
set_option maxHeartbeats 4000000 in
theorem totals_walk {w : World} {s : Shared} {A : Around} {R : Result → Shared → Prop} (G : Gd w s.heap) (hA : Ar A 4 40)
   {l : Addr} {vs : List Value} {ns : List Int} (hl : s.heap.IsList l vs.toArray) (hvs : IntsAre vs ns) (hlen : ns.length ≤ 63)
   (hR : ∀ D h' tk ys e ts, s.heap.StaysIn h' → s.heap.get? D = none → h'.get? D = some (listOf ys e) → IntsAre ys.toList ts → ts.length = 4 → (∀ t ∈ ts, 0 ≤ t ∧ t ≤ 100000000) → R (.ok (.ret (.ref D))) {s with heap := h', toks := tk}) :
   codeAny (model PR w) A (.call (.ref 185) ⟨[.ref l], []⟩) R s := by
  refine' call_fnC (binds := [(Str.ofString "script", .ref l)]) G ?a ?b ?c ?d ?e ?f ?g ?i ?j ?k
  (case b => k_is)
  (case c => k_is)
  (case a => exact Ar.room (by assumption))
  (case d => exact BindsTo.of_eq rfl)
  (case e => exact rfl)
  (case f => decide +kernel)
  (case i => rfl)
  (case j => rfl)
  (case k => rfl)
  intro h₁ tk₁ cells F N Y
  obtain ⟨o1, rfl, hd1⟩ := CellsAre.one Y
  clear Y
  generalize hm : bindL _ _ _ = m at F
  clear hm
  replace hd1 : o1.data = .cell (some (.ref l)) := hd1
  obtain ⟨p, loose, mean, mg, mb, T⟩ := G.T
  have X := G.K
  have hvl : vs.length ≤ 100000 := by rw [hvs.length]; lia
  walk_at "go"
  refine Halt.in ?_
  refine comp_rangeS (a := 0) (b := 4) (n := 4) ⟨F, N⟩ (fun t => 0 ≤ t ∧ t ≤ 100000000) rfl (by decide) rfl ?nm rfl (Ar.hhD (by assumption) _) (by lia) (small_one (by lia) (by lia) (by lia) (by lia)) ?sz ?ev ?elt ?cont (by intro _; rfl)
  case nm => decide
  case sz => rw [rangeSize_nat]; rfl
  case ev =>
    intro Q' hq
    walk_at "go"
    exact hq _ _ _ _ _ _ ⟨by with_reducible assumption, by with_reducible assumption⟩ (by with_reducible assumption)
  case elt =>
    intro C i t s₃ m₃ E' hi hm3 fc
    obtain ⟨F10, N10⟩ := fc
    have hi4 : i = 0 ∨ i = 1 ∨ i = 2 ∨ i = 3 := by lia
    rcases hi4 with rfl | rfl | rfl | rfl
    all_goals
      walk_at "go"
      refine Halt.in ?_
      refine wpAny_mono (Q := fun v s₄ => ∃ D ys k ms h' tk, v = .ref D ∧ s₄ = { s₃ with heap := h', toks := tk } ∧ s₃.heap.StaysIn h' ∧ Fr s.heap C h' m₃ ∧ News s.heap C h' ((D, listOf ys k) :: [(s.heap.objs.size + 1, o1)]) ∧ IntsAre ys.toList ms ∧ ms.length ≤ 63 ∧ (∀ j ∈ ms, 0 ≤ j ∧ j < 1000000)) ?inner ?rest (fun _ _ h => h)
      case inner =>
        refine comp_listE ⟨F10, N10⟩ (p := fun _ => true) (f := fun j => Int.fmod j 1000000) (PN := fun ns => ns.length ≤ 63) rfl (by decide) rfl ?nm2 rfl (Ar.hhD (by assumption) _) ?ev2 ?test2 ?elt2 ?cont2 (by intro _; rfl)
        case nm2 => decide
        case ev2 =>
          intro Q' hq
          walk_at "go"
          obtain ⟨ns', hns', hn1, hn2⟩ := sub_ints hvs hlen (by with_reducible assumption) (by with_reducible assumption)
          exact hq _ _ _ _ _ ⟨by with_reducible assumption, drop1 (by with_reducible assumption)⟩ (by with_reducible assumption) (by walk_at "lst") hns' hn1 hn2
        case test2 =>
          intro C i t s₃ m₃ E' hn3 hm3 _ fc
          exact tests0 ⟨rfl, _, _, rfl, fun _ _ e => e⟩
        case elt2 =>
          intro C i t s₃ m₃ E' hp hn3 hm3 _ fc
          obtain ⟨F12, N12⟩ := fc
          walk_at "go"
          exact ⟨_, _, rfl, fun _ _ e => e⟩
        case cont2 =>
          intro D h' tk ys k ns' hpn st1 F' N' hne hys
          refine ⟨D, ys, k, _, h', tk, rfl, rfl, st1, F', N', hys, ?_, ?_⟩
          · rw [List.length_map]; exact Nat.le_trans (List.length_filter_le _ _) hpn
          · intro j hj
            obtain ⟨a, _, rfl⟩ := List.mem_map.mp hj
            have := PyProof.Rows.fdiv_fmod_facts a 1000000
            lia
      case rest =>
        rintro v s₄ ⟨D, ys, k, ms, h', tk, rfl, rfl, st1, F11, N11, hys, hms, hb⟩
        clear F10 N10
        walk_at "go"
        refine Halt.in ?_
        refine sum_lst (Ar.hhD (by assumption) _) (by walk_at "lst") hys (sumFits63 hms hb) fun h'' tk' t' hk => ?_
        have F13 := stayF F11 hk
        have N13 := stayN N11 hk
        have hsum := sum63 hms hb
        clear F11 N11
        walk_at "go"
        exact ⟨_, _, rfl, fun b o e => (by with_reducible assumption : Heap.StaysIn _ _) _ _ (hk _ _ (st1 b o e))⟩
  case cont =>
    intro D h' tk ys k ms F' N' hne hys hms hb
    walk_at "go"
    exact hR _ _ _ _ _ _ (Fr.keep (by with_reducible assumption)) (fresh0 (by with_reducible assumption)) (at0 (by with_reducible assumption)) hys hms hb
end Mine
theorem Mine.off_S8 : True := by w_top off; trivial
theorem Mine.rs_S8 {M : Model} {A : Around} {E : Value → Shared → Prop} {s : Shared} {Q : Flow → Shared → Prop} {p : Pos} {env : Env} (h : wpAny M A (exec (Stmt.Pass p) env) Q E s) : wpAny M A (exec (Stmt.Pass p) env) Q E s := by first | (walk1; fail) | exact h
namespace Mine
theorem reg_S8 : True := by
  k_with_none
  k_with "cj" => (first | with_reducible assumption | exact cj1 (by with_reducible assumption) | exact cj2 (by with_reducible assumption) | exact cj3 (by with_reducible assumption) | exact cj4 (by with_reducible assumption) | exact cj5 (by with_reducible assumption) | exact ce2 (by with_reducible assumption) | exact ce3 (by with_reducible assumption) | exact ce4 (by with_reducible assumption) | exact ce5 (by with_reducible assumption))
  k_with "ne1" => (refine neN ?_; first | with_reducible assumption | (refine Ne.symm ?_; with_reducible assumption) | walk_at "cj" | (refine Ne.symm ?_; walk_at "cj") | (refine Nat.ne_of_lt ?_; walk_at "cj") | (refine Nat.ne_of_gt ?_; walk_at "cj") | ((try dsimp only); omega))
  k_with "eval Constant int" => (refine r_int ?_)
  k_with "eval Constant str" => (refine r_str ?_)
  k_with "binaryOp Add int int" => (refine r_add ?_)
  k_with "binaryOp Sub int int" => (refine r_sub ?_)
  k_with "unaryOp USub int" => (refine r_neg ?_)
  k_with "inplaceOp Add int int" => (refine r_iadd ?_)
  k_with "eval Slice" => (refine r_slice ?_)
  k_with "SlQ" => (refine SlQ.go ?_)
  k_with "mget" => (first | with_reducible assumption | with_reducible exact upd_eq | ((with_reducible refine Eq.trans upd_eq ?_); rfl) | ((with_reducible refine upd_ne (by kernel_rfl) ?_); walk_at "mget") | (goal_lacks upd; first | exact if_pos rfl | (refine Eq.trans (if_neg (by decide)) ?_; walk_at "mget")))
  k_with "newTuple" => ((refine' r_tuple (by walk_at "asm") (by walk_at "asm") (by exact Nat.le_of_ble_eq_true rfl) ?_); intro _ _ _ _ _; walk_at "lt"; (try k_sweep))
  k_with "ite" => (first | with_reducible refine ite_tt ?_ | with_reducible refine ite_ff ?_ | (refine ite_pos (by with_reducible assumption) ?_) | (refine ite_neg (by refine ne_true_of_eq_false ?_; with_reducible assumption) ?_))
  k_with "tup" => (first | (refine News.isTup (by walk_at "asm") (by walk_at "mem")) | with_reducible assumption | (refine stays_tup (Fr.keep (by walk_at "asm")) (by walk_at "asm")))
  k_with "lst" => (first | (refine News.isList (by walk_at "asm") (by walk_at "mem")) | with_reducible assumption | (refine stays_list (Fr.keep (by walk_at "asm")) (by walk_at "asm")))
  k_with "off" => (first | exact List.forall_mem_nil _ | exact OwnOff.ne (by with_reducible assumption) (List.Mem.head _) | (refine List.forall_mem_cons.mpr ?_; refine And.intro ?_ ?_; (focus k_ne); (walk_at "off")))
  k_with "upd" => (first | (apply upd_hd; walk_at "off") | (apply upd_tl; (case hne => k_ne); (case hu => walk_at "upd")))
  k_with "RunTo" => ((first | refine NextTo.next (by with_reducible assumption) ?_ | refine NextTo.ret (by with_reducible assumption) ?_ | refine NextTo.brk (by with_reducible assumption) ?_ | refine NextTo.cont (by with_reducible assumption) ?_); (try dsimp only))
  k_with "go" => (repeat' (first | (k_unfold; (try dsimp only)) | walk1 | (dsimp only; walk1)))
  k_with "sides" => (((case b => (k_is)); (case c => (k_is)); (case a => (exact Ar.room (by assumption))); (case d => (exact BindsTo.of_eq rfl)); (case e => (exact locs rfl)); (case g => (rfl)); (case h => (rfl)); (case i => (rfl)); (case j => (decide))))
  k_with "mem" => (first | exact List.Mem.head _ | (refine' List.Mem.tail _ ?_; walk_at "mem"))
  k_with "units" => (first | exact Ar.units0 (by assumption) _ | exact Ar.unitsD (by assumption) (by decide) _)
  k_with "asm" => (with_reducible assumption)
  k_with "lt" => (((rename ∀ p ∈ _, (p : Addr × Obj).1 < _ => l9); (replace l9 := allLt_of l9); (dsimp only [AllLt] at l9)))
  k_with "ne" => (((rename ∀ p ∈ _, (p : Addr × Obj).1 ≠ _ => l9); (replace l9 := allNe_of l9); (dsimp only [AllNe] at l9)))
  k_with "storeName" => ((with_reducible refine' r_store (by walk_at "asm") (by walk_at "asm") (by kernel_rfl) ?_); intro _ _ _; (try k_sweep))
  k_with "exec While Compare cons nil" => (refine Halt.out ?_)
  k_with "exec While BoolOp cons nil" => (refine Halt.out ?_)
  k_with "exec While Constant cons nil" => (refine Halt.out ?_)
  k_with "exec While Name cons nil" => (refine Halt.out ?_)
  k_with "exec While" => (refine Halt.out ?_)
  k_with "execs cons" => (first | (refine execs_lastQ (fun tk => ?_)) | (refine execs_consQ (fun tk qk hqk => ?_)))
  k_with "newList" => (((refine' r_list (by walk_at "asm") (by walk_at "asm") (by exact Nat.le_of_ble_eq_true rfl) ?_); intro _ _ _ _ _; walk_at "lt"; (try k_sweep)))
  k_with "subscriptTail Name Slice str ref" => ((with_reducible first | refine' slice_ss5 (by walk_at "asm") (by walk_at "asm") (by with_reducible assumption) ?_ | refine' slice_sn5 (by walk_at "asm") (by walk_at "asm") (by with_reducible assumption) ?_); intro _ _ _ _ _; (try k_sweep))
  k_with "handled" => (first | exact Ar.hhD (by assumption) _ | exact Ar.hh (by assumption) | rfl)
  k_with "assign Tuple" => (((with_reducible show wpAny _ _ (assign (Expr.Tuple _ _ _) _ (Value.ref _)) _ _ _); k_dflt (refine' r_unpack (by walk_at "asm") (by walk_at "asm") (by walk_at "tup") (by walk_at "handled") rfl rfl ?_); intro _ _ _; (try k_sweep)))
  k_with "asz" => (k_dflt (first | exact aszL (by with_reducible assumption) | exact Nat.le_of_ble_eq_true rfl))
  k_with "call builtin:list.append" => (((with_reducible show wpAny _ _ (call (Value.builtin _) [Value.ref _, _]) _ _ _); (refine' r_append (by walk_at "asm") (by walk_at "asm") (by walk_at "upd") (by walk_at "asz") ?_); intro _ _ _; (try k_sweep)))
  k_with "sub" => ((intro _ hpK9; first | exact List.mem_of_mem_tail hpK9 | (simp only [List.mem_cons, List.mem_append] at hpK9 ⊢; grind)))
  k_with "exec For Tuple Name cons nil" => ((k_dflt (refine' wpAny_For ?_ (by intro _; rfl))))
  k_with "exec For Name Name cons nil" => ((k_dflt (refine' wpAny_For ?_ (by intro _; rfl))))
  k_with "exec For Name Call cons nil" => ((k_dflt (refine' wpAny_For ?_ (by intro _; rfl))))
  k_with "exec For Name List cons nil" => ((k_dflt (refine' wpAny_For ?_ (by intro _; rfl))))
  k_with "exec For Name Attribute cons nil" => ((k_dflt (refine' wpAny_For ?_ (by intro _; rfl))))
  k_with "pyIter ref" => (refine Halt.out ?_)
  k_with "subscriptTail Name Constant ref int" => (((with_reducible show wpAny _ _ (subscriptTail _ _ (Value.ref _) (Value.int _ _)) _ _ _); (refine' item_tupleL (by refine' News.isTup (by walk_at "asm") (by walk_at "mem")) (by decide) (by decide) rfl rfl ?_ (by with_unfolding_all rfl) (by intro _; with_unfolding_all rfl))))
  k_with "eval Name" => ((goal_lacks compEnvC; first | (with_reducible refine' nmK (by decide +kernel) (by walk_at "asm") (by walk_at "mget") ?_) | k_dflt (first | (goal_lacks envOf; refine' nameX_L (by walk_at "asm") (by walk_at "mget") ?_ rfl (by with_unfolding_all rfl) (by decide)) | (goal_lacks envOf; refine' nameX_C (by walk_at "asm") rfl (by walk_at "mem") (by walk_at "asm") ?_ rfl (by with_unfolding_all rfl) (by decide)) | (refine' nameX_K (by walk_at "asm") (by walk_at "asm") (by k_asm) (by k_is) ?_ rfl (by with_unfolding_all rfl) (by decide)) | (refine' nameX_B (by walk_at "asm") (by walk_at "asm") (by k_asm) (by k_is) (by boot_fast) (by decide) ?_ rfl (by with_unfolding_all rfl) (by decide)))))
  k_with "loadName" => ((first | (with_reducible refine' ldL (by walk_at "asm") (by walk_at "mget") (by kernel_rfl) ?_) | k_dflt (refine' ldX (by walk_at "asm") (by walk_at "mget") ?_ rfl (by with_unfolding_all rfl))))
  trivial
theorem rg_S8_1 : True := by
  k_with "call type:range" => (((with_reducible show wpAny _ _ (call _ [Value.int _ _]) _ _ _); k_dflt (refine' range1F (by walk_at "asm") (by walk_at "asm") ?_); intro _ _ _ _ _ _ _ _ _; (try k_sweep)))
  k_with "call builtin:sum" => (((with_reducible show wpAny _ _ (call (Value.builtin _) [Value.ref _]) _ _ _); k_dflt (refine' sum_lstF (by walk_at "asm") (by walk_at "asm") (by walk_at "handled") (by walk_at "lst") (by with_reducible assumption) (by with_reducible assumption) ?_); intro _ _ _ _ _; (try k_sweep)))
  k_with "binaryOp Add str str" => ((k_dflt (refine' PyProof.Rows.add_str ?_ (by refine fitsL ?_; (try simp only [Str.length_append]); omega)); intro _ _))
  k_with "inplaceOp Add str str" => ((k_dflt (refine' PyProof.Rows.iadd_str ?_ (by refine fitsL ?_; (try simp only [Str.length_append]); omega)); intro _ _))
  trivial
noncomputable def at3 (a b c : Str) (i : Int) : Str := if i = 0 then a else if i = 1 then b else c
theorem at3_len {a b c : Str} {i : Int} {n : Nat} (ha : a.length ≤ n) (hb : b.length ≤ n) (hc : c.length ≤ n) : (at3 a b c i).length ≤ n := by unfold at3; split; exact ha; split; exact hb; exact hc
theorem tup3_at {prog : Program} {w : World} {A : Around} {E : Value → Shared → Prop} {s : Shared} {value slice : PySem.Expr} {t : Addr} {a b c : Str} {t1 t2 t3 : Tok} {k : Int} {u : Tok} {Q : Value → Shared → Prop} (ht : IsTup s.heap t [Value.str a t1, Value.str b t2, Value.str c t3].toArray)
    (h0 : 0 ≤ k) (h3 : k < 3) (h : ∀ t, Q (.str (at3 a b c k) t) s)
    (hs : subscripted slice false (.ref t) (.int k u) = operate [.ref t, .int k u] (getItem (.ref t) (.int k u))) (hg : ∀ r, letTemporaryGo value (.ref t) r = pure ()) :
    wpAny (model prog w) A (subscriptTail value slice (.ref t) (.int k u)) Q E s := by
  have hk : k = 0 ∨ k = 1 ∨ k = 2 := by lia
  rcases hk with rfl | rfl | rfl
  · exact item_tupleL ht (by decide) (by decide) (j := 0) rfl rfl (h t1) hs hg
  · exact item_tupleL ht (by decide) (by decide) (j := 1) rfl rfl (h t2) hs hg
  · exact item_tupleL ht (by decide) (by decide) (j := 2) rfl rfl (h t3) hs hg
theorem rgm_S8_1 : True := by
  k_with "tup3" => (((with_reducible show wpAny _ _ (subscriptTail _ _ (Value.ref _) (Value.int _ _)) _ _ _); k_dflt (refine' tup3_at (by refine' stays_tup (Fr.keep (by walk_at "asm")) (by walk_at "asm")) (by exact Int.fmod_nonneg_of_pos _ (by decide)) (by exact Int.fmod_lt_of_pos _ (by decide)) ?_ (by with_unfolding_all rfl) (by intro _; with_unfolding_all rfl)); intro _))
  trivial
theorem rg_S8_2 : True := by
  k_with "subscriptTail Name BinOp ref int" => (walk_at "tup3")
  k_with "binaryOp Mult str int" => ((k_dflt (refine' SB.mul (by exact stars_ok _) ?_); intro _ _))
  trivial
noncomputable def grow (f : Nat → Str) : Nat → Str × Str → Str × Str
  | 0, q => q
  | k + 1, q => let r := grow f k q; (r.1 ++ Str.ofString " ", r.2 ++ f k)
theorem grow_len {f : Nat → Str} (hf : ∀ j, (f j).length ≤ 10) (n : Nat) (q : Str × Str) : (grow f n q).1.length = q.1.length + n ∧ (grow f n q).2.length ≤ q.2.length + 10 * n := by
  induction n with
  | zero => exact ⟨rfl, Nat.le_refl _⟩
  | succ n ih =>
    have h1 : (Str.ofString " ").length = 1 := rfl
    have := hf n
    simp only [grow, Str.length_append, h1]
    lia
noncomputable def stars (t : Int) : Str := Txt.mul (Str.ofString "*") (1 + Int.fmod (Int.fdiv t 2) 2)
noncomputable def turnT (an mk : Int → Str) (q : Str × Str) (t : Int) : Str × Str :=
  let r := grow (fun j => an (Int.fmod (Int.fdiv t 3 + (j : Int)) 3)) (Int.fmod t 5).toNat q
  if Int.fmod (Int.fdiv t 5) 7 = 0 then r else (r.1 ++ Str.ofString "\t", r.2 ++ (stars t ++ mk (Int.fmod (Int.fdiv t 7) 3)))
theorem stars_len (t : Int) : (stars t).length ≤ 2 := by
  have := PyProof.Rows.fdiv_fmod_facts (Int.fdiv t 2) 2
  have h : Int.fmod (Int.fdiv t 2) 2 = 0 ∨ Int.fmod (Int.fdiv t 2) 2 = 1 := by lia
  unfold stars
  rcases h with h | h <;> rw [h] <;> decide
theorem stars_ok (t : Int) : MulOk (Str.ofString "*") (1 + Int.fmod (Int.fdiv t 2) 2) := by
  have := PyProof.Rows.fdiv_fmod_facts (Int.fdiv t 2) 2
  have h : Int.fmod (Int.fdiv t 2) 2 = 0 ∨ Int.fmod (Int.fdiv t 2) 2 = 1 := by lia
  rcases h with h | h <;> rw [h] <;> exact mulOk_of 16 16 (by decide) (by decide) (by decide) (by decide) (by decide)
theorem turnT_len {an mk : Int → Str} (ha : ∀ i, (an i).length ≤ 10) (hm : ∀ i, (mk i).length ≤ 10) (q : Str × Str) (t : Int) : (turnT an mk q t).1.length ≤ q.1.length + 5 ∧ (turnT an mk q t).2.length ≤ q.2.length + 52 := by
  have f5 := PyProof.Rows.fdiv_fmod_facts t 5
  obtain ⟨g1, g2⟩ := grow_len (f := fun j => an (Int.fmod (Int.fdiv t 3 + (j : Int)) 3)) (fun j => ha _) (Int.fmod t 5).toNat q
  have h1 : (Str.ofString "\t").length = 1 := rfl
  have h2 := stars_len t
  have h3 := hm (Int.fmod (Int.fdiv t 7) 3)
  unfold turnT
  split
  · simp only; omega
  · simp only [Str.length_append, h1]; omega
noncomputable def sideF (an mk : Int → Str) (ts : List Int) : Str × Str :=
  grow (fun j => an (Int.fmod (ts.sum + (j : Int)) 3)) (Int.fmod ts.sum 4).toNat (ts.foldl (turnT an mk) (Str.ofString "", Str.ofString ""))
inductive growJ (f : Nat → Str) (q : Str × Str) (news₀ : List (Addr × Obj)) (Mk : (Str → Option Value) → Prop) (k : Nat) (m : Str → Option Value) : List (Addr × Obj) → Prop
  | mk (tl tp : Tok) (i1 : m (Str.ofString "lead") = some (.str (grow f k q).1 tl)) (i2 : m (Str.ofString "pattern") = some (.str (grow f k q).2 tp)) (i3 : Mk m) : growJ f q news₀ Mk k m news₀
inductive growA (l aa : Addr) (m : Str → Option Value) : Prop
  | mk (i3 : m (Str.ofString "totals") = some (.ref l)) (i4 : m (Str.ofString "anys") = some (.ref aa)) : growA l aa m
inductive growB (l aa ma : Addr) (t : Int) (tt : Tok) (m : Str → Option Value) : Prop
  | mk (i3 : m (Str.ofString "totals") = some (.ref l)) (i4 : m (Str.ofString "anys") = some (.ref aa)) (i5 : m (Str.ofString "marks") = some (.ref ma)) (i6 : m (Str.ofString "total") = some (.int t tt)) : growB l aa ma t tt m
inductive sideJ (q : Nat → Str × Str) (la aa ma : Addr) (k : Nat) (m : Str → Option Value) : List (Addr × Obj) → Prop
  | mk (tl tp : Tok) (j1 : m (Str.ofString "lead") = some (.str (q k).1 tl)) (j2 : m (Str.ofString "pattern") = some (.str (q k).2 tp)) (j3 : (q k).1.length ≤ 5 * k) (j4 : (q k).2.length ≤ 52 * k)
      (j5 : m (Str.ofString "totals") = some (.ref la)) (j6 : m (Str.ofString "anys") = some (.ref aa)) (j7 : m (Str.ofString "marks") = some (.ref ma)) : sideJ q la aa ma k m []
set_option maxRecDepth 100000 in
set_option maxHeartbeats 4000000 in
theorem side_walk {w : World} {s : Shared} {A : Around} {R : Result → Shared → Prop} (G : Gd w s.heap) (hA : Ar A 4 40)
   {l aa ma : Addr} {vs : List Value} {e : Nat} {ts : List Int} (hl : s.heap.get? l = some (listOf vs.toArray e)) (hvs : IntsAre vs ts) (hlen : ts.length = 4) (hb : ∀ t ∈ ts, 0 ≤ t ∧ t ≤ 100000000)
   {a0 a1 a2 m0 m1 m2 : Str} {ta0 ta1 ta2 tm0 tm1 tm2 : Tok} (haa : IsTup s.heap aa [Value.str a0 ta0, Value.str a1 ta1, Value.str a2 ta2].toArray) (hma : IsTup s.heap ma [Value.str m0 tm0, Value.str m1 tm1, Value.str m2 tm2].toArray)
   (la0 : a0.length ≤ 10) (la1 : a1.length ≤ 10) (la2 : a2.length ≤ 10) (lm0 : m0.length ≤ 10) (lm1 : m1.length ≤ 10) (lm2 : m2.length ≤ 10)
   (hR : ∀ a h' tk t1 t2, s.heap.StaysIn h' → h'.get? a = some (tupOf [.str (sideF (at3 a0 a1 a2) (at3 m0 m1 m2) ts).1 t1, .str (sideF (at3 a0 a1 a2) (at3 m0 m1 m2) ts).2 t2]) → R (.ok (.ret (.ref a))) {s with heap := h', toks := tk}) :
   codeAny (model PR w) A (.call (.ref 192) ⟨[.ref l, .ref ma, .ref aa], []⟩) R s := by
  refine' call_fn (binds := [(Str.ofString "totals", .ref l), (Str.ofString "marks", .ref ma), (Str.ofString "anys", .ref aa)]) G ?a ?b ?c ?d ?e ?f ?g ?h ?i ?j
  walk_at "sides"
  intro h₁ m hm F
  have k1 : m (Str.ofString "totals") = some (.ref l) := by rw [hm]; rfl
  have k2 : m (Str.ofString "marks") = some (.ref ma) := by rw [hm]; rfl
  have k3 : m (Str.ofString "anys") = some (.ref aa) := by rw [hm]; rfl
  clear hm
  obtain ⟨p, loose, mean, mg, mb, T⟩ := G.T
  have X := G.K
  have N : News s.heap s.heap.objs.size h₁ [] := News.nil
  have han : ∀ i, (at3 a0 a1 a2 i).length ≤ 10 := fun i => at3_len la0 la1 la2
  have hmk : ∀ i, (at3 m0 m1 m2 i).length ≤ 10 := fun i => at3_len lm0 lm1 lm2
  have hL : s.heap.IsList l vs.toArray := ⟨_, hl, rfl, _, rfl⟩
  have hsp : (Str.ofString " ").length = 1 := rfl
  have htb : (Str.ofString "\t").length = 1 := rfl
  walk_at "go"
  refine Halt.in ?_
  refine loopL (L := s.heap.objs.size) rfl (vs := vs) (lo := listOf vs.toArray e) (sideJ (fun k => (ts.take k).foldl (turnT (at3 a0 a1 a2) (at3 m0 m1 m2)) (Str.ofString "", Str.ofString "")) l aa ma) ?hh ⟨rfl, _, rfl⟩ (fun h m news k _ F _ => F.keep _ _ hl) (by with_reducible assumption) (by with_reducible assumption) ?h0 ?turn ?done
  case hh => exact Ar.hhD (by assumption) _
  case h0 => exact .mk _ _ (by walk_at "mget") (by walk_at "mget") (Nat.le_refl _) (Nat.le_refl _) (by walk_at "mget") (by walk_at "mget") (by walk_at "mget")
  case done =>
    intro m' news' h' tk hJ F' N'
    induction hJ
    rename_i tl tp j1 j2 j3 j4 j5 j6 j7
    rw [hvs.length, hlen, show ts.take 4 = ts from List.take_of_length_le (by lia)] at j1 j2 j3 j4
    have hsf : PySem.SumFits ts := sumFits_small (fun x hx => by have := hb x hx; lia) (by lia)
    have f4 := PyProof.Rows.fdiv_fmod_facts ts.sum 4
    walk_at "go"
    refine Halt.in ?_
    refine loopR (L := s.heap.objs.size) rfl (n := (Int.fmod ts.sum 4).toNat) (growJ (fun j => at3 a0 a1 a2 (Int.fmod (ts.sum + (j : Int)) 3)) (ts.foldl (turnT (at3 a0 a1 a2) (at3 m0 m1 m2)) (Str.ofString "", Str.ofString "")) [] (growA l aa)) ?hh2 (by with_reducible assumption) ?hs2 ?hn2 (by with_reducible assumption) (by with_reducible assumption) ?h02 ?turn2 ?done2
    case hh2 => exact Ar.hhD (by assumption) _
    case hs2 => exact small_one (by lia) (by lia) (by lia) (by lia)
    case hn2 => rw [rangeSize_nat, Int.sub_zero]
    case h02 => exact .mk _ _ j1 j2 (.mk (by walk_at "mget") (by walk_at "mget"))
    case done2 =>
      intro m' news' h' tk hJ F' N'
      induction hJ
      rename_i tl tp i1 i2 hM
      induction hM
      rename_i i3 i4
      walk_at "go"
      rename News _ _ _ _ => N9
      exact hR _ _ _ _ _ (Fr.keep (by with_reducible assumption)) (at0 N9)
    case turn2 =>
      intro k t m₁ news₁ h tk it itO hk hJ F' N' hn
      induction hJ
      rename_i tl tp i1 i2 hM
      induction hM
      rename_i i3 i4
      have hgl := grow_len (f := fun j => at3 a0 a1 a2 (Int.fmod (ts.sum + (j : Int)) 3)) (fun j => han _) k (ts.foldl (turnT (at3 a0 a1 a2) (at3 m0 m1 m2)) (Str.ofString "", Str.ofString ""))
      have hal := han (Int.fmod (ts.sum + (0 + (k : Int) * 1)) 3)
      have i2' : ∀ tok, some (Value.str ((grow (fun j => at3 a0 a1 a2 (Int.fmod (ts.sum + (j : Int)) 3)) k (ts.foldl (turnT (at3 a0 a1 a2) (at3 m0 m1 m2)) (Str.ofString "", Str.ofString ""))).2 ++ at3 a0 a1 a2 (Int.fmod (ts.sum + (0 + (k : Int) * 1)) 3)) tok) = some (Value.str (grow (fun j => at3 a0 a1 a2 (Int.fmod (ts.sum + (j : Int)) 3)) (k + 1) (ts.foldl (turnT (at3 a0 a1 a2) (at3 m0 m1 m2)) (Str.ofString "", Str.ofString ""))).2 tok) := fun _ => by rw [Int.zero_add, Int.mul_one]; rfl
      walk_at "go"
      refine TurnP.go (by with_reducible assumption) (by with_reducible assumption) hn (.mk _ _ (by walk_at "mget") (by exact (if_pos rfl).trans (i2' _)) (.mk (by walk_at "mget") (by walk_at "mget")))
  case turn =>
    intro k v m₁ news₁ h tk it itO hv hJ F' N' hn
    induction hJ
    rename_i tl tp j1 j2 j3 j4 j5 j6 j7
    obtain ⟨t, tt, rfl, ht⟩ := ints_get2 hvs hv
    have htb2 := hb t (List.mem_of_getElem? ht)
    have hk4 : k < 4 := by rw [← hlen]; exact (List.getElem?_eq_some_iff.mp ht).1
    have f5 := PyProof.Rows.fdiv_fmod_facts t 5
    have hq := foldl_take_succ (f := turnT (at3 a0 a1 a2) (at3 m0 m1 m2)) (z := (Str.ofString "", Str.ofString "")) ht
    have hql := turnT_len han hmk ((ts.take k).foldl (turnT (at3 a0 a1 a2) (at3 m0 m1 m2)) (Str.ofString "", Str.ofString "")) t
    generalize (ts.take k).foldl (turnT (at3 a0 a1 a2) (at3 m0 m1 m2)) (Str.ofString "", Str.ofString "") = q at j1 j2 j3 j4 hq hql
    walk_at "go"
    refine Halt.in ?_
    refine loopR (L := s.heap.objs.size) rfl (n := (Int.fmod t 5).toNat) (growJ (fun j => at3 a0 a1 a2 (Int.fmod (Int.fdiv t 3 + (j : Int)) 3)) q [(it, itO)] (growB l aa ma t tt)) ?hh3 (by with_reducible assumption) ?hs3 ?hn3 (by with_reducible assumption) (by with_reducible assumption) ?h03 ?turn3 ?done3
    case hh3 => exact Ar.hhD (by assumption) _
    case hs3 => exact small_one (by lia) (by lia) (by lia) (by lia)
    case hn3 => rw [rangeSize_nat, Int.sub_zero]
    case h03 => exact .mk _ _ (upd_ne (by kernel_rfl) j1) (upd_ne (by kernel_rfl) j2) (.mk (by walk_at "mget") (by walk_at "mget") (by walk_at "mget") (by walk_at "mget"))
    case done3 =>
      intro m' news' h' tk hJ F' N'
      induction hJ
      rename_i tl tp i1 i2 hM
      induction hM
      rename_i i3 i4 i5 i6
      have hgl := grow_len (f := fun j => at3 a0 a1 a2 (Int.fmod (Int.fdiv t 3 + (j : Int)) 3)) (fun j => han _) (Int.fmod t 5).toNat q
      have hstl := stars_len t
      have hml := hmk (Int.fmod (Int.fdiv t 7) 3)
      unfold stars at hstl
      walk_at "go"
      · rename _ ≠ (0 : Int) => hc'
        have hqe : turnT (at3 a0 a1 a2) (at3 m0 m1 m2) q t = ((grow (fun j => at3 a0 a1 a2 (Int.fmod (Int.fdiv t 3 + (j : Int)) 3)) (Int.fmod t 5).toNat q).1 ++ Str.ofString "\t", (grow (fun j => at3 a0 a1 a2 (Int.fmod (Int.fdiv t 3 + (j : Int)) 3)) (Int.fmod t 5).toNat q).2 ++ (Txt.mul (Str.ofString "*") (1 + Int.fmod (Int.fdiv t 2) 2) ++ at3 m0 m1 m2 (Int.fmod (Int.fdiv t 7) 3))) := by
          unfold turnT stars
          rw [if_neg hc']
        rw [hqe] at hq hql
        refine TurnP.next (by with_reducible assumption) (by with_reducible assumption) hn ?_
        exact .mk _ _ (by (try dsimp only); rw [hq]; walk_at "mget") (by (try dsimp only); rw [hq]; walk_at "mget") (by (try dsimp only); rw [hq]; have := hql.1; lia) (by (try dsimp only); rw [hq]; have := hql.2; lia) (by walk_at "mget") (by walk_at "mget") (by walk_at "mget")
      · have hc' : Int.fmod (Int.fdiv t 5) 7 = 0 := by first | with_reducible assumption | (apply Decidable.byContradiction; with_reducible assumption)
        have hqe : turnT (at3 a0 a1 a2) (at3 m0 m1 m2) q t = grow (fun j => at3 a0 a1 a2 (Int.fmod (Int.fdiv t 3 + (j : Int)) 3)) (Int.fmod t 5).toNat q := by
          unfold turnT stars
          rw [if_pos hc']
        rw [hqe] at hq hql
        refine TurnP.next (by with_reducible assumption) (by with_reducible assumption) hn ?_
        exact .mk _ _ (by (try dsimp only); rw [hq]; walk_at "mget") (by (try dsimp only); rw [hq]; walk_at "mget") (by (try dsimp only); rw [hq]; have := hql.1; lia) (by (try dsimp only); rw [hq]; have := hql.2; lia) (by walk_at "mget") (by walk_at "mget") (by walk_at "mget")
    case turn3 =>
      intro j t' m₁ news₁ h tk it₂ itO₂ hj hJ F' N' hn₂
      induction hJ
      rename_i tl tp i1 i2 hM
      induction hM
      rename_i i3 i4 i5 i6
      have hgl := grow_len (f := fun j => at3 a0 a1 a2 (Int.fmod (Int.fdiv t 3 + (j : Int)) 3)) (fun j => han _) j q
      have i2' : ∀ tok, some (Value.str ((grow (fun j => at3 a0 a1 a2 (Int.fmod (Int.fdiv t 3 + (j : Int)) 3)) j q).2 ++ at3 a0 a1 a2 (Int.fmod (Int.fdiv t 3 + (0 + (j : Int) * 1)) 3)) tok) = some (Value.str (grow (fun j => at3 a0 a1 a2 (Int.fmod (Int.fdiv t 3 + (j : Int)) 3)) (j + 1) q).2 tok) := fun _ => by rw [Int.zero_add, Int.mul_one]; rfl
      have hal := han (Int.fmod (Int.fdiv t 3 + (0 + (j : Int) * 1)) 3)
      walk_at "go"
      refine TurnP.go (by with_reducible assumption) (by with_reducible assumption) hn₂ (.mk _ _ (by walk_at "mget") (by exact (if_pos rfl).trans (i2' _)) (.mk (by walk_at "mget") (by walk_at "mget") (by walk_at "mget") (by walk_at "mget")))
end Mine
theorem Mine.off_S9 : True := by w_top off; trivial
theorem Mine.rs_S9 {M : Model} {A : Around} {E : Value → Shared → Prop} {s : Shared} {Q : Flow → Shared → Prop} {p : Pos} {env : Env} (h : wpAny M A (exec (Stmt.Pass p) env) Q E s) : wpAny M A (exec (Stmt.Pass p) env) Q E s := by first | (walk1; fail) | exact h
namespace Mine
theorem reg_S9 : True := by
  k_with_none
  k_with "cj" => (first | with_reducible assumption | exact cj1 (by with_reducible assumption) | exact cj2 (by with_reducible assumption) | exact cj3 (by with_reducible assumption) | exact cj4 (by with_reducible assumption) | exact cj5 (by with_reducible assumption) | exact ce2 (by with_reducible assumption) | exact ce3 (by with_reducible assumption) | exact ce4 (by with_reducible assumption) | exact ce5 (by with_reducible assumption))
  k_with "ne1" => (refine neN ?_; first | with_reducible assumption | (refine Ne.symm ?_; with_reducible assumption) | walk_at "cj" | (refine Ne.symm ?_; walk_at "cj") | (refine Nat.ne_of_lt ?_; walk_at "cj") | (refine Nat.ne_of_gt ?_; walk_at "cj") | ((try dsimp only); omega))
  k_with "eval Constant int" => (refine r_int ?_)
  k_with "eval Constant str" => (refine r_str ?_)
  k_with "binaryOp Add int int" => (refine r_add ?_)
  k_with "binaryOp Sub int int" => (refine r_sub ?_)
  k_with "unaryOp USub int" => (refine r_neg ?_)
  k_with "inplaceOp Add int int" => (refine r_iadd ?_)
  k_with "eval Slice" => (refine r_slice ?_)
  k_with "SlQ" => (refine SlQ.go ?_)
  k_with "mget" => (first | with_reducible assumption | with_reducible exact upd_eq | ((with_reducible refine Eq.trans upd_eq ?_); rfl) | ((with_reducible refine upd_ne (by kernel_rfl) ?_); walk_at "mget") | (goal_lacks upd; first | exact if_pos rfl | (refine Eq.trans (if_neg (by decide)) ?_; walk_at "mget")))
  k_with "newTuple" => ((refine' r_tuple (by walk_at "asm") (by walk_at "asm") (by exact Nat.le_of_ble_eq_true rfl) ?_); intro _ _ _ _ _; walk_at "lt"; (try k_sweep))
  k_with "ite" => (first | with_reducible refine ite_tt ?_ | with_reducible refine ite_ff ?_ | (refine ite_pos (by with_reducible assumption) ?_) | (refine ite_neg (by refine ne_true_of_eq_false ?_; with_reducible assumption) ?_))
  k_with "tup" => (first | (refine News.isTup (by walk_at "asm") (by walk_at "mem")) | with_reducible assumption | (refine stays_tup (Fr.keep (by walk_at "asm")) (by walk_at "asm")))
  k_with "lst" => (first | (refine News.isList (by walk_at "asm") (by walk_at "mem")) | with_reducible assumption | (refine stays_list (Fr.keep (by walk_at "asm")) (by walk_at "asm")))
  k_with "off" => (first | exact List.forall_mem_nil _ | exact OwnOff.ne (by with_reducible assumption) (List.Mem.head _) | (refine List.forall_mem_cons.mpr ?_; refine And.intro ?_ ?_; (focus k_ne); (walk_at "off")))
  k_with "upd" => (first | (apply upd_hd; walk_at "off") | (apply upd_tl; (case hne => k_ne); (case hu => walk_at "upd")))
  k_with "RunTo" => ((first | refine NextTo.next (by with_reducible assumption) ?_ | refine NextTo.ret (by with_reducible assumption) ?_ | refine NextTo.brk (by with_reducible assumption) ?_ | refine NextTo.cont (by with_reducible assumption) ?_); (try dsimp only))
  k_with "go" => (repeat' (first | (k_unfold; (try dsimp only)) | walk1 | (dsimp only; walk1)))
  k_with "sides" => (((case b => (k_is)); (case c => (k_is)); (case a => (exact Ar.room (by assumption))); (case d => (exact BindsTo.of_eq rfl)); (case e => (exact locs rfl)); (case g => (rfl)); (case h => (rfl)); (case i => (rfl)); (case j => (decide))))
  k_with "mem" => (first | exact List.Mem.head _ | (refine' List.Mem.tail _ ?_; walk_at "mem"))
  k_with "units" => (first | exact Ar.units0 (by assumption) _ | exact Ar.unitsD (by assumption) (by decide) _)
  k_with "asm" => (with_reducible assumption)
  k_with "lt" => (((rename ∀ p ∈ _, (p : Addr × Obj).1 < _ => l9); (replace l9 := allLt_of l9); (dsimp only [AllLt] at l9)))
  k_with "ne" => (((rename ∀ p ∈ _, (p : Addr × Obj).1 ≠ _ => l9); (replace l9 := allNe_of l9); (dsimp only [AllNe] at l9)))
  k_with "storeName" => ((with_reducible refine' r_store (by walk_at "asm") (by walk_at "asm") (by kernel_rfl) ?_); intro _ _ _; (try k_sweep))
  k_with "exec While Compare cons nil" => (refine Halt.out ?_)
  k_with "exec While BoolOp cons nil" => (refine Halt.out ?_)
  k_with "exec While Constant cons nil" => (refine Halt.out ?_)
  k_with "exec While Name cons nil" => (refine Halt.out ?_)
  k_with "exec While" => (refine Halt.out ?_)
  k_with "execs cons" => (first | (refine execs_lastQ (fun tk => ?_)) | (refine execs_consQ (fun tk qk hqk => ?_)))
  k_with "newList" => (((refine' r_list (by walk_at "asm") (by walk_at "asm") (by exact Nat.le_of_ble_eq_true rfl) ?_); intro _ _ _ _ _; walk_at "lt"; (try k_sweep)))
  k_with "subscriptTail Name Slice str ref" => ((with_reducible first | refine' slice_ss5 (by walk_at "asm") (by walk_at "asm") (by with_reducible assumption) ?_ | refine' slice_sn5 (by walk_at "asm") (by walk_at "asm") (by with_reducible assumption) ?_); intro _ _ _ _ _; (try k_sweep))
  k_with "handled" => (first | exact Ar.hhD (by assumption) _ | exact Ar.hh (by assumption) | rfl)
  k_with "assign Tuple" => (((with_reducible show wpAny _ _ (assign (Expr.Tuple _ _ _) _ (Value.ref _)) _ _ _); k_dflt (refine' r_unpack (by walk_at "asm") (by walk_at "asm") (by walk_at "tup") (by walk_at "handled") rfl rfl ?_); intro _ _ _; (try k_sweep)))
  k_with "asz" => (k_dflt (first | exact aszL (by with_reducible assumption) | exact Nat.le_of_ble_eq_true rfl))
  k_with "call builtin:list.append" => (((with_reducible show wpAny _ _ (call (Value.builtin _) [Value.ref _, _]) _ _ _); (refine' r_append (by walk_at "asm") (by walk_at "asm") (by walk_at "upd") (by walk_at "asz") ?_); intro _ _ _; (try k_sweep)))
  k_with "sub" => ((intro _ hpK9; first | exact List.mem_of_mem_tail hpK9 | (simp only [List.mem_cons, List.mem_append] at hpK9 ⊢; grind)))
  k_with "exec For Tuple Name cons nil" => ((k_dflt (refine' wpAny_For ?_ (by intro _; rfl))))
  k_with "exec For Name Name cons nil" => ((k_dflt (refine' wpAny_For ?_ (by intro _; rfl))))
  k_with "exec For Name Call cons nil" => ((k_dflt (refine' wpAny_For ?_ (by intro _; rfl))))
  k_with "exec For Name List cons nil" => ((k_dflt (refine' wpAny_For ?_ (by intro _; rfl))))
  k_with "exec For Name Attribute cons nil" => ((k_dflt (refine' wpAny_For ?_ (by intro _; rfl))))
  k_with "pyIter ref" => (refine Halt.out ?_)
  k_with "subscriptTail Name Constant ref int" => (((with_reducible show wpAny _ _ (subscriptTail _ _ (Value.ref _) (Value.int _ _)) _ _ _); (refine' item_tupleL (by refine' News.isTup (by walk_at "asm") (by walk_at "mem")) (by decide) (by decide) rfl rfl ?_ (by with_unfolding_all rfl) (by intro _; with_unfolding_all rfl))))
  k_with "eval Name" => ((goal_lacks compEnvC; first | (with_reducible refine' nmK (by decide +kernel) (by walk_at "asm") (by walk_at "mget") ?_) | k_dflt (first | (goal_lacks envOf; refine' nameX_L (by walk_at "asm") (by walk_at "mget") ?_ rfl (by with_unfolding_all rfl) (by decide)) | (goal_lacks envOf; refine' nameX_C (by walk_at "asm") rfl (by walk_at "mem") (by walk_at "asm") ?_ rfl (by with_unfolding_all rfl) (by decide)) | (refine' nameX_K (by walk_at "asm") (by walk_at "asm") (by k_asm) (by k_is) ?_ rfl (by with_unfolding_all rfl) (by decide)) | (refine' nameX_B (by walk_at "asm") (by walk_at "asm") (by k_asm) (by k_is) (by boot_fast) (by decide) ?_ rfl (by with_unfolding_all rfl) (by decide)))))
  k_with "loadName" => ((first | (with_reducible refine' ldL (by walk_at "asm") (by walk_at "mget") (by kernel_rfl) ?_) | k_dflt (refine' ldX (by walk_at "asm") (by walk_at "mget") ?_ rfl (by with_unfolding_all rfl))))
  trivial
theorem rg_S9_1 : True := by
  k_with "unpackItems ref" => ((k_dflt (refine' unpackItemsN_ (by walk_at "asm") (by walk_at "asm") (by walk_at "tup") (by walk_at "handled") (by exact rfl) ?_); intro _ _ _; (try k_sweep)))
  trivial
theorem mul0 {prog : Program} {w : World} {A : Around} {E : Value → Shared → Prop} {s : Shared} {h₀ : Heap} {L l : Addr} {m : Str → Option Value} {news : List (Addr × Obj)} {t u : Tok} {n : Nat} {x : Int} {Q : Value → Shared → Prop} (F : Fr h₀ L s.heap m) (N : News h₀ L s.heap news) (hl : (l, listOf #[Value.int 0 t] n) ∈ news) (h0 : 0 ≤ x) (h1 : x ≤ 1000)
    (h : ∀ D h' ws, Fr h₀ L h' m → News h₀ L h' ((D, listOf (List.toArray ws) 0) :: news) → (∀ p ∈ news, p.1 < D) → IntsAre ws (List.replicate x.toNat 0) → Q (.ref D) { s with heap := h' }) : wpAny (model prog w) A (binaryOp .Mult (.ref l) (.int x u)) Q E s := by
  refine mul_list (items := #[Value.int 0 t]) F N (N _ hl).1 (by lia) (by lia) (by simp; lia) fun h' F' N' => ?_
  have e : List.foldl (fun x1 x2 => x1 ++ x2) #[] (List.replicate (if (#[Value.int 0 t] : Array Value).isEmpty = true then 0 else x.toNat) #[Value.int 0 t]) = (List.replicate x.toNat (Value.int 0 t)).toArray := by
    rw [if_neg (by simp)]
    generalize x.toNat = k
    have : ∀ (k : Nat) (a : Array Value), List.foldl (fun x1 x2 => x1 ++ x2) a (List.replicate k #[Value.int 0 t]) = a ++ (List.replicate k (Value.int 0 t)).toArray := by
      intro k
      induction k with
      | zero => intro a; simp
      | succ k ih => intro a; rw [List.replicate_succ, List.foldl_cons, ih, List.replicate_succ]; apply Array.ext'; simp
    simpa using this k #[]
  rw [e] at N'
  refine h _ h' _ F' N' (fun p hp => Heap.lt_size (N p hp).1) ?_
  generalize x.toNat = k
  induction k with
  | zero => exact .nil
  | succ k ih => exact .cons _ _ ih
theorem addL {prog : Program} {w : World} {A : Around} {E : Value → Shared → Prop} {s : Shared} {h₀ : Heap} {L l b : Addr} {m : Str → Option Value} {news : List (Addr × Obj)} {vs ws : List Value} {ns ms : List Int} {n k : Nat} {Q : Value → Shared → Prop} (F : Fr h₀ L s.heap m) (N : News h₀ L s.heap news) (hl : (l, listOf vs.toArray n) ∈ news) (hb : (b, listOf ws.toArray k) ∈ news) (hi : IntsAre vs ns) (hj : IntsAre ws ms) (hz : ns.length + ms.length ≤ 100000)
    (h : ∀ D h' us, Fr h₀ L h' m → News h₀ L h' ((D, listOf (List.toArray us) 0) :: news) → (∀ p ∈ news, p.1 < D) → IntsAre us (ns ++ ms) → Q (.ref D) { s with heap := h' }) : wpAny (model prog w) A (binaryOp .Add (.ref l) (.ref b)) Q E s :=
  add_lists_ints (hsz := fitsL hz) F N (News.isList N hl) (News.isList N hb) hi hj fun h' F' N' i => h _ h' _ F' N' (fun p hp => Heap.lt_size (N p hp).1) i
theorem rg_S9_2 : True := by
  k_with "binaryOp Mult ref int" => ((k_dflt (refine' mul0 (by walk_at "asm") (by walk_at "asm") (by walk_at "mem") (by lia) (by lia) ?_); intro _ _ _ _ _ _ _; walk_at "lt"; (try k_sweep)))
  k_with "binaryOp Add ref ref" => ((k_dflt (refine' addL (by walk_at "asm") (by walk_at "asm") (by walk_at "mem") (by walk_at "mem") (by with_reducible assumption) (by with_reducible assumption) (by (try simp only [List.length_replicate]); lia) ?_); intro _ _ _ _ _ _ _; walk_at "lt"; (try k_sweep)))
  k_with "subscriptTail Name Name ref int" => (((with_reducible show wpAny _ _ (subscriptTail _ _ (Value.ref _) (Value.int _ _)) _ _ _); k_dflt (refine' ksa_sub (by walk_at "asm") (by walk_at "mem") (by with_reducible assumption) (by lia) (by (try simp only [List.length_append, List.length_replicate]); lia) (by lia) ?_ (by with_unfolding_all rfl)); intro _))
  k_with "setItem ref int" => ((k_dflt (refine' ksa_set (by walk_at "asm") (by walk_at "asm") (by walk_at "upd") (by with_reducible assumption) (by lia) (by (try simp only [List.length_append, List.length_replicate]); lia) (by lia) ?_); intro _ _ _ _ _ _; (try k_sweep)))
  k_with "call builtin:len" => (((with_reducible show wpAny _ _ (call (Value.builtin _) [Value.ref _]) _ _ _); k_dflt (refine' len_lst (by walk_at "lst") (by with_reducible assumption) (by lia) ?_)))
  trivial
theorem dropMid {h₀ : Heap} {L : Addr} {h : Heap} {a b : Addr × Obj} {l : List (Addr × Obj)} (N : News h₀ L h (a :: b :: l)) : News h₀ L h (a :: l) := subN N fun p hp => by rcases List.mem_cons.mp hp with rfl | hp; exact .head _; exact .tail _ (.tail _ hp)
theorem off2 {a b d : Addr} {oa ob : Obj} (h1 : a ≠ d) (h2 : b ≠ d) : OwnOff [(a, oa), (b, ob)] [d] := fun p hp e he => by
  rw [List.mem_singleton.mp he]
  simp only [List.mem_cons, List.not_mem_nil, or_false] at hp
  rcases hp with rfl | rfl
  · exact h1
  · exact h2
theorem rg_S9_3 : True := by
  k_with "pyIter str" => (refine Halt.out ?_)
  k_with "call type:tuple" => (((with_reducible show wpAny _ _ (call (Value.type _) [Value.ref _]) _ _ _); k_dflt (refine' kde_tupleOf (by walk_at "asm") (by walk_at "asm") (by walk_at "lst") (by rw [List.size_toArray]; lia) (by exact rfl) ?_); intro _ _ _ _ _; walk_at "lt"; (try k_sweep)))
  trivial
theorem takeWhile_stop {p : Nat → Bool} : ∀ {l : List Nat} {k : Nat} {c : Nat}, (∀ a ∈ l.take k, p a = true) → l[k]? = some c → p c = false → l.takeWhile p = l.take k
  | [], k, c, _, h, _ => by simp at h
  | a :: r, 0, c, _, h, hc => by simp at h; subst h; simp [hc]
  | a :: r, k + 1, c, hk, h, hc => by
    rw [List.take_succ_cons, List.takeWhile_cons, if_pos (hk a (by simp)), takeWhile_stop (k := k) (fun b hb => hk b (by rw [List.take_succ_cons]; exact .tail _ hb)) (by simpa using h) hc]
theorem takeWhile_all {p : Nat → Bool} : ∀ {l : List Nat}, (∀ a ∈ l, p a = true) → l.takeWhile p = l
  | [], _ => rfl
  | a :: r, h => by rw [List.takeWhile_cons, if_pos (h a (.head _)), takeWhile_all fun b hb => h b (.tail _ hb)]
noncomputable def wsStep (st : List Int × Int × Int) (c : Nat) : List Int × Int × Int :=
  if c = 32 then (st.1, st.2.1 + 1, st.2.2) else
    let cnt := if (st.1.length : Int) ≤ st.2.1 then st.1 ++ List.replicate (st.2.1 - st.1.length + 1).toNat 0 else st.1
    (cnt.set st.2.1.toNat (cnt.getD st.2.1.toNat 0 + 1), 0, st.2.2 + 1)
noncomputable def wsOk (c : Nat) : Bool := c == 32 || c == 9
noncomputable def wsAll (l : List Nat) : List Int × Int × Int := (l.takeWhile wsOk).foldl wsStep ([], 0, 0)
inductive wsP (st : List Int × Int × Int) (o : Addr) (rest : List (Addr × Obj)) (k : Nat) (m : Str → Option Value) : List (Addr × Obj) → Prop
  | mk {cl : Addr} {cv : List Value} {ce : Nat} {n : Int} {tb tn tnt : Tok} (i1 : IntsAre cv st.1) (i2 : OwnOff rest [cl]) (i3 : 0 ≤ st.2.1) (i4 : st.2.1 ≤ (k : Int)) (i5 : st.1.length ≤ k) (i6 : 0 ≤ n) (i7 : n ≤ (k : Int)) (i8 : 0 ≤ st.2.2) (i9 : st.2.2 ≤ (k : Int))
    (j1 : m (Str.ofString "count") = some (.ref cl)) (j2 : m (Str.ofString "b") = some (.int st.2.1 tb)) (j3 : m (Str.ofString "n") = some (.int n tn)) (j4 : m (Str.ofString "nt") = some (.int st.2.2 tnt)) (j5 : m (Str.ofString "self") = some (.ref o)) : wsP st o rest k m ((cl, listOf (List.toArray cv) ce) :: rest)
inductive wsJ (x : Str) (o : Addr) (rest : List (Addr × Obj)) (k : Nat) (m : Str → Option Value) (news : List (Addr × Obj)) : Prop
  | mk (q0 : ∀ c ∈ x.cps.toList.take k, wsOk c = true) (q1 : wsP ((x.cps.toList.take k).foldl wsStep ([], 0, 0)) o rest k m news) (k1 : m (Str.ofString "S") = some (.str (Str.ofString " ") 304)) (k2 : m (Str.ofString "T") = some (.str (Str.ofString "\t") 305)) : wsJ x o rest k m news
theorem noneOf {h₀ h : Heap} {a : Addr} (k : h₀.StaysIn h) (e : h.get? a = none) : h₀.get? a = none := by
  cases q : h₀.get? a with
  | none => rfl
  | some o => rw [k _ _ q] at e; cases e
theorem dropIt {h₀ : Heap} {L : Addr} {h : Heap} {a : Addr × Obj} {l : List (Addr × Obj)} (N : News h₀ L h (a :: l)) : News h₀ L h l := subN N fun _ hp => .tail _ hp
noncomputable def WsIn (w : World) (h₀ h : Heap) (dx : Addr) (st : List Int × Int × Int) : Prop :=
  ∃ t1 t2 t3 t4 t5 v1 v2 v5 nm ct cv tb tnt, h.get? dx = some (dictOf [⟨PyData.keyHash w.params (Str.ofString "raw"), .str (Str.ofString "raw") t1, v1⟩, ⟨PyData.keyHash w.params (Str.ofString "n"), .str (Str.ofString "n") t2, v2⟩, ⟨PyData.keyHash w.params (Str.ofString "nt"), .str (Str.ofString "nt") t3, .int st.2.2 tnt⟩, ⟨PyData.keyHash w.params (Str.ofString "norm"), .str (Str.ofString "norm") t4, .ref nm⟩, ⟨PyData.keyHash w.params (Str.ofString "is_simple"), .str (Str.ofString "is_simple") t5, v5⟩] 5) ∧
    h₀.get? nm = none ∧ h₀.get? ct = none ∧ h.get? nm = some (tupOf [.ref ct, .int st.2.1 tb]) ∧ h.get? ct = some (tupOf cv) ∧ IntsAre cv st.1 ∧ st.1.length ≤ 1000 ∧ 0 ≤ st.2.1 ∧ st.2.1 ≤ 1000 ∧ 0 ≤ st.2.2 ∧ st.2.2 ≤ 1000
theorem ne3' {a b c d : Addr} {oa ob oc : Obj} (h1 : a ≠ d) (h2 : b ≠ d) (h3 : c ≠ d) : ∀ p ∈ ([(a, oa), (b, ob), (c, oc)] : List (Addr × Obj)), p.1 ≠ d := fun p hp => by
  simp only [List.mem_cons, List.not_mem_nil, or_false] at hp
  rcases hp with rfl | rfl | rfl
  · exact h1
  · exact h2
  · exact h3
theorem wsSwap {h₀ : Heap} {L : Addr} {h : Heap} {a b c d e f g : Addr × Obj} (N : News h₀ L h [a, b, c, d, e, f, g]) : News h₀ L h [d, a, f, g] := subN N fun p hp => by simp only [List.mem_cons] at hp ⊢; grind
set_option maxRecDepth 100000 in
set_option maxHeartbeats 4000000 in
theorem init_walk {w : World} {s : Shared} {A : Around} {R : Result → Shared → Prop} {h₀ : Heap} (G : Gd w h₀) (hst : h₀.StaysIn s.heap) (hA : Ar A 4 40) {o dx : Addr} {x : Str} {tx : Tok} (hx : x.length ≤ 1000)
   (h1 : s.heap.get? o = some (instObj 100 dx)) (h2 : s.heap.get? dx = some (dictOf [] 0)) (n1 : h₀.get? o = none) (n2 : h₀.get? dx = none) (hne : @Ne Nat o dx)
   (hR : ∀ h' tk, (∀ b ob, b ≠ dx → s.heap.get? b = some ob → h'.get? b = some ob) → WsIn w h₀ h' dx (wsAll x.cps.toList) → R (.ok (.ret .none)) { s with heap := h', toks := tk }) :
   codeAny (model PR w) A (.call (.ref 55) ⟨[.ref o, .str x tx], []⟩) R s := by
  refine' call_fn (binds := [(Str.ofString "self", .ref o), (Str.ofString "ws", .str x tx)]) (G.keeps hst) ?a ?b ?c ?d ?e ?f ?g ?h ?i ?j
  walk_at "sides"
  intro h₁ m hm F0
  have k1 : m (Str.ofString "self") = some (.ref o) := by rw [hm]; rfl
  have k2 : m (Str.ofString "ws") = some (.str x tx) := by rw [hm]; rfl
  clear hm
  have hall : ∀ p ∈ [(o, instObj 100 dx), (dx, dictOf [] 0)], s.heap.get? p.1 = some p.2 := by
    intro p hp
    simp only [List.mem_cons, List.not_mem_nil, or_false] at hp
    rcases hp with rfl | rfl
    · exact h1
    · exact h2
  have hg : h₀.StaysIn (hideAll s.heap [o, dx]) := stays_hide (as := [(o, instObj 100 dx), (dx, dictOf [] 0)]) hst (by
    intro p hp
    simp only [List.mem_cons, List.not_mem_nil, or_false] at hp
    rcases hp with rfl | rfl
    · exact n1
    · exact n2)
  obtain ⟨F, N⟩ := rebaseFr (as := [(o, instObj 100 dx), (dx, dictOf [] 0)]) F0 hall
  have G2 : Gd w (hideAll s.heap [o, dx]) := G.keeps hg
  obtain ⟨p, loose, mean, mg, mb, T⟩ := G2.T
  have X := G2.K
  have hne2 := hne.symm
  clear F0
  replace F : Fr (hideAll s.heap [o, dx]) s.heap.objs.size h₁ m := F
  replace N : News (hideAll s.heap [o, dx]) s.heap.objs.size h₁ [(o, instObj 100 dx), (dx, dictOf [] 0)] := N
  have hxl : x.cps.size = x.length := rfl
  walk_at "go"
  refine Halt.in ?_
  rename Fr _ _ _ _ => F9
  rename News _ _ _ _ => N9
  obtain ⟨lc, tok, mm, tb0, tn0, tnt0, F9, N9, lne1, lne2, c1, c2, c3, c4, c5, c6, c7⟩ : ∃ lc tok mm tb0 tn0 tnt0, Fr (hideAll s.heap [o, dx]) s.heap.objs.size _ mm ∧ News (hideAll s.heap [o, dx]) s.heap.objs.size _ [(lc, listOf #[] 0), (o, instObj 100 dx), (dx, dictOf [⟨PyData.keyHash w.params (Str.ofString "raw"), .str (Str.ofString "raw") tok, .str x tx⟩] 1)] ∧ @Ne Nat o lc ∧ @Ne Nat dx lc ∧
      mm (Str.ofString "count") = some (.ref lc) ∧ mm (Str.ofString "b") = some (.int 0 tb0) ∧ mm (Str.ofString "n") = some (.int 0 tn0) ∧ mm (Str.ofString "nt") = some (.int 0 tnt0) ∧ mm (Str.ofString "self") = some (.ref o) ∧ mm (Str.ofString "S") = some (.str (Str.ofString " ") 304) ∧ mm (Str.ofString "T") = some (.str (Str.ofString "\t") 305) :=
    ⟨_, _, _, _, _, _, F9, dropMid N9, by k_ne, by k_ne, by walk_at "mget", by walk_at "mget", by walk_at "mget", by walk_at "mget", by walk_at "mget", by walk_at "mget", by walk_at "mget"⟩
  refine iter_strB (L := s.heap.objs.size) rfl (wsJ x o [(o, instObj 100 dx), (dx, dictOf [⟨PyData.keyHash w.params (Str.ofString "raw"), .str (Str.ofString "raw") tok, .str x tx⟩] 1)]) (wsP (wsAll x.cps.toList) o [(o, instObj 100 dx), (dx, dictOf [⟨PyData.keyHash w.params (Str.ofString "raw"), .str (Str.ofString "raw") tok, .str x tx⟩] 1)] 1000) ?hh F9 N9 ?h0 ?turn ?last ?done
  case hh => exact Ar.hhD (by assumption) _
  case h0 => exact .mk (by simp) (.mk (cv := []) .nil (off2 lne1 lne2) (Int.le_refl _) (Int.le_refl _) (Nat.le_refl _) (Int.le_refl _) (Int.le_refl _) (Int.le_refl _) (Int.le_refl _) c1 c2 c3 c4 c5) c6 c7
  case last =>
    rintro m' news' ⟨q0, q1, _, _⟩
    have ht : x.cps.toList.take x.cps.size = x.cps.toList := List.take_of_length_le (by simp)
    rw [ht] at q0 q1
    have hw : wsAll x.cps.toList = x.cps.toList.foldl wsStep ([], 0, 0) := by unfold wsAll; rw [takeWhile_all q0]
    rw [hw]
    induction q1
    rename_i cl cv ce n tb tn tnt i1 i2 i3 i4 i5 i6 i7 i8 i9 j1 j2 j3 j4 j5
    exact .mk i1 i2 i3 (by lia) (by lia) i6 (by lia) i8 (by lia) j1 j2 j3 j4 j5
  case done =>
    intro m' news' h' tk hJ F' N'
    induction hJ
    rename_i cl cv ce n tb tn tnt i1 i2 i3 i4 i5 i6 i7 i8 i9 j1 j2 j3 j4 j5
    clear F9 N9
    have hcl := i1.length
    have e1 : @Ne Nat o cl := i2 _ (.head _) _ (.head _)
    have e2 : @Ne Nat dx cl := i2 _ (.tail _ (.head _)) _ (.head _)
    walk_at "go"
    rename Fr _ _ _ _ => F9
    rename News _ _ _ _ => N9
    refine hR _ _ (fun b ob hb e => ?_) ⟨_, _, _, _, _, _, _, _, _, _, _, _, _, (N9 (_, _) (by walk_at "mem")).1, noneOf hg (N9 _ (List.Mem.head _)).2.2, noneOf hg (N9 _ (List.Mem.tail _ (List.Mem.head _))).2.2, (N9 (_, _) (by walk_at "mem")).1, (N9 (_, _) (List.Mem.tail _ (List.Mem.head _))).1, i1, by lia, i3, i4, i8, i9⟩
    by_cases hbo : b = o
    · subst hbo
      have e' : ob = instObj 100 dx := Option.some.inj (e.symm.trans h1)
      subst e'
      exact (N9 (b, instObj 100 dx) (by walk_at "mem")).1
    · exact F9.keep _ _ (hideAll_get _ e (by simp [hbo, hb]))
  case turn =>
    intro k c u m₁ news₁ h tk it itO s₀ hc hJ F' N' hn hg hdr hos
    induction hJ
    rename_i q0 hP k1 k2
    induction hP
    rename_i cl cv ce n tb tn tnt i1 i2 i3 i4 i5 i6 i7 i8 i9 j1 j2 j3 j4 j5
    obtain ⟨sh0, sg0, sd0, st0, so0⟩ := s₀
    dsimp only at hg hdr hos
    subst hg hdr hos
    clear F9 N9
    have hcl := i1.length
    have e1 : @Ne Nat o cl := i2 _ (.head _) _ (.head _)
    have e2 : @Ne Nat dx cl := i2 _ (.tail _ (.head _)) _ (.head _)
    have hk : k < x.length := (Array.getElem?_eq_some_iff.mp hc).1
    have hn₃ := allNe_of hn
    simp only [AllNe, and_true] at hn₃
    have hcl2 : x.cps.toList[k]? = some c := by simpa using hc
    have hfs := foldl_take_succ (f := wsStep) (z := ([], 0, 0)) hcl2
    have hq : ∀ b, wsOk c = b → b = true → ∀ a ∈ x.cps.toList.take (k + 1), wsOk a = true := by
      intro b hb hb2 a ha
      rw [List.take_succ, hcl2] at ha
      rcases List.mem_append.mp ha with ha | ha
      · exact q0 a ha
      · simp at ha; subst ha; rw [hb, hb2]
    generalize hgst : (x.cps.toList.take k).foldl wsStep ([], 0, 0) = st at *
    obtain ⟨sc, sb, snt⟩ := st
    dsimp only at *
    by_cases c32 : c = 32
    · subst c32
      walk_at "go"
      refine TurnB.next (by with_reducible assumption) (by with_reducible assumption) hn ?_
      have hf2 : (x.cps.toList.take (k + 1)).foldl wsStep ([], 0, 0) = (sc, sb + 1, snt) := by rw [hfs]; rfl
      refine .mk (hq _ rfl (by decide)) ?_ (by walk_at "mget") (by walk_at "mget")
      rw [hf2]
      exact .mk (n := n + 1) i1 i2 (by dsimp only; lia) (by dsimp only; lia) (by dsimp only; lia) (by lia) (by lia) i8 (by dsimp only; lia) (by walk_at "mget") (by walk_at "mget") (by walk_at "mget") (by walk_at "mget") (by walk_at "mget")
    · by_cases c9 : c = 9
      · subst c9
        have hf2 : (x.cps.toList.take (k + 1)).foldl wsStep ([], 0, 0) = wsStep (sc, sb, snt) 9 := hfs
        have e9 : wsStep (sc, sb, snt) 9 = (let cnt := if (sc.length : Int) ≤ sb then sc ++ List.replicate (sb - sc.length + 1).toNat 0 else sc; (cnt.set sb.toNat (cnt.getD sb.toNat 0 + 1), 0, snt + 1)) := rfl
        dsimp only at e9
        walk_at "go"
        · rename (_ : Int) ≤ _ => hle
          rw [if_pos (by lia)] at e9
          refine TurnB.next (by with_reducible assumption) (wsSwap (by with_reducible assumption)) (ne3' (by k_ne) hn₃.2.1 hn₃.2.2) ?_
          refine .mk (hq _ rfl (by decide)) ?_ (by walk_at "mget") (by walk_at "mget")
          rw [hf2, e9]
          exact .mk (n := n + 1) (by with_reducible assumption) (off2 (by k_ne) (by k_ne)) (by dsimp only; lia) (by dsimp only; lia) (by simp only [List.length_set, List.length_append, List.length_replicate]; lia) (by lia) (by lia) (by dsimp only; lia) (by dsimp only; lia) (by walk_at "mget") (by walk_at "mget") (by walk_at "mget") (by walk_at "mget") (by walk_at "mget")
        · rw [if_neg (by lia)] at e9
          refine TurnB.next (by with_reducible assumption) (by with_reducible assumption) (ne3' hn₃.1 hn₃.2.1 hn₃.2.2) ?_
          refine .mk (hq _ rfl (by decide)) ?_ (by walk_at "mget") (by walk_at "mget")
          rw [hf2, e9]
          exact .mk (n := n + 1) (by with_reducible assumption) i2 (by dsimp only; lia) (by dsimp only; lia) (by simp only [List.length_set]; lia) (by lia) (by lia) (by dsimp only; lia) (by dsimp only; lia) (by walk_at "mget") (by walk_at "mget") (by walk_at "mget") (by walk_at "mget") (by walk_at "mget")
      · have hcs : (({ cps := #[c] } : Str) == Str.ofString " ") = false := by
          rw [beq_eq_false_iff_ne]; intro e; apply c32; have h9 : [c] = [32] := congrArg (fun s : Str => s.cps.toList) e; simpa using h9
        have hct : (({ cps := #[c] } : Str) == Str.ofString "\t") = false := by
          rw [beq_eq_false_iff_ne]; intro e; apply c9; have h9 : [c] = [9] := congrArg (fun s : Str => s.cps.toList) e; simpa using h9
        have hok : wsOk c = false := by simp [wsOk, c32, c9]
        have hw : wsAll x.cps.toList = (sc, sb, snt) := by unfold wsAll; rw [takeWhile_stop q0 hcl2 hok, hgst]
        rw [hw]
        walk_at "go"
        refine TurnB.brk (by with_reducible assumption) (dropIt (by with_reducible assumption)) ?_
        exact .mk (n := n) i1 i2 i3 (by dsimp only; lia) (by dsimp only; lia) i6 (by lia) i8 (by dsimp only; lia) (by walk_at "mget") (by walk_at "mget") (by walk_at "mget") (by walk_at "mget") (by walk_at "mget")
theorem len_tup {prog : Program} {w : World} {A : Around} {E : Value → Shared → Prop} {s : Shared} {t : Addr} {vs : List Value} {n : Nat} {Q : Value → Shared → Prop} (ht : IsTup s.heap t vs.toArray) (he : vs.length = n) (hb : n ≤ 100000) (h : Q (.int (n : Int) (s.toks + 1)) { s with toks := s.toks + 1 + 1 }) : wpAny (model prog w) A (call (.builtin "len") [.ref t]) Q E s := by
  refine PyProof.Rows.len_tuple ht (by rw [List.size_toArray]; lia) ?_
  rw [List.size_toArray, he]; exact h
theorem tup_int {prog : Program} {w : World} {A : Around} {E : Value → Shared → Prop} {s : Shared} {value slice : PySem.Expr} {a : Addr} {vs : List Value} {ns : List Int} {k : Int} {u : Tok} {Q : Value → Shared → Prop} (ht : IsTup s.heap a vs.toArray) (hi : IntsAre vs ns) (h0 : 0 ≤ k) (h1 : k < ns.length) (hfit : k < 2 ^ 63) (h : ∀ t, Q (.int (ns.getD k.toNat 0) t) s)
    (hs : subscripted slice false (.ref a) (.int k u) = operate [.ref a, .int k u] (getItem (.ref a) (.int k u))) (hg : ∀ r, letTemporaryGo value (.ref a) r = pure ()) :
    wpAny (model prog w) A (subscriptTail value slice (.ref a) (.int k u)) Q E s := by
  have hl := hi.length
  obtain ⟨v, hv⟩ : ∃ v, vs[k.toNat]? = some v := ⟨vs[k.toNat]'(by lia), List.getElem?_eq_getElem _⟩
  obtain ⟨t, rfl⟩ := ints_get hi hv
  refine item_tupleL ht (by lia) hfit (j := k.toNat) ?_ hv (h t) hs hg
  unfold seqIndex?
  have e1 : ¬ k < 0 := by lia
  have e2 : k < (vs.length : Int) := by lia
  simp only [e1, if_false]
  rw [if_pos (by simp [h0, e2])]
theorem rg_S9_4 : True := by
  k_with "call builtin:len" => (((with_reducible show wpAny _ _ (call (Value.builtin _) [Value.ref _]) _ _ _); k_dflt (refine' len_tup (by walk_at "tup") (by with_reducible assumption) (by lia) ?_)))
  k_with "subscriptTail Name Name ref int" => (((with_reducible show wpAny _ _ (subscriptTail _ _ (Value.ref _) (Value.int _ _)) _ _ _); k_dflt (refine' tup_int (by walk_at "tup") (by with_reducible assumption) (by lia) (by lia) (by lia) ?_ (by with_unfolding_all rfl) (by intro _; with_unfolding_all rfl)); intro _))
  k_with "binaryOp Mult int int" => ((k_dflt (refine' mul_int ?_ (by first | exact IntMulOk.of_left (intBits_le_64 (by lia) (by lia)) | exact IntMulOk.of_right (intBits_le_64 (by lia) (by lia))))))
  trivial
noncomputable def ilF (cnt : List Int) (ts : Int) : Nat → Int
  | 0 => 0
  | k + 1 => ilF cnt ts k + Int.fdiv (ts + ((k : Nat) : Int)) ts * cnt.getD (ts + ((k : Nat) : Int)).toNat 0
noncomputable def levelF (st : List Int × Int × Int) (ts : Int) : Int := st.2.1 + ts * (ilF st.1 ts ((st.1.length : Int) - ts).toNat + st.2.2)
inductive lvJ (cnt : List Int) (ts : Int) (tt : Tok) (ct o : Addr) (tb : Int) (news₀ : List (Addr × Obj)) (k : Nat) (m : Str → Option Value) : List (Addr × Obj) → Prop
  | mk {ti ttb : Tok} (i1 : m (Str.ofString "il") = some (.int (ilF cnt ts k) ti)) (i2 : m (Str.ofString "count") = some (.ref ct)) (i3 : m (Str.ofString "tabsize") = some (.int ts tt)) (i4 : m (Str.ofString "self") = some (.ref o)) (i5 : m (Str.ofString "trailing") = some (.int tb ttb)) : lvJ cnt ts tt ct o tb news₀ k m news₀
set_option maxRecDepth 100000 in
set_option maxHeartbeats 4000000 in
theorem level_walk {w : World} {s : Shared} {A : Around} {R : Result → Shared → Prop} {h₀ : Heap} (G : Gd w h₀) (hst : h₀.StaysIn s.heap) (hA : Ar A 4 40) {o dx : Addr} {st : List Int × Int × Int} {ts : Int} {tt : Tok}
   (h1 : s.heap.get? o = some (instObj 100 dx)) (hw : WsIn w h₀ s.heap dx st) (n1 : h₀.get? o = none) (n2 : h₀.get? dx = none) (hts : 1 ≤ ts ∧ ts ≤ 7) (hcb : ∀ c ∈ st.1, 0 ≤ c ∧ c ≤ 1000)
   (hR : ∀ h' tk t, s.heap.StaysIn h' → R (.ok (.ret (.int (levelF st ts) t))) { s with heap := h', toks := tk }) :
   codeAny (model PR w) A (.call (.ref 69) ⟨[.ref o, .int ts tt], []⟩) R s := by
  refine' call_fn (binds := [(Str.ofString "self", .ref o), (Str.ofString "tabsize", .int ts tt)]) (G.keeps hst) ?a ?b ?c ?d ?e ?f ?g ?h ?i ?j
  walk_at "sides"
  intro h₁ m hm F0
  have k1 : m (Str.ofString "self") = some (.ref o) := by rw [hm]; rfl
  have k2 : m (Str.ofString "tabsize") = some (.int ts tt) := by rw [hm]; rfl
  clear hm
  obtain ⟨t1, t2, t3, t4, t5, v1, v2, v5, nm, ct, cv, tb, tnt, w1, w2, w3, w4, w5, w6, w7, w8, w9, w10, w11⟩ := hw
  obtain ⟨cnt, b, nt⟩ := st
  dsimp only at *
  generalize hD : dictOf _ 5 = dxo at w1
  have hall : ∀ p ∈ [(o, instObj 100 dx), (dx, dxo), (nm, tupOf [.ref ct, .int b tb]), (ct, tupOf cv)], s.heap.get? p.1 = some p.2 := by
    intro p hp
    simp only [List.mem_cons, List.not_mem_nil, or_false] at hp
    rcases hp with rfl | rfl | rfl | rfl
    · exact h1
    · exact w1
    · exact w4
    · exact w5
  have hg : h₀.StaysIn (hideAll s.heap [o, dx, nm, ct]) := stays_hide (as := [(o, instObj 100 dx), (dx, dxo), (nm, tupOf [.ref ct, .int b tb]), (ct, tupOf cv)]) hst (by
    intro p hp
    simp only [List.mem_cons, List.not_mem_nil, or_false] at hp
    rcases hp with rfl | rfl | rfl | rfl
    · exact n1
    · exact n2
    · exact w2
    · exact w3)
  obtain ⟨F, N⟩ := rebaseFr (as := [(o, instObj 100 dx), (dx, dxo), (nm, tupOf [.ref ct, .int b tb]), (ct, tupOf cv)]) F0 hall
  have G2 : Gd w (hideAll s.heap [o, dx, nm, ct]) := G.keeps hg
  obtain ⟨p, loose, mean, mg, mb, T⟩ := G2.T
  have X := G2.K
  clear F0
  replace F : Fr (hideAll s.heap [o, dx, nm, ct]) s.heap.objs.size h₁ m := F
  replace N : News (hideAll s.heap [o, dx, nm, ct]) s.heap.objs.size h₁ [(o, instObj 100 dx), (dx, dxo), (nm, tupOf [.ref ct, .int b tb]), (ct, tupOf cv)] := N
  subst hD
  have hcl := w6.length
  have hgb : ∀ j, 0 ≤ cnt.getD j 0 ∧ cnt.getD j 0 ≤ 1000 := by
    intro j
    rw [List.getD_eq_getElem?_getD]
    cases hj : cnt[j]? with
    | none => simp
    | some c => simpa using hcb c (List.mem_of_getElem? hj)
  have hT : ∀ {h' : Heap} {m' : Str → Option Value} {nw : List (Addr × Obj)}, News (hideAll s.heap [o, dx, nm, ct]) s.heap.objs.size h' nw → (ct, tupOf cv) ∈ nw → IsTup h' ct cv.toArray := fun N hm => ⟨_, (N _ hm).1, rfl, _, rfl⟩
  walk_at "go"
  refine Halt.in ?_
  rename Fr _ _ _ _ => F9
  rename News _ _ _ _ => N9
  refine loopR (L := s.heap.objs.size) rfl (n := ((cnt.length : Int) - ts).toNat) (lvJ cnt ts tt ct o b [(o, instObj 100 dx), (dx, dictOf [⟨PyData.keyHash w.params (Str.ofString "raw"), .str (Str.ofString "raw") t1, v1⟩, ⟨PyData.keyHash w.params (Str.ofString "n"), .str (Str.ofString "n") t2, v2⟩, ⟨PyData.keyHash w.params (Str.ofString "nt"), .str (Str.ofString "nt") t3, .int nt tnt⟩, ⟨PyData.keyHash w.params (Str.ofString "norm"), .str (Str.ofString "norm") t4, .ref nm⟩, ⟨PyData.keyHash w.params (Str.ofString "is_simple"), .str (Str.ofString "is_simple") t5, v5⟩] 5), (nm, tupOf [.ref ct, .int b tb]), (ct, tupOf cv)]) ?hh (by with_reducible assumption) ?hs ?hn F9 N9 ?h0 ?turn ?done
  case hh => exact Ar.hhD (by assumption) _
  case hs => exact small_one (by lia) (by lia) (by lia) (by lia)
  case hn => exact rangeSize_nat _ _
  case h0 => exact .mk (by walk_at "mget") (by walk_at "mget") (by walk_at "mget") (by walk_at "mget") (by walk_at "mget")
  case done =>
    intro m' news' h' tk hJ F' N'
    induction hJ
    rename_i ti ttb i1 i2 i3 i4 i5
    clear F9 N9
    walk_at "go"
    rename Fr _ _ _ _ => F9
    rename News _ _ _ _ => N9
    refine hR _ _ _ fun a ob e => ?_
    by_cases ha : a ∈ [o, dx, nm, ct]
    · simp only [List.mem_cons, List.not_mem_nil, or_false] at ha
      rcases ha with rfl | rfl | rfl | rfl
      · rw [h1] at e; cases e; exact (N9 (_, _) (List.Mem.head _)).1
      · rw [w1] at e; cases e; exact (N9 (_, _) (List.Mem.tail _ (List.Mem.head _))).1
      · rw [w4] at e; cases e; exact (N9 (_, _) (List.Mem.tail _ (List.Mem.tail _ (List.Mem.head _)))).1
      · rw [w5] at e; cases e; exact (N9 (_, _) (List.Mem.tail _ (List.Mem.tail _ (List.Mem.tail _ (List.Mem.head _))))).1
    · exact F9.keep _ _ (hideAll_get _ e ha)
  case turn =>
    intro k t m₁ news₁ h tk it itO hk hJ F' N' hn
    induction hJ
    rename_i ti ttb i1 i2 i3 i4 i5
    clear F9 N9
    have hgk := hgb (ts + ((k : Nat) : Int) * 1).toNat
    have eil : ilF cnt ts k + Int.fdiv (ts + ((k : Nat) : Int) * 1) ts * cnt.getD (ts + ((k : Nat) : Int) * 1).toNat 0 = ilF cnt ts (k + 1) := by rw [Int.mul_one]; rfl
    walk_at "go"
    exact TurnP.next (by with_reducible assumption) (by with_reducible assumption) hn (.mk (by rw [← eil]; walk_at "mget") (by walk_at "mget") (by walk_at "mget") (by walk_at "mget") (by walk_at "mget"))
end Mine
theorem Mine.off_S10 : True := by w_top off; trivial
theorem Mine.rs_S10 {M : Model} {A : Around} {E : Value → Shared → Prop} {s : Shared} {Q : Flow → Shared → Prop} {p : Pos} {env : Env} (h : wpAny M A (exec (Stmt.Pass p) env) Q E s) : wpAny M A (exec (Stmt.Pass p) env) Q E s := by first | (walk1; fail) | exact h
namespace Mine
theorem reg_S10 : True := by
  k_with_none
  k_with "cj" => (first | with_reducible assumption | exact cj1 (by with_reducible assumption) | exact cj2 (by with_reducible assumption) | exact cj3 (by with_reducible assumption) | exact cj4 (by with_reducible assumption) | exact cj5 (by with_reducible assumption) | exact ce2 (by with_reducible assumption) | exact ce3 (by with_reducible assumption) | exact ce4 (by with_reducible assumption) | exact ce5 (by with_reducible assumption))
  k_with "ne1" => (refine neN ?_; first | with_reducible assumption | (refine Ne.symm ?_; with_reducible assumption) | walk_at "cj" | (refine Ne.symm ?_; walk_at "cj") | (refine Nat.ne_of_lt ?_; walk_at "cj") | (refine Nat.ne_of_gt ?_; walk_at "cj") | ((try dsimp only); omega))
  k_with "eval Constant int" => (refine r_int ?_)
  k_with "eval Constant str" => (refine r_str ?_)
  k_with "binaryOp Add int int" => (refine r_add ?_)
  k_with "binaryOp Sub int int" => (refine r_sub ?_)
  k_with "unaryOp USub int" => (refine r_neg ?_)
  k_with "inplaceOp Add int int" => (refine r_iadd ?_)
  k_with "eval Slice" => (refine r_slice ?_)
  k_with "SlQ" => (refine SlQ.go ?_)
  k_with "mget" => (first | with_reducible assumption | with_reducible exact upd_eq | ((with_reducible refine Eq.trans upd_eq ?_); rfl) | ((with_reducible refine upd_ne (by kernel_rfl) ?_); walk_at "mget") | (goal_lacks upd; first | exact if_pos rfl | (refine Eq.trans (if_neg (by decide)) ?_; walk_at "mget")))
  k_with "newTuple" => ((refine' r_tuple (by walk_at "asm") (by walk_at "asm") (by exact Nat.le_of_ble_eq_true rfl) ?_); intro _ _ _ _ _; walk_at "lt"; (try k_sweep))
  k_with "ite" => (first | with_reducible refine ite_tt ?_ | with_reducible refine ite_ff ?_ | (refine ite_pos (by with_reducible assumption) ?_) | (refine ite_neg (by refine ne_true_of_eq_false ?_; with_reducible assumption) ?_))
  k_with "tup" => (first | (refine News.isTup (by walk_at "asm") (by walk_at "mem")) | with_reducible assumption | (refine stays_tup (Fr.keep (by walk_at "asm")) (by walk_at "asm")))
  k_with "lst" => (first | (refine News.isList (by walk_at "asm") (by walk_at "mem")) | with_reducible assumption | (refine stays_list (Fr.keep (by walk_at "asm")) (by walk_at "asm")))
  k_with "off" => (first | exact List.forall_mem_nil _ | exact OwnOff.ne (by with_reducible assumption) (List.Mem.head _) | (refine List.forall_mem_cons.mpr ?_; refine And.intro ?_ ?_; (focus k_ne); (walk_at "off")))
  k_with "upd" => (first | (apply upd_hd; walk_at "off") | (apply upd_tl; (case hne => k_ne); (case hu => walk_at "upd")))
  k_with "RunTo" => ((first | refine NextTo.next (by with_reducible assumption) ?_ | refine NextTo.ret (by with_reducible assumption) ?_ | refine NextTo.brk (by with_reducible assumption) ?_ | refine NextTo.cont (by with_reducible assumption) ?_); (try dsimp only))
  k_with "go" => (repeat' (first | (k_unfold; (try dsimp only)) | walk1 | (dsimp only; walk1)))
  k_with "sides" => (((case b => (k_is)); (case c => (k_is)); (case a => (exact Ar.room (by assumption))); (case d => (exact BindsTo.of_eq rfl)); (case e => (exact locs rfl)); (case g => (rfl)); (case h => (rfl)); (case i => (rfl)); (case j => (decide))))
  k_with "mem" => (first | exact List.Mem.head _ | (refine' List.Mem.tail _ ?_; walk_at "mem"))
  k_with "units" => (first | exact Ar.units0 (by assumption) _ | exact Ar.unitsD (by assumption) (by decide) _)
  k_with "asm" => (with_reducible assumption)
  k_with "lt" => (((rename ∀ p ∈ _, (p : Addr × Obj).1 < _ => l9); (replace l9 := allLt_of l9); (dsimp only [AllLt] at l9)))
  k_with "ne" => (((rename ∀ p ∈ _, (p : Addr × Obj).1 ≠ _ => l9); (replace l9 := allNe_of l9); (dsimp only [AllNe] at l9)))
  k_with "storeName" => ((with_reducible refine' r_store (by walk_at "asm") (by walk_at "asm") (by kernel_rfl) ?_); intro _ _ _; (try k_sweep))
  k_with "exec While Compare cons nil" => (refine Halt.out ?_)
  k_with "exec While BoolOp cons nil" => (refine Halt.out ?_)
  k_with "exec While Constant cons nil" => (refine Halt.out ?_)
  k_with "exec While Name cons nil" => (refine Halt.out ?_)
  k_with "exec While" => (refine Halt.out ?_)
  k_with "execs cons" => (first | (refine execs_lastQ (fun tk => ?_)) | (refine execs_consQ (fun tk qk hqk => ?_)))
  k_with "newList" => (((refine' r_list (by walk_at "asm") (by walk_at "asm") (by exact Nat.le_of_ble_eq_true rfl) ?_); intro _ _ _ _ _; walk_at "lt"; (try k_sweep)))
  k_with "subscriptTail Name Slice str ref" => ((with_reducible first | refine' slice_ss5 (by walk_at "asm") (by walk_at "asm") (by with_reducible assumption) ?_ | refine' slice_sn5 (by walk_at "asm") (by walk_at "asm") (by with_reducible assumption) ?_); intro _ _ _ _ _; (try k_sweep))
  k_with "handled" => (first | exact Ar.hhD (by assumption) _ | exact Ar.hh (by assumption) | rfl)
  k_with "assign Tuple" => (((with_reducible show wpAny _ _ (assign (Expr.Tuple _ _ _) _ (Value.ref _)) _ _ _); k_dflt (refine' r_unpack (by walk_at "asm") (by walk_at "asm") (by walk_at "tup") (by walk_at "handled") rfl rfl ?_); intro _ _ _; (try k_sweep)))
  k_with "asz" => (k_dflt (first | exact aszL (by with_reducible assumption) | exact Nat.le_of_ble_eq_true rfl))
  k_with "call builtin:list.append" => (((with_reducible show wpAny _ _ (call (Value.builtin _) [Value.ref _, _]) _ _ _); (refine' r_append (by walk_at "asm") (by walk_at "asm") (by walk_at "upd") (by walk_at "asz") ?_); intro _ _ _; (try k_sweep)))
  k_with "sub" => ((intro _ hpK9; first | exact List.mem_of_mem_tail hpK9 | (simp only [List.mem_cons, List.mem_append] at hpK9 ⊢; grind)))
  k_with "exec For Tuple Name cons nil" => ((k_dflt (refine' wpAny_For ?_ (by intro _; rfl))))
  k_with "exec For Name Name cons nil" => ((k_dflt (refine' wpAny_For ?_ (by intro _; rfl))))
  k_with "exec For Name Call cons nil" => ((k_dflt (refine' wpAny_For ?_ (by intro _; rfl))))
  k_with "exec For Name List cons nil" => ((k_dflt (refine' wpAny_For ?_ (by intro _; rfl))))
  k_with "exec For Name Attribute cons nil" => ((k_dflt (refine' wpAny_For ?_ (by intro _; rfl))))
  k_with "pyIter ref" => (refine Halt.out ?_)
  k_with "subscriptTail Name Constant ref int" => (((with_reducible show wpAny _ _ (subscriptTail _ _ (Value.ref _) (Value.int _ _)) _ _ _); (refine' item_tupleL (by refine' News.isTup (by walk_at "asm") (by walk_at "mem")) (by decide) (by decide) rfl rfl ?_ (by with_unfolding_all rfl) (by intro _; with_unfolding_all rfl))))
  k_with "eval Name" => ((goal_lacks compEnvC; first | (with_reducible refine' nmK (by decide +kernel) (by walk_at "asm") (by walk_at "mget") ?_) | k_dflt (first | (goal_lacks envOf; refine' nameX_L (by walk_at "asm") (by walk_at "mget") ?_ rfl (by with_unfolding_all rfl) (by decide)) | (goal_lacks envOf; refine' nameX_C (by walk_at "asm") rfl (by walk_at "mem") (by walk_at "asm") ?_ rfl (by with_unfolding_all rfl) (by decide)) | (refine' nameX_K (by walk_at "asm") (by walk_at "asm") (by k_asm) (by k_is) ?_ rfl (by with_unfolding_all rfl) (by decide)) | (refine' nameX_B (by walk_at "asm") (by walk_at "asm") (by k_asm) (by k_is) (by boot_fast) (by decide) ?_ rfl (by with_unfolding_all rfl) (by decide)))))
  k_with "loadName" => ((first | (with_reducible refine' ldL (by walk_at "asm") (by walk_at "mget") (by kernel_rfl) ?_) | k_dflt (refine' ldX (by walk_at "asm") (by walk_at "mget") ?_ rfl (by with_unfolding_all rfl))))
  trivial
structure Tri where
  a : Str
  b : Str
  c : Str
structure Kind where
  mark : Str
  plain : Str
  marks : Tri
  anys : Tri
noncomputable def kindN : Nat → Kind
  | 0 => ⟨Str.ofString "|", Str.ofString ".", ⟨Str.ofString "|", Str.ofString "[|]", Str.ofString "[b-a|]"⟩, ⟨Str.ofString "?", Str.ofString "[+-}]", Str.ofString "[!a]"⟩⟩
  | 1 => ⟨Str.ofString "]", Str.ofString "[", ⟨Str.ofString "]", Str.ofString "[]]", Str.ofString "[![]"⟩, ⟨Str.ofString "?", Str.ofString "[][]", Str.ofString "[!a]"⟩⟩
  | 2 => ⟨Str.ofString "^", Str.ofString "!", ⟨Str.ofString "^", Str.ofString "[^]", Str.ofString "[!!]"⟩, ⟨Str.ofString "?", Str.ofString "[^!]", Str.ofString "[!a]"⟩⟩
  | 3 => ⟨Str.ofString "-", Str.ofString "\\", ⟨Str.ofString "-", Str.ofString "[-]", Str.ofString "[!\\]"⟩, ⟨Str.ofString "?", Str.ofString "[\\-]", Str.ofString "[!a]"⟩⟩
  | 4 => ⟨Str.ofString "*", Str.ofString "?", ⟨Str.ofString "[*]", Str.ofString "[!?]", Str.ofString "[)-*]"⟩, ⟨Str.ofString "?", Str.ofString "[?*]", Str.ofString "[!a]"⟩⟩
  | _ => ⟨Str.ofString "\n", Str.ofString "~", ⟨Str.ofString "\n", Str.ofString "[\n]", Str.ofString "[!~]"⟩, ⟨Str.ofString "?", Str.ofString "[~\n]", Str.ofString "[!a]"⟩⟩
noncomputable def TriIn (h : Heap) (a : Addr) (t : Tri) : Prop := ∃ t1 t2 t3, h.get? a = some (tupOf [.str t.a t1, .str t.b t2, .str t.c t3])
noncomputable def KindIn (h0 h : Heap) (a : Addr) (k : Kind) : Prop := ∃ t1 t2 ma aa, h.get? a = some (tupOf [.str k.mark t1, .str k.plain t2, .ref ma, .ref aa]) ∧ (TriIn h ma k.marks ∧ TriIn h aa k.anys) ∧ h0.get? ma = none ∧ h0.get? aa = none
theorem tup3c {M : Model} {A : Around} {E : Value → Shared → Prop} {env : Env} {h₀ : Heap} {L : Addr} {m : Str → Option Value} {news : List (Addr × Obj)} {Q : Value → Shared → Prop} {h : Heap} {g : Array GenState} {d : Drawn} {tk : Nat} {os : OsState} {a b c : Str} {k1 k2 k3 k : Nat} {p1 p2 p3 p : Pos} (F : Fr h₀ L h m) (N : News h₀ L h news)
    (y : ∀ D h', Fr h₀ L h' m → News h₀ L h' ((D, tupOf [.str a tk, .str b (tk + 1), .str c (tk + 2)]) :: news) → Q (.ref D) ⟨h', g, d, tk + 3, os⟩) :
    wpAny M A (eval (.Tuple [.Constant (.str a) k1 p1, .Constant (.str b) k2 p2, .Constant (.str c) k3 p3] k p) env) Q E ⟨h, g, d, tk, os⟩ := by
  refine Tuple_ (args_cons (r_str ?_) rfl)
  refine args_cons (r_str ?_) rfl
  refine args_cons (r_str ?_) rfl
  refine args_nil ?_
  exact r_tuple F N (Nat.le_of_ble_eq_true rfl) fun D h' F' N' _ => y D h' F' N'
theorem tup0 {M : Model} {A : Around} {E : Value → Shared → Prop} {h₀ : Heap} {L : Addr} {m : Str → Option Value} {news : List (Addr × Obj)} {Q : Value → Shared → Prop} {h : Heap} {g : Array GenState} {d : Drawn} {tk : Nat} {os : OsState} {vs : List Value} (F : Fr h₀ L h m) (N : News h₀ L h news) (hz : vs.length ≤ sizeLine)
    (y : ∀ D h', Fr h₀ L h' m → News h₀ L h' ((D, tupOf vs) :: news) → Q (.ref D) ⟨h', g, d, tk, os⟩) : wpAny M A (newTuple vs) Q E ⟨h, g, d, tk, os⟩ := r_tuple F N hz fun D h' F' N' _ => y D h' F' N'
theorem rg_S10_9 : True := by
  k_with "eval Tuple" => (with_reducible refine' tup3c (by walk_at "asm") (by walk_at "asm") ?_; intro _ _ _ _; (try k_sweep))
  k_with "newTuple" => ((refine' tup0 (by walk_at "asm") (by walk_at "asm") (by exact Nat.le_of_ble_eq_true rfl) ?_); intro _ _ _ _; (try k_sweep))
  trivial
set_option maxRecDepth 100000 in
set_option maxHeartbeats 4000000 in
theorem kind_walk {w : World} {s : Shared} {A : Around} {R : Result → Shared → Prop} (G : Gd w s.heap) (hA : Ar A 4 40) {k : Int} {tk : Tok} (hk : 0 ≤ k ∧ k < 6)
   (hR : ∀ a h' tk, s.heap.StaysIn h' → KindIn s.heap h' a (kindN k.toNat) → R (.ok (.ret (.ref a))) { s with heap := h', toks := tk }) :
   codeAny (model PR w) A (.call (.ref 180) ⟨[.int k tk], []⟩) R s := by
  refine' call_fn (binds := [(Str.ofString "k", .int k tk)]) G ?a ?b ?c ?d ?e ?f ?g ?h ?i ?j
  walk_at "sides"
  intro h₁ m hm F
  have k1 : m (Str.ofString "k") = some (.int k tk) := by rw [hm]; rfl
  clear hm
  obtain ⟨p, loose, mean, mg, mb, T⟩ := G.T
  have X := G.K
  have N : News s.heap s.heap.objs.size h₁ [] := News.nil
  walk_at "go"
  all_goals first | exact Value.none | exact (0 : Nat) | skip
  all_goals
    rename k = _ => hke
    subst hke
    rename Fr _ _ _ _ => F9
    rename News _ _ _ _ => N9
    exact hR _ _ _ F9.keep ⟨_, _, _, _, (N9 (_, _) (by walk_at "mem")).1, ⟨⟨_, _, _, (N9 (_, _) (by walk_at "mem")).1⟩, ⟨_, _, _, (N9 (_, _) (by walk_at "mem")).1⟩⟩, (N9 (_, _) (by walk_at "mem")).2.2, (N9 (_, _) (by walk_at "mem")).2.2⟩
end Mine
theorem Mine.off_Bm : True := by w_top off; trivial
theorem Mine.rs_Bm {M : Model} {A : Around} {E : Value → Shared → Prop} {s : Shared} {Q : Flow → Shared → Prop} {p : Pos} {env : Env} (h : wpAny M A (exec (Stmt.Pass p) env) Q E s) : wpAny M A (exec (Stmt.Pass p) env) Q E s := by first | (walk1; fail) | exact h
namespace Mine
theorem reg_Bm : True := by
  k_with_none
  k_with "cj" => (first | with_reducible assumption | exact cj1 (by with_reducible assumption) | exact cj2 (by with_reducible assumption) | exact cj3 (by with_reducible assumption) | exact cj4 (by with_reducible assumption) | exact cj5 (by with_reducible assumption) | exact ce2 (by with_reducible assumption) | exact ce3 (by with_reducible assumption) | exact ce4 (by with_reducible assumption) | exact ce5 (by with_reducible assumption))
  k_with "ne1" => (refine neN ?_; first | with_reducible assumption | (refine Ne.symm ?_; with_reducible assumption) | walk_at "cj" | (refine Ne.symm ?_; walk_at "cj") | (refine Nat.ne_of_lt ?_; walk_at "cj") | (refine Nat.ne_of_gt ?_; walk_at "cj") | ((try dsimp only); omega))
  k_with "eval Constant int" => (refine r_int ?_)
  k_with "eval Constant str" => (refine r_str ?_)
  k_with "binaryOp Add int int" => (refine r_add ?_)
  k_with "binaryOp Sub int int" => (refine r_sub ?_)
  k_with "unaryOp USub int" => (refine r_neg ?_)
  k_with "inplaceOp Add int int" => (refine r_iadd ?_)
  k_with "eval Slice" => (refine r_slice ?_)
  k_with "SlQ" => (refine SlQ.go ?_)
  k_with "mget" => (first | with_reducible assumption | with_reducible exact upd_eq | ((with_reducible refine Eq.trans upd_eq ?_); rfl) | ((with_reducible refine upd_ne (by kernel_rfl) ?_); walk_at "mget") | (goal_lacks upd; first | exact if_pos rfl | (refine Eq.trans (if_neg (by decide)) ?_; walk_at "mget")))
  k_with "newTuple" => ((refine' r_tuple (by walk_at "asm") (by walk_at "asm") (by exact Nat.le_of_ble_eq_true rfl) ?_); intro _ _ _ _ _; walk_at "lt"; (try k_sweep))
  k_with "ite" => (first | with_reducible refine ite_tt ?_ | with_reducible refine ite_ff ?_ | (refine ite_pos (by with_reducible assumption) ?_) | (refine ite_neg (by refine ne_true_of_eq_false ?_; with_reducible assumption) ?_))
  k_with "tup" => (first | (refine News.isTup (by walk_at "asm") (by walk_at "mem")) | with_reducible assumption | (refine stays_tup (Fr.keep (by walk_at "asm")) (by walk_at "asm")))
  k_with "lst" => (first | (refine News.isList (by walk_at "asm") (by walk_at "mem")) | with_reducible assumption | (refine stays_list (Fr.keep (by walk_at "asm")) (by walk_at "asm")))
  k_with "off" => (first | exact List.forall_mem_nil _ | exact OwnOff.ne (by with_reducible assumption) (List.Mem.head _) | (refine List.forall_mem_cons.mpr ?_; refine And.intro ?_ ?_; (focus k_ne); (walk_at "off")))
  k_with "upd" => (first | (apply upd_hd; walk_at "off") | (apply upd_tl; (case hne => k_ne); (case hu => walk_at "upd")))
  k_with "RunTo" => ((first | refine NextTo.next (by with_reducible assumption) ?_ | refine NextTo.ret (by with_reducible assumption) ?_ | refine NextTo.brk (by with_reducible assumption) ?_ | refine NextTo.cont (by with_reducible assumption) ?_); (try dsimp only))
  k_with "go" => (repeat' (first | (k_unfold; (try dsimp only)) | walk1 | (dsimp only; walk1)))
  k_with "sides" => (((case b => (k_is)); (case c => (k_is)); (case a => (exact Ar.room (by assumption))); (case d => (exact BindsTo.of_eq rfl)); (case e => (exact locs rfl)); (case g => (rfl)); (case h => (rfl)); (case i => (rfl)); (case j => (decide))))
  k_with "mem" => (first | exact List.Mem.head _ | (refine' List.Mem.tail _ ?_; walk_at "mem"))
  k_with "units" => (first | exact Ar.units0 (by assumption) _ | exact Ar.unitsD (by assumption) (by decide) _)
  k_with "asm" => (with_reducible assumption)
  k_with "lt" => (((rename ∀ p ∈ _, (p : Addr × Obj).1 < _ => l9); (replace l9 := allLt_of l9); (dsimp only [AllLt] at l9)))
  k_with "ne" => (((rename ∀ p ∈ _, (p : Addr × Obj).1 ≠ _ => l9); (replace l9 := allNe_of l9); (dsimp only [AllNe] at l9)))
  k_with "storeName" => ((with_reducible refine' r_store (by walk_at "asm") (by walk_at "asm") (by kernel_rfl) ?_); intro _ _ _; (try k_sweep))
  k_with "exec While Compare cons nil" => (refine Halt.out ?_)
  k_with "exec While BoolOp cons nil" => (refine Halt.out ?_)
  k_with "exec While Constant cons nil" => (refine Halt.out ?_)
  k_with "exec While Name cons nil" => (refine Halt.out ?_)
  k_with "exec While" => (refine Halt.out ?_)
  k_with "execs cons" => (first | (refine execs_lastQ (fun tk => ?_)) | (refine execs_consQ (fun tk qk hqk => ?_)))
  k_with "newList" => (((refine' r_list (by walk_at "asm") (by walk_at "asm") (by exact Nat.le_of_ble_eq_true rfl) ?_); intro _ _ _ _ _; walk_at "lt"; (try k_sweep)))
  k_with "subscriptTail Name Slice str ref" => ((with_reducible first | refine' slice_ss5 (by walk_at "asm") (by walk_at "asm") (by with_reducible assumption) ?_ | refine' slice_sn5 (by walk_at "asm") (by walk_at "asm") (by with_reducible assumption) ?_); intro _ _ _ _ _; (try k_sweep))
  k_with "handled" => (first | exact Ar.hhD (by assumption) _ | exact Ar.hh (by assumption) | rfl)
  k_with "assign Tuple" => (((with_reducible show wpAny _ _ (assign (Expr.Tuple _ _ _) _ (Value.ref _)) _ _ _); k_dflt (refine' r_unpack (by walk_at "asm") (by walk_at "asm") (by walk_at "tup") (by walk_at "handled") rfl rfl ?_); intro _ _ _; (try k_sweep)))
  k_with "asz" => (k_dflt (first | exact aszL (by with_reducible assumption) | exact Nat.le_of_ble_eq_true rfl))
  k_with "call builtin:list.append" => (((with_reducible show wpAny _ _ (call (Value.builtin _) [Value.ref _, _]) _ _ _); (refine' r_append (by walk_at "asm") (by walk_at "asm") (by walk_at "upd") (by walk_at "asz") ?_); intro _ _ _; (try k_sweep)))
  k_with "sub" => ((intro _ hpK9; first | exact List.mem_of_mem_tail hpK9 | (simp only [List.mem_cons, List.mem_append] at hpK9 ⊢; grind)))
  k_with "exec For Tuple Name cons nil" => ((k_dflt (refine' wpAny_For ?_ (by intro _; rfl))))
  k_with "exec For Name Name cons nil" => ((k_dflt (refine' wpAny_For ?_ (by intro _; rfl))))
  k_with "exec For Name Call cons nil" => ((k_dflt (refine' wpAny_For ?_ (by intro _; rfl))))
  k_with "exec For Name List cons nil" => ((k_dflt (refine' wpAny_For ?_ (by intro _; rfl))))
  k_with "exec For Name Attribute cons nil" => ((k_dflt (refine' wpAny_For ?_ (by intro _; rfl))))
  k_with "pyIter ref" => (refine Halt.out ?_)
  k_with "subscriptTail Name Constant ref int" => (((with_reducible show wpAny _ _ (subscriptTail _ _ (Value.ref _) (Value.int _ _)) _ _ _); (refine' item_tupleL (by refine' News.isTup (by walk_at "asm") (by walk_at "mem")) (by decide) (by decide) rfl rfl ?_ (by with_unfolding_all rfl) (by intro _; with_unfolding_all rfl))))
  k_with "eval Name" => ((goal_lacks compEnvC; first | (with_reducible refine' nmK (by decide +kernel) (by walk_at "asm") (by walk_at "mget") ?_) | k_dflt (first | (goal_lacks envOf; refine' nameX_L (by walk_at "asm") (by walk_at "mget") ?_ rfl (by with_unfolding_all rfl) (by decide)) | (goal_lacks envOf; refine' nameX_C (by walk_at "asm") rfl (by walk_at "mem") (by walk_at "asm") ?_ rfl (by with_unfolding_all rfl) (by decide)) | (refine' nameX_K (by walk_at "asm") (by walk_at "asm") (by k_asm) (by k_is) ?_ rfl (by with_unfolding_all rfl) (by decide)) | (refine' nameX_B (by walk_at "asm") (by walk_at "asm") (by k_asm) (by k_is) (by boot_fast) (by decide) ?_ rfl (by with_unfolding_all rfl) (by decide)))))
  k_with "loadName" => ((first | (with_reducible refine' ldL (by walk_at "asm") (by walk_at "mget") (by kernel_rfl) ?_) | k_dflt (refine' ldX (by walk_at "asm") (by walk_at "mget") ?_ rfl (by with_unfolding_all rfl))))
  trivial
noncomputable abbrev bmObj (l : Addr) : Obj := { cls := .type "builtin_function_or_method", data := .fields #[.builtin "list.append", .ref l] }
open PySem.W.X in
theorem x_endBm {h₁ h : Heap} {g : Array GenState} {d : Drawn} {os : OsState} {t : Nat} {q l : Addr} {news : List (Addr × Obj)} {Q : Value → Shared → Prop}
    (hQ : ∀ q h' tk, h₁.StaysIn h' → h₁.get? q = none → h'.get? q = some (bmObj l) → Q (.ref q) ⟨h', g, d, tk, os⟩) (D : Mem h₁ h [] news) (hm : (q, bmObj l) ∈ news) : Q (.ref q) ⟨h, g, d, t, os⟩ :=
  hQ _ _ _ (fun b o e => D.keep b o e (by simp [away])) (D.nw _ hm).2 (D.nw _ hm).1
local macro_rules | `(tactic| x_close) => `(tactic| (refine' x_endBm ?a ?b ?c; (case a => assumption); (case b => assumption); (case c => first | exact List.Mem.head _ | exact List.Mem.tail _ (List.Mem.head _))))
open PySem.W.X in
set_option maxRecDepth 100000 in
set_option maxHeartbeats 4000000 in
theorem ga_append {w : World} {h : Heap} {g : Array GenState} {d : Drawn} {os : OsState} {tk n u : Nat} {its : Array Value} {A : Around} {l : Addr} {Q : Value → Shared → Prop} {E : Value → Shared → Prop} (G : Gd w h) (hA : A.handled = none) (hd : A.depth ≤ 800) (hu : A.units ≤ 8000)
   (hl : h.get? l = some { cls := .type "list", data := .seq its n })
   (hQ : ∀ q h' tk, h.StaysIn h' → h.get? q = none → h'.get? q = some (bmObj l) → Q (.ref q) ⟨h', g, d, tk, os⟩) :
   wpAny (model PR w) A (call (.builtin "list.__getattribute__") [.ref l, .str (Str.ofString "append") u] []) Q E ⟨h, g, d, tk, os⟩ := by
  have X := G.K
  x_run
theorem bm_make {w : World} {h : Heap} {g : Array GenState} {d : Drawn} {os : OsState} {tk n : Nat} {its : Array Value} {A : Around} {l : Addr} {Q : Value → Shared → Prop} {E : Value → Shared → Prop} (G : Gd w h) (hA : A.handled = none) (hd : A.depth ≤ 800) (hu : A.units ≤ 8000)
   (hl : h.get? l = some { cls := .type "list", data := .seq its n })
   (hQ : ∀ q h' tk, h.StaysIn h' → h.get? q = none → h'.get? q = some (bmObj l) → Q (.ref q) ⟨h', g, d, tk, os⟩) :
   wpAny (model PR w) A (getAttr (.ref l) (Str.ofString "append") true) Q E ⟨h, g, d, tk, os⟩ := by
  have hT : ∀ tk', (⟨h, g, d, tk', os⟩ : Shared).TypeIs (.ref l) "list" := fun _ => ⟨_, hl, rfl⟩
  have f3 := F.slot_list_getattribute.lookup
  have f4 := F.slot_list_getattribute.bind (.ref l)
  unfold getAttr getAttrBy
  repeat (any_goals (first | assumption | exact hT _ | ((with_reducible show wpAny _ _ (call (Value.builtin "list.__getattribute__") _ _) _ _ _); refine ga_append G hA hd hu hl fun q h' tk hk hn ho => ?_) | wp_step))
  exact hQ _ _ _ hk hn ho
theorem bm_check {w : World} {A : Around} {E : Value → Shared → Prop} {s : Shared} {l : Addr} {v : Value} {Q : Unit → Shared → Prop} {its : Array Value} {n : Nat} (hl : s.heap.get? l = some { cls := .type "list", data := .seq its n }) (h : Q () s) : wpAny (model PR w) A (checkBoundCall "list.append" ⟨[.ref l, v], []⟩) Q E s := by
  obtain ⟨hp, g, d, tk, os⟩ := s
  have hT : (⟨hp, g, d, tk, os⟩ : Shared).TypeIs (.ref l) "list" := ⟨_, hl, rfl⟩
  dsimp only at hl
  have hk : builtinKind "list.append" = some .method := by decide +kernel
  have f1 : isSubtype (.type "list") (.type "module") = pure false := by rw [isSubtype_type]; kernel_rfl
  have f2 : Manifest.varargsMethods.contains "list.append" = false := by decide +kernel
  unfold checkBoundCall
  repeat (any_goals (first | ((with_reducible show wpAny _ _ (Bind.checkArgs _ _ _) _ _ _); exact wpAny_of_eq (a := ()) (by kernel_rfl) h) | assumption | wp_step))
  all_goals (try simp only [f2, Bool.or_false, Bool.false_eq_true, if_false])
  repeat (any_goals (first | ((with_reducible show wpAny _ _ (Bind.checkArgs _ _ _) _ _ _); exact wpAny_of_eq (a := ()) (by kernel_rfl) h) | assumption | wp_step))
theorem bm_call {w : World} {A : Around} {E : Value → Shared → Prop} {s : Shared} {q l : Addr} {its : Array Value} {v : Value} {Q : Value → Shared → Prop} (hq : s.heap.get? q = some (bmObj l)) {n : Nat} (hl : s.heap.get? l = some { cls := .type "list", data := .seq its n })
    (hQ : ∀ h', h'.get? l = some { cls := .type "list", data := .seq (its.push v) (n + 1) } → Heap.SameBut l s.heap h' → Q .none { s with heap := h' }) (hsz : its.size ≤ sizeLine) :
    wpAny (model PR w) A (call (.ref q) [v] []) Q E s := by
  obtain ⟨hh, g, dr, t, os⟩ := s
  refine wpAny_call (codeAny_of_tree ?_)
  show wpAny _ _ (callAny (.ref q) _) _ _ _
  refine nd_load hq ?_
  show wpAny _ _ (do checkBoundCall "list.append" ⟨[.ref l, v], []⟩; again (.builtin "list.append" ⟨[.ref l, v], []⟩)) _ _ _
  refine wpAny_bind (bm_check hl (wpAny_pure (And.intro (Code.quiet_builtin _ (by decide +kernel)) ?_)))
  refine codeAny_builtin entry_list_append ?_
  show wpAny _ _ (updateSeq l (·.push v) >>= fun _ => ret .none) _ _ _
  refine wpAny_bind ?_
  refine wpAny_updateSeq hl rfl (wpAny_pure (hQ _ ?_ (Heap.SameBut.update ..))) hsz (by rw [Array.size_push]; lia)
  have e := Heap.get?_update_self (Obj.mapSeq fun x => x.push v) hl (by rfl)
  rw [e]
  have hne : ((its.push v).size == its.size) = false := by rw [beq_eq_false_iff_ne, Array.size_push]; lia
  show some ({ cls := .type "list", data := .seq (its.push v) (if ((its.push v).size == its.size) = true then n else n + 1) } : Obj) = _
  rw [hne]; rfl
section
variable {w : World} {A : Around} {E : Value → Shared → Prop} {s : Shared} {h₀ : Heap} {L q l : Addr} {m : Str → Option Value} {news news' : List (Addr × Obj)} {its : Array Value} {n : Nat} {v : Value}
theorem bm_callK {Q : Value → Shared → Prop} (F : Fr h₀ L s.heap m) (N : News h₀ L s.heap news) (hq : (q, bmObj l) ∈ news) (U : Upd l (listOf its n) (listOf (its.push v) (n + 1)) news news')
    (h : ∀ h', Fr h₀ L h' m → News h₀ L h' news' → Q .none { s with heap := h' }) (hsz : its.size ≤ sizeLine) : wpAny (model PR w) A (call (.ref q) [v] []) Q E s := by
  obtain ⟨pre, post, rfl, rfl, a, b⟩ := U.split
  have z := N (l, listOf its n) (List.mem_append.mpr (.inr (.head _)))
  exact bm_call (N _ hq).1 z.1 (fun h' ho' hs => h h' (F.change hs z.2.1 z.2.2) (news_set N a b hs ho')) hsz
noncomputable def BmPost (q l : Addr) (s₁ : Shared) (P : Prop) : Prop := s₁.heap.get? q = some (bmObj l) ∧ P
theorem BmPost.intro {P : Prop} (N : News h₀ L s.heap news) (hq : (q, bmObj l) ∈ news) (h : P) : BmPost q l s P := ⟨(N _ hq).1, h⟩
end
end Mine
theorem Mine.off_Bm2 : True := by w_top off; trivial
theorem Mine.rs_Bm2 {M : Model} {A : Around} {E : Value → Shared → Prop} {s : Shared} {Q : Flow → Shared → Prop} {p : Pos} {env : Env} (h : wpAny M A (exec (Stmt.Pass p) env) Q E s) : wpAny M A (exec (Stmt.Pass p) env) Q E s := by first | (walk1; fail) | exact h
namespace Mine
theorem reg_Bm2 : True := by
  k_with_none
  k_with "cj" => (first | with_reducible assumption | exact cj1 (by with_reducible assumption) | exact cj2 (by with_reducible assumption) | exact cj3 (by with_reducible assumption) | exact cj4 (by with_reducible assumption) | exact cj5 (by with_reducible assumption) | exact ce2 (by with_reducible assumption) | exact ce3 (by with_reducible assumption) | exact ce4 (by with_reducible assumption) | exact ce5 (by with_reducible assumption))
  k_with "ne1" => (refine neN ?_; first | with_reducible assumption | (refine Ne.symm ?_; with_reducible assumption) | walk_at "cj" | (refine Ne.symm ?_; walk_at "cj") | (refine Nat.ne_of_lt ?_; walk_at "cj") | (refine Nat.ne_of_gt ?_; walk_at "cj") | ((try dsimp only); omega))
  k_with "eval Constant int" => (refine r_int ?_)
  k_with "eval Constant str" => (refine r_str ?_)
  k_with "binaryOp Add int int" => (refine r_add ?_)
  k_with "binaryOp Sub int int" => (refine r_sub ?_)
  k_with "unaryOp USub int" => (refine r_neg ?_)
  k_with "inplaceOp Add int int" => (refine r_iadd ?_)
  k_with "eval Slice" => (refine r_slice ?_)
  k_with "SlQ" => (refine SlQ.go ?_)
  k_with "mget" => (first | with_reducible assumption | with_reducible exact upd_eq | ((with_reducible refine Eq.trans upd_eq ?_); rfl) | ((with_reducible refine upd_ne (by kernel_rfl) ?_); walk_at "mget") | (goal_lacks upd; first | exact if_pos rfl | (refine Eq.trans (if_neg (by decide)) ?_; walk_at "mget")))
  k_with "newTuple" => ((refine' r_tuple (by walk_at "asm") (by walk_at "asm") (by exact Nat.le_of_ble_eq_true rfl) ?_); intro _ _ _ _ _; walk_at "lt"; (try k_sweep))
  k_with "ite" => (first | with_reducible refine ite_tt ?_ | with_reducible refine ite_ff ?_ | (refine ite_pos (by with_reducible assumption) ?_) | (refine ite_neg (by refine ne_true_of_eq_false ?_; with_reducible assumption) ?_))
  k_with "tup" => (first | (refine News.isTup (by walk_at "asm") (by walk_at "mem")) | with_reducible assumption | (refine stays_tup (Fr.keep (by walk_at "asm")) (by walk_at "asm")))
  k_with "lst" => (first | (refine News.isList (by walk_at "asm") (by walk_at "mem")) | with_reducible assumption | (refine stays_list (Fr.keep (by walk_at "asm")) (by walk_at "asm")))
  k_with "off" => (first | exact List.forall_mem_nil _ | exact OwnOff.ne (by with_reducible assumption) (List.Mem.head _) | (refine List.forall_mem_cons.mpr ?_; refine And.intro ?_ ?_; (focus k_ne); (walk_at "off")))
  k_with "upd" => (first | (apply upd_hd; walk_at "off") | (apply upd_tl; (case hne => k_ne); (case hu => walk_at "upd")))
  k_with "RunTo" => ((first | refine NextTo.next (by with_reducible assumption) ?_ | refine NextTo.ret (by with_reducible assumption) ?_ | refine NextTo.brk (by with_reducible assumption) ?_ | refine NextTo.cont (by with_reducible assumption) ?_); (try dsimp only))
  k_with "go" => (repeat' (first | (k_unfold; (try dsimp only)) | walk1 | (dsimp only; walk1)))
  k_with "sides" => (((case b => (k_is)); (case c => (k_is)); (case a => (exact Ar.room (by assumption))); (case d => (exact BindsTo.of_eq rfl)); (case e => (exact locs rfl)); (case g => (rfl)); (case h => (rfl)); (case i => (rfl)); (case j => (decide))))
  k_with "mem" => (first | exact List.Mem.head _ | (refine' List.Mem.tail _ ?_; walk_at "mem"))
  k_with "units" => (first | exact Ar.units0 (by assumption) _ | exact Ar.unitsD (by assumption) (by decide) _)
  k_with "asm" => (with_reducible assumption)
  k_with "lt" => (((rename ∀ p ∈ _, (p : Addr × Obj).1 < _ => l9); (replace l9 := allLt_of l9); (dsimp only [AllLt] at l9)))
  k_with "ne" => (((rename ∀ p ∈ _, (p : Addr × Obj).1 ≠ _ => l9); (replace l9 := allNe_of l9); (dsimp only [AllNe] at l9)))
  k_with "storeName" => ((with_reducible refine' r_store (by walk_at "asm") (by walk_at "asm") (by kernel_rfl) ?_); intro _ _ _; (try k_sweep))
  k_with "exec While Compare cons nil" => (refine Halt.out ?_)
  k_with "exec While BoolOp cons nil" => (refine Halt.out ?_)
  k_with "exec While Constant cons nil" => (refine Halt.out ?_)
  k_with "exec While Name cons nil" => (refine Halt.out ?_)
  k_with "exec While" => (refine Halt.out ?_)
  k_with "execs cons" => (first | (refine execs_lastQ (fun tk => ?_)) | (refine execs_consQ (fun tk qk hqk => ?_)))
  k_with "newList" => (((refine' r_list (by walk_at "asm") (by walk_at "asm") (by exact Nat.le_of_ble_eq_true rfl) ?_); intro _ _ _ _ _; walk_at "lt"; (try k_sweep)))
  k_with "subscriptTail Name Slice str ref" => ((with_reducible first | refine' slice_ss5 (by walk_at "asm") (by walk_at "asm") (by with_reducible assumption) ?_ | refine' slice_sn5 (by walk_at "asm") (by walk_at "asm") (by with_reducible assumption) ?_); intro _ _ _ _ _; (try k_sweep))
  k_with "handled" => (first | exact Ar.hhD (by assumption) _ | exact Ar.hh (by assumption) | rfl)
  k_with "assign Tuple" => (((with_reducible show wpAny _ _ (assign (Expr.Tuple _ _ _) _ (Value.ref _)) _ _ _); k_dflt (refine' r_unpack (by walk_at "asm") (by walk_at "asm") (by walk_at "tup") (by walk_at "handled") rfl rfl ?_); intro _ _ _; (try k_sweep)))
  k_with "asz" => (k_dflt (first | exact aszL (by with_reducible assumption) | exact Nat.le_of_ble_eq_true rfl))
  k_with "call builtin:list.append" => (((with_reducible show wpAny _ _ (call (Value.builtin _) [Value.ref _, _]) _ _ _); (refine' r_append (by walk_at "asm") (by walk_at "asm") (by walk_at "upd") (by walk_at "asz") ?_); intro _ _ _; (try k_sweep)))
  k_with "sub" => ((intro _ hpK9; first | exact List.mem_of_mem_tail hpK9 | (simp only [List.mem_cons, List.mem_append] at hpK9 ⊢; grind)))
  k_with "exec For Tuple Name cons nil" => ((k_dflt (refine' wpAny_For ?_ (by intro _; rfl))))
  k_with "exec For Name Name cons nil" => ((k_dflt (refine' wpAny_For ?_ (by intro _; rfl))))
  k_with "exec For Name Call cons nil" => ((k_dflt (refine' wpAny_For ?_ (by intro _; rfl))))
  k_with "exec For Name List cons nil" => ((k_dflt (refine' wpAny_For ?_ (by intro _; rfl))))
  k_with "exec For Name Attribute cons nil" => ((k_dflt (refine' wpAny_For ?_ (by intro _; rfl))))
  k_with "pyIter ref" => (refine Halt.out ?_)
  k_with "subscriptTail Name Constant ref int" => (((with_reducible show wpAny _ _ (subscriptTail _ _ (Value.ref _) (Value.int _ _)) _ _ _); (refine' item_tupleL (by refine' News.isTup (by walk_at "asm") (by walk_at "mem")) (by decide) (by decide) rfl rfl ?_ (by with_unfolding_all rfl) (by intro _; with_unfolding_all rfl))))
  k_with "eval Name" => ((goal_lacks compEnvC; first | (with_reducible refine' nmK (by decide +kernel) (by walk_at "asm") (by walk_at "mget") ?_) | k_dflt (first | (goal_lacks envOf; refine' nameX_L (by walk_at "asm") (by walk_at "mget") ?_ rfl (by with_unfolding_all rfl) (by decide)) | (goal_lacks envOf; refine' nameX_C (by walk_at "asm") rfl (by walk_at "mem") (by walk_at "asm") ?_ rfl (by with_unfolding_all rfl) (by decide)) | (refine' nameX_K (by walk_at "asm") (by walk_at "asm") (by k_asm) (by k_is) ?_ rfl (by with_unfolding_all rfl) (by decide)) | (refine' nameX_B (by walk_at "asm") (by walk_at "asm") (by k_asm) (by k_is) (by boot_fast) (by decide) ?_ rfl (by with_unfolding_all rfl) (by decide)))))
  k_with "loadName" => ((first | (with_reducible refine' ldL (by walk_at "asm") (by walk_at "mget") (by kernel_rfl) ?_) | k_dflt (refine' ldX (by walk_at "asm") (by walk_at "mget") ?_ rfl (by with_unfolding_all rfl))))
  trivial
section
variable {w : World} {A : Around} {E : Value → Shared → Prop} {s : Shared} {h₀ : Heap} {L q l : Addr} {m : Str → Option Value} {news news' : List (Addr × Obj)} {its : Array Value} {n : Nat} {v : Value}
theorem bm_callWith {pos : Pos} {env : Env} {e : PySem.Expr} {rest : List PySem.Expr} {Q : Value → Shared → Prop} (_N : News h₀ L s.heap news) (_hq : (q, bmObj l) ∈ news)
    (h : wpAny (model PR w) A (spliced (backTo pos (starEach (e :: rest) env))) (fun vs s₁ => BmPost q l s₁ (wpAny (model PR w) A (call (.ref q) vs []) Q E s₁)) E s)
    (he : starEach (e :: rest) env = (false, eval e env) :: starEach rest env := by rfl) (hplain : (backTo pos (starEach rest env)).any (·.1) = false := by rfl) :
    wpAny (model PR w) A (callWith pos (.ref q) [] (backTo pos (starEach (e :: rest) env)) []) Q E s := by
  rw [he] at h ⊢
  have hp2 : (backTo pos ((false, eval e env) :: starEach rest env)).any (·.1) = false := by show (false || (backTo pos (starEach rest env)).any (·.1)) = false; rw [hplain]; rfl
  unfold callWith
  refine wpAny_bind (wpAny_holding (wpAny_mono (Q := fun (x : Args) s₁ => BmPost q l s₁ (wpAny (model PR w) A (call (.ref q) x.pos x.kw) Q E s₁)) ?a (fun x s₁ h₁ => wpAny_bind (wpAny_standAt ?_)) fun _ _ x => x))
  case a => exact evalArgs_plain h
  obtain ⟨ho, hcall⟩ := h₁
  simp only [hp2, List.any_nil, Bool.or_false]
  refine wpAny_bind (m := keeperOf (.ref q)) ?_
  unfold keeperOf
  refine wpAny_bind (wpAny_load ho ?_)
  simp only [show (Value.type "builtin_function_or_method" != Value.type "method") = true by decide, show (Value.type "builtin_function_or_method" == Value.type "builtin_function_or_method" || Value.type "builtin_function_or_method" == Value.type "method-wrapper") = true by decide, if_true]
  refine wpAny_pure ?_
  exact wpAny_bind (wpAny_mono hcall (fun r s₂ hr => wpAny_bind (wpAny_holding (wpAny_point (wpAny_pure hr)))) fun _ _ x => x)
theorem bm_makeK {Q : Value → Shared → Prop} (F : Fr h₀ L s.heap m) (N : News h₀ L s.heap news) (G : Gd w h₀) (hA : A.handled = none) (hd : A.depth ≤ 800) (hu : A.units ≤ 8000) (hl : (l, listOf its n) ∈ news)
    (h : ∀ q h' tk, Fr h₀ L h' m → News h₀ L h' ((q, bmObj l) :: news) → (∀ p ∈ news, p.1 ≠ q) → Q (.ref q) { s with heap := h', toks := tk }) :
    wpAny (model PR w) A (getAttr (.ref l) (Str.ofString "append") true) Q E s := by
  obtain ⟨hh, g, d, tk, os⟩ := s
  exact bm_make (G.keeps F.keep) hA hd hu (N _ hl).1 fun q h' tk hk hn ho => h q h' tk (stayF F hk) (moreN F (stayN N hk) hn ho) (neN' N hn)
end
/-- behind a turn, the generators' states let go -/
noncomputable def GStep (h₀ : Heap) (L : Addr) (s : Shared) (J : Nat → (Str → Option Value) → List (Addr × Obj) → Prop) (n : Nat) (f : Flow) (s₃ : Shared) : Prop :=
  f = .next ∧ s₃.os = s.os ∧ AllBare s₃.gens ∧ ∃ m₂ news₂ n', Fr h₀ L s₃.heap m₂ ∧ News h₀ L s₃.heap news₂ ∧ n' < n ∧ J n' m₂ news₂
theorem GStep.intro {h₀ : Heap} {L : Addr} {s s₃ : Shared} {J : Nat → (Str → Option Value) → List (Addr × Obj) → Prop} {n n' : Nat} {m₂ : Str → Option Value} {news₂ : List (Addr × Obj)} (ho : s₃.os = s.os) (hg : AllBare s₃.gens)
    (F : Fr h₀ L s₃.heap m₂) (N : News h₀ L s₃.heap news₂) (hn : n' < n) (hJ : J n' m₂ news₂) : GStep h₀ L s J n .next s₃ := ⟨rfl, ho, hg, _, _, _, F, N, hn, hJ⟩
theorem While_gen {prog : Program} {w : World} {A : Around} {E : Value → Shared → Prop} {Q : Flow → Shared → Prop} {s : Shared} {env : Env} {h₀ : Heap} {L : Addr} {test : PySem.Expr} {body : List Stmt} {pos : Pos} {m : Str → Option Value} {news : List (Addr × Obj)} (J : Nat → (Str → Option Value) → List (Addr × Obj) → Prop) {n₀ : Nat}
    (hg : AllBare s.gens) (F : Fr h₀ L s.heap m) (N : News h₀ L s.heap news) (hJ : J n₀ m news)
    (turn : ∀ n m₁ news₁ s₁, s₁.os = s.os → AllBare s₁.gens → Fr h₀ L s₁.heap m₁ → News h₀ L s₁.heap news₁ → J n m₁ news₁ →
      wpAny (model prog w) A (isTrue test env (eval test env)) (fun b s₂ =>
        if b = true then wpAny (model prog w) A (execs body env) (GStep h₀ L s J n) E s₂ else Q .next s₂) E s₁)
    (hE : PassesOwn (model prog w) A env E) :
    wpAny (model prog w) A (exec (.While test body [] pos) env) Q E s := by
  refine wpAny_While (codeAny_whileLoop (fun n s' => s'.os = s.os ∧ AllBare s'.gens ∧ ∃ m₁ news₁, Fr h₀ L s'.heap m₁ ∧ News h₀ L s'.heap news₁ ∧ J n m₁ news₁) ?_ n₀ ⟨rfl, hg, m, news, F, N, hJ⟩)
  rintro n s' ⟨ho, hg', m₁, news₁, F₁, N₁, J₁⟩
  refine wpAny_mono (turn n m₁ news₁ s' ho hg' F₁ N₁ J₁) (fun b s₂ h₂ => ?_) hE
  cases b with
  | false =>
    simp only [Bool.false_eq_true, if_false] at h₂ ⊢
    exact wpAny_execs_nil h₂
  | true =>
    simp only [if_true] at h₂ ⊢
    refine wpAny_mono h₂ (fun f s₃ h₃ => ?_) hE
    obtain ⟨rfl, ho3, hg3, m₂, news₂, n', F₂, N₂, hn', hJ'⟩ := h₃
    exact ⟨n', hn', ho3, hg3, m₂, news₂, F₂, N₂, hJ'⟩
end Mine
theorem Mine.off_Esc : True := by w_top off; trivial
theorem Mine.rs_Esc {M : Model} {A : Around} {E : Value → Shared → Prop} {s : Shared} {Q : Flow → Shared → Prop} {p : Pos} {env : Env} (h : wpAny M A (exec (Stmt.Pass p) env) Q E s) : wpAny M A (exec (Stmt.Pass p) env) Q E s := by first | (walk1; fail) | exact h
namespace Mine
theorem reg_Esc : True := by
  k_with_none
  k_with "cj" => (first | with_reducible assumption | exact cj1 (by with_reducible assumption) | exact cj2 (by with_reducible assumption) | exact cj3 (by with_reducible assumption) | exact cj4 (by with_reducible assumption) | exact cj5 (by with_reducible assumption) | exact ce2 (by with_reducible assumption) | exact ce3 (by with_reducible assumption) | exact ce4 (by with_reducible assumption) | exact ce5 (by with_reducible assumption))
  k_with "ne1" => (refine neN ?_; first | with_reducible assumption | (refine Ne.symm ?_; with_reducible assumption) | walk_at "cj" | (refine Ne.symm ?_; walk_at "cj") | (refine Nat.ne_of_lt ?_; walk_at "cj") | (refine Nat.ne_of_gt ?_; walk_at "cj") | ((try dsimp only); omega))
  k_with "eval Constant int" => (refine r_int ?_)
  k_with "eval Constant str" => (refine r_str ?_)
  k_with "binaryOp Add int int" => (refine r_add ?_)
  k_with "binaryOp Sub int int" => (refine r_sub ?_)
  k_with "unaryOp USub int" => (refine r_neg ?_)
  k_with "inplaceOp Add int int" => (refine r_iadd ?_)
  k_with "eval Slice" => (refine r_slice ?_)
  k_with "SlQ" => (refine SlQ.go ?_)
  k_with "mget" => (first | with_reducible assumption | with_reducible exact upd_eq | ((with_reducible refine Eq.trans upd_eq ?_); rfl) | ((with_reducible refine upd_ne (by kernel_rfl) ?_); walk_at "mget") | (goal_lacks upd; first | exact if_pos rfl | (refine Eq.trans (if_neg (by decide)) ?_; walk_at "mget")))
  k_with "newTuple" => ((refine' r_tuple (by walk_at "asm") (by walk_at "asm") (by exact Nat.le_of_ble_eq_true rfl) ?_); intro _ _ _ _ _; walk_at "lt"; (try k_sweep))
  k_with "ite" => (first | with_reducible refine ite_tt ?_ | with_reducible refine ite_ff ?_ | (refine ite_pos (by with_reducible assumption) ?_) | (refine ite_neg (by refine ne_true_of_eq_false ?_; with_reducible assumption) ?_))
  k_with "tup" => (first | (refine News.isTup (by walk_at "asm") (by walk_at "mem")) | with_reducible assumption | (refine stays_tup (Fr.keep (by walk_at "asm")) (by walk_at "asm")))
  k_with "lst" => (first | (refine News.isList (by walk_at "asm") (by walk_at "mem")) | with_reducible assumption | (refine stays_list (Fr.keep (by walk_at "asm")) (by walk_at "asm")))
  k_with "off" => (first | exact List.forall_mem_nil _ | exact OwnOff.ne (by with_reducible assumption) (List.Mem.head _) | (refine List.forall_mem_cons.mpr ?_; refine And.intro ?_ ?_; (focus k_ne); (walk_at "off")))
  k_with "upd" => (first | (apply upd_hd; walk_at "off") | (apply upd_tl; (case hne => k_ne); (case hu => walk_at "upd")))
  k_with "RunTo" => ((first | refine NextTo.next (by with_reducible assumption) ?_ | refine NextTo.ret (by with_reducible assumption) ?_ | refine NextTo.brk (by with_reducible assumption) ?_ | refine NextTo.cont (by with_reducible assumption) ?_); (try dsimp only))
  k_with "go" => (repeat' (first | (k_unfold; (try dsimp only)) | walk1 | (dsimp only; walk1)))
  k_with "sides" => (((case b => (k_is)); (case c => (k_is)); (case a => (exact Ar.room (by assumption))); (case d => (exact BindsTo.of_eq rfl)); (case e => (exact locs rfl)); (case g => (rfl)); (case h => (rfl)); (case i => (rfl)); (case j => (decide))))
  k_with "mem" => (first | exact List.Mem.head _ | (refine' List.Mem.tail _ ?_; walk_at "mem"))
  k_with "units" => (first | exact Ar.units0 (by assumption) _ | exact Ar.unitsD (by assumption) (by decide) _)
  k_with "asm" => (with_reducible assumption)
  k_with "lt" => (((rename ∀ p ∈ _, (p : Addr × Obj).1 < _ => l9); (replace l9 := allLt_of l9); (dsimp only [AllLt] at l9)))
  k_with "ne" => (((rename ∀ p ∈ _, (p : Addr × Obj).1 ≠ _ => l9); (replace l9 := allNe_of l9); (dsimp only [AllNe] at l9)))
  k_with "storeName" => ((with_reducible refine' r_store (by walk_at "asm") (by walk_at "asm") (by kernel_rfl) ?_); intro _ _ _; (try k_sweep))
  k_with "exec While Compare cons nil" => (refine Halt.out ?_)
  k_with "exec While BoolOp cons nil" => (refine Halt.out ?_)
  k_with "exec While Constant cons nil" => (refine Halt.out ?_)
  k_with "exec While Name cons nil" => (refine Halt.out ?_)
  k_with "exec While" => (refine Halt.out ?_)
  k_with "execs cons" => (first | (refine execs_lastQ (fun tk => ?_)) | (refine execs_consQ (fun tk qk hqk => ?_)))
  k_with "newList" => (((refine' r_list (by walk_at "asm") (by walk_at "asm") (by exact Nat.le_of_ble_eq_true rfl) ?_); intro _ _ _ _ _; walk_at "lt"; (try k_sweep)))
  k_with "subscriptTail Name Slice str ref" => ((with_reducible first | refine' slice_ss5 (by walk_at "asm") (by walk_at "asm") (by with_reducible assumption) ?_ | refine' slice_sn5 (by walk_at "asm") (by walk_at "asm") (by with_reducible assumption) ?_); intro _ _ _ _ _; (try k_sweep))
  k_with "handled" => (first | exact Ar.hhD (by assumption) _ | exact Ar.hh (by assumption) | rfl)
  k_with "assign Tuple" => (((with_reducible show wpAny _ _ (assign (Expr.Tuple _ _ _) _ (Value.ref _)) _ _ _); k_dflt (refine' r_unpack (by walk_at "asm") (by walk_at "asm") (by walk_at "tup") (by walk_at "handled") rfl rfl ?_); intro _ _ _; (try k_sweep)))
  k_with "asz" => (k_dflt (first | exact aszL (by with_reducible assumption) | exact Nat.le_of_ble_eq_true rfl))
  k_with "call builtin:list.append" => (((with_reducible show wpAny _ _ (call (Value.builtin _) [Value.ref _, _]) _ _ _); (refine' r_append (by walk_at "asm") (by walk_at "asm") (by walk_at "upd") (by walk_at "asz") ?_); intro _ _ _; (try k_sweep)))
  k_with "sub" => ((intro _ hpK9; first | exact List.mem_of_mem_tail hpK9 | (simp only [List.mem_cons, List.mem_append] at hpK9 ⊢; grind)))
  k_with "exec For Tuple Name cons nil" => ((k_dflt (refine' wpAny_For ?_ (by intro _; rfl))))
  k_with "exec For Name Name cons nil" => ((k_dflt (refine' wpAny_For ?_ (by intro _; rfl))))
  k_with "exec For Name Call cons nil" => ((k_dflt (refine' wpAny_For ?_ (by intro _; rfl))))
  k_with "exec For Name List cons nil" => ((k_dflt (refine' wpAny_For ?_ (by intro _; rfl))))
  k_with "exec For Name Attribute cons nil" => ((k_dflt (refine' wpAny_For ?_ (by intro _; rfl))))
  k_with "pyIter ref" => (refine Halt.out ?_)
  k_with "subscriptTail Name Constant ref int" => (((with_reducible show wpAny _ _ (subscriptTail _ _ (Value.ref _) (Value.int _ _)) _ _ _); (refine' item_tupleL (by refine' News.isTup (by walk_at "asm") (by walk_at "mem")) (by decide) (by decide) rfl rfl ?_ (by with_unfolding_all rfl) (by intro _; with_unfolding_all rfl))))
  k_with "eval Name" => ((goal_lacks compEnvC; first | (with_reducible refine' nmK (by decide +kernel) (by walk_at "asm") (by walk_at "mget") ?_) | k_dflt (first | (goal_lacks envOf; refine' nameX_L (by walk_at "asm") (by walk_at "mget") ?_ rfl (by with_unfolding_all rfl) (by decide)) | (goal_lacks envOf; refine' nameX_C (by walk_at "asm") rfl (by walk_at "mem") (by walk_at "asm") ?_ rfl (by with_unfolding_all rfl) (by decide)) | (refine' nameX_K (by walk_at "asm") (by walk_at "asm") (by k_asm) (by k_is) ?_ rfl (by with_unfolding_all rfl) (by decide)) | (refine' nameX_B (by walk_at "asm") (by walk_at "asm") (by k_asm) (by k_is) (by boot_fast) (by decide) ?_ rfl (by with_unfolding_all rfl) (by decide)))))
  k_with "loadName" => ((first | (with_reducible refine' ldL (by walk_at "asm") (by walk_at "mget") (by kernel_rfl) ?_) | k_dflt (refine' ldX (by walk_at "asm") (by walk_at "mget") ?_ rfl (by with_unfolding_all rfl))))
  trivial
theorem isInt_self (c : Int) (t : Tok) : Value.isInt c (.int c t) = true := by simp [Value.isInt]
noncomputable def escD (p : Params) : Array DictEntry := match (gen.heap_1 p).lookup 118 with | some ⟨_, _, .dict es _, _⟩ => es | _ => #[]
noncomputable def litInt (e : DictEntry) : Bool := match e.key with
  | .int k _ => e.hash == hashInt k
  | _ => false
theorem escD_at (p : Params) : (gen.heap_1 p).lookup 118 = some ⟨.type "dict", none, .dict (escD p) 24, #[]⟩ := by kernel_rfl
theorem escD_lit (p : Params) : (escD p).toList.all litInt = true := by kernel_rfl
theorem escD_keys (w : World) : KeysOf (intKind PR w) (escD w.params) := fun e he => by
  have hq := List.all_eq_true.mp (escD_lit w.params) e (Array.mem_toList_iff.mpr he)
  unfold litInt at hq
  split at hq
  · rename_i k t hk
    exact ⟨k, by rw [hk]; show Value.isInt k (.int k t) = true; simp [Value.isInt], eq_of_beq hq⟩
  · cases hq
theorem escD_map {w : World} {h : Heap} (X : (gen.heap_1 w.params).In h) : h.MapOf (intKind PR w) 118 (fun k => findBy Value.isInt (escD w.params) k) :=
  ⟨_, escD w.params, 24, X _ _ (escD_at w.params), ⟨rfl, rfl, rfl⟩, rfl, escD_keys w, fun _ => rfl⟩
theorem esc_look {w : World} {A : Around} {E : Value → Shared → Prop} {s : Shared} {c : Nat} {out : Str} {t : Tok} {Q : Builtin.Str.Mapped → Shared → Prop} (X : (gen.heap_1 w.params).In s.heap) (hv : findBy Value.isInt (escD w.params) (c : Int) = some (.str out t)) (h : ∀ tk, Q (.text out) { s with toks := tk }) :
    wpAny (model PR w) A (Builtin.Str.tableLookup (.ref 118) c) Q E s := by
  unfold Builtin.Str.tableLookup
  refine wpAny_bind (wpAny_attempt (wpAny_bind (wpAny_mkInt ?_)))
  refine wpAny_getItem_of (knd := intKind PR w) (k := (c : Int)) (isInt_self (c : Int) s.toks) (escD_map X) hv ?_
  obtain ⟨hp, g, d, tk, os⟩ := s
  repeat (any_goals (first | assumption | wp_step))
  exact h _
theorem translate_one {w : World} {A : Around} {E : Value → Shared → Prop} {s : Shared} {c : Nat} {out : Str} {t tx : Tok} {Q : Value → Shared → Prop} (X : (gen.heap_1 w.params).In s.heap) (hv : findBy Value.isInt (escD w.params) (c : Int) = some (.str out t)) (hc : c < 128) (ho : out.length = 2)
    (h : ∀ tk t', Q (.str out t') { s with toks := tk }) : wpAny (model PR w) A (call (.builtin "str.translate") [.str ⟨#[c]⟩ tx, .ref 118] []) Q E s := by
  refine wpAny_call_entry F.slot_str_translate (typeIs_str s ⟨#[c]⟩ tx) F.entry_str_translate ?_ (F.args_str_translate_2 _ _)
  obtain ⟨hp, g, d, tk, os⟩ := s
  unfold Builtin.«str.translate»
  refine wpAny_bind (wpAny_of_eq (a := (.str ⟨#[c]⟩ tx, ⟨#[c]⟩, .ref 118)) rfl ?_)
  dsimp only
  have hl : ((⟨#[c]⟩ : Str).length == 0) = false := rfl
  simp only [hl, Bool.false_eq_true, if_false]
  rw [← Array.forIn_toList]
  simp only [List.forIn_cons, List.forIn_nil]
  have e1 : Builtin.Str.tooLong 0 = false := by decide +kernel
  have e2 : (#[c].all fun x => decide (x < 128)) = true := by simp [hc]
  have e3 : List.lookup c ([] : List (Nat × Option Nat)) = none := rfl
  have e4 : (out.length == 1) = false := by rw [ho]; rfl
  simp only [e1, e2, e3, Bool.false_eq_true, if_false, if_true]
  refine wpAny_bind (wpAny_bind (wpAny_bind (esc_look X hv fun tk1 => ?_)))
  simp only [e4, Bool.false_and, Bool.false_eq_true, if_false]
  refine wpAny_bind (wpAny_pure ?_)
  dsimp only
  refine wpAny_bind (wpAny_rule ?_)
  refine wpAny_bind (esc_look X hv fun tk2 => ?_)
  dsimp only
  refine wpAny_pure ?_
  refine wpAny_pure ?_
  dsimp only
  have e5 : Builtin.Str.tooLong (0 + out.length) = false := by rw [ho]; decide +kernel
  have e6 : ({ cps := List.foldl (fun acc (p : Str) => acc ++ p.cps) #[] [out].reverse } : Str) = out := by
    show (⟨#[] ++ out.cps⟩ : Str) = out
    rw [Array.empty_append]
  rw [e5, e6]
  simp only [Bool.false_eq_true, if_false]
  unfold retStr
  exact wpAny_bind (wpAny_mkStr (wpAny_pure ⟨_, rfl, h _ _⟩) (fitsL (by lia)))
theorem esc_outs (p : Params) : (∃ t, findBy Value.isInt (escD p) (124 : Nat) = some (.str (Str.ofString "\\|") t)) ∧ (∃ t, findBy Value.isInt (escD p) (93 : Nat) = some (.str (Str.ofString "\\]") t)) ∧ (∃ t, findBy Value.isInt (escD p) (94 : Nat) = some (.str (Str.ofString "\\^") t)) ∧
    (∃ t, findBy Value.isInt (escD p) (45 : Nat) = some (.str (Str.ofString "\\-") t)) ∧ (∃ t, findBy Value.isInt (escD p) (10 : Nat) = some (.str (Str.ofString "\\\n") t)) :=
  ⟨⟨503, by kernel_rfl⟩, ⟨461, by kernel_rfl⟩, ⟨509, by kernel_rfl⟩, ⟨497, by kernel_rfl⟩, ⟨563, by kernel_rfl⟩⟩
/-- the signs that stand alone in a pattern -/
noncomputable def lone (c : Nat) : Bool := c == 124 || c == 93 || c == 94 || c == 45 || c == 10
noncomputable def escOf (c : Nat) : Str := ⟨#[92, c]⟩
theorem esc_out (p : Params) {c : Nat} (h : lone c = true) : ∃ t, findBy Value.isInt (escD p) (c : Int) = some (.str (escOf c) t) := by
  obtain ⟨h1, h2, h3, h4, h5⟩ := esc_outs p
  simp only [lone, Bool.or_eq_true, beq_iff_eq] at h
  rcases h with (((rfl | rfl) | rfl) | rfl) | rfl
  · exact h1
  · exact h2
  · exact h3
  · exact h4
  · exact h5
theorem translate_lone {w : World} {A : Around} {E : Value → Shared → Prop} {s : Shared} {c : Nat} {tx : Tok} {Q : Value → Shared → Prop} (X : (gen.heap_1 w.params).In s.heap) (hc : lone c = true)
    (h : ∀ tk t', Q (.str (escOf c) t') { s with toks := tk }) : wpAny (model PR w) A (call (.builtin "str.translate") [.str ⟨#[c]⟩ tx, .ref 118] []) Q E s := by
  obtain ⟨t, ht⟩ := esc_out w.params hc
  refine translate_one X ht ?_ rfl h
  simp only [lone, Bool.or_eq_true, beq_iff_eq] at hc
  lia
set_option maxRecDepth 100000 in
theorem getMethod_translate {M : Model} {A : Around} {E : Value → Shared → Prop} {s : Shared} {x : Str} {t : Tok} {pl : Sem Bool} {Q : Value × List Value → Shared → Prop} (h : Q (.builtin "str.translate", [.str x t]) s) : wpAny M A (getMethod (.str x t) (Str.ofString "translate") pl) Q E s :=
  getMethod_builtin (T := "str") (name := Str.ofString "translate") (id := "str.translate") (typeIs_str s x t) F.plainAttrs_str F.slot_str_translate F.type_str_translate (by intro _ e; cases e) h
theorem rg_Esc_1 : True := by
  k_with "getMethod str" => (k_dflt (refine getMethod_translate ?_))
  k_with "call builtin:str.translate" => ((k_dflt (refine' translate_lone (by exact Frag.In.keeps (by with_reducible assumption) (Fr.keep (by with_reducible assumption))) (by with_reducible assumption) ?_); intro _ _))
  trivial
set_option maxRecDepth 100000 in
set_option maxHeartbeats 4000000 in
theorem esc_walk {w : World} {s : Shared} {A : Around} {R : Result → Shared → Prop} (G : Gd w s.heap) (hA : Ar A 1 10) {c : Nat} {tx : Tok} (hc : lone c = true)
   (hR : ∀ h' tk t', s.heap.StaysIn h' → R (.ok (.ret (.str (escOf c) t'))) { s with heap := h', toks := tk }) :
   codeAny (model PR w) A (.call (.ref 128) ⟨[.str ⟨#[c]⟩ tx], []⟩) R s := by
  refine' call_fn (binds := [(Str.ofString "pattern", .str ⟨#[c]⟩ tx)]) G ?a ?b ?c ?d ?e ?f ?g ?h ?i ?j
  walk_at "sides"
  intro h₁ m hm F
  have k1 : m (Str.ofString "pattern") = some (.str ⟨#[c]⟩ tx) := by rw [hm]; rfl
  clear hm
  obtain ⟨p, loose, mean, mg, mb, T⟩ := G.T
  have X := G.K
  have N : News s.heap s.heap.objs.size h₁ [] := News.nil
  walk_at "go"
  exact hR _ _ _ (Fr.keep (by with_reducible assumption))
end Mine
theorem Mine.off_Lam : True := by w_top off; trivial
theorem Mine.rs_Lam {M : Model} {A : Around} {E : Value → Shared → Prop} {s : Shared} {Q : Flow → Shared → Prop} {p : Pos} {env : Env} (h : wpAny M A (exec (Stmt.Pass p) env) Q E s) : wpAny M A (exec (Stmt.Pass p) env) Q E s := by first | (walk1; fail) | exact h
namespace Mine
theorem reg_Lam : True := by
  k_with_none
  k_with "cj" => (first | with_reducible assumption | exact cj1 (by with_reducible assumption) | exact cj2 (by with_reducible assumption) | exact cj3 (by with_reducible assumption) | exact cj4 (by with_reducible assumption) | exact cj5 (by with_reducible assumption) | exact ce2 (by with_reducible assumption) | exact ce3 (by with_reducible assumption) | exact ce4 (by with_reducible assumption) | exact ce5 (by with_reducible assumption))
  k_with "ne1" => (refine neN ?_; first | with_reducible assumption | (refine Ne.symm ?_; with_reducible assumption) | walk_at "cj" | (refine Ne.symm ?_; walk_at "cj") | (refine Nat.ne_of_lt ?_; walk_at "cj") | (refine Nat.ne_of_gt ?_; walk_at "cj") | ((try dsimp only); omega))
  k_with "eval Constant int" => (refine r_int ?_)
  k_with "eval Constant str" => (refine r_str ?_)
  k_with "binaryOp Add int int" => (refine r_add ?_)
  k_with "binaryOp Sub int int" => (refine r_sub ?_)
  k_with "unaryOp USub int" => (refine r_neg ?_)
  k_with "inplaceOp Add int int" => (refine r_iadd ?_)
  k_with "eval Slice" => (refine r_slice ?_)
  k_with "SlQ" => (refine SlQ.go ?_)
  k_with "mget" => (first | with_reducible assumption | with_reducible exact upd_eq | ((with_reducible refine Eq.trans upd_eq ?_); rfl) | ((with_reducible refine upd_ne (by kernel_rfl) ?_); walk_at "mget") | (goal_lacks upd; first | exact if_pos rfl | (refine Eq.trans (if_neg (by decide)) ?_; walk_at "mget")))
  k_with "newTuple" => ((refine' r_tuple (by walk_at "asm") (by walk_at "asm") (by exact Nat.le_of_ble_eq_true rfl) ?_); intro _ _ _ _ _; walk_at "lt"; (try k_sweep))
  k_with "ite" => (first | with_reducible refine ite_tt ?_ | with_reducible refine ite_ff ?_ | (refine ite_pos (by with_reducible assumption) ?_) | (refine ite_neg (by refine ne_true_of_eq_false ?_; with_reducible assumption) ?_))
  k_with "tup" => (first | (refine News.isTup (by walk_at "asm") (by walk_at "mem")) | with_reducible assumption | (refine stays_tup (Fr.keep (by walk_at "asm")) (by walk_at "asm")))
  k_with "lst" => (first | (refine News.isList (by walk_at "asm") (by walk_at "mem")) | with_reducible assumption | (refine stays_list (Fr.keep (by walk_at "asm")) (by walk_at "asm")))
  k_with "off" => (first | exact List.forall_mem_nil _ | exact OwnOff.ne (by with_reducible assumption) (List.Mem.head _) | (refine List.forall_mem_cons.mpr ?_; refine And.intro ?_ ?_; (focus k_ne); (walk_at "off")))
  k_with "upd" => (first | (apply upd_hd; walk_at "off") | (apply upd_tl; (case hne => k_ne); (case hu => walk_at "upd")))
  k_with "RunTo" => ((first | refine NextTo.next (by with_reducible assumption) ?_ | refine NextTo.ret (by with_reducible assumption) ?_ | refine NextTo.brk (by with_reducible assumption) ?_ | refine NextTo.cont (by with_reducible assumption) ?_); (try dsimp only))
  k_with "go" => (repeat' (first | (k_unfold; (try dsimp only)) | walk1 | (dsimp only; walk1)))
  k_with "sides" => (((case b => (k_is)); (case c => (k_is)); (case a => (exact Ar.room (by assumption))); (case d => (exact BindsTo.of_eq rfl)); (case e => (exact locs rfl)); (case g => (rfl)); (case h => (rfl)); (case i => (rfl)); (case j => (decide))))
  k_with "mem" => (first | exact List.Mem.head _ | (refine' List.Mem.tail _ ?_; walk_at "mem"))
  k_with "units" => (first | exact Ar.units0 (by assumption) _ | exact Ar.unitsD (by assumption) (by decide) _)
  k_with "asm" => (with_reducible assumption)
  k_with "lt" => (((rename ∀ p ∈ _, (p : Addr × Obj).1 < _ => l9); (replace l9 := allLt_of l9); (dsimp only [AllLt] at l9)))
  k_with "ne" => (((rename ∀ p ∈ _, (p : Addr × Obj).1 ≠ _ => l9); (replace l9 := allNe_of l9); (dsimp only [AllNe] at l9)))
  k_with "storeName" => ((with_reducible refine' r_store (by walk_at "asm") (by walk_at "asm") (by kernel_rfl) ?_); intro _ _ _; (try k_sweep))
  k_with "exec While Compare cons nil" => (refine Halt.out ?_)
  k_with "exec While BoolOp cons nil" => (refine Halt.out ?_)
  k_with "exec While Constant cons nil" => (refine Halt.out ?_)
  k_with "exec While Name cons nil" => (refine Halt.out ?_)
  k_with "exec While" => (refine Halt.out ?_)
  k_with "execs cons" => (first | (refine execs_lastQ (fun tk => ?_)) | (refine execs_consQ (fun tk qk hqk => ?_)))
  k_with "newList" => (((refine' r_list (by walk_at "asm") (by walk_at "asm") (by exact Nat.le_of_ble_eq_true rfl) ?_); intro _ _ _ _ _; walk_at "lt"; (try k_sweep)))
  k_with "subscriptTail Name Slice str ref" => ((with_reducible first | refine' slice_ss5 (by walk_at "asm") (by walk_at "asm") (by with_reducible assumption) ?_ | refine' slice_sn5 (by walk_at "asm") (by walk_at "asm") (by with_reducible assumption) ?_); intro _ _ _ _ _; (try k_sweep))
  k_with "handled" => (first | exact Ar.hhD (by assumption) _ | exact Ar.hh (by assumption) | rfl)
  k_with "assign Tuple" => (((with_reducible show wpAny _ _ (assign (Expr.Tuple _ _ _) _ (Value.ref _)) _ _ _); k_dflt (refine' r_unpack (by walk_at "asm") (by walk_at "asm") (by walk_at "tup") (by walk_at "handled") rfl rfl ?_); intro _ _ _; (try k_sweep)))
  k_with "asz" => (k_dflt (first | exact aszL (by with_reducible assumption) | exact Nat.le_of_ble_eq_true rfl))
  k_with "call builtin:list.append" => (((with_reducible show wpAny _ _ (call (Value.builtin _) [Value.ref _, _]) _ _ _); (refine' r_append (by walk_at "asm") (by walk_at "asm") (by walk_at "upd") (by walk_at "asz") ?_); intro _ _ _; (try k_sweep)))
  k_with "sub" => ((intro _ hpK9; first | exact List.mem_of_mem_tail hpK9 | (simp only [List.mem_cons, List.mem_append] at hpK9 ⊢; grind)))
  k_with "exec For Tuple Name cons nil" => ((k_dflt (refine' wpAny_For ?_ (by intro _; rfl))))
  k_with "exec For Name Name cons nil" => ((k_dflt (refine' wpAny_For ?_ (by intro _; rfl))))
  k_with "exec For Name Call cons nil" => ((k_dflt (refine' wpAny_For ?_ (by intro _; rfl))))
  k_with "exec For Name List cons nil" => ((k_dflt (refine' wpAny_For ?_ (by intro _; rfl))))
  k_with "exec For Name Attribute cons nil" => ((k_dflt (refine' wpAny_For ?_ (by intro _; rfl))))
  k_with "pyIter ref" => (refine Halt.out ?_)
  k_with "subscriptTail Name Constant ref int" => (((with_reducible show wpAny _ _ (subscriptTail _ _ (Value.ref _) (Value.int _ _)) _ _ _); (refine' item_tupleL (by refine' News.isTup (by walk_at "asm") (by walk_at "mem")) (by decide) (by decide) rfl rfl ?_ (by with_unfolding_all rfl) (by intro _; with_unfolding_all rfl))))
  k_with "eval Name" => ((goal_lacks compEnvC; first | (with_reducible refine' nmK (by decide +kernel) (by walk_at "asm") (by walk_at "mget") ?_) | k_dflt (first | (goal_lacks envOf; refine' nameX_L (by walk_at "asm") (by walk_at "mget") ?_ rfl (by with_unfolding_all rfl) (by decide)) | (goal_lacks envOf; refine' nameX_C (by walk_at "asm") rfl (by walk_at "mem") (by walk_at "asm") ?_ rfl (by with_unfolding_all rfl) (by decide)) | (refine' nameX_K (by walk_at "asm") (by walk_at "asm") (by k_asm) (by k_is) ?_ rfl (by with_unfolding_all rfl) (by decide)) | (refine' nameX_B (by walk_at "asm") (by walk_at "asm") (by k_asm) (by k_is) (by boot_fast) (by decide) ?_ rfl (by with_unfolding_all rfl) (by decide)))))
  k_with "loadName" => ((first | (with_reducible refine' ldL (by walk_at "asm") (by walk_at "mget") (by kernel_rfl) ?_) | k_dflt (refine' ldX (by walk_at "asm") (by walk_at "mget") ?_ rfl (by with_unfolding_all rfl))))
  trivial
namespace Fre
set_option maxRecDepth 100000
theorem plain_match : PlainAttrs "re.Match" :=
  ⟨⟨"object.__getattribute__", by rw [typeLookup_type, builtinLookup_eq_fast]; kernel_rfl, by decide +kernel⟩, by rw [typeLookup_type, builtinLookup_eq_fast]; kernel_rfl⟩
theorem slot_group : Slot "re.Match" "group" "re.Match.group" :=
  .of (owner := "re.Match") (n := "group") (by rw [typeLookup_type, builtinLookup_eq_fast]; kernel_rfl) (by decide +kernel) (by decide +kernel) (by decide +kernel)
    (by first | exact .inl (by decide +kernel) | exact .inr (by decide +kernel)) (by rw [isSubtype_type]; kernel_rfl)
theorem type_group : typeOf (.builtin "re.Match.group") = pure (.type "method_descriptor") := by show builtinType _ = _; rw [builtinType_eq_fast]; kernel_rfl
theorem entry_sub : entryFor table "re.Pattern.sub" = some Builtin.«re.Pattern.sub» := entryFor_of_tree (by kernel_rfl)
theorem entry_loop : entryFor table "re.Pattern.sub.loop" = some Builtin.«re.Pattern.sub.loop» := entryFor_of_tree (by kernel_rfl)
end Fre
open PySem.W.X in
theorem x_endL {h₁ h : Heap} {g : Array GenState} {d : Drawn} {os : OsState} {t : Nat} {news : List (Addr × Obj)} {Q : Value → Shared → Prop} {x out : Str} {t' : Tok}
    (hQ : ∀ h' tk t', h₁.StaysIn h' → Q (.str out t') ⟨h', g, d, tk, os⟩) (D : Mem h₁ h [] news) (e : x = out) : Q (.str x t') ⟨h, g, d, t, os⟩ := e ▸ hQ _ _ _ (fun b o e => D.keep b o e (by simp [away]))
local macro_rules | `(tactic| x_close) => `(tactic| (refine' x_endL ?a (PySem.W.X.Mem.start _) ?c; (case a => assumption); (case c => kernel_rfl)))
noncomputable abbrev lamArgs : Arguments := { posonlyargs := [], args := [{ arg := "_m", annotation := none, pos := ⟨114, 46, 114, 48⟩ : PySem.Arg }], vararg := none, kwonlyargs := [], kw_defaults := [], kwarg := none, defaults := [] }
noncomputable abbrev lamBody : PySem.Expr := .BinOp (.Constant (.str "\\") 0 ⟨114, 50, 114, 54⟩) .Add (.BoolOp .Or [.Call (.Attribute (.Name "_m" ⟨114, 58, 114, 60⟩) "group" ⟨114, 58, 114, 66⟩) [.Constant (.int 1) 0 ⟨114, 67, 114, 68⟩] [] ⟨114, 58, 114, 69⟩, .Constant (.str "") 0 ⟨114, 73, 114, 75⟩] ⟨114, 58, 114, 75⟩) ⟨114, 50, 114, 76⟩
noncomputable abbrev lamScope : Scope := { kind := .function, names := [(Str.ofString "_m", .local)], isGenerator := false, isCoroutine := false, more := [] }
/-- a text in which `_twin_re_1` finds one sign, at b -/
inductive HitIn : Str → Nat → Nat → Prop
  | bar : HitIn (Str.ofString "|") 0 124
  | til : HitIn (Str.ofString "!~") 1 126
  | lf : HitIn (Str.ofString "~\n") 0 126
noncomputable abbrev matchObj (u : Str) (t t0 t1 t2 : Tok) (l : Int) (sp : Addr) : Obj := { cls := .type "re.Match", data := .fields #[.str u t, .ref 109, .int 0 t0, .int l t1, .int 1 t2, .ref sp] }
noncomputable abbrev spanObj (b : Int) (t3 t4 t5 t6 : Tok) : Obj := { cls := .type "tuple", data := .seq #[.int b t3, .int (b + 1) t4, .int b t5, .int (b + 1) t6] 0 }
open PySem.W.X in
set_option maxRecDepth 100000 in
set_option maxHeartbeats 4000000 in
theorem grp_x {w : World} {h : Heap} {g : Array GenState} {d : Drawn} {os : OsState} {tk : Nat} {A : Around} {mo sp : Addr} {u : Str} {b c : Nat} {l : Int} {t tn t0 t1 t2 t3 t4 t5 t6 : Tok} {Q : Value → Shared → Prop} {E : Value → Shared → Prop} (G : Gd w h) (hA : A.handled = none) (hd : A.depth ≤ 400) (hu : A.units ≤ 4000)
   (hit : HitIn u b c) (hm : h.get? mo = some (matchObj u t t0 t1 t2 l sp)) (hs : h.get? sp = some (spanObj b t3 t4 t5 t6))
   (hQ : ∀ h' tk t', h.StaysIn h' → Q (.str ⟨#[c]⟩ t') ⟨h', g, d, tk, os⟩) :
   wpAny (model PR w) A (call (.builtin "re.Match.group") [.ref mo, .int 1 tn] []) Q E ⟨h, g, d, tk, os⟩ := by
  have X := G.K
  cases hit with
  | bar =>
    have hm : h.get? mo = some { cls := .type "re.Match", data := .fields #[.str (Str.ofString "|") t, .ref 109, .int 0 t0, .int l t1, .int 1 t2, .ref sp] } := hm
    have hs : h.get? sp = some { cls := .type "tuple", data := .seq #[.int 0 t3, .int 1 t4, .int 0 t5, .int 1 t6] 0 } := hs
    x_run
  | til =>
    have hm : h.get? mo = some { cls := .type "re.Match", data := .fields #[.str (Str.ofString "!~") t, .ref 109, .int 0 t0, .int l t1, .int 1 t2, .ref sp] } := hm
    have hs : h.get? sp = some { cls := .type "tuple", data := .seq #[.int 1 t3, .int 2 t4, .int 1 t5, .int 2 t6] 0 } := hs
    x_run
  | lf =>
    have hm : h.get? mo = some { cls := .type "re.Match", data := .fields #[.str (Str.ofString "~\n") t, .ref 109, .int 0 t0, .int l t1, .int 1 t2, .ref sp] } := hm
    have hs : h.get? sp = some { cls := .type "tuple", data := .seq #[.int 0 t3, .int 1 t4, .int 0 t5, .int 1 t6] 0 } := hs
    x_run
theorem grp_K {w : World} {A : Around} {E : Value → Shared → Prop} {s : Shared} {h₀ : Heap} {L : Addr} {m : Str → Option Value} {news : List (Addr × Obj)} {mo sp : Addr} {u : Str} {b c : Nat} {l : Int} {t tn t0 t1 t2 t3 t4 t5 t6 : Tok} {Q : Value → Shared → Prop} (F : Fr h₀ L s.heap m) (N : News h₀ L s.heap news) (G : Gd w h₀) (hA : A.handled = none) (hd : A.depth ≤ 400) (hu : A.units ≤ 4000)
   (hit : HitIn u b c) (hm : h₀.get? mo = some (matchObj u t t0 t1 t2 l sp)) (hs : h₀.get? sp = some (spanObj b t3 t4 t5 t6))
   (hQ : ∀ h' tk t', Fr h₀ L h' m → News h₀ L h' news → Q (.str ⟨#[c]⟩ t') { s with heap := h', toks := tk }) :
   wpAny (model PR w) A (call (.builtin "re.Match.group") [.ref mo, .int 1 tn] []) Q E s := by
  obtain ⟨hh, g, d, tk, os⟩ := s
  exact grp_x (G.keeps F.keep) hA hd hu hit (F.keep _ _ hm) (F.keep _ _ hs) fun h' tk t' hk => hQ h' tk t' (stayF F hk) (stayN N hk)
theorem getMethod_group {M : Model} {A : Around} {E : Value → Shared → Prop} {s : Shared} {h₀ : Heap} {L : Addr} {m : Str → Option Value} {mo sp : Addr} {u : Str} {l : Int} {t t0 t1 t2 : Tok} {pl : Sem Bool} {Q : Value × List Value → Shared → Prop} (F : Fr h₀ L s.heap m) (hm : h₀.get? mo = some (matchObj u t t0 t1 t2 l sp)) (h : Q (.builtin "re.Match.group", [.ref mo]) s) : wpAny M A (getMethod (.ref mo) (Str.ofString "group") pl) Q E s :=
  getMethod_builtin (T := "re.Match") (name := Str.ofString "group") (id := "re.Match.group") ⟨_, F.keep _ _ hm, rfl⟩ Fre.plain_match Fre.slot_group Fre.type_group (by intro _ e; cases e; exact ⟨_, F.keep _ _ hm, rfl⟩) h
theorem Ar.dep4 {A : Around} {d u : Nat} (h : Ar A d u) (hd : 520 ≤ d) (env : Env) : (A.deeper env).depth ≤ 400 := by have := h.hd; show A.depth + 1 ≤ 400; lia
theorem Ar.uni4 {A : Around} {d u : Nat} (h : Ar A d u) (hu : 6500 ≤ u) (env : Env) : (A.deeper env).units ≤ 4000 := by have := h.hu; show A.units + 3 ≤ 4000; lia
theorem rg_Lam_1 : True := by
  k_with "getMethod ref" => (k_dflt (refine' getMethod_group (by walk_at "asm") (by with_reducible assumption) ?_))
  k_with "call builtin:re.Match.group" => ((k_dflt (refine' grp_K (by walk_at "asm") (by walk_at "asm") (by with_reducible assumption) (by walk_at "handled") (by exact Ar.dep4 (by with_reducible assumption) (by decide) _) (by exact Ar.uni4 (by with_reducible assumption) (by decide) _) (by with_reducible assumption) (by with_reducible assumption) (by with_reducible assumption) ?_); intro _ _ _ _ _; (try k_sweep)))
  trivial
set_option maxRecDepth 100000 in
set_option maxHeartbeats 4000000 in
theorem lam_walk {w : World} {A : Around} {s : Shared} {R : Result → Shared → Prop} {f c' mo sp : Addr} {u : Str} {b c : Nat} {l : Int} {t t0 t1 t2 t3 t4 t5 t6 : Tok} {pm ctv : Value} (G : Gd w s.heap) (hA : Ar A 530 6500)
   (hf : s.heap.get? f = some (kla_obj "<lambda>" "_translate.<locals>.<lambda>" lamArgs lamBody lamScope [] pm c' ctv)) (hcd : s.heap.CodeRec (.ref c') "_translate.<locals>.<lambda>")
   (hit : HitIn u b c) (hm : s.heap.get? mo = some (matchObj u t t0 t1 t2 l sp)) (hs : s.heap.get? sp = some (spanObj b t3 t4 t5 t6))
   (hR : ∀ h' tk t', s.heap.StaysIn h' → R (.ok (.ret (.str ⟨#[92, c]⟩ t'))) { s with heap := h', toks := tk }) :
   codeAny (model PR w) A (.call (.ref f) ⟨[.ref mo], []⟩) R s := by
  refine kla_callFunE (Ar.room hA) hf rfl rfl rfl rfl hcd ?_
  rw [show bindArgs (kla_fn "<lambda>" "_translate.<locals>.<lambda>" lamArgs lamBody lamScope [] pm (.ref c') ctv) ⟨[.ref mo], []⟩ = pure [(Str.ofString "_m", .ref mo)] from rfl]
  refine wpAny_pure (wpAny_newFunctionEnv (scope := lamScope) (by decide) (locs rfl) (fun h₁ hns hsb => ?_) rfl)
  have hk₁ : ∀ b o, s.heap.get? b = some o → h₁.get? b = some o := fun b o e => hsb.extBut b o (Nat.ne_of_lt (Heap.lt_size e)) (Heap.get?_push_of_some _ e)
  refine ⟨G.nolimit.keeps hk₁, ?_⟩
  show codeAny _ _ (.expr lamBody (envX "_translate.<locals>.<lambda>" lamScope s.heap.objs.size f (.ref c') [])) _ _
  obtain ⟨m, hm0, F⟩ : ∃ m : Str → Option Value, m (Str.ofString "_m") = some (.ref mo) ∧ Fr s.heap s.heap.objs.size h₁ m := ⟨_, rfl, ⟨hns, hk₁, Nat.le_refl _⟩⟩
  have N : News s.heap s.heap.objs.size h₁ [] := News.nil
  refine kla_codeExpr ?_
  obtain ⟨p, loose, mean, mg, mb, T⟩ := G.T
  have X := G.K
  clear hns hsb hk₁ hf hcd
  walk_at "go"
  · exact hR _ _ _ (Fr.keep (by with_reducible assumption))
  · rename ((Str.length _ : Nat) : Int) = 0 => hz; exact absurd hz (by show ¬ ((1 : Nat) : Int) = 0; decide)
end Mine
theorem Mine.off_SubL : True := by w_top off; trivial
theorem Mine.rs_SubL {M : Model} {A : Around} {E : Value → Shared → Prop} {s : Shared} {Q : Flow → Shared → Prop} {p : Pos} {env : Env} (h : wpAny M A (exec (Stmt.Pass p) env) Q E s) : wpAny M A (exec (Stmt.Pass p) env) Q E s := by first | (walk1; fail) | exact h
namespace Mine
theorem reg_SubL : True := by
  k_with_none
  k_with "cj" => (first | with_reducible assumption | exact cj1 (by with_reducible assumption) | exact cj2 (by with_reducible assumption) | exact cj3 (by with_reducible assumption) | exact cj4 (by with_reducible assumption) | exact cj5 (by with_reducible assumption) | exact ce2 (by with_reducible assumption) | exact ce3 (by with_reducible assumption) | exact ce4 (by with_reducible assumption) | exact ce5 (by with_reducible assumption))
  k_with "ne1" => (refine neN ?_; first | with_reducible assumption | (refine Ne.symm ?_; with_reducible assumption) | walk_at "cj" | (refine Ne.symm ?_; walk_at "cj") | (refine Nat.ne_of_lt ?_; walk_at "cj") | (refine Nat.ne_of_gt ?_; walk_at "cj") | ((try dsimp only); omega))
  k_with "eval Constant int" => (refine r_int ?_)
  k_with "eval Constant str" => (refine r_str ?_)
  k_with "binaryOp Add int int" => (refine r_add ?_)
  k_with "binaryOp Sub int int" => (refine r_sub ?_)
  k_with "unaryOp USub int" => (refine r_neg ?_)
  k_with "inplaceOp Add int int" => (refine r_iadd ?_)
  k_with "eval Slice" => (refine r_slice ?_)
  k_with "SlQ" => (refine SlQ.go ?_)
  k_with "mget" => (first | with_reducible assumption | with_reducible exact upd_eq | ((with_reducible refine Eq.trans upd_eq ?_); rfl) | ((with_reducible refine upd_ne (by kernel_rfl) ?_); walk_at "mget") | (goal_lacks upd; first | exact if_pos rfl | (refine Eq.trans (if_neg (by decide)) ?_; walk_at "mget")))
  k_with "newTuple" => ((refine' r_tuple (by walk_at "asm") (by walk_at "asm") (by exact Nat.le_of_ble_eq_true rfl) ?_); intro _ _ _ _ _; walk_at "lt"; (try k_sweep))
  k_with "ite" => (first | with_reducible refine ite_tt ?_ | with_reducible refine ite_ff ?_ | (refine ite_pos (by with_reducible assumption) ?_) | (refine ite_neg (by refine ne_true_of_eq_false ?_; with_reducible assumption) ?_))
  k_with "tup" => (first | (refine News.isTup (by walk_at "asm") (by walk_at "mem")) | with_reducible assumption | (refine stays_tup (Fr.keep (by walk_at "asm")) (by walk_at "asm")))
  k_with "lst" => (first | (refine News.isList (by walk_at "asm") (by walk_at "mem")) | with_reducible assumption | (refine stays_list (Fr.keep (by walk_at "asm")) (by walk_at "asm")))
  k_with "off" => (first | exact List.forall_mem_nil _ | exact OwnOff.ne (by with_reducible assumption) (List.Mem.head _) | (refine List.forall_mem_cons.mpr ?_; refine And.intro ?_ ?_; (focus k_ne); (walk_at "off")))
  k_with "upd" => (first | (apply upd_hd; walk_at "off") | (apply upd_tl; (case hne => k_ne); (case hu => walk_at "upd")))
  k_with "RunTo" => ((first | refine NextTo.next (by with_reducible assumption) ?_ | refine NextTo.ret (by with_reducible assumption) ?_ | refine NextTo.brk (by with_reducible assumption) ?_ | refine NextTo.cont (by with_reducible assumption) ?_); (try dsimp only))
  k_with "go" => (repeat' (first | (k_unfold; (try dsimp only)) | walk1 | (dsimp only; walk1)))
  k_with "sides" => (((case b => (k_is)); (case c => (k_is)); (case a => (exact Ar.room (by assumption))); (case d => (exact BindsTo.of_eq rfl)); (case e => (exact locs rfl)); (case g => (rfl)); (case h => (rfl)); (case i => (rfl)); (case j => (decide))))
  k_with "mem" => (first | exact List.Mem.head _ | (refine' List.Mem.tail _ ?_; walk_at "mem"))
  k_with "units" => (first | exact Ar.units0 (by assumption) _ | exact Ar.unitsD (by assumption) (by decide) _)
  k_with "asm" => (with_reducible assumption)
  k_with "lt" => (((rename ∀ p ∈ _, (p : Addr × Obj).1 < _ => l9); (replace l9 := allLt_of l9); (dsimp only [AllLt] at l9)))
  k_with "ne" => (((rename ∀ p ∈ _, (p : Addr × Obj).1 ≠ _ => l9); (replace l9 := allNe_of l9); (dsimp only [AllNe] at l9)))
  k_with "storeName" => ((with_reducible refine' r_store (by walk_at "asm") (by walk_at "asm") (by kernel_rfl) ?_); intro _ _ _; (try k_sweep))
  k_with "exec While Compare cons nil" => (refine Halt.out ?_)
  k_with "exec While BoolOp cons nil" => (refine Halt.out ?_)
  k_with "exec While Constant cons nil" => (refine Halt.out ?_)
  k_with "exec While Name cons nil" => (refine Halt.out ?_)
  k_with "exec While" => (refine Halt.out ?_)
  k_with "execs cons" => (first | (refine execs_lastQ (fun tk => ?_)) | (refine execs_consQ (fun tk qk hqk => ?_)))
  k_with "newList" => (((refine' r_list (by walk_at "asm") (by walk_at "asm") (by exact Nat.le_of_ble_eq_true rfl) ?_); intro _ _ _ _ _; walk_at "lt"; (try k_sweep)))
  k_with "subscriptTail Name Slice str ref" => ((with_reducible first | refine' slice_ss5 (by walk_at "asm") (by walk_at "asm") (by with_reducible assumption) ?_ | refine' slice_sn5 (by walk_at "asm") (by walk_at "asm") (by with_reducible assumption) ?_); intro _ _ _ _ _; (try k_sweep))
  k_with "handled" => (first | exact Ar.hhD (by assumption) _ | exact Ar.hh (by assumption) | rfl)
  k_with "assign Tuple" => (((with_reducible show wpAny _ _ (assign (Expr.Tuple _ _ _) _ (Value.ref _)) _ _ _); k_dflt (refine' r_unpack (by walk_at "asm") (by walk_at "asm") (by walk_at "tup") (by walk_at "handled") rfl rfl ?_); intro _ _ _; (try k_sweep)))
  k_with "asz" => (k_dflt (first | exact aszL (by with_reducible assumption) | exact Nat.le_of_ble_eq_true rfl))
  k_with "call builtin:list.append" => (((with_reducible show wpAny _ _ (call (Value.builtin _) [Value.ref _, _]) _ _ _); (refine' r_append (by walk_at "asm") (by walk_at "asm") (by walk_at "upd") (by walk_at "asz") ?_); intro _ _ _; (try k_sweep)))
  k_with "sub" => ((intro _ hpK9; first | exact List.mem_of_mem_tail hpK9 | (simp only [List.mem_cons, List.mem_append] at hpK9 ⊢; grind)))
  k_with "exec For Tuple Name cons nil" => ((k_dflt (refine' wpAny_For ?_ (by intro _; rfl))))
  k_with "exec For Name Name cons nil" => ((k_dflt (refine' wpAny_For ?_ (by intro _; rfl))))
  k_with "exec For Name Call cons nil" => ((k_dflt (refine' wpAny_For ?_ (by intro _; rfl))))
  k_with "exec For Name List cons nil" => ((k_dflt (refine' wpAny_For ?_ (by intro _; rfl))))
  k_with "exec For Name Attribute cons nil" => ((k_dflt (refine' wpAny_For ?_ (by intro _; rfl))))
  k_with "pyIter ref" => (refine Halt.out ?_)
  k_with "subscriptTail Name Constant ref int" => (((with_reducible show wpAny _ _ (subscriptTail _ _ (Value.ref _) (Value.int _ _)) _ _ _); (refine' item_tupleL (by refine' News.isTup (by walk_at "asm") (by walk_at "mem")) (by decide) (by decide) rfl rfl ?_ (by with_unfolding_all rfl) (by intro _; with_unfolding_all rfl))))
  k_with "eval Name" => ((goal_lacks compEnvC; first | (with_reducible refine' nmK (by decide +kernel) (by walk_at "asm") (by walk_at "mget") ?_) | k_dflt (first | (goal_lacks envOf; refine' nameX_L (by walk_at "asm") (by walk_at "mget") ?_ rfl (by with_unfolding_all rfl) (by decide)) | (goal_lacks envOf; refine' nameX_C (by walk_at "asm") rfl (by walk_at "mem") (by walk_at "asm") ?_ rfl (by with_unfolding_all rfl) (by decide)) | (refine' nameX_K (by walk_at "asm") (by walk_at "asm") (by k_asm) (by k_is) ?_ rfl (by with_unfolding_all rfl) (by decide)) | (refine' nameX_B (by walk_at "asm") (by walk_at "asm") (by k_asm) (by k_is) (by boot_fast) (by decide) ?_ rfl (by with_unfolding_all rfl) (by decide)))))
  k_with "loadName" => ((first | (with_reducible refine' ldL (by walk_at "asm") (by walk_at "mget") (by kernel_rfl) ?_) | k_dflt (refine' ldX (by walk_at "asm") (by walk_at "mget") ?_ rfl (by with_unfolding_all rfl))))
  trivial
open PySem.Builtin.Re in
noncomputable def skim {α : Type} : Sem α → Option α
  | .pure a => some a
  | .rule _ k => skim (k ())
  | _ => none
theorem wpAny_skim {α : Type} {M : Model} {A : Around} {E : Value → Shared → Prop} {s : Shared} {Q : α → Shared → Prop} {a : α} (m : Sem α) (h : skim m = some a) (hQ : Q a s) : wpAny M A m Q E s := by
  induction m with
  | pure b => cases h; exact wpAny_pure hQ
  | rule tag k ih => exact fun Γ p hΓ => ih () h Γ p hΓ
  | _ => cases h
noncomputable def twinCode : Array Nat := #[14, 14, 4, 1, 1, 9, 0, 64, 0, 1342177280, 0, 0, 0, 0, 0, 17, 0, 13, 11, 9, 0, 64, 0, 1342177280, 0, 0, 0, 0, 0, 17, 1, 1]
noncomputable abbrev tgt (u : Str) (t : Tok) : Builtin.Re.ReTarget := { pattern := .ref 109, string := .str u t, code := twinCode, text := u.cps, kind := 0, groups := 1, pos := 0, lim := u.cps.size }
noncomputable abbrev twinFs : Array Value := #[.str (Str.ofString "([&~|])") 390, .int 32 425, .int 1 0, .none, .none, .ref 108, .int 0 0]
noncomputable def twinI (p : Params) : Array Value := match (gen.heap_1 p).lookup 108 with | some ⟨_, _, .seq vs _, _⟩ => vs | _ => #[]
theorem twin_at (p : Params) : (gen.heap_1 p).lookup 109 = some ⟨.type "re.Pattern", none, .fields twinFs, #[]⟩ := by kernel_rfl
theorem twin_items (p : Params) : (gen.heap_1 p).lookup 108 = some ⟨.type "tuple", none, .seq (twinI p) 0, #[]⟩ := by kernel_rfl
theorem twin_code (p : Params) : ((twinI p).map Builtin.Re.reRawOf).map (·.toNat) = twinCode := by kernel_rfl
theorem whole_twin {w : World} {A : Around} {E : Value → Shared → Prop} {s : Shared} {u : Str} {t : Tok} {Q : Builtin.Re.ReTarget → Shared → Prop} (X : (gen.heap_1 w.params).In s.heap) (h : Q (tgt u t) s) :
    wpAny (model PR w) A (Builtin.Re.reWholeTarget (.ref 109) (.str u t)) Q E s := by
  unfold Builtin.Re.reWholeTarget
  refine wpAny_bind (wpAny_fieldsOf (X _ _ (twin_at w.params)) rfl ?_)
  refine wpAny_bind (wpAny_of_eq (a := (u.cps, 0)) rfl ?_)
  dsimp only
  rw [show twinFs.getD 5 .none = .ref 108 from rfl, show twinFs.getD 2 .none = .int 1 0 from rfl, show twinFs.getD 6 .none = .int 0 0 from rfl]
  have g1 : (Builtin.Re.reRawNat (.int 0 0) == 0 && (0 : Nat) == 1) = false := rfl
  have g2 : (Builtin.Re.reRawNat (.int 0 0) == 1 && (0 : Nat) == 0) = false := rfl
  have g3 : Builtin.Re.reNoCollectionInside (.str u t) 0 = pure () := rfl
  simp only [g1, g2, g3, Bool.false_eq_true, if_false]
  refine wpAny_bind (wpAny_pure ?_)
  unfold Builtin.Re.reRawItems
  refine wpAny_bind (wpAny_bind (wpAny_seqItems (X _ _ (twin_items w.params)) rfl (wpAny_pure ?_)))
  refine wpAny_pure ?_
  have : (Array.map Builtin.Re.reRawOf ((some (twinI w.params)).getD #[])).map (·.toNat) = twinCode := twin_code w.params
  rw [this]
  exact h
theorem push_list {M : Model} {A : Around} {E : Value → Shared → Prop} {s : Shared} {l : Addr} {its : Array Value} {n : Nat} {v : Value} {Q : Unit → Shared → Prop} (hl : s.heap.get? l = some (listOf its n))
    (hQ : ∀ h', h'.get? l = some (listOf (its.push v) (n + 1)) → Heap.SameBut l s.heap h' → Q () { s with heap := h' }) (hsz : its.size ≤ sizeLine) : wpAny M A (updateSeq l (·.push v)) Q E s := by
  refine wpAny_updateSeq hl rfl (hQ _ ?_ (Heap.SameBut.update ..)) hsz (by rw [Array.size_push]; lia)
  have e := Heap.get?_update_self (Obj.mapSeq fun x => x.push v) hl (by rfl)
  rw [e]
  have hne : ((its.push v).size == its.size) = false := by rw [beq_eq_false_iff_ne, Array.size_push]; lia
  show some ({ cls := .type "list", data := .seq (its.push v) (if ((its.push v).size == its.size) = true then n else n + 1) } : Obj) = _
  rw [hne]; rfl
/-- the engine's one find -/
noncomputable def foundAt (u : Str) (b : Nat) : Bool := match skim (Builtin.Re.reNextFound (tgt u 0) 0 false) with
  | some (some m) => m.start == b && m.handed == b + 1 && m.lastmark == 1 && m.lastindex == 1 && m.marks.getD 0 none == some b && m.marks.getD 1 none == some (b + 1)
  | _ => false
noncomputable def foundEnd (u : Str) (p : Nat) : Bool := match skim (Builtin.Re.reNextFound (tgt u 0) p false) with
  | some none => true
  | _ => false
set_option maxRecDepth 100000 in
theorem found_hit {u : Str} {b c : Nat} (hit : HitIn u b c) : foundAt u b = true ∧ foundEnd u (b + 1) = true := by
  cases hit <;> exact ⟨by decide +kernel, by decide +kernel⟩
theorem next_hit {M : Model} {A : Around} {E : Value → Shared → Prop} {s : Shared} {u : Str} {b : Nat} {t : Tok} {Q : Option PySem.Sre.M → Shared → Prop} (hf : foundAt u b = true)
    (h : ∀ m : PySem.Sre.M, m.start = b → m.handed = b + 1 → m.lastmark = 1 → m.lastindex = 1 → m.marks.getD 0 none = some b → m.marks.getD 1 none = some (b + 1) → Q (some m) s) :
    wpAny M A (Builtin.Re.reNextFound (tgt u t) 0 false) Q E s := by
  unfold foundAt at hf
  split at hf
  · rename_i m hm
    simp only [Bool.and_eq_true, beq_iff_eq] at hf
    obtain ⟨⟨⟨⟨⟨h1, h2⟩, h3⟩, h4⟩, h5⟩, h6⟩ := hf
    exact wpAny_skim _ hm (h m h1 h2 h3 h4 h5 h6)
  · cases hf
theorem next_end {M : Model} {A : Around} {E : Value → Shared → Prop} {s : Shared} {u : Str} {p : Nat} {t : Tok} {Q : Option PySem.Sre.M → Shared → Prop} (hf : foundEnd u p = true) (h : Q none s) :
    wpAny M A (Builtin.Re.reNextFound (tgt u t) p false) Q E s := by
  unfold foundEnd at hf
  split at hf
  · rename_i hm
    exact wpAny_skim _ hm h
  · cases hf
theorem new_match {M : Model} {A : Around} {E : Value → Shared → Prop} {s : Shared} {u : Str} {b l : Nat} {t : Tok} {Q : Value → Shared → Prop} {m : PySem.Sre.M} (h1 : m.start = b) (h2 : m.handed = b + 1) (h3 : m.lastmark = 1) (h4 : m.lastindex = 1) (h5 : m.marks.getD 0 none = some b) (h6 : m.marks.getD 1 none = some (b + 1))
    (h : ∀ mo sp h' t0 t1 t2 t3 t4 t5 t6, s.heap.StaysIn h' → s.heap.get? mo = none → s.heap.get? sp = none → h'.get? mo = some (matchObj u t t0 t1 t2 l sp) → h'.get? sp = some (spanObj b t3 t4 t5 t6) → Q (.ref mo) { s with heap := h' }) :
    wpAny M A (Builtin.Re.reNewMatch (.ref 109) (.str u t) 1 0 l m) Q E s := by
  unfold Builtin.Re.reNewMatch
  have e1 : (List.range 1) = [0] := rfl
  simp only [e1, List.flatMap_cons, List.flatMap_nil, List.any_cons, List.any_nil, Nat.mul_zero, Nat.zero_add, h1, h2, h3, h4, h5, h6]
  have e2 : decide (b + 1 < b) = false := by simp
  simp only [e2, Bool.and_false, Bool.or_false, Bool.false_eq_true, if_false]
  refine wpAny_bind (wpAny_newTuple ?_ (Nat.le_of_ble_eq_true rfl))
  simp only [show (((1 : Nat) : Int) ≤ 1) from by decide, if_true, List.append_nil]
  unfold newFields
  refine wpAny_newObj_type ?_ (Nat.le_of_ble_eq_true rfl)
  exact h _ s.heap.objs.size _ _ _ _ _ _ _ _ (fun b o e => Heap.get?_push_of_some _ (Heap.get?_push_of_some _ e)) (Heap.get?_none_of_le (by rw [Heap.size_push]; lia)) (Heap.get?_none_of_le (Nat.le_refl _)) (Heap.get?_push_size _ rfl) (Heap.get?_push_of_some _ (Heap.get?_push_size _ rfl))
theorem slice_K {M : Model} {A : Around} {E : Value → Shared → Prop} {s : Shared} {Q : Value → Shared → Prop} {text : Array Nat} {b e : Nat} (hz : text.size ≤ 100000) (h : ∀ t', Q (.str ⟨text.extract b e⟩ t') { s with toks := s.toks + 1 }) :
    wpAny M A (Builtin.Re.reSlice text 0 b e) Q E s := by
  show wpAny M A (mkStr ⟨text.extract b e⟩) Q E s
  exact wpAny_mkStr (h _) (fitsL (by show (text.extract b e).size ≤ _; rw [Array.size_extract]; omega))
theorem tail_K {w : World} {A : Around} {E : Value → Shared → Prop} {s : Shared} {Q : Fin → Shared → Prop} {a : Addr} {text : Array Nat} {n : Nat} {its : Array Value} {ys : List Str} (hz : text.size ≤ 100000)
   (ha : s.heap.get? a = some (listOf its n)) (hy : StrsAre its.toList ys) (hne : ys ≠ []) (hw : (ys.map (·.length)).sum + ys.length ≤ 1048576)
   (h : ∀ tk t', Q (.done (.ret (.str (Txt.join Str.empty ys) t'))) { s with toks := tk }) :
   wpAny (model PR w) A (do
      let joiner ← Builtin.Re.reSlice text 0 0 0
      let __do_lift ← seqItems? (Value.ref a)
      if (__do_lift.getD #[]).isEmpty = true then do
          let __do_lift ← pure joiner
          ret __do_lift
        else do
          let __do_lift ← call (Value.builtin (if (0 == 0) = true then "str.join" else "bytes.join")) [joiner, Value.ref a]
          ret __do_lift) Q E s := by
  refine wpAny_bind (slice_K hz fun t1 => ?_)
  refine wpAny_bind (wpAny_seqItems ha rfl ?_)
  have e1 : (⟨text.extract 0 0⟩ : Str) = Str.empty := by simp [Str.empty]
  have e2 : ((some its).getD #[]).isEmpty = false := by
    cases hc : its.toList with
    | nil => rw [hc] at hy; cases hy; exact absurd rfl hne
    | cons x l => show its.isEmpty = false; rw [Array.isEmpty_eq_false_iff]; intro e; rw [e] at hc; cases hc
  rw [e1, e2, if_neg Bool.false_ne_true]
  refine wpAny_bind (join_listW ⟨_, ha, rfl, _, rfl⟩ hy (by decide) hw fun t2 k2 => ?_)
  exact wpAny_pure (h _ _)
theorem strs_snoc {vs : List Value} {ys : List Str} (h : StrsAre vs ys) (y : Str) (t : Tok) : StrsAre (vs ++ [.str y t]) (ys ++ [y]) := by
  induction h with
  | nil => exact .cons y t .nil
  | cons z t' _ ih => exact .cons z t' ih
theorem loop_end {w : World} {A : Around} {s : Shared} {R : Result → Shared → Prop} {f a : Addr} {u : Str} {p n : Nat} {k : Int} {t : Tok} {its : Array Value} {ys : List Str} (X : (gen.heap_1 w.params).In s.heap) (hf : foundEnd u p = true) (hu : u.cps.size ≤ 4)
   (ha : s.heap.get? a = some (listOf its n)) (hy : StrsAre its.toList ys) (hne : p < u.cps.size ∨ ys ≠ []) (hl : ys.length ≤ 2) (hw : ∀ y ∈ ys, y.length ≤ 4)
   (hR : ∀ h' tk t', Heap.SameBut a s.heap h' → R (.ok (.ret (.str (Txt.join Str.empty (if p < u.cps.size then ys ++ [⟨u.cps.extract p u.cps.size⟩] else ys)) t'))) { s with heap := h', toks := tk }) :
   codeAny (model PR w) A (.builtin "re.Pattern.sub.loop" ⟨[.ref 109, .str u t, .ref f, rawInt 1, rawInt 0, rawInt k, rawInt ((p : Nat) : Int), rawInt ((p : Nat) : Int), .bool false, .ref a, .bool false], []⟩) R s := by
  refine codeAny_builtin Fre.entry_loop ?_
  unfold Builtin.«re.Pattern.sub.loop» rawInt
  dsimp only
  refine wpAny_bind (whole_twin X ?_)
  have g1 : ((1 : Int) == 0) = false := rfl
  have g2 : ((0 : Int) != 0 && decide (k ≥ 0)) = false := rfl
  simp only [g1, g2, Bool.false_eq_true, if_false, Int.toNat_natCast]
  refine wpAny_bind (next_end hf ?_)
  dsimp only
  have sumOk : ∀ zs : List Str, zs.length ≤ 3 → (∀ y ∈ zs, y.length ≤ 4) → (zs.map (·.length)).sum + zs.length ≤ 1048576 := by
    intro zs h1 h2
    have : (zs.map (·.length)).sum ≤ zs.length * 4 := by
      clear h1
      induction zs with
      | nil => exact Nat.zero_le _
      | cons z zs ih =>
        have := ih fun y hy => h2 y (.tail _ hy)
        have := h2 z (.head _)
        simp only [List.map_cons, List.sum_cons, List.length_cons]; lia
    lia
  by_cases hb : p < u.cps.size
  · rw [if_pos hb]; rw [if_pos hb] at hR
    refine wpAny_bind (slice_K (by lia) fun t1 => ?_)
    refine wpAny_bind (push_list ha (fun h' e1 e2 => ?_) (fitsL ?_))
    · exact tail_K (by lia) e1 (by rw [Array.toList_push]; exact strs_snoc hy _ _) (by simp) (sumOk _ (by simp; lia) (fun y hm => by
        rcases List.mem_append.mp hm with hm | hm
        · exact hw y hm
        · rw [List.mem_singleton.mp hm]; show (u.cps.extract _ _).size ≤ 4; rw [Array.size_extract]; lia)) fun tk t' => hR _ _ _ e2
    · have := hy.length; rw [Array.length_toList] at this; lia
  · rw [if_neg hb]; rw [if_neg hb] at hR
    exact tail_K (by lia) ha hy (hne.resolve_left hb) (sumOk _ (by lia) hw) fun tk t' => hR _ _ _ (Heap.SameBut.refl _ _)
noncomputable def subOut (u : Str) (b c : Nat) : Str := ⟨u.cps.extract 0 b ++ #[92, c] ++ u.cps.extract (b + 1) u.cps.size⟩
theorem Ar.underLoop {A : Around} {d u : Nat} {args : Args} (h : Ar A (d + 9) (u + 9)) : Ar (A.under (.builtin "re.Pattern.sub.loop" args)) d u := by
  rw [Around.under_plainId (by decide +kernel)]
  exact ⟨h.hh, by have := h.hd; show A.depth + d ≤ 900; lia, by have := h.hu; show A.units + 1 + u ≤ 9000; lia⟩
theorem subOut_join {u : Str} {b c : Nat} (hit : HitIn u b c) : Txt.join Str.empty (if b + 1 < u.cps.size then (if 0 < b then [⟨u.cps.extract 0 b⟩] else []) ++ [⟨#[92, c]⟩] ++ [⟨u.cps.extract (b + 1) u.cps.size⟩] else (if 0 < b then [⟨u.cps.extract 0 b⟩] else []) ++ [⟨#[92, c]⟩]) = subOut u b c := by
  cases hit <;> decide +kernel
theorem loop_start {w : World} {A : Around} {s : Shared} {R : Result → Shared → Prop} {f c' a : Addr} {u : Str} {b c : Nat} {t : Tok} {pm ctv : Value} {h₀ : Heap} (G : Gd w h₀) (hA : Ar A 540 6510) (hit : HitIn u b c)
   (hf : h₀.get? f = some (kla_obj "<lambda>" "_translate.<locals>.<lambda>" lamArgs lamBody lamScope [] pm c' ctv)) (hcd : h₀.CodeRec (.ref c') "_translate.<locals>.<lambda>")
   (hst : h₀.StaysIn s.heap) (ha : s.heap.get? a = some (listOf #[] 0)) (hna : h₀.get? a = none)
   (hR : ∀ h' tk t', h₀.StaysIn h' → R (.ok (.ret (.str (subOut u b c) t'))) { s with heap := h', toks := tk }) :
   codeAny (model PR w) A (.builtin "re.Pattern.sub.loop" ⟨[.ref 109, .str u t, .ref f, rawInt 1, rawInt 0, rawInt 0, rawInt 0, rawInt 0, .bool false, .ref a, .bool false], []⟩) R s := by
  have hfd := (found_hit hit).1
  have hu : u.cps.size ≤ 2 ∧ b < u.cps.size := by cases hit <;> decide
  refine codeAny_builtin Fre.entry_loop ?_
  unfold Builtin.«re.Pattern.sub.loop» rawInt
  dsimp only
  refine wpAny_bind (whole_twin (G.keeps hst).K ?_)
  have g1 : ((1 : Int) == 0) = false := rfl
  have g2 : ((0 : Int) != 0 && decide ((0 : Int) ≥ 0)) = false := rfl
  simp only [g1, g2, Bool.false_eq_true, if_false, Int.toNat_zero]
  refine wpAny_bind (next_hit hfd fun m e1 e2 e3 e4 e5 e6 => ?_)
  dsimp only
  rw [e1, e2]
  have nota : ∀ {h h' : Heap}, h₀.StaysIn h → Heap.SameBut a h h' → h₀.StaysIn h' := fun hk hs b o e => hs.extBut b o (fun q => by rw [q, hna] at e; cases e) (hk b o e)
  have key : ∀ (its : Array Value) (n tk : Nat) (ys : List Str) (h₁ : Heap), ys = (if 0 < b then [⟨u.cps.extract 0 b⟩] else []) → h₀.StaysIn h₁ → h₁.get? a = some (listOf its n) → StrsAre its.toList ys → 
      wpAny (model PR w) (A.under (.builtin "re.Pattern.sub.loop" ⟨[.ref 109, .str u t, .ref f, .int 1 0, .int 0 0, .int 0 0, .int 0 0, .int 0 0, .bool false, .ref a, .bool false], []⟩))
      (do
      let found ← Builtin.Re.reNewMatch (Value.ref 109) (Value.str u t) 1 0 u.cps.size m
      let item ←
        holding [found]
            (if (1 == 1) = true then call (Value.ref f) [found]
            else do
              let __do_lift ← Builtin.Re.reFound found
              Builtin.Re.reExpand (Value.ref f) __do_lift)
      if (item != Value.none) = true then do
          updateSeq a fun x => x.push item
          again (Code.builtin "re.Pattern.sub.loop" ⟨[Value.ref 109, Value.str u t, Value.ref f, Value.int 1 0, Value.int 0 0, Value.int (0 + 1) 0, Value.int ((b + 1 : Nat) : Int) 0, Value.int ((b + 1 : Nat) : Int) 0, Value.bool (b + 1 == b), Value.ref a, Value.bool false], []⟩)
        else
          again (Code.builtin "re.Pattern.sub.loop" ⟨[Value.ref 109, Value.str u t, Value.ref f, Value.int 1 0, Value.int 0 0, Value.int (0 + 1) 0, Value.int ((b + 1 : Nat) : Int) 0, Value.int ((b + 1 : Nat) : Int) 0, Value.bool (b + 1 == b), Value.ref a, Value.bool false], []⟩))
      (fun fin s' =>
      match fin with
      | Fin.done f => R (Except.ok f) s'
      | Fin.again c' => c'.quiet = true ∧ codeAny (model PR w) A c' R s')
      (fun e s' => R (Except.error e) s') { s with heap := h₁, toks := tk } := by
    intro its n tk ys h₁ hys hk1 ha1 hyy
    refine wpAny_bind (new_match e1 e2 e3 e4 e5 e6 fun mo sp h₂ t0 t1 t2 t3 t4 t5 t6 hk2 n1 n2 o1 o2 => ?_)
    have hk02 : h₀.StaysIn h₂ := fun b o e => hk2 b o (hk1 b o e)
    rw [if_pos (by rfl)]
    refine wpAny_bind (wpAny_holding (wpAny_call (lam_walk (G.keeps hk02) (Ar.underLoop (hA.mono (by decide) (by decide))) (hk02 _ _ hf) (hcd.keeps hk02) hit o1 o2 fun h₃ tk3 t7 hk3 => ?_)))
    dsimp only
    rw [if_pos (by rfl)]
    have hk03 : h₀.StaysIn h₃ := fun b o e => hk3 b o (hk02 b o e)
    refine wpAny_bind (push_list (hk3 _ _ (hk2 _ _ ha1)) (fun h₄ p1 p2 => ?_) (fitsL ?_))
    · have hk04 := nota hk03 p2
      rw [show (b + 1 == b) = false by simp]
      refine wpAny_pure (And.intro (Code.quiet_builtin _ (by decide +kernel)) ?_)
      refine loop_end (ys := ys ++ [⟨#[92, c]⟩]) (G.keeps hk04).K (found_hit hit).2 (Nat.le_trans hu.1 (by decide)) p1 (by rw [Array.toList_push]; exact strs_snoc hyy _ _) (.inr (by simp)) ?l ?w fun h₅ tk5 t8 hs5 => ?_
      case l => subst hys; split <;> simp
      case w =>
        intro y hm
        rcases List.mem_append.mp hm with hm | hm
        · subst hys
          split at hm
          · rw [List.mem_singleton.mp hm]; show (u.cps.extract _ _).size ≤ 4; rw [Array.size_extract]; lia
          · cases hm
        · rw [List.mem_singleton.mp hm]; exact (by decide : 2 ≤ 4)
      rw [hys, subOut_join hit]
      exact hR _ _ _ (nota hk04 hs5)
    · have := hyy.length; rw [Array.length_toList] at this
      have h9 : ys.length ≤ 1 := by subst hys; split <;> simp
      lia
  by_cases hb : 0 < b
  · rw [if_pos hb]
    refine wpAny_bind (slice_K (by lia) fun t1 => ?_)
    refine wpAny_bind (push_list ha (fun h' p1 p2 => ?_) (fitsL (Nat.zero_le _)))
    exact key _ _ _ _ _ (by rw [if_pos hb]) (nota hst p2) p1 (.cons _ _ .nil)
  · rw [if_neg hb]
    exact key _ _ _ _ _ (by rw [if_neg hb]) hst ha .nil
namespace Fre
set_option maxRecDepth 100000
theorem slot_sub : Slot "re.Pattern" "sub" "re.Pattern.sub" :=
  .of (owner := "re.Pattern") (n := "sub") (by rw [typeLookup_type, builtinLookup_eq_fast]; kernel_rfl) (by decide +kernel) (by decide +kernel) (by decide +kernel)
    (by first | exact .inl (by decide +kernel) | exact .inr (by decide +kernel)) (by rw [isSubtype_type]; kernel_rfl)
theorem fn_call : typeLookup (.type "function") (Str.ofString "__call__") = pure (some (.builtin "function.__call__")) := by rw [typeLookup_type, builtinLookup_eq_fast]; kernel_rfl
theorem args_sub (a b c : Value) : argsOk "re.Pattern.sub" ⟨[a, b, c], []⟩ := by
  unfold argsOk; rw [signature?_of (rows := Manifest.sig_re_Pattern) (id := "re.Pattern.sub") (n := ['b', 'u', 's']) (o := ['n', 'r', 'e', 't', 't', 'a', 'P', '.', 'e', 'r']) (by kernel_rfl) (by kernel_rfl)]; kernel_rfl
end Fre
set_option maxRecDepth 100000 in
theorem sub_open {w : World} {A : Around} {s : Shared} {f : Addr} {u : Str} {t : Tok} {R : Result → Shared → Prop} (X : (gen.heap_1 w.params).In s.heap) (hf : s.TypeIs (.ref f) "function")
   (hl : ∀ a h', s.heap.StaysIn h' → h'.get? a = some (listOf #[] 0) → s.heap.get? a = none → codeAny (model PR w) A (.builtin "re.Pattern.sub.loop" ⟨[.ref 109, .str u t, .ref f, rawInt 1, rawInt 0, rawInt 0, rawInt 0, rawInt 0, .bool false, .ref a, .bool false], []⟩) R { s with heap := h' }) :
   codeAny (model PR w) A (.call (.builtin "re.Pattern.sub") ⟨[.ref 109, .ref f, .str u t], []⟩) R s := by
  refine codeAny_call_builtin Fre.slot_sub.plain Fre.entry_sub (Fre.slot_sub.check _ _ _ _ _ _ _ _ ⟨_, X _ _ (twin_at w.params), rfl⟩ (Fre.args_sub _ _ _) ?_)
  unfold Builtin.«re.Pattern.sub» Builtin.Re.reSubstitute
  dsimp only
  refine wpAny_bind (wpAny_of_eq (a := [some (.ref f), some (.str u t), none]) (by kernel_rfl) ?_)
  dsimp only
  refine wpAny_bind (wpAny_pure ?_)
  refine wpAny_bind (wpAny_specialOf hf Fre.fn_call ?_)
  have hs : (some (Value.builtin "function.__call__")).isSome = true := rfl
  rw [if_pos hs]
  refine wpAny_bind (wpAny_pure ?_)
  rw [if_pos hs]
  refine wpAny_bind (wpAny_pure ?_)
  dsimp only
  refine wpAny_bind (wpAny_holding (whole_twin X ?_))
  rw [if_pos (by rfl)]
  refine wpAny_bind (wpAny_of_eq (a := ()) (by kernel_rfl) ?_)
  refine wpAny_bind (wpAny_newObj_type (T := "list") (data := .seq #[] 0) ?_ (Nat.zero_le _))
  refine wpAny_pure (And.intro (Code.quiet_builtin _ (by decide +kernel)) ?_)
  exact hl _ _ (fun b o e => Heap.get?_push_of_some _ e) (Heap.get?_push_size _ rfl) (Heap.get?_none_of_le (Nat.le_refl _))
theorem sub_hit {w : World} {A : Around} {E : Value → Shared → Prop} {s : Shared} {f c' : Addr} {u : Str} {b c : Nat} {t : Tok} {pm ctv : Value} {Q : Value → Shared → Prop} (G : Gd w s.heap) (hA : Ar A 550 6520) (hit : HitIn u b c)
   (hf : s.heap.get? f = some (kla_obj "<lambda>" "_translate.<locals>.<lambda>" lamArgs lamBody lamScope [] pm c' ctv)) (hcd : s.heap.CodeRec (.ref c') "_translate.<locals>.<lambda>")
   (hQ : ∀ h' tk t', s.heap.StaysIn h' → Q (.str (subOut u b c) t') { s with heap := h', toks := tk }) :
   wpAny (model PR w) A (call (.builtin "re.Pattern.sub") [.ref 109, .ref f, .str u t] []) Q E s :=
  wpAny_call (sub_open G.K ⟨_, hf, rfl⟩ fun _ _ k1 k2 k3 => loop_start G (hA.mono (by decide) (by decide)) hit hf hcd k1 k2 k3 hQ)
noncomputable def missL : List Str := [Str.ofString "!a", Str.ofString "+-}", Str.ofString "]", Str.ofString "![", Str.ofString "][", Str.ofString "^", Str.ofString "!!", Str.ofString "^!", Str.ofString "\\-", Str.ofString "!\\\\", Str.ofString "\\\\\\-", Str.ofString "*", Str.ofString "!?", Str.ofString ")-*", Str.ofString "?*", Str.ofString "\n"]
set_option maxRecDepth 100000 in
theorem miss_all : (missL.all fun u => foundEnd u 0 && decide (0 < u.cps.size) && decide (u.cps.size ≤ 4) && (Txt.join Str.empty ([] ++ [⟨u.cps.extract 0 u.cps.size⟩]) == u)) = true := by decide +kernel
theorem sub_miss {w : World} {s : Shared} {A : Around} {f : Addr} {t : Tok} {u : Str} {Q : Value → Shared → Prop} {E : Value → Shared → Prop} (G : Gd w s.heap) (hm : u ∈ missL)
   (hf : s.TypeIs (.ref f) "function") (hQ : ∀ h' tk t', s.heap.StaysIn h' → Q (.str u t') { s with heap := h', toks := tk }) :
   wpAny (model PR w) A (call (.builtin "re.Pattern.sub") [.ref 109, .ref f, .str u t] []) Q E s := by
  have h9 := List.all_eq_true.mp miss_all u hm
  simp only [Bool.and_eq_true, decide_eq_true_eq, beq_iff_eq] at h9
  obtain ⟨⟨⟨h1, h2⟩, h3⟩, h4⟩ := h9
  refine wpAny_call (sub_open G.K hf fun a h' k1 k2 k3 => ?_)
  refine loop_end (p := 0) (k := 0) (ys := []) (G.keeps k1).K h1 h3 k2 .nil (.inl h2) (Nat.zero_le _) (fun _ h => nomatch h) fun h5 tk t' hs => ?_
  rw [if_pos h2, h4]
  exact hQ _ _ _ fun b o e => hs.extBut b o (fun q => by rw [q, k3] at e; cases e) (k1 b o e)
end Mine
theorem Mine.off_Sub : True := by w_top off; trivial
theorem Mine.rs_Sub {M : Model} {A : Around} {E : Value → Shared → Prop} {s : Shared} {Q : Flow → Shared → Prop} {p : Pos} {env : Env} (h : wpAny M A (exec (Stmt.Pass p) env) Q E s) : wpAny M A (exec (Stmt.Pass p) env) Q E s := by first | (walk1; fail) | exact h
namespace Mine
theorem reg_Sub : True := by
  k_with_none
  k_with "cj" => (first | with_reducible assumption | exact cj1 (by with_reducible assumption) | exact cj2 (by with_reducible assumption) | exact cj3 (by with_reducible assumption) | exact cj4 (by with_reducible assumption) | exact cj5 (by with_reducible assumption) | exact ce2 (by with_reducible assumption) | exact ce3 (by with_reducible assumption) | exact ce4 (by with_reducible assumption) | exact ce5 (by with_reducible assumption))
  k_with "ne1" => (refine neN ?_; first | with_reducible assumption | (refine Ne.symm ?_; with_reducible assumption) | walk_at "cj" | (refine Ne.symm ?_; walk_at "cj") | (refine Nat.ne_of_lt ?_; walk_at "cj") | (refine Nat.ne_of_gt ?_; walk_at "cj") | ((try dsimp only); omega))
  k_with "eval Constant int" => (refine r_int ?_)
  k_with "eval Constant str" => (refine r_str ?_)
  k_with "binaryOp Add int int" => (refine r_add ?_)
  k_with "binaryOp Sub int int" => (refine r_sub ?_)
  k_with "unaryOp USub int" => (refine r_neg ?_)
  k_with "inplaceOp Add int int" => (refine r_iadd ?_)
  k_with "eval Slice" => (refine r_slice ?_)
  k_with "SlQ" => (refine SlQ.go ?_)
  k_with "mget" => (first | with_reducible assumption | with_reducible exact upd_eq | ((with_reducible refine Eq.trans upd_eq ?_); rfl) | ((with_reducible refine upd_ne (by kernel_rfl) ?_); walk_at "mget") | (goal_lacks upd; first | exact if_pos rfl | (refine Eq.trans (if_neg (by decide)) ?_; walk_at "mget")))
  k_with "newTuple" => ((refine' r_tuple (by walk_at "asm") (by walk_at "asm") (by exact Nat.le_of_ble_eq_true rfl) ?_); intro _ _ _ _ _; walk_at "lt"; (try k_sweep))
  k_with "ite" => (first | with_reducible refine ite_tt ?_ | with_reducible refine ite_ff ?_ | (refine ite_pos (by with_reducible assumption) ?_) | (refine ite_neg (by refine ne_true_of_eq_false ?_; with_reducible assumption) ?_))
  k_with "tup" => (first | (refine News.isTup (by walk_at "asm") (by walk_at "mem")) | with_reducible assumption | (refine stays_tup (Fr.keep (by walk_at "asm")) (by walk_at "asm")))
  k_with "lst" => (first | (refine News.isList (by walk_at "asm") (by walk_at "mem")) | with_reducible assumption | (refine stays_list (Fr.keep (by walk_at "asm")) (by walk_at "asm")))
  k_with "off" => (first | exact List.forall_mem_nil _ | exact OwnOff.ne (by with_reducible assumption) (List.Mem.head _) | (refine List.forall_mem_cons.mpr ?_; refine And.intro ?_ ?_; (focus k_ne); (walk_at "off")))
  k_with "upd" => (first | (apply upd_hd; walk_at "off") | (apply upd_tl; (case hne => k_ne); (case hu => walk_at "upd")))
  k_with "RunTo" => ((first | refine NextTo.next (by with_reducible assumption) ?_ | refine NextTo.ret (by with_reducible assumption) ?_ | refine NextTo.brk (by with_reducible assumption) ?_ | refine NextTo.cont (by with_reducible assumption) ?_); (try dsimp only))
  k_with "go" => (repeat' (first | (k_unfold; (try dsimp only)) | walk1 | (dsimp only; walk1)))
  k_with "sides" => (((case b => (k_is)); (case c => (k_is)); (case a => (exact Ar.room (by assumption))); (case d => (exact BindsTo.of_eq rfl)); (case e => (exact locs rfl)); (case g => (rfl)); (case h => (rfl)); (case i => (rfl)); (case j => (decide))))
  k_with "mem" => (first | exact List.Mem.head _ | (refine' List.Mem.tail _ ?_; walk_at "mem"))
  k_with "units" => (first | exact Ar.units0 (by assumption) _ | exact Ar.unitsD (by assumption) (by decide) _)
  k_with "asm" => (with_reducible assumption)
  k_with "lt" => (((rename ∀ p ∈ _, (p : Addr × Obj).1 < _ => l9); (replace l9 := allLt_of l9); (dsimp only [AllLt] at l9)))
  k_with "ne" => (((rename ∀ p ∈ _, (p : Addr × Obj).1 ≠ _ => l9); (replace l9 := allNe_of l9); (dsimp only [AllNe] at l9)))
  k_with "storeName" => ((with_reducible refine' r_store (by walk_at "asm") (by walk_at "asm") (by kernel_rfl) ?_); intro _ _ _; (try k_sweep))
  k_with "exec While Compare cons nil" => (refine Halt.out ?_)
  k_with "exec While BoolOp cons nil" => (refine Halt.out ?_)
  k_with "exec While Constant cons nil" => (refine Halt.out ?_)
  k_with "exec While Name cons nil" => (refine Halt.out ?_)
  k_with "exec While" => (refine Halt.out ?_)
  k_with "execs cons" => (first | (refine execs_lastQ (fun tk => ?_)) | (refine execs_consQ (fun tk qk hqk => ?_)))
  k_with "newList" => (((refine' r_list (by walk_at "asm") (by walk_at "asm") (by exact Nat.le_of_ble_eq_true rfl) ?_); intro _ _ _ _ _; walk_at "lt"; (try k_sweep)))
  k_with "subscriptTail Name Slice str ref" => ((with_reducible first | refine' slice_ss5 (by walk_at "asm") (by walk_at "asm") (by with_reducible assumption) ?_ | refine' slice_sn5 (by walk_at "asm") (by walk_at "asm") (by with_reducible assumption) ?_); intro _ _ _ _ _; (try k_sweep))
  k_with "handled" => (first | exact Ar.hhD (by assumption) _ | exact Ar.hh (by assumption) | rfl)
  k_with "assign Tuple" => (((with_reducible show wpAny _ _ (assign (Expr.Tuple _ _ _) _ (Value.ref _)) _ _ _); k_dflt (refine' r_unpack (by walk_at "asm") (by walk_at "asm") (by walk_at "tup") (by walk_at "handled") rfl rfl ?_); intro _ _ _; (try k_sweep)))
  k_with "asz" => (k_dflt (first | exact aszL (by with_reducible assumption) | exact Nat.le_of_ble_eq_true rfl))
  k_with "call builtin:list.append" => (((with_reducible show wpAny _ _ (call (Value.builtin _) [Value.ref _, _]) _ _ _); (refine' r_append (by walk_at "asm") (by walk_at "asm") (by walk_at "upd") (by walk_at "asz") ?_); intro _ _ _; (try k_sweep)))
  k_with "sub" => ((intro _ hpK9; first | exact List.mem_of_mem_tail hpK9 | (simp only [List.mem_cons, List.mem_append] at hpK9 ⊢; grind)))
  k_with "exec For Tuple Name cons nil" => ((k_dflt (refine' wpAny_For ?_ (by intro _; rfl))))
  k_with "exec For Name Name cons nil" => ((k_dflt (refine' wpAny_For ?_ (by intro _; rfl))))
  k_with "exec For Name Call cons nil" => ((k_dflt (refine' wpAny_For ?_ (by intro _; rfl))))
  k_with "exec For Name List cons nil" => ((k_dflt (refine' wpAny_For ?_ (by intro _; rfl))))
  k_with "exec For Name Attribute cons nil" => ((k_dflt (refine' wpAny_For ?_ (by intro _; rfl))))
  k_with "pyIter ref" => (refine Halt.out ?_)
  k_with "subscriptTail Name Constant ref int" => (((with_reducible show wpAny _ _ (subscriptTail _ _ (Value.ref _) (Value.int _ _)) _ _ _); (refine' item_tupleL (by refine' News.isTup (by walk_at "asm") (by walk_at "mem")) (by decide) (by decide) rfl rfl ?_ (by with_unfolding_all rfl) (by intro _; with_unfolding_all rfl))))
  k_with "eval Name" => ((goal_lacks compEnvC; first | (with_reducible refine' nmK (by decide +kernel) (by walk_at "asm") (by walk_at "mget") ?_) | k_dflt (first | (goal_lacks envOf; refine' nameX_L (by walk_at "asm") (by walk_at "mget") ?_ rfl (by with_unfolding_all rfl) (by decide)) | (goal_lacks envOf; refine' nameX_C (by walk_at "asm") rfl (by walk_at "mem") (by walk_at "asm") ?_ rfl (by with_unfolding_all rfl) (by decide)) | (refine' nameX_K (by walk_at "asm") (by walk_at "asm") (by k_asm) (by k_is) ?_ rfl (by with_unfolding_all rfl) (by decide)) | (refine' nameX_B (by walk_at "asm") (by walk_at "asm") (by k_asm) (by k_is) (by boot_fast) (by decide) ?_ rfl (by with_unfolding_all rfl) (by decide)))))
  k_with "loadName" => ((first | (with_reducible refine' ldL (by walk_at "asm") (by walk_at "mget") (by kernel_rfl) ?_) | k_dflt (refine' ldX (by walk_at "asm") (by walk_at "mget") ?_ rfl (by with_unfolding_all rfl))))
  trivial
/-- `_twin_re_1.sub` of the lambda: u to v -/
inductive SubTo : Str → Str → Prop
  | miss {u : Str} : u ∈ missL → SubTo u u
  | hit {u : Str} {b c : Nat} : HitIn u b c → SubTo u (subOut u b c)
theorem sub_K {w : World} {A : Around} {E : Value → Shared → Prop} {s : Shared} {h₀ : Heap} {L f c' : Addr} {u v : Str} {t : Tok} {pm ctv : Value} {m : Str → Option Value} {news : List (Addr × Obj)} {Q : Value → Shared → Prop} (F : Fr h₀ L s.heap m) (N : News h₀ L s.heap news) (G : Gd w h₀) (hA : Ar A 550 7500) (hs : SubTo u v)
   (hf : (f, kla_obj "<lambda>" "_translate.<locals>.<lambda>" lamArgs lamBody lamScope [] pm c' ctv) ∈ news) (hcd : s.heap.CodeRec (.ref c') "_translate.<locals>.<lambda>")
   (hQ : ∀ h' tk t', Fr h₀ L h' m → News h₀ L h' news → Q (.str v t') { s with heap := h', toks := tk }) :
   wpAny (model PR w) A (call (.builtin "re.Pattern.sub") [.ref 109, .ref f, .str u t] []) Q E s := by
  obtain ⟨hh, g, d, tk, os⟩ := s
  cases hs with
  | miss hm => exact sub_miss (G.keeps F.keep) hm ⟨_, (N _ hf).1, rfl⟩ fun h' tk t' hk => hQ h' tk t' (stayF F hk) (stayN N hk)
  | hit hh => exact sub_hit (G.keeps F.keep) (hA.mono (by decide) (by decide)) hh (N _ hf).1 hcd fun h' tk t' hk => hQ h' tk t' (stayF F hk) (stayN N hk)
end Mine
theorem Mine.off_Gx : True := by w_top off; trivial
theorem Mine.rs_Gx {M : Model} {A : Around} {E : Value → Shared → Prop} {s : Shared} {Q : Flow → Shared → Prop} {p : Pos} {env : Env} (h : wpAny M A (exec (Stmt.Pass p) env) Q E s) : wpAny M A (exec (Stmt.Pass p) env) Q E s := by first | (walk1; fail) | exact h
namespace Mine
theorem reg_Gx : True := by
  k_with_none
  k_with "cj" => (first | with_reducible assumption | exact cj1 (by with_reducible assumption) | exact cj2 (by with_reducible assumption) | exact cj3 (by with_reducible assumption) | exact cj4 (by with_reducible assumption) | exact cj5 (by with_reducible assumption) | exact ce2 (by with_reducible assumption) | exact ce3 (by with_reducible assumption) | exact ce4 (by with_reducible assumption) | exact ce5 (by with_reducible assumption))
  k_with "ne1" => (refine neN ?_; first | with_reducible assumption | (refine Ne.symm ?_; with_reducible assumption) | walk_at "cj" | (refine Ne.symm ?_; walk_at "cj") | (refine Nat.ne_of_lt ?_; walk_at "cj") | (refine Nat.ne_of_gt ?_; walk_at "cj") | ((try dsimp only); omega))
  k_with "eval Constant int" => (refine r_int ?_)
  k_with "eval Constant str" => (refine r_str ?_)
  k_with "binaryOp Add int int" => (refine r_add ?_)
  k_with "binaryOp Sub int int" => (refine r_sub ?_)
  k_with "unaryOp USub int" => (refine r_neg ?_)
  k_with "inplaceOp Add int int" => (refine r_iadd ?_)
  k_with "eval Slice" => (refine r_slice ?_)
  k_with "SlQ" => (refine SlQ.go ?_)
  k_with "mget" => (first | with_reducible assumption | with_reducible exact upd_eq | ((with_reducible refine Eq.trans upd_eq ?_); rfl) | ((with_reducible refine upd_ne (by kernel_rfl) ?_); walk_at "mget") | (goal_lacks upd; first | exact if_pos rfl | (refine Eq.trans (if_neg (by decide)) ?_; walk_at "mget")))
  k_with "newTuple" => ((refine' r_tuple (by walk_at "asm") (by walk_at "asm") (by exact Nat.le_of_ble_eq_true rfl) ?_); intro _ _ _ _ _; walk_at "lt"; (try k_sweep))
  k_with "ite" => (first | with_reducible refine ite_tt ?_ | with_reducible refine ite_ff ?_ | (refine ite_pos (by with_reducible assumption) ?_) | (refine ite_neg (by refine ne_true_of_eq_false ?_; with_reducible assumption) ?_))
  k_with "tup" => (first | (refine News.isTup (by walk_at "asm") (by walk_at "mem")) | with_reducible assumption | (refine stays_tup (Fr.keep (by walk_at "asm")) (by walk_at "asm")))
  k_with "lst" => (first | (refine News.isList (by walk_at "asm") (by walk_at "mem")) | with_reducible assumption | (refine stays_list (Fr.keep (by walk_at "asm")) (by walk_at "asm")))
  k_with "off" => (first | exact List.forall_mem_nil _ | exact OwnOff.ne (by with_reducible assumption) (List.Mem.head _) | (refine List.forall_mem_cons.mpr ?_; refine And.intro ?_ ?_; (focus k_ne); (walk_at "off")))
  k_with "upd" => (first | (apply upd_hd; walk_at "off") | (apply upd_tl; (case hne => k_ne); (case hu => walk_at "upd")))
  k_with "RunTo" => ((first | refine NextTo.next (by with_reducible assumption) ?_ | refine NextTo.ret (by with_reducible assumption) ?_ | refine NextTo.brk (by with_reducible assumption) ?_ | refine NextTo.cont (by with_reducible assumption) ?_); (try dsimp only))
  k_with "go" => (repeat' (first | (k_unfold; (try dsimp only)) | walk1 | (dsimp only; walk1)))
  k_with "sides" => (((case b => (k_is)); (case c => (k_is)); (case a => (exact Ar.room (by assumption))); (case d => (exact BindsTo.of_eq rfl)); (case e => (exact locs rfl)); (case g => (rfl)); (case h => (rfl)); (case i => (rfl)); (case j => (decide))))
  k_with "mem" => (first | exact List.Mem.head _ | (refine' List.Mem.tail _ ?_; walk_at "mem"))
  k_with "units" => (first | exact Ar.units0 (by assumption) _ | exact Ar.unitsD (by assumption) (by decide) _)
  k_with "asm" => (with_reducible assumption)
  k_with "lt" => (((rename ∀ p ∈ _, (p : Addr × Obj).1 < _ => l9); (replace l9 := allLt_of l9); (dsimp only [AllLt] at l9)))
  k_with "ne" => (((rename ∀ p ∈ _, (p : Addr × Obj).1 ≠ _ => l9); (replace l9 := allNe_of l9); (dsimp only [AllNe] at l9)))
  k_with "storeName" => ((with_reducible refine' r_store (by walk_at "asm") (by walk_at "asm") (by kernel_rfl) ?_); intro _ _ _; (try k_sweep))
  k_with "exec While Compare cons nil" => (refine Halt.out ?_)
  k_with "exec While BoolOp cons nil" => (refine Halt.out ?_)
  k_with "exec While Constant cons nil" => (refine Halt.out ?_)
  k_with "exec While Name cons nil" => (refine Halt.out ?_)
  k_with "exec While" => (refine Halt.out ?_)
  k_with "execs cons" => (first | (refine execs_lastQ (fun tk => ?_)) | (refine execs_consQ (fun tk qk hqk => ?_)))
  k_with "newList" => (((refine' r_list (by walk_at "asm") (by walk_at "asm") (by exact Nat.le_of_ble_eq_true rfl) ?_); intro _ _ _ _ _; walk_at "lt"; (try k_sweep)))
  k_with "subscriptTail Name Slice str ref" => ((with_reducible first | refine' slice_ss5 (by walk_at "asm") (by walk_at "asm") (by with_reducible assumption) ?_ | refine' slice_sn5 (by walk_at "asm") (by walk_at "asm") (by with_reducible assumption) ?_); intro _ _ _ _ _; (try k_sweep))
  k_with "handled" => (first | exact Ar.hhD (by assumption) _ | exact Ar.hh (by assumption) | rfl)
  k_with "assign Tuple" => (((with_reducible show wpAny _ _ (assign (Expr.Tuple _ _ _) _ (Value.ref _)) _ _ _); k_dflt (refine' r_unpack (by walk_at "asm") (by walk_at "asm") (by walk_at "tup") (by walk_at "handled") rfl rfl ?_); intro _ _ _; (try k_sweep)))
  k_with "asz" => (k_dflt (first | exact aszL (by with_reducible assumption) | exact Nat.le_of_ble_eq_true rfl))
  k_with "call builtin:list.append" => (((with_reducible show wpAny _ _ (call (Value.builtin _) [Value.ref _, _]) _ _ _); (refine' r_append (by walk_at "asm") (by walk_at "asm") (by walk_at "upd") (by walk_at "asz") ?_); intro _ _ _; (try k_sweep)))
  k_with "sub" => ((intro _ hpK9; first | exact List.mem_of_mem_tail hpK9 | (simp only [List.mem_cons, List.mem_append] at hpK9 ⊢; grind)))
  k_with "exec For Tuple Name cons nil" => ((k_dflt (refine' wpAny_For ?_ (by intro _; rfl))))
  k_with "exec For Name Name cons nil" => ((k_dflt (refine' wpAny_For ?_ (by intro _; rfl))))
  k_with "exec For Name Call cons nil" => ((k_dflt (refine' wpAny_For ?_ (by intro _; rfl))))
  k_with "exec For Name List cons nil" => ((k_dflt (refine' wpAny_For ?_ (by intro _; rfl))))
  k_with "exec For Name Attribute cons nil" => ((k_dflt (refine' wpAny_For ?_ (by intro _; rfl))))
  k_with "pyIter ref" => (refine Halt.out ?_)
  k_with "subscriptTail Name Constant ref int" => (((with_reducible show wpAny _ _ (subscriptTail _ _ (Value.ref _) (Value.int _ _)) _ _ _); (refine' item_tupleL (by refine' News.isTup (by walk_at "asm") (by walk_at "mem")) (by decide) (by decide) rfl rfl ?_ (by with_unfolding_all rfl) (by intro _; with_unfolding_all rfl))))
  k_with "eval Name" => ((goal_lacks compEnvC; first | (with_reducible refine' nmK (by decide +kernel) (by walk_at "asm") (by walk_at "mget") ?_) | k_dflt (first | (goal_lacks envOf; refine' nameX_L (by walk_at "asm") (by walk_at "mget") ?_ rfl (by with_unfolding_all rfl) (by decide)) | (goal_lacks envOf; refine' nameX_C (by walk_at "asm") rfl (by walk_at "mem") (by walk_at "asm") ?_ rfl (by with_unfolding_all rfl) (by decide)) | (refine' nameX_K (by walk_at "asm") (by walk_at "asm") (by k_asm) (by k_is) ?_ rfl (by with_unfolding_all rfl) (by decide)) | (refine' nameX_B (by walk_at "asm") (by walk_at "asm") (by k_asm) (by k_is) (by boot_fast) (by decide) ?_ rfl (by with_unfolding_all rfl) (by decide)))))
  k_with "loadName" => ((first | (with_reducible refine' ldL (by walk_at "asm") (by walk_at "mget") (by kernel_rfl) ?_) | k_dflt (refine' ldX (by walk_at "asm") (by walk_at "mget") ?_ rfl (by with_unfolding_all rfl))))
  trivial
noncomputable abbrev genP : Pos := ⟨113, 37, 113, 98⟩
noncomputable abbrev gxElt : PySem.Expr := .Call (.Attribute (.Call (.Attribute (.Name (PySem.Str.ofString "s") ⟨113, 38, 113, 39⟩) (PySem.Str.ofString "replace") ⟨113, 38, 113, 47⟩) [.Constant (.str (PySem.Str.ofString "\\")) 0 ⟨113, 48, 113, 52⟩, .Constant (.str (PySem.Str.ofString "\\\\")) 0 ⟨113, 54, 113, 60⟩] [] ⟨113, 38, 113, 61⟩) (PySem.Str.ofString "replace") ⟨113, 38, 113, 69⟩) [.Constant (.str (PySem.Str.ofString "-")) 0 ⟨113, 70, 113, 73⟩, .Constant (.str (PySem.Str.ofString "\\-")) 0 ⟨113, 75, 113, 80⟩] [] ⟨113, 38, 113, 81⟩
noncomputable abbrev gxScope : Scope := { kind := .function, names := [(Str.ofString ".0", .local), (Str.ofString "s", .local)], isGenerator := true, isCoroutine := false, more := [] }
noncomputable def gxF (t : Str) : Str := Txt.replace (Txt.replace t (Str.ofString "\\") (Str.ofString "\\\\")) (Str.ofString "-") (Str.ofString "\\-")
theorem rg_Gx_1 : True := by
  k_with "eval Name" => ((k_dflt (refine' nameG_L (by with_reducible assumption) (by with_reducible assumption) ?_ rfl (by with_unfolding_all rfl) (by decide))))
  trivial
theorem replaceT {prog : Program} {w : World} {A : Around} {E : Value → Shared → Prop} {s : Shared} {x y z : Str} {t u v : Tok} {Q : Value → Shared → Prop} (hs : 1 ≤ s.toks) (hu : u ≠ 0) (hv : v ≠ 0) (huv : u ≠ v) (hyz : (y == z) = false) (hx : x.length ≤ 1048576) (hz : z.length ≤ 14)
    (hq : ∀ t' k, 1 ≤ k → Q (.str (Txt.replace x y z) t') { s with toks := k }) : wpAny (model prog w) A (call (.builtin "str.replace") [.str x t, .str y u, .str z v]) Q E s :=
  wpAny_with_toks hs (wpAny_mono (SC.replaceW (Q := fun a s' => 1 ≤ s'.toks → Q a s') hu hv huv hyz hx hz fun t' k hk => hq t' k hk) (fun _ _ h => h) fun _ _ h => h)
theorem rg_Gx_2 : True := by
  k_with "call builtin:str.replace" => (((with_reducible show wpAny _ _ (call (Value.builtin _) [Value.str _ _, Value.str _ _, Value.str _ _]) _ _ _); k_dflt (refine' replaceT (by first | exact Nat.le_add_left _ _ | (show 1 ≤ _ + 1 + 1; omega)) (by first | exact Nat.succ_ne_zero _ | exact Nat.ne_of_gt (Nat.lt_of_lt_of_le Nat.zero_lt_one (by with_reducible assumption))) (by exact Nat.succ_ne_zero _) (by exact Nat.ne_of_lt (Nat.lt_succ_self _)) (by decide) (by first | (with_reducible assumption) | omega) (by decide) ?_); intro _ _ _))
  trivial
set_option maxRecDepth 100000 in
set_option maxHeartbeats 4000000 in
theorem gx_elt {w : World} {A' : Around} {E' : Value → Shared → Prop} {s₂ : Shared} {m₂ : Str → Option Value} {C : Addr} {code : Value} {env : Env} {a : Str} {t : Tok} (ht : 1 ≤ s₂.toks) (n : s₂.heap.Ns C m₂) (hv : m₂ (Str.ofString "s") = some (.str a t)) (ha : a.length ≤ 1048576) (hb : (Txt.replace a (Str.ofString "\\") (Str.ofString "\\\\")).length ≤ 1048576) :
    wpAny (model PR w) A' (eval gxElt (genEnv gxScope [] C code builtinsNs env)) (fun y s₃ => (∃ t', y = .str (gxF a) t') ∧ Keeps s₂ s₃) E' s₂ := by
  obtain ⟨h, g, d, tk, os⟩ := s₂
  obtain ⟨k, rfl⟩ : ∃ k, tk = k + 1 := ⟨tk - 1, by have : 1 ≤ tk := ht; lia⟩
  replace n : h.Ns (genEnv gxScope [] C code builtinsNs env).locals m₂ := n
  walk_at "go"
  exact ⟨_, _, rfl, fun _ _ e => e⟩
theorem among_other {p q : Pos} (hne : (p.line == q.line && p.col == q.col) = false) (c : Value) (l : List Value) (h : TriplesOk l) : codeAmong p (l ++ [rawInt q.line, rawInt q.col, c]) = codeAmong p l := by
  fun_induction TriplesOk l with
  | case1 =>
    simp only [List.nil_append, codeAmong, rawInt]
    rw [if_neg]
    intro h9
    rw [Bool.and_eq_true, beq_iff_eq, beq_iff_eq] at h9
    have : (p.line == q.line && p.col == q.col) = true := by
      rw [Bool.and_eq_true, beq_iff_eq, beq_iff_eq]
      exact ⟨by lia, by lia⟩
    rw [this] at hne
    cases hne
  | case2 a t b u x rest ih =>
    simp only [List.cons_append, codeAmong]
    rw [ih h]
  | case3 l h1 h2 => exact h.elim
theorem gx_code {M : Model} {A : Around} {E : Value → Shared → Prop} {s : Shared} {env : Env} {c P : Addr} {ps : Array Value} {qn : Str} {scope : Scope} {Q : Value → Shared → Prop} (hcode : env.code = .ref c) (C : CodeHd s.heap c P) (hP : s.heap.get? P = some (tabObj ps)) (ht : TriplesOk ps.toList)
    (h : ∀ code h₃ tk₃ ps2, Heap.ExtBut P s.heap h₃ → s.heap.objs.size ≤ h₃.objs.size → h₃.get? P = some (tabObj ps2) → TriplesOk ps2.toList → codeAmong ⟨114, 39, 114, 76⟩ ps2.toList = codeAmong ⟨114, 39, 114, 76⟩ ps.toList → Q code { s with heap := h₃, toks := tk₃ }) :
    wpAny M A (genexprCode env genP qn scope) Q E s := by
  cases hf : codeAmong genP ps.toList with
  | none =>
    refine wpAny_genexprCodeX hcode (C.code hP ht) (C.tab hP) hf fun c' h' tk hx hge hlt _ _ htb _ => ?_
    refine h (.ref c') h' tk _ hx (by lia) htb.2 ?_ ?_
    · rw [Array.toList_append]; exact TriplesOk_snoc _ _ _ _ ht
    · rw [Array.toList_append]; exact among_other (by decide) _ _ ht
  | some cv => exact wpAny_genexprCode_hit hcode (C.code hP ht) hf (h cv s.heap s.toks ps (fun _ _ _ e => e) (Nat.le_refl _) hP ht rfl)
section
variable {prog : Program} {w : World} {A : Around}
/-- what the generator of this text promises at each sign it hands out, for a clock that has begun -/
noncomputable def tkProto (C : Addr) (fp wr : List Addr) (n₀ : Nat) (F : Nat → Value → Prop) : Protocol := fun m s₀ v s kap =>
  F (n₀ - 1 - m) v ∧ GenSince C wr s₀ s ∧ ∀ s'' : Shared, 1 ≤ s''.toks → (∀ b ∈ C :: fp, ∀ o, s.heap.get? b = some o → s''.heap.get? b = some o) → kap (.send .none) s''
noncomputable abbrev tkEnd (C : Addr) (wr : List Addr) : GenEnd := fun n s₀ r s₁ => r = .ok .next ∧ (n = 0 ∧ GenSince C wr s₀ s₁)
theorem tk_loop {elt iter : PySem.Expr} {x : Str} {px : Pos} {scope : Scope} {pos : Pos} {I : Addr} {fp wr : List Addr} {n₀ : Nat} {P F : Nat → Value → Prop} {St₀ : Nat → Heap → Prop} {cenv : Env}
    (hh : A.handled = none) (W₀ : ∀ A' : Around, A'.handled = none → Walks prog w A' I fp wr n₀ P St₀)
    (hx : cenv.kindOf x = some .local) (hp : (cenv.scope.kind == .class || (cenv.scope.kind == .module && cenv.locals != cenv.globals)) = false) (hco : cenv.scope.isCoroutine = false) (hCf : cenv.locals ∉ fp)
    (hq : ∀ (A' : Around) E' i v (s₂ : Shared) m₂, 1 ≤ s₂.toks → P i v → s₂.heap.Ns cenv.locals m₂ → m₂ x = some v → wpAny (model prog w) A' (eval elt cenv) (fun y s₃ => F i y ∧ Keeps s₂ s₃) E' s₂) :
    ∀ (k i : Nat) (s₀ s : Shared) (m : Str → Option Value), n₀ - i = k → i ≤ n₀ → 1 ≤ s.toks → St₀ i s.heap → s.heap.Ns cenv.locals m → GenSince cenv.locals wr s₀ s →
      Seg (model prog w) A (tkEnd cenv.locals wr) (tkProto cenv.locals fp wr n₀ F) k s₀
        (.compLoop (.GeneratorExp elt [⟨.Name x px, iter, [], 0⟩] scope pos) 0 (.ref I) .none cenv)
        ((model prog w).den (.compLoop (.GeneratorExp elt [⟨.Name x px, iter, [], 0⟩] scope pos) 0 (.ref I) .none cenv)) [] s := by
  have hCw : cenv.locals ∉ wr := fun h => hCf ((W₀ A hh).sub _ h)
  have unf : ∀ (k : Nat) (s₀ s : Shared), Seg (model prog w) A (tkEnd cenv.locals wr) (tkProto cenv.locals fp wr n₀ F) k s₀ (.compLoop (.GeneratorExp elt [⟨.Name x px, iter, [], 0⟩] scope pos) 0 (.ref I) .none cenv)
      ((compTurn (.GeneratorExp elt [⟨.Name x px, iter, [], 0⟩] scope pos) 0 (.ref I) .none cenv).onRaise (leaving cenv)) [] s →
      Seg (model prog w) A (tkEnd cenv.locals wr) (tkProto cenv.locals fp wr n₀ F) k s₀ (.compLoop (.GeneratorExp elt [⟨.Name x px, iter, [], 0⟩] scope pos) 0 (.ref I) .none cenv)
        ((model prog w).den (.compLoop (.GeneratorExp elt [⟨.Name x px, iter, [], 0⟩] scope pos) 0 (.ref I) .none cenv)) [] s := fun _ _ _ h => h
  intro k
  induction k with
  | zero =>
    intro i s₀ s m hk hi _ hst _ hsince
    obtain rfl : i = n₀ := by omega
    refine unf _ _ _ ?_
    rw [compTurn_gen, Sem.onRaise_eq_wrap]
    refine seg_bind_wrap (wpAny_standAt (seg_bind_wrap ((W₀ _ (by exact hh)).done s _ _ hst fun h' tk hk' => ?_)))
    exact seg_end (.ok .next) ⟨rfl, rfl, hsince.step fun b o _ hw e => hk' b o hw e⟩
  | succ k ih =>
    intro i s₀ s m hk hi htk hst hn hsince
    have hlt : i < n₀ := by omega
    refine unf _ _ _ ?_
    rw [compTurn_gen, Sem.onRaise_eq_wrap]
    refine seg_bind_wrap (wpAny_standAt (seg_bind_wrap (wpAny_with_toks htk ((W₀ _ (by exact hh)).item i s _ _ hlt hst fun v h₁ tk₁ hPv hst₁ hk₁ ht₁ => ?_))))
    refine seg_bind_wrap (wpAny_of_eq (rfl : letOwnedTupleGo (.Name x px) (.ref I) v = pure ()) ?_)
    refine seg_bind_wrap (wpAny_assign_Name (wpAny_storeName_local hx (hn.at' fun o e => hk₁ _ o hCw e) (fun h₂ hn₂ hs₂ => ?_) hp))
    have up₂ : ∀ b o, b ≠ cenv.locals → b ∉ wr → s.heap.get? b = some o → h₂.get? b = some o := fun b o hbC hbw e => hs₂.extBut b o hbC (hk₁ b o hbw e)
    have hst₂ : St₀ (i + 1) h₂ := (W₀ A hh).frame _ _ _ hst₁ fun b hb o e => hs₂.extBut b o (fun h => hCf (h ▸ hb)) e
    refine seg_bind_wrap (wpAny_of_eq (a := true) rfl ?_)
    simp only [if_true]
    have hy : ∀ v, yieldOut cenv v = yieldValue v := fun v => by simp only [yieldOut, hco, Bool.false_eq_true, if_false]
    simp only [hy]
    rw [Sem.bind_eq_wrap', Sem.bind_eq_wrap', Sem.wrap_wrap, Sem.wrap_wrap]
    refine seg_wrap (wpAny_mono (hq _ _ i v _ _ (Nat.le_trans ht₁ (Nat.le_add_right _ _)) hPv hn₂ (by simp)) (fun y s₄ h₄ => ?_) fun _ _ e => e)
    obtain ⟨hFy, h₄, tk₄, rfl, hk₄⟩ := h₄
    refine seg_at (seg_yield rfl rfl rfl ⟨by rw [show n₀ - 1 - k = i by omega]; exact hFy, hsince.step fun b o hbC hbw e => hk₄ b o (up₂ b o hbC hbw e), fun s'' hge hal => ?_⟩)
    exact seg_again rfl (ih (i + 1) s'' s'' _ (by omega) hlt hge ((W₀ A hh).frame _ _ _ hst₂ fun b hb o e => hal b (List.mem_cons_of_mem _ hb) o (hk₄ b o e))
      ((hn₂.keeps hk₄).at' fun o e => hal _ (List.mem_cons_self ..) o e) (GenSince.refl _ _ _))
theorem tk_start {elt iter : PySem.Expr} {x : Str} {px : Pos} {scope : Scope} {pos : Pos} {I : Addr} {fp wr : List Addr} {n₀ : Nat} {P F : Nat → Value → Prop} {St₀ : Nat → Heap → Prop} {cenv : Env}
    (hh : A.handled = none) (W₀ : ∀ A' : Around, A'.handled = none → Walks prog w A' I fp wr n₀ P St₀)
    (hx : cenv.kindOf x = some .local) (hp : (cenv.scope.kind == .class || (cenv.scope.kind == .module && cenv.locals != cenv.globals)) = false) (hco : cenv.scope.isCoroutine = false) (hCf : cenv.locals ∉ fp)
    (hq : ∀ (A' : Around) E' i v (s₂ : Shared) m₂, 1 ≤ s₂.toks → P i v → s₂.heap.Ns cenv.locals m₂ → m₂ x = some v → wpAny (model prog w) A' (eval elt cenv) (fun y s₃ => F i y ∧ Keeps s₂ s₃) E' s₂)
    (s : Shared) (m : Str → Option Value) (htk : 1 ≤ s.toks) (hst : St₀ 0 s.heap) (hn : s.heap.Ns cenv.locals m) :
    Seg (model prog w) A (tkEnd cenv.locals wr) (tkProto cenv.locals fp wr n₀ F) n₀ s
      (.compStart (.GeneratorExp elt [⟨.Name x px, iter, [], 0⟩] scope pos) 0 (.ref I) .none cenv)
      ((model prog w).den (.compStart (.GeneratorExp elt [⟨.Name x px, iter, [], 0⟩] scope pos) 0 (.ref I) .none cenv)) [] s := by
  have loop := tk_loop (iter := iter) (px := px) (scope := scope) (pos := pos) hh W₀ hx hp hco hCf hq n₀ 0 s s m (Nat.sub_zero _) (Nat.zero_le _) htk hst hn (GenSince.refl _ _ _)
  show Seg _ A _ _ _ s _ ((compStart (.GeneratorExp elt [⟨.Name x px, iter, [], 0⟩] scope pos) 0 (.ref I) .none cenv).onRaise (leaving cenv)) [] s
  unfold compStart
  rw [Sem.onRaise_eq_wrap]
  show Seg _ A _ _ _ s _ ((ask >>= _).wrap _ _ _ _) [] s
  refine seg_bind_wrap (wpAny_askSetting ?_)
  split
  · exact seg_again rfl loop
  · refine seg_bind_wrap (wpAny_rule ?_)
    show Seg _ A _ _ _ s _ ((standAt iter.pos >>= _).wrap _ _ _ _) [] s
    exact seg_bind_wrap (wpAny_standAt (seg_bind_wrap ((W₀ _ (by exact hh)).self 0 s _ _ hst (seg_again rfl loop))))
noncomputable def tkAt (prog : Program) (w : World) (A : Around) (a : Addr) (g : Nat) (C : Addr) (fp wr : List Addr) (n₀ : Nat) (F : Nat → Value → Prop) (j : Nat) (s : Shared) : Prop :=
  1 ≤ s.toks ∧ s.heap.IsGen a g ∧ s.heap.NoLimit ∧ ∃ gs, s.gens[g]? = some gs ∧ ∀ s'' : Shared, 1 ≤ s''.toks → (∀ b ∈ C :: fp, ∀ o, s.heap.get? b = some o → s''.heap.get? b = some o) →
    gs.Goes (model prog w) A.in1 (tkEnd C wr) (tkProto C fp wr n₀ F) (n₀ - j) (.send .none) s''
theorem tk_walks (hh : A.handled = none) (a : Addr) (g : Nat) (C : Addr) (fp wr : List Addr) (n₀ : Nat) (F : Nat → Value → Prop) (haC : a ≠ C) (haf : a ∉ fp) (hsub : ∀ b ∈ wr, b ∈ fp)
    (hroom : A.depth < recursionLimit) (hcs : cStatics ∈ fp) (hcC : cStatics ≠ C) (hcw : cStatics ∉ wr) :
    WalksS prog w A a (a :: C :: fp) (C :: wr) (GenOnlyQ g) n₀ F (tkAt prog w A a g C fp wr n₀ F) where
  sub := fun b hb => by
    rcases List.mem_cons.mp hb with rfl | hb
    · simp
    · exact List.mem_cons_of_mem _ (List.mem_cons_of_mem _ (hsub b hb))
  grefl := fun _ => .inl rfl
  gtrans := fun _ _ _ x y => x.trans y
  frame := fun j s h' tk st htk hk =>
    ⟨Nat.le_trans st.1 htk, let ⟨o, nm, qn, ho, r⟩ := st.2.1; ⟨o, nm, qn, hk a (List.mem_cons_self ..) o ho, r⟩,
     (let ⟨mc, hns, hnn⟩ := st.2.2.1; ⟨mc, hns.at' fun o e => hk cStatics (List.mem_cons_of_mem _ (List.mem_cons_of_mem _ hcs)) o e, hnn⟩),
     let ⟨gs, hgs, hgo⟩ := st.2.2.2; ⟨gs, hgs, fun s'' hge hal => hgo s'' hge fun b hb o e => hal b hb o (hk b (List.mem_cons_of_mem _ hb) o e)⟩⟩
  item := fun j s Q E hj st hQ => by
    obtain ⟨ht, hg, hl, gs, hgs, hgo⟩ := st
    obtain ⟨m, hm⟩ : ∃ m, n₀ - j = m + 1 := ⟨n₀ - j - 1, by lia⟩
    rw [hm] at hgo
    refine wpAny_with_toks (Nat.le_refl s.toks) ?_
    refine wpAny_pyNext_genexpQ (P := fun n s₀ s₁ => n = 0 ∧ GenSince C wr s₀ s₁) hh hl hroom hg hgs (hgo _ ht fun _ _ _ e => e) (fun v s₁ gs' hb hv => ?_) (fun s₁ hp h' hk => ?_)
    · obtain ⟨hF, ⟨h₁, tk₁, rfl, hk₁⟩, hkap⟩ := hv
      have hidx : n₀ - 1 - (m + 1 - 1) = j := by lia
      rw [hidx] at hF
      have haw : a ∉ wr := fun h => haf (hsub a h)
      intro htk
      refine hQ v _ hF ⟨Nat.le_trans ht htk, let ⟨o, nm, qn, ho, r⟩ := hg; ⟨o, nm, qn, hk₁ a o haC haw ho, r⟩, (let ⟨mc, hns, hnn⟩ := hl; ⟨mc, hns.at' fun o e => hk₁ cStatics o hcC hcw e, hnn⟩), gs', setGen_self (gs := .running) (setGen_self hgs), fun s'' hge hal => ?_⟩
        ⟨fun b o hb e => hk₁ b o (fun h => hb (h ▸ List.mem_cons_self ..)) (fun h => hb (List.mem_cons_of_mem _ h)) e, GenOnlyQ.of ((GenOnly.setGen s g .running).trans (GenOnly.setGen _ g gs')) (setGen_self (gs := .running) (setGen_self hgs)) hb, rfl, rfl, htk⟩
      rw [show n₀ - (j + 1) = m by lia]
      exact hkap s'' hge hal
    · exact absurd hp.1 (Nat.succ_ne_zero m)
  done := fun s Q E st hQ => by
    obtain ⟨ht, hg, hl, gs, hgs, hgo⟩ := st
    rw [Nat.sub_self] at hgo
    refine wpAny_with_toks (Nat.le_refl s.toks) ?_
    refine wpAny_pyNext_genexpQ (P := fun n s₀ s₁ => n = 0 ∧ GenSince C wr s₀ s₁) hh hl hroom hg hgs (hgo _ ht fun _ _ _ e => e) (fun v s₁ gs' hb hv => ?_) (fun s₁ hp h' hk => ?_)
    · exact absurd (hv.2.2 { s₁ with toks := s₁.toks + 1 } (Nat.le_add_left _ _) fun _ _ _ e => e) id
    · obtain ⟨_, h₁, tk₁, rfl, hk₁⟩ := hp
      intro htk
      exact hQ _ ⟨fun b o hb e => hk b o (hk₁ b o (fun h => hb (h ▸ List.mem_cons_self ..)) (fun h => hb (List.mem_cons_of_mem _ h)) e), GenOnlyQ.of ((GenOnly.setGen s g .running).trans (GenOnly.setGen _ g .finished)) (setGen_self (gs := .running) (setGen_self hgs)) rfl, rfl, rfl, htk⟩
  self := fun _ _ _ _ st hQ => wpAny_pyIter_gen st.2.1 hQ
end
/-- a generator that stands ready to hand the chunks, each with its signs told -/
noncomputable def Gx (w : World) (A : Around) (L g : Addr) (ts : List Str) (news : List (Addr × Obj)) (s : Shared) : Prop :=
  ∃ K, L ≤ K ∧ (∀ p ∈ news, p.1 ≤ K) ∧ Gen PR w A K g ts.length (fun j y => ∃ t, y = .str (gxF (ts.getD j Str.empty)) t) s
theorem gx_make {w : World} {A : Around} {E : Value → Shared → Prop} {s : Shared} {h₀ : Heap} {L a c la : Addr} {m mg mb : Str → Option Value} {cn : Str} {cs : Scope} {cl : List (Str × Addr)} {news : List (Addr × Obj)} {p : Program} {loose : List Str} {mean : ExcName → Option Value} {ps : Array Value} {vs : List Value} {ts : List Str} {e : Nat} {px py : Pos} {Q : Value → Shared → Prop}
    (F : Fr h₀ L s.heap m) (N : News h₀ L s.heap ((130, tabObj ps) :: news)) (hla : (la, listOf vs.toArray e) ∈ news) (T : Top p loose mean mg mb h₀) (C : CodeHd h₀ c 130) (o2 : ∀ p ∈ news, p.1 ≠ 130) (hok : TriplesOk ps.toList) (hh : A.handled = none) (hroom : A.depth < recursionLimit) (hbare : AllBare s.gens)
    (hts : StrsAre vs ts) (hsz2 : ∀ t ∈ ts, t.length ≤ 100 ∧ (Txt.replace t (Str.ofString "\\") (Str.ofString "\\\\")).length ≤ 200)
    (hname : ∀ Q' : Value → Shared → Prop, Q' (.ref la) s → wpAny (model PR w) A (eval (.Name (Str.ofString "chunks") py) (envX cn cs L a (.ref c) cl)) Q' E s)
    (hcl : closureFor gxScope (envX cn cs L a (.ref c) cl) = pure []) (hs : ∀ x, genFold (.Name (Str.ofString "chunks") py) (envX cn cs L a (.ref c) cl) x = pure x)
    (h : ∀ g h' gs' tk' ps2, Fr h₀ L h' m → News h₀ L h' ((130, tabObj ps2) :: news) → AllBare gs' → TriplesOk ps2.toList → codeAmong ⟨114, 39, 114, 76⟩ ps2.toList = codeAmong ⟨114, 39, 114, 76⟩ ps.toList →
      Gx w A L g ts ((130, tabObj ps2) :: news) ⟨h', gs', s.drawn, tk', s.os⟩ → Q (.ref g) ⟨h', gs', s.drawn, tk', s.os⟩) :
    wpAny (model PR w) A (eval (.GeneratorExp gxElt [⟨.Name (Str.ofString "s") px, .Name (Str.ofString "chunks") py, [], 0⟩] gxScope genP) (envX cn cs L a (.ref c) cl)) Q E s := by
  have hl : s.heap.IsList la vs.toArray := ⟨_, (N _ (.tail _ hla)).1, rfl, _, rfl⟩
  have hlt : la < s.heap.objs.size := Heap.lt_size (N _ (.tail _ hla)).1
  have hP := N _ (.head _)
  have hPlt : (130 : Addr) < s.heap.objs.size := Heap.lt_size hP.1
  have hlim : s.heap.NoLimit := T.nolimit.keeps F.keep
  refine wpAny_GeneratorExp_make rfl hcl (by decide) rfl rfl hroom (hname _ (wpAny_pyIter_list hl ⟨hlim.push _, ?_⟩)) hs
  refine gx_code rfl (C.keeps fun b o e => Heap.get?_push_of_some _ (F.keep b o e)) (Heap.get?_push_of_some _ hP.1) hok fun code h₃ tk₃ ps2 hx hge htab hok2 ham => ?_
  have hx' : Heap.ExtBut 130 s.heap h₃ := fun b o hb e => hx b o hb (Heap.get?_push_of_some _ e)
  have hsz3 : s.heap.objs.size < h₃.objs.size := by
    have : (s.heap.push { cls := .type "list_iterator", data := .fields #[.ref la, .int 0 0] }).objs.size ≤ h₃.objs.size := hge
    rw [Heap.size_push] at this
    exact this
  have hgs := T.g.keeps F.keep
  obtain ⟨bm, ob, b1, b2, b3, b4, b5, b6⟩ := T.bmain
  have hgP : mainGlobals ≠ 130 := fun q => by
    obtain ⟨o, es, ep, e, hd, _⟩ := hgs
    rw [q, hP.1] at e; cases e; cases hd
  have hbP : bm ≠ 130 := fun q => by
    have e := F.keep _ _ b3
    rw [q, hP.1] at e; cases e; cases b4
  have hcP : cStatics ≠ 130 := fun e => by
    obtain ⟨_, hns, _⟩ := hlim
    obtain ⟨o, es, ep, ho, hd, _⟩ := hns
    rw [e, hP.1] at ho; cases ho; cases hd
  have hl3 : h₃.NoLimit := hlim.extBut hx' hcP
  have hlne : la ≠ 130 := o2 _ hla
  refine wpAny_builtinsFor (hgs.extBut hx' hgP) b1 b2 (hx' _ _ hbP (F.keep _ _ b3)) b4 b5 b6 ?_
  intro h' hn' hs'
  have hlen : vs.length = ts.length := hts.length
  have hsz : h'.objs.size = h₃.objs.size + 1 := by rw [hs'.1, Heap.size_push]
  have keep' : ∀ b o, h₃.get? b = some o → h'.get? b = some o := fun b o e => hs'.extBut b o (Nat.ne_of_lt (Heap.lt_size e)) (Heap.get?_push_of_some _ e)
  have hc3 : cStatics < h₃.objs.size := let ⟨_, hn, _⟩ := hl3; hn.lt
  have hc1 : cStatics < s.heap.objs.size := let ⟨_, hn, _⟩ := hlim; hn.lt
  have F3 : Fr h₀ L h₃ m := ⟨F.ns.extBut hx' (fun e => hP.2.1 e.symm), fun b o e => hx' b o (fun q => by rw [q, hP.2.2] at e; cases e) (F.keep b o e), F.above⟩
  have W₀ : ∀ A' : Around, A'.handled = none → Walks PR w A' s.heap.objs.size (List.range h₃.objs.size) [s.heap.objs.size] vs.toArray.size _ _ := fun A' hA => (Walks.list hA s.heap.objs.size la (Nat.ne_of_lt hlt) vs.toArray).mono_fp fun b hb => List.mem_range.mpr (by
    rcases List.mem_cons.mp hb with rfl | hb
    · exact hsz3
    · rw [List.mem_singleton.mp hb]; exact Nat.lt_trans hlt hsz3)
  have hsv : vs.toArray.size = ts.length := by simp [hlen]
  rw [hsv] at W₀
  refine h _ _ _ _ ps2 (stayF F3 fun b o e => Heap.get?_push_of_some _ (keep' b o e)) ?_ (hbare.push rfl) hok2 ham ⟨s.heap.objs.size - 1, ?_, ?_, ?_⟩
  · intro q hq
    rcases List.mem_cons.mp hq with rfl | hq
    · exact ⟨Heap.get?_push_of_some _ (keep' _ _ htab), hP.2⟩
    · exact ⟨Heap.get?_push_of_some _ (keep' _ _ (hx' _ _ (o2 _ hq) (N _ (.tail _ hq)).1)), (N _ (.tail _ hq)).2⟩
  · exact Nat.le_sub_one_of_lt F.ns.lt
  · intro q hq
    rcases List.mem_cons.mp hq with rfl | hq
    · exact Nat.le_sub_one_of_lt hPlt
    · exact Nat.le_sub_one_of_lt (Heap.lt_size (N _ (.tail _ hq)).1)
  · have haC : h'.objs.size ≠ h₃.objs.size := by rw [hsz]; exact Nat.succ_ne_self _
    have hcw : cStatics ∉ [s.heap.objs.size] := fun hm => Nat.lt_irrefl _ (List.mem_singleton.mp hm ▸ hc1)
    refine ⟨_, _, s.gens.size, _, tk_walks (A := A.in4) hh h'.objs.size s.gens.size h₃.objs.size (List.range h₃.objs.size) [s.heap.objs.size] ts.length (fun j y => ∃ t, y = .str (gxF (ts.getD j Str.empty)) t) haC (fun hm => by have := List.mem_range.mp hm; lia)
      (fun b hb => List.mem_range.mpr (by rw [List.mem_singleton.mp hb]; exact hsz3)) hroom (List.mem_range.mpr hc3) (Nat.ne_of_lt hc3) hcw, ⟨Nat.le_add_left _ _, ⟨_, _, _, Heap.get?_push_size _ rfl, rfl, rfl, rfl⟩, hl3.keeps fun b o e => Heap.get?_push_of_some _ (keep' b o e), _, Array.getElem?_push_size .., fun s'' hge hal => ⟨rfl, ?_⟩⟩, (fun i s' st => st.2.1.typeIs), List.mem_cons_self, ?_, ?_⟩
    · refine tk_start (A := A.in4.in1) (cenv := genEnv gxScope [] h₃.objs.size code builtinsNs (envX cn cs L a (.ref c) cl)) (x := Str.ofString "s") hh W₀ rfl rfl rfl (fun hm => Nat.lt_irrefl _ (List.mem_range.mp hm)) (fun A' E' i v s₂ m₂ h1 hP' hn hm => ?_) s'' (fun y => if y = Str.ofString ".0" then some (.ref s.heap.objs.size) else none) ?_ ?_ ?_
      · have hv' : vs[i]? = some v := by simpa using hP'
        have hil : i < ts.length := by rw [← hlen]; exact (List.getElem?_eq_some_iff.mp hv').1
        obtain ⟨t, ht⟩ := hts.get i ts[i] (List.getElem?_eq_getElem hil)
        rw [hv'] at ht
        cases ht
        have hz := hsz2 ts[i] (List.getElem_mem hil)
        have e9 : ts.getD i Str.empty = ts[i] := by simp [List.getD_eq_getElem?_getD, hil]
        rw [e9]
        exact gx_elt h1 hn hm (by lia) (by lia)
      · exact hge
      · refine (W₀ A hh).frame 0 h₃ _ ⟨⟨_, hx _ _ (Nat.ne_of_gt hPlt) (Heap.get?_push_size _ rfl), rfl, rfl⟩, (hl.push _).extBut hx hlne⟩ fun b hb o e => hal b (List.mem_cons_of_mem _ hb) o (Heap.get?_push_of_some _ (keep' b o e))
      · exact (hn'.push _).at' fun o e => hal _ (List.mem_cons_self ..) o e
    · intro b hb
      show b < (h'.push _).objs.size
      rw [Heap.size_push]
      rcases List.mem_cons.mp hb with rfl | hb
      · exact Nat.lt_succ_self _
      · rcases List.mem_cons.mp hb with rfl | hb
        · rw [hsz]; exact Nat.lt_succ_of_lt (Nat.lt_succ_self _)
        · rw [hsz]; exact Nat.lt_succ_of_lt (Nat.lt_succ_of_lt (List.mem_range.mp hb))
    · have hpos : 0 < s.heap.objs.size := Nat.lt_of_le_of_lt (Nat.zero_le _) hPlt
      have h9 : s.heap.objs.size - 1 < s.heap.objs.size := Nat.sub_lt hpos Nat.zero_lt_one
      intro b hb
      rcases List.mem_cons.mp hb with rfl | hb
      · exact Nat.lt_trans h9 hsz3
      · rw [List.mem_singleton.mp hb]; exact h9
theorem gx_join {w : World} {A : Around} {E : Value → Shared → Prop} {s : Shared} {h₀ : Heap} {L g : Addr} {m : Str → Option Value} {news : List (Addr × Obj)} {ts : List Str} {sep : Str} {t : Tok} {Q : Value → Shared → Prop}
    (F : Fr h₀ L s.heap m) (N : News h₀ L s.heap news) (hbare : AllBare s.gens) (X : Gx w A L g ts news s) (hok : JoinOk sep (ts.map gxF) = true) (hn : ts.length ≤ 1000)
    (h : ∀ h' gs' d' tk' t', Fr h₀ L h' m → News h₀ L h' news → AllBare gs' → Q (.str (Txt.join sep (ts.map gxF)) t') ⟨h', gs', d', tk', s.os⟩) :
    wpAny (model PR w) A (call (.builtin "str.join") [.str sep t, .ref g]) Q E s := by
  obtain ⟨K, hLK, hnK, X⟩ := X
  have e9 : (List.range ts.length).map (fun j => gxF (ts.getD j Str.empty)) = ts.map gxF := by
    conv => rhs; rw [← range_getD ts Str.empty]
    rw [List.map_map]; rfl
  refine join_rowsK F hbare X hLK (fun j => gxF (ts.getD j Str.empty)) (fun j v hv => hv) (by rw [e9]; exact hok) (fun s' t' F' G' hos hk => ?_) (fitsL (by lia))
  obtain ⟨h', gs', d', tk', os'⟩ := s'
  cases hos
  rw [e9]
  exact h h' gs' d' tk' t' F' (fun p hp => ⟨hk _ _ (hnK p hp) (N p hp).1, (N p hp).2⟩) G'
end Mine
theorem Mine.off_Tl : True := by w_top off; trivial
theorem Mine.rs_Tl {M : Model} {A : Around} {E : Value → Shared → Prop} {s : Shared} {Q : Flow → Shared → Prop} {p : Pos} {env : Env} (h : wpAny M A (exec (Stmt.Pass p) env) Q E s) : wpAny M A (exec (Stmt.Pass p) env) Q E s := by first | (walk1; fail) | exact h
namespace Mine
theorem reg_Tl : True := by
  k_with_none
  k_with "cj" => (first | with_reducible assumption | exact cj1 (by with_reducible assumption) | exact cj2 (by with_reducible assumption) | exact cj3 (by with_reducible assumption) | exact cj4 (by with_reducible assumption) | exact cj5 (by with_reducible assumption) | exact ce2 (by with_reducible assumption) | exact ce3 (by with_reducible assumption) | exact ce4 (by with_reducible assumption) | exact ce5 (by with_reducible assumption))
  k_with "ne1" => (refine neN ?_; first | with_reducible assumption | (refine Ne.symm ?_; with_reducible assumption) | walk_at "cj" | (refine Ne.symm ?_; walk_at "cj") | (refine Nat.ne_of_lt ?_; walk_at "cj") | (refine Nat.ne_of_gt ?_; walk_at "cj") | ((try dsimp only); omega))
  k_with "eval Constant int" => (refine r_int ?_)
  k_with "eval Constant str" => (refine r_str ?_)
  k_with "binaryOp Add int int" => (refine r_add ?_)
  k_with "binaryOp Sub int int" => (refine r_sub ?_)
  k_with "unaryOp USub int" => (refine r_neg ?_)
  k_with "inplaceOp Add int int" => (refine r_iadd ?_)
  k_with "eval Slice" => (refine r_slice ?_)
  k_with "SlQ" => (refine SlQ.go ?_)
  k_with "mget" => (first | with_reducible assumption | with_reducible exact upd_eq | ((with_reducible refine Eq.trans upd_eq ?_); rfl) | ((with_reducible refine upd_ne (by kernel_rfl) ?_); walk_at "mget") | (goal_lacks upd; first | exact if_pos rfl | (refine Eq.trans (if_neg (by decide)) ?_; walk_at "mget")))
  k_with "newTuple" => ((refine' r_tuple (by walk_at "asm") (by walk_at "asm") (by exact Nat.le_of_ble_eq_true rfl) ?_); intro _ _ _ _ _; walk_at "lt"; (try k_sweep))
  k_with "ite" => (first | with_reducible refine ite_tt ?_ | with_reducible refine ite_ff ?_ | (refine ite_pos (by with_reducible assumption) ?_) | (refine ite_neg (by refine ne_true_of_eq_false ?_; with_reducible assumption) ?_))
  k_with "tup" => (first | (refine News.isTup (by walk_at "asm") (by walk_at "mem")) | with_reducible assumption | (refine stays_tup (Fr.keep (by walk_at "asm")) (by walk_at "asm")))
  k_with "lst" => (first | (refine News.isList (by walk_at "asm") (by walk_at "mem")) | with_reducible assumption | (refine stays_list (Fr.keep (by walk_at "asm")) (by walk_at "asm")))
  k_with "off" => (first | exact List.forall_mem_nil _ | exact OwnOff.ne (by with_reducible assumption) (List.Mem.head _) | (refine List.forall_mem_cons.mpr ?_; refine And.intro ?_ ?_; (focus k_ne); (walk_at "off")))
  k_with "upd" => (first | (apply upd_hd; walk_at "off") | (apply upd_tl; (case hne => k_ne); (case hu => walk_at "upd")))
  k_with "RunTo" => ((first | refine NextTo.next (by with_reducible assumption) ?_ | refine NextTo.ret (by with_reducible assumption) ?_ | refine NextTo.brk (by with_reducible assumption) ?_ | refine NextTo.cont (by with_reducible assumption) ?_); (try dsimp only))
  k_with "go" => (repeat' (first | (k_unfold; (try dsimp only)) | walk1 | (dsimp only; walk1)))
  k_with "sides" => (((case b => (k_is)); (case c => (k_is)); (case a => (exact Ar.room (by assumption))); (case d => (exact BindsTo.of_eq rfl)); (case e => (exact locs rfl)); (case g => (rfl)); (case h => (rfl)); (case i => (rfl)); (case j => (decide))))
  k_with "mem" => (first | exact List.Mem.head _ | (refine' List.Mem.tail _ ?_; walk_at "mem"))
  k_with "units" => (first | exact Ar.units0 (by assumption) _ | exact Ar.unitsD (by assumption) (by decide) _)
  k_with "asm" => (with_reducible assumption)
  k_with "lt" => (((rename ∀ p ∈ _, (p : Addr × Obj).1 < _ => l9); (replace l9 := allLt_of l9); (dsimp only [AllLt] at l9)))
  k_with "ne" => (((rename ∀ p ∈ _, (p : Addr × Obj).1 ≠ _ => l9); (replace l9 := allNe_of l9); (dsimp only [AllNe] at l9)))
  k_with "storeName" => ((with_reducible refine' r_store (by walk_at "asm") (by walk_at "asm") (by kernel_rfl) ?_); intro _ _ _; (try k_sweep))
  k_with "exec While Compare cons nil" => (refine Halt.out ?_)
  k_with "exec While BoolOp cons nil" => (refine Halt.out ?_)
  k_with "exec While Constant cons nil" => (refine Halt.out ?_)
  k_with "exec While Name cons nil" => (refine Halt.out ?_)
  k_with "exec While" => (refine Halt.out ?_)
  k_with "execs cons" => (first | (refine execs_lastQ (fun tk => ?_)) | (refine execs_consQ (fun tk qk hqk => ?_)))
  k_with "newList" => (((refine' r_list (by walk_at "asm") (by walk_at "asm") (by exact Nat.le_of_ble_eq_true rfl) ?_); intro _ _ _ _ _; walk_at "lt"; (try k_sweep)))
  k_with "subscriptTail Name Slice str ref" => ((with_reducible first | refine' slice_ss5 (by walk_at "asm") (by walk_at "asm") (by with_reducible assumption) ?_ | refine' slice_sn5 (by walk_at "asm") (by walk_at "asm") (by with_reducible assumption) ?_); intro _ _ _ _ _; (try k_sweep))
  k_with "handled" => (first | exact Ar.hhD (by assumption) _ | exact Ar.hh (by assumption) | rfl)
  k_with "assign Tuple" => (((with_reducible show wpAny _ _ (assign (Expr.Tuple _ _ _) _ (Value.ref _)) _ _ _); k_dflt (refine' r_unpack (by walk_at "asm") (by walk_at "asm") (by walk_at "tup") (by walk_at "handled") rfl rfl ?_); intro _ _ _; (try k_sweep)))
  k_with "asz" => (k_dflt (first | exact aszL (by with_reducible assumption) | exact Nat.le_of_ble_eq_true rfl))
  k_with "call builtin:list.append" => (((with_reducible show wpAny _ _ (call (Value.builtin _) [Value.ref _, _]) _ _ _); (refine' r_append (by walk_at "asm") (by walk_at "asm") (by walk_at "upd") (by walk_at "asz") ?_); intro _ _ _; (try k_sweep)))
  k_with "sub" => ((intro _ hpK9; first | exact List.mem_of_mem_tail hpK9 | (simp only [List.mem_cons, List.mem_append] at hpK9 ⊢; grind)))
  k_with "exec For Tuple Name cons nil" => ((k_dflt (refine' wpAny_For ?_ (by intro _; rfl))))
  k_with "exec For Name Name cons nil" => ((k_dflt (refine' wpAny_For ?_ (by intro _; rfl))))
  k_with "exec For Name Call cons nil" => ((k_dflt (refine' wpAny_For ?_ (by intro _; rfl))))
  k_with "exec For Name List cons nil" => ((k_dflt (refine' wpAny_For ?_ (by intro _; rfl))))
  k_with "exec For Name Attribute cons nil" => ((k_dflt (refine' wpAny_For ?_ (by intro _; rfl))))
  k_with "pyIter ref" => (refine Halt.out ?_)
  k_with "subscriptTail Name Constant ref int" => (((with_reducible show wpAny _ _ (subscriptTail _ _ (Value.ref _) (Value.int _ _)) _ _ _); (refine' item_tupleL (by refine' News.isTup (by walk_at "asm") (by walk_at "mem")) (by decide) (by decide) rfl rfl ?_ (by with_unfolding_all rfl) (by intro _; with_unfolding_all rfl))))
  k_with "eval Name" => ((goal_lacks compEnvC; first | (with_reducible refine' nmK (by decide +kernel) (by walk_at "asm") (by walk_at "mget") ?_) | k_dflt (first | (goal_lacks envOf; refine' nameX_L (by walk_at "asm") (by walk_at "mget") ?_ rfl (by with_unfolding_all rfl) (by decide)) | (goal_lacks envOf; refine' nameX_C (by walk_at "asm") rfl (by walk_at "mem") (by walk_at "asm") ?_ rfl (by with_unfolding_all rfl) (by decide)) | (refine' nameX_K (by walk_at "asm") (by walk_at "asm") (by k_asm) (by k_is) ?_ rfl (by with_unfolding_all rfl) (by decide)) | (refine' nameX_B (by walk_at "asm") (by walk_at "asm") (by k_asm) (by k_is) (by boot_fast) (by decide) ?_ rfl (by with_unfolding_all rfl) (by decide)))))
  k_with "loadName" => ((first | (with_reducible refine' ldL (by walk_at "asm") (by walk_at "mget") (by kernel_rfl) ?_) | k_dflt (refine' ldX (by walk_at "asm") (by walk_at "mget") ?_ rfl (by with_unfolding_all rfl))))
  trivial
theorem Ar.dep {A : Around} {d u : Nat} (h : Ar A d u) (hd : 200 ≤ d) (env : Env) : (A.deeper env).depth ≤ 800 := by have := h.hd; show A.depth + 1 ≤ 800; lia
theorem Ar.uni {A : Around} {d u : Nat} (h : Ar A d u) (hu : 2000 ≤ u) (env : Env) : (A.deeper env).units ≤ 8000 := by have := h.hu; show A.units + 3 ≤ 8000; lia
noncomputable def ItemIn (sa : Addr) (v : Value) (o : Option Str) : Prop := match o with
  | none => v = .ref sa
  | some s => ∃ t, v = .str s t
/-- one statement walked by itself -/
noncomputable def Cut (h₀ : Heap) (L : Addr) (os : OsState) (J : (Str → Option Value) → List (Addr × Obj) → Prop) (f : Flow) (s₃ : Shared) : Prop :=
  f = .next ∧ s₃.os = os ∧ AllBare s₃.gens ∧ ∃ m₂ news₂, Fr h₀ L s₃.heap m₂ ∧ News h₀ L s₃.heap news₂ ∧ J m₂ news₂
theorem Cut.intro {h₀ : Heap} {L : Addr} {os : OsState} {s₃ : Shared} {J : (Str → Option Value) → List (Addr × Obj) → Prop} {m₂ : Str → Option Value} {news₂ : List (Addr × Obj)} (ho : s₃.os = os) (hg : AllBare s₃.gens)
    (F : Fr h₀ L s₃.heap m₂) (N : News h₀ L s₃.heap news₂) (hJ : J m₂ news₂) : Cut h₀ L os J .next s₃ := ⟨rfl, ho, hg, _, _, F, N, hJ⟩
theorem cutX {M : Model} {A : Around} {E : Value → Shared → Prop} {Q : Flow → Shared → Prop} {s : Shared} {env : Env} {h₀ : Heap} {L : Addr} {os : OsState} {st : Stmt} (J : (Str → Option Value) → List (Addr × Obj) → Prop)
    (step : wpAny M A (exec st env) (Cut h₀ L os J) E s)
    (rest : ∀ h g d tk m₂ news₂, AllBare g → Fr h₀ L h m₂ → News h₀ L h news₂ → J m₂ news₂ → Q .next ⟨h, g, d, tk, os⟩) : wpAny M A (exec st env) Q E s := by
  refine wpAny_mono step (fun f s₃ h => ?_) fun _ _ x => x
  obtain ⟨rfl, h2, h3, m₂, news₂, F, N, J⟩ := h
  obtain ⟨hh, g, d, tk, os'⟩ := s₃
  cases h2
  exact rest hh g d tk m₂ news₂ h3 F N J
theorem allLt_mem' {a : Addr} : ∀ {l : List (Addr × Obj)}, AllLt a l → ∀ p ∈ l, p.1 < a
  | [], _, _, hp => nomatch hp
  | _ :: _, h, p, hp => by
    rcases List.mem_cons.mp hp with rfl | hp
    · exact h.1
    · exact allLt_mem' h.2 _ hp
end Mine
theorem Mine.off_S11 : True := by w_top off; trivial
theorem Mine.rs_S11 {M : Model} {A : Around} {E : Value → Shared → Prop} {s : Shared} {Q : Flow → Shared → Prop} {p : Pos} {env : Env} (h : wpAny M A (exec (Stmt.Pass p) env) Q E s) : wpAny M A (exec (Stmt.Pass p) env) Q E s := by first | (walk1; fail) | exact h
namespace Mine
theorem reg_S11i : True := by
  k_with_none
  k_with "cj" => (first | with_reducible assumption | exact cj1 (by with_reducible assumption) | exact cj2 (by with_reducible assumption) | exact cj3 (by with_reducible assumption) | exact cj4 (by with_reducible assumption) | exact cj5 (by with_reducible assumption) | exact ce2 (by with_reducible assumption) | exact ce3 (by with_reducible assumption) | exact ce4 (by with_reducible assumption) | exact ce5 (by with_reducible assumption))
  k_with "ne1" => (refine neN ?_; first | with_reducible assumption | (refine Ne.symm ?_; with_reducible assumption) | walk_at "cj" | (refine Ne.symm ?_; walk_at "cj") | (refine Nat.ne_of_lt ?_; walk_at "cj") | (refine Nat.ne_of_gt ?_; walk_at "cj") | ((try dsimp only); omega))
  k_with "eval Constant int" => (refine r_int ?_)
  k_with "eval Constant str" => (refine r_str ?_)
  k_with "binaryOp Add int int" => (refine r_add ?_)
  k_with "binaryOp Sub int int" => (refine r_sub ?_)
  k_with "unaryOp USub int" => (refine r_neg ?_)
  k_with "inplaceOp Add int int" => (refine r_iadd ?_)
  k_with "eval Slice" => (refine r_slice ?_)
  k_with "SlQ" => (refine SlQ.go ?_)
  k_with "mget" => (first | with_reducible assumption | with_reducible exact upd_eq | ((with_reducible refine Eq.trans upd_eq ?_); rfl) | ((with_reducible refine upd_ne (by kernel_rfl) ?_); walk_at "mget") | (goal_lacks upd; first | exact if_pos rfl | (refine Eq.trans (if_neg (by decide)) ?_; walk_at "mget")))
  k_with "newTuple" => ((refine' r_tuple (by walk_at "asm") (by walk_at "asm") (by exact Nat.le_of_ble_eq_true rfl) ?_); intro _ _ _ _ _; walk_at "lt"; (try k_sweep))
  k_with "ite" => (first | with_reducible refine ite_tt ?_ | with_reducible refine ite_ff ?_ | (refine ite_pos (by with_reducible assumption) ?_) | (refine ite_neg (by refine ne_true_of_eq_false ?_; with_reducible assumption) ?_))
  k_with "tup" => (first | (refine News.isTup (by walk_at "asm") (by walk_at "mem")) | with_reducible assumption | (refine stays_tup (Fr.keep (by walk_at "asm")) (by walk_at "asm")))
  k_with "lst" => (first | (refine News.isList (by walk_at "asm") (by walk_at "mem")) | with_reducible assumption | (refine stays_list (Fr.keep (by walk_at "asm")) (by walk_at "asm")))
  k_with "off" => (first | exact List.forall_mem_nil _ | exact OwnOff.ne (by with_reducible assumption) (List.Mem.head _) | (refine List.forall_mem_cons.mpr ?_; refine And.intro ?_ ?_; (focus k_ne); (walk_at "off")))
  k_with "upd" => (first | (apply upd_hd; walk_at "off") | (apply upd_tl; (case hne => k_ne); (case hu => walk_at "upd")))
  k_with "RunTo" => ((first | refine NextTo.next (by with_reducible assumption) ?_ | refine NextTo.ret (by with_reducible assumption) ?_ | refine NextTo.brk (by with_reducible assumption) ?_ | refine NextTo.cont (by with_reducible assumption) ?_); (try dsimp only))
  k_with "go" => (repeat' (first | (k_unfold; (try dsimp only)) | walk1 | (dsimp only; walk1)))
  k_with "sides" => (((case b => (k_is)); (case c => (k_is)); (case a => (exact Ar.room (by assumption))); (case d => (exact BindsTo.of_eq rfl)); (case e => (exact locs rfl)); (case g => (rfl)); (case h => (rfl)); (case i => (rfl)); (case j => (decide))))
  k_with "mem" => (first | exact List.Mem.head _ | (refine' List.Mem.tail _ ?_; walk_at "mem"))
  k_with "units" => (first | exact Ar.units0 (by assumption) _ | exact Ar.unitsD (by assumption) (by decide) _)
  k_with "asm" => (with_reducible assumption)
  k_with "lt" => (((rename ∀ p ∈ _, (p : Addr × Obj).1 < _ => l9); (replace l9 := allLt_of l9); (dsimp only [AllLt] at l9)))
  k_with "ne" => (((rename ∀ p ∈ _, (p : Addr × Obj).1 ≠ _ => l9); (replace l9 := allNe_of l9); (dsimp only [AllNe] at l9)))
  k_with "storeName" => ((with_reducible refine' r_store (by walk_at "asm") (by walk_at "asm") (by kernel_rfl) ?_); intro _ _ _; (try k_sweep))
  k_with "exec While Compare cons nil" => (refine Halt.out ?_)
  k_with "exec While BoolOp cons nil" => (refine Halt.out ?_)
  k_with "exec While Constant cons nil" => (refine Halt.out ?_)
  k_with "exec While Name cons nil" => (refine Halt.out ?_)
  k_with "exec While" => (refine Halt.out ?_)
  k_with "execs cons" => (first | (refine execs_lastQ (fun tk => ?_)) | (refine execs_consQ (fun tk qk hqk => ?_)))
  k_with "newList" => (((refine' r_list (by walk_at "asm") (by walk_at "asm") (by exact Nat.le_of_ble_eq_true rfl) ?_); intro _ _ _ _ _; walk_at "lt"; (try k_sweep)))
  k_with "subscriptTail Name Slice str ref" => ((with_reducible first | refine' slice_ss5 (by walk_at "asm") (by walk_at "asm") (by with_reducible assumption) ?_ | refine' slice_sn5 (by walk_at "asm") (by walk_at "asm") (by with_reducible assumption) ?_); intro _ _ _ _ _; (try k_sweep))
  k_with "handled" => (first | exact Ar.hhD (by assumption) _ | exact Ar.hh (by assumption) | rfl)
  k_with "assign Tuple" => (((with_reducible show wpAny _ _ (assign (Expr.Tuple _ _ _) _ (Value.ref _)) _ _ _); k_dflt (refine' r_unpack (by walk_at "asm") (by walk_at "asm") (by walk_at "tup") (by walk_at "handled") rfl rfl ?_); intro _ _ _; (try k_sweep)))
  k_with "asz" => (k_dflt (first | exact aszL (by with_reducible assumption) | exact Nat.le_of_ble_eq_true rfl))
  k_with "call builtin:list.append" => (((with_reducible show wpAny _ _ (call (Value.builtin _) [Value.ref _, _]) _ _ _); (refine' r_append (by walk_at "asm") (by walk_at "asm") (by walk_at "upd") (by walk_at "asz") ?_); intro _ _ _; (try k_sweep)))
  k_with "sub" => ((intro _ hpK9; first | exact List.mem_of_mem_tail hpK9 | (simp only [List.mem_cons, List.mem_append] at hpK9 ⊢; grind)))
  k_with "exec For Tuple Name cons nil" => ((k_dflt (refine' wpAny_For ?_ (by intro _; rfl))))
  k_with "exec For Name Name cons nil" => ((k_dflt (refine' wpAny_For ?_ (by intro _; rfl))))
  k_with "exec For Name Call cons nil" => ((k_dflt (refine' wpAny_For ?_ (by intro _; rfl))))
  k_with "exec For Name List cons nil" => ((k_dflt (refine' wpAny_For ?_ (by intro _; rfl))))
  k_with "exec For Name Attribute cons nil" => ((k_dflt (refine' wpAny_For ?_ (by intro _; rfl))))
  k_with "pyIter ref" => (refine Halt.out ?_)
  k_with "subscriptTail Name Constant ref int" => (((with_reducible show wpAny _ _ (subscriptTail _ _ (Value.ref _) (Value.int _ _)) _ _ _); (refine' item_tupleL (by refine' News.isTup (by walk_at "asm") (by walk_at "mem")) (by decide) (by decide) rfl rfl ?_ (by with_unfolding_all rfl) (by intro _; with_unfolding_all rfl))))
  k_with "eval Name" => ((goal_lacks compEnvC; first | (with_reducible refine' nmK (by decide +kernel) (by walk_at "asm") (by walk_at "mget") ?_) | k_dflt (first | (goal_lacks envOf; refine' nameX_L (by walk_at "asm") (by walk_at "mget") ?_ rfl (by with_unfolding_all rfl) (by decide)) | (goal_lacks envOf; refine' nameX_C (by walk_at "asm") rfl (by walk_at "mem") (by walk_at "asm") ?_ rfl (by with_unfolding_all rfl) (by decide)) | (refine' nameX_K (by walk_at "asm") (by walk_at "asm") (by k_asm) (by k_is) ?_ rfl (by with_unfolding_all rfl) (by decide)) | (refine' nameX_B (by walk_at "asm") (by walk_at "asm") (by k_asm) (by k_is) (by boot_fast) (by decide) ?_ rfl (by with_unfolding_all rfl) (by decide)))))
  k_with "loadName" => ((first | (with_reducible refine' ldL (by walk_at "asm") (by walk_at "mget") (by kernel_rfl) ?_) | k_dflt (refine' ldX (by walk_at "asm") (by walk_at "mget") ?_ rfl (by with_unfolding_all rfl))))
  trivial
theorem rg_S11i_1 : True := by
  k_with "unpackItems ref" => ((k_dflt (refine' unpackItemsN_ (by walk_at "asm") (by walk_at "asm") (by walk_at "tup") (by walk_at "handled") (by exact rfl) ?_); intro _ _ _; (try k_sweep)))
  k_with "getAttr ref" => (((with_reducible show wpAny _ _ (getAttr (Value.ref _) (PySem.Str.ofString "append") true) _ _ _); k_dflt (refine' bm_makeK (by walk_at "asm") (by walk_at "asm") (by with_reducible assumption) (by walk_at "handled") (by exact Ar.dep (by with_reducible assumption) (by decide) _) (by exact Ar.uni (by with_reducible assumption) (by decide) _) (by walk_at "mem") ?_); intro _ _ _ _ _ _; walk_at "ne"; (try k_sweep)))
  k_with "callWith ref" => (((with_reducible show wpAny _ _ (callWith _ (Value.ref _) [] _ []) _ _ _); k_dflt (refine' bm_callWith (by walk_at "asm") (by walk_at "mem") ?_ rfl rfl)))
  k_with "BmPost" => ((k_dflt (refine' BmPost.intro (by walk_at "asm") (by walk_at "mem") ?_)))
  k_with "call ref" => (((with_reducible show wpAny _ _ (call (Value.ref _) [_] []) _ _ _); k_dflt (refine' bm_callK (by walk_at "asm") (by walk_at "asm") (by walk_at "mem") (by walk_at "upd") ?_ (by walk_at "asz")); intro _ _ _; (try k_sweep)))
  trivial
theorem trStart {h₀ : Heap} {L : Addr} {h : Heap} {t q r z : Addr × Obj} (N : News h₀ L h [t, q, r, z]) : News h₀ L h [r, q, z] := subN N fun p hp => by simp only [List.mem_cons] at hp ⊢; grind
noncomputable def find4 (x y : Str) (i j : Int) : Int := match Builtin.Str.occurrences x y (fromIndex x.length i) (min (fromIndex x.length j) x.length) 1 with | k :: _ => (k : Int) | [] => -1
theorem find4_told {prog : Program} {w : World} {A : Around} {E : Value → Shared → Prop} {s : Shared} {x y : Str} {t u v v2 : Tok} {i j r : Int} {Q : Value → Shared → Prop} (hr : find4 x y i j = r) (hq : Q (.int r s.toks) { s with toks := s.toks + 1 }) :
    wpAny (model prog w) A (call (.builtin "str.find") [.str x t, .str y u, .int i v, .int j v2]) Q E s := by
  subst hr
  refine call_gives PySem.F.slot_str_find (typeIs_str _ _ _) PySem.F.entry_str_find (PySem.F.args_str_find_4 _ _ _ _) (m := .int (find4 x y i j)) ?_ hq
  show Gives (match Builtin.Str.occurrences x y (fromIndex x.length i) (min (fromIndex x.length j) x.length) 1 with | k :: _ => retInt k | [] => (do rule "str.find.not-found"; retInt (-1))) _
  unfold find4
  cases Builtin.Str.occurrences x y (fromIndex x.length i) (min (fromIndex x.length j) x.length) 1 with
  | nil => exact .rule (.of_eq rfl)
  | cons k _ => exact .of_eq rfl
inductive Dash : Str → Str → Str → Prop
  | ba : Dash (Str.ofString "b") (Str.ofString "a|") (Str.ofString "|")
  | pl : Dash (Str.ofString "+") (Str.ofString "}") (Str.ofString "+-}")
  | pa : Dash (Str.ofString ")") (Str.ofString "*") (Str.ofString ")-*")
  | bs : Dash (Str.ofString "\\") (Str.ofString "") (Str.ofString "\\\\\\-")
inductive StuffTo (x : Str) (i j : Int) : Str → Str → Prop
  | plain {u : Str} : Txt.contains u (Str.ofString "-") = false → u.length ≤ 100 → StuffTo x i j u (Txt.replace u (Str.ofString "\\") (Str.ofString "\\\\"))
  | one {u0 : Str} : Txt.contains u0 (Str.ofString "-") = true → u0.length ≤ 100 → (Txt.item x i == Str.ofString "!") = false → find4 x (Str.ofString "-") (i + 1) j = -1 → Txt.slice x (some i) (some j) = Str.ofString "-" → StuffTo x i j u0 (Str.ofString "\\-")
  | two {u0 a r u : Str} : Txt.contains u0 (Str.ofString "-") = true → u0.length ≤ 100 → (Txt.item x i == Str.ofString "!") = false → find4 x (Str.ofString "-") (i + 1) j = i + 1 → Txt.slice x (some i) (some (i + 1)) = a → find4 x (Str.ofString "-") (i + 1 + 3) j = -1 → Txt.slice x (some (i + 1 + 1)) (some j) = r → Dash a r u → StuffTo x i j u0 u
inductive PieceOf : Str → Str → Prop
  | barred {v : Str} : 2 ≤ v.length → v.length ≤ 100 → (Str.ofString "^" ++ Txt.slice v (some 1) none).length ≤ 200 → (v == Str.ofString "!") = false → (Txt.item v 0 == Str.ofString "!") = true → PieceOf v (Str.empty ++ Str.ofString "[" ++ (Str.ofString "^" ++ Txt.slice v (some 1) none) ++ Str.ofString "]")
  | told {v : Str} : 1 ≤ v.length → v.length ≤ 100 → (v == Str.ofString "!") = false → (Txt.item v 0 == Str.ofString "!") = false → ([Str.ofString "^", Str.ofString "["].any fun x => x == Txt.item v 0) = true → PieceOf v (Str.empty ++ Str.ofString "[" ++ (Str.ofString "\\" ++ v) ++ Str.ofString "]")
  | bare {v : Str} : 1 ≤ v.length → v.length ≤ 100 → (v == Str.ofString "!") = false → (Txt.item v 0 == Str.ofString "!") = false → ([Str.ofString "^", Str.ofString "["].any fun x => x == Txt.item v 0) = false → PieceOf v (Str.empty ++ Str.ofString "[" ++ v ++ Str.ofString "]")
inductive OptAt (x c : Str) : Int → Int → Prop
  | yes {j : Int} : (Txt.item x j == c) = true → OptAt x c j (j + 1)
  | no {j : Int} : (Txt.item x j == c) = false → OptAt x c j j
theorem OptAt.le {x c : Str} {a b : Int} (h : OptAt x c a b) : a ≤ b := by cases h <;> omega
inductive TrP (x : Str) : Nat → Int → List (Option Str) → List (Option Str) → Prop
  | stop {i : Int} {rs : List (Option Str)} : i = (x.length : Int) → TrP x 0 i rs rs
  | star {n : Nat} {i : Int} {rs out : List (Option Str)} : i < (x.length : Int) → Txt.item x i = Str.ofString "*" → (∀ rs', rs ≠ rs' ++ [none]) → TrP x n (i + 1) (rs ++ [none]) out → TrP x (n + 1) i rs out
  | star2 {n : Nat} {i : Int} {rs out : List (Option Str)} : i < (x.length : Int) → Txt.item x i = Str.ofString "*" → TrP x n (i + 1) (rs ++ [none]) out → TrP x (n + 1) i (rs ++ [none]) out
  | any {n : Nat} {i : Int} {rs out : List (Option Str)} : i < (x.length : Int) → Txt.item x i = Str.ofString "?" → TrP x n (i + 1) (rs ++ [some (Str.ofString ".")]) out → TrP x (n + 1) i rs out
  | set {n : Nat} {i j1 j2 je : Int} {u0 u v z : Str} {rs out : List (Option Str)} : i < (x.length : Int) → Txt.item x i = Str.ofString "[" → OptAt x (Str.ofString "!") (i + 1) j1 → OptAt x (Str.ofString "]") j1 j2 → j2 ≤ je → je < (x.length : Int) →
      (∀ k, j2 ≤ k → k < je → (Txt.item x k == Str.ofString "]") = false) → (Txt.item x je == Str.ofString "]") = true → Txt.slice x (some (i + 1)) (some je) = u0 → StuffTo x (i + 1) je u0 u → SubTo u v → PieceOf v z → TrP x n (je + 1) (rs ++ [some z]) out → TrP x (n + 1) i rs out
  | lone {n : Nat} {i : Int} {c : Nat} {rs out : List (Option Str)} : i < (x.length : Int) → Txt.item x i = ⟨#[c]⟩ → lone c = true → TrP x n (i + 1) (rs ++ [some (escOf c)]) out → TrP x (n + 1) i rs out
noncomputable abbrev lamQ : Str := Str.ofString "_translate.<locals>.<lambda>"
/-- the code table and the code objects that the ledger holds -/
noncomputable def TabOk (pl : Pos) (ps : Array Value) (imm : List (Addr × Obj)) : Prop := TriplesOk ps.toList ∧ (codeAmong pl ps.toList = none ∨ ∃ c' oc vs t, codeAmong pl ps.toList = some (.ref c') ∧ (c', oc) ∈ imm ∧ oc.data = .fields vs ∧ vs[1]? = some (.str lamQ t))
theorem lam_make {M : Model} {A : Around} {E : Value → Shared → Prop} {s : Shared} {h₀ : Heap} {L a c rl qa : Addr} {m mg mb : Str → Option Value} {cn : Str} {cs : Scope} {cl : List (Str × Addr)} {lo qo : Obj} {imm : List (Addr × Obj)} {p : Program} {loose : List Str} {mean : ExcName → Option Value} {params : Arguments} {body : PySem.Expr} {scope : Scope} {ps : Array Value} {pl : Pos} {firstLine : Nat} {Q : Value → Shared → Prop}
    (F : Fr h₀ L s.heap m) (N : News h₀ L s.heap ((rl, lo) :: (qa, qo) :: (130, tabObj ps) :: imm)) (T : Top p loose mean mg mb h₀) (C : CodeHd h₀ c 130) (o1 : OwnOff imm [rl]) (o2 : OwnOff imm [130]) (n1 : @Ne Nat rl 130) (n2 : @Ne Nat qa 130) (hok : TabOk pl ps imm)
    (hcl : closureFor scope (envX cn cs L a (.ref c) cl) = pure [])
    (h : ∀ f c' ctv ps2 imm2 h' tk, Fr h₀ L h' m → News h₀ L h' ((f, kla_obj (Str.ofString "<lambda>") lamQ params body scope [] ((mg "__name__").getD .none) c' ctv) :: (rl, lo) :: (qa, qo) :: (130, tabObj ps2) :: imm2) → TabOk pl ps2 imm2 → OwnOff imm2 [rl] → OwnOff imm2 [130] → h'.CodeRec (.ref c') lamQ → Q (.ref f) { s with heap := h', toks := tk }) :
    wpAny M A (makeFunction (Str.ofString "<lambda>") lamQ params (.expr body) scope (envX cn cs L a (.ref c) cl) [] [] [] pl firstLine) Q E s := by
  obtain ⟨ht, hnone | ⟨c', oc, vs, t, hsome, hmem, hd, hv⟩⟩ := hok
  · refine kla_nest F N T C rfl (.tail n1 (.tail n2 (.head (o2.ne (List.Mem.head _))))) ht hnone hcl fun f c' oc vs t ctv h' tk F' N' hd hv l1 l2 => ?_
    refine h f c' ctv (ps ++ #[rawInt pl.line, rawInt pl.col, .ref c']) ((c', oc) :: imm) h' tk F' (subN N' fun p hp => ?_) ⟨?_, .inr ⟨c', oc, vs, t, ?_, List.Mem.head _, hd, hv⟩⟩ ?_ ?_ ⟨c', oc, vs, t, rfl, (N' (c', oc) (List.Mem.tail _ (List.Mem.head _))).1, hd, hv⟩
    · simp only [List.mem_cons] at hp ⊢; grind
    · rw [Array.toList_append]; exact TriplesOk_snoc _ _ _ _ ht
    · rw [Array.toList_append]; exact codeAmong_snoc _ ht hnone
    · intro q hq b hb
      rw [List.mem_singleton.mp hb]
      rcases List.mem_cons.mp hq with rfl | hq
      · exact (Nat.ne_of_lt (l1 (rl, lo) (List.Mem.head _))).symm
      · exact o1 q hq rl (List.Mem.head _)
    · intro q hq b hb
      rw [List.mem_singleton.mp hb]
      rcases List.mem_cons.mp hq with rfl | hq
      · exact (Nat.ne_of_lt (l1 (130, tabObj ps) (List.Mem.tail _ (List.Mem.tail _ (List.Mem.head _))))).symm
      · exact o2 q hq 130 (List.Mem.head _)
  · refine kla_hit (c' := c') F N T C rfl (List.Mem.tail _ (List.Mem.tail _ (List.Mem.head _))) ht hsome hcl fun f ctv h' tk F' N' l1 => ?_
    exact h f c' ctv ps imm h' tk F' N' ⟨ht, .inr ⟨c', oc, vs, t, hsome, hmem, hd, hv⟩⟩ o1 o2 ⟨c', oc, vs, t, rfl, (N' (c', oc) (List.Mem.tail _ (List.Mem.tail _ (List.Mem.tail _ (List.Mem.tail _ hmem))))).1, hd, hv⟩
noncomputable abbrev lamP : Pos := ⟨114, 39, 114, 76⟩
noncomputable def trJ (x : Str) (tx : Tok) (sa : Addr) (out : List (Option Str)) (n : Nat) (m : Str → Option Value) (news : List (Addr × Obj)) : Prop :=
  ∃ i ti rs rv re rl qa ps imm tn tq, news = (rl, listOf (List.toArray rv) re) :: (qa, bmObj rl) :: (130, tabObj ps) :: imm ∧ TrP x n i rs out ∧ Rel2 (ItemIn sa) rv rs ∧ OwnOff imm [rl] ∧ OwnOff imm [130] ∧ TabOk lamP ps imm ∧ @Ne Nat rl qa ∧ @Ne Nat rl 130 ∧ @Ne Nat qa 130 ∧ rv.length + n ≤ 1000 ∧ 0 ≤ i ∧ i ≤ (x.length : Int) ∧
    m (Str.ofString "pat") = some (.str x tx) ∧ m (Str.ofString "STAR") = some (.ref sa) ∧ m (Str.ofString "QUESTION_MARK") = some (.str (Str.ofString ".") tq) ∧ m (Str.ofString "res") = some (.ref rl) ∧ m (Str.ofString "add") = some (.ref qa) ∧ m (Str.ofString "i") = some (.int i ti) ∧ m (Str.ofString "n") = some (.int (x.length : Int) tn)
theorem tr_end {x : Str} {tx : Tok} {sa : Addr} {out rs : List (Option Str)} {n : Nat} {h₀ : Heap} {L : Addr} {s s₃ : Shared} {m₂ : Str → Option Value} {i j : Int} {ti tn tq : Tok} {rv : List Value} {re : Nat} {rl qa : Addr} {ps : Array Value} {imm : List (Addr × Obj)} {v : Value} {o : Option Str}
    (ho : s₃.os = s.os) (hg : AllBare s₃.gens) (N : News h₀ L s₃.heap ((rl, listOf (rv.toArray.push v) re) :: (qa, bmObj rl) :: (130, tabObj ps) :: imm)) (F : Fr h₀ L s₃.heap m₂) (hrun : TrP x n j (rs ++ [o]) out) (hrel : Rel2 (ItemIn sa) rv rs) (hv : ItemIn sa v o)
    (o1 : OwnOff imm [rl]) (o2 : OwnOff imm [130]) (tok : TabOk lamP ps imm) (ne1 : @Ne Nat rl qa) (ne2 : @Ne Nat rl 130) (ne3 : @Ne Nat qa 130) (hlen : rv.length + (n + 1) ≤ 1000) (hi0 : 0 ≤ i) (hij : i ≤ j) (hj : j ≤ (x.length : Int))
    (c1 : m₂ (Str.ofString "pat") = some (.str x tx)) (c2 : m₂ (Str.ofString "STAR") = some (.ref sa)) (c3 : m₂ (Str.ofString "QUESTION_MARK") = some (.str (Str.ofString ".") tq)) (c4 : m₂ (Str.ofString "res") = some (.ref rl)) (c5 : m₂ (Str.ofString "add") = some (.ref qa)) (c6 : m₂ (Str.ofString "i") = some (.int j ti)) (c7 : m₂ (Str.ofString "n") = some (.int (x.length : Int) tn)) :
    GStep h₀ L s (trJ x tx sa out) (n + 1) .next s₃ := by
  rw [List.push_toArray] at N
  exact GStep.intro ho hg F N (Nat.lt_succ_self _) ⟨j, ti, rs ++ [o], rv ++ [v], re, rl, qa, ps, imm, tn, tq, rfl, hrun, hrel.snoc hv, o1, o2, tok, ne1, ne2, ne3, by simp only [List.length_append, List.length_singleton]; omega, by omega, hj, c1, c2, c3, c4, c5, c6, c7⟩
theorem Rel2.inv_snoc {α β : Type} {R : α → β → Prop} {l : List α} {a : α} {r : List β} (h : Rel2 R (l ++ [a]) r) : ∃ r' b, r = r' ++ [b] ∧ Rel2 R l r' ∧ R a b := by
  induction l generalizing r with
  | nil => cases h with | cons x y => cases y; exact ⟨[], _, rfl, .nil, x⟩
  | cons c l ih =>
    cases h with
    | cons x y =>
      obtain ⟨r', b, rfl, h1, h2⟩ := ih y
      exact ⟨_ :: r', b, rfl, .cons x h1, h2⟩
theorem nil_or_snoc {α : Type} (l : List α) : l = [] ∨ ∃ l' a, l = l' ++ [a] := by
  rcases List.eq_nil_or_concat l with h | ⟨l', a, h⟩
  · exact .inl h
  · exact .inr ⟨l', a, by rw [h, List.concat_eq_append]⟩
theorem lone_ne {x : Str} {i : Int} {c : Nat} (h : Txt.item x i = ⟨#[c]⟩) (hc : lone c = true) : (Txt.item x i == Str.ofString "*") = false ∧ (Txt.item x i == Str.ofString "?") = false ∧ (Txt.item x i == Str.ofString "[") = false := by
  rw [h]
  simp only [lone, Bool.or_eq_true, beq_iff_eq] at hc
  rcases hc with (((rfl | rfl) | rfl) | rfl) | rfl <;> decide
theorem last_it {prog : Program} {w : World} {A : Around} {E : Value → Shared → Prop} {s : Shared} {h₀ : Heap} {L : Addr} {news : List (Addr × Obj)} {value slice : PySem.Expr} {a : Addr} {l : List Value} {n : Nat} {k : Int} {u : Tok} {x : Value} {Q : Value → Shared → Prop}
    (N : News h₀ L s.heap news) (hm : (a, listOf (l ++ [x]).toArray n) ∈ news) (hk : k = -1) (h : Q x s)
    (hs : subscripted slice false (.ref a) (.int k u) = operate [.ref a, .int k u] (getItem (.ref a) (.int k u)) := by with_unfolding_all rfl) (hg : ∀ r, letTemporaryGo value (.ref a) r = pure () := by intro _; with_unfolding_all rfl) :
    wpAny (model prog w) A (subscriptTail value slice (.ref a) (.int k u)) Q E s := by
  refine kim_back (lo := listOf (l ++ [x]).toArray n) (n := n) (l := l ++ [x]) N hm rfl rfl (by omega) (by rw [List.length_append, List.length_singleton]; omega) (by rw [hk]; decide) ?_ h hs hg
  rw [show (k + ((l ++ [x]).length : Int)).toNat = l.length by rw [List.length_append, List.length_singleton]; omega]
  simp
theorem rgm_S11_1 : True := by
  k_with "subscriptTail Name UnaryOp ref int" => (((with_reducible show wpAny _ _ (subscriptTail _ _ (Value.ref _) (Value.int _ _)) _ _ _); k_dflt (refine' last_it (by walk_at "asm") (by walk_at "mem") rfl ?_ (by with_unfolding_all rfl) (by intro _; with_unfolding_all rfl))))
  trivial
theorem esc_call {w : World} {s : Shared} {A : Around} {y : Str} {c : Nat} {t : Tok} {Q : Value → Shared → Prop} {E : Value → Shared → Prop} {h₀ : Heap} {L : Addr} {m : Str → Option Value} {news : List (Addr × Obj)}
   (F : Fr h₀ L s.heap m) (N : News h₀ L s.heap news) (G : Gd w h₀) (hA : Ar A 1 10) (hy : y = ⟨#[c]⟩) (hc : lone c = true) (h : ∀ h' tk t', Fr h₀ L h' m → News h₀ L h' news → Q (.str (escOf c) t') {s with heap := h', toks := tk}) :
   wpAny (model PR w) A (call (.ref 128) [.str y t] []) Q E s := by
  subst hy
  exact wpAny_call (esc_walk (G.keeps F.keep) hA hc fun h' tk t' hk => h h' tk t' (stayF F hk) (stayN N hk))
theorem rg_S11i_2 : True := by
  k_with "call ref" => (((with_reducible show wpAny _ _ (call (Value.ref 128) [Value.str _ _] []) _ _ _); k_dflt (refine' esc_call (by walk_at "asm") (by walk_at "asm") (by with_reducible assumption) (by exact Ar.into (by assumption) (by decide) (by decide) _) (by with_reducible assumption) (by with_reducible assumption) ?_); intro _ _ _ _ _; (try k_sweep)))
  k_with "compareOp IsNot str ref" => (((with_reducible show wpAny _ _ (compareOp _ (Value.str _ _) (Value.ref _)) _ _ _); k_dflt (refine' wpAny_isNot_other rfl (by intro eK9; cases eK9) ?_)))
  trivial
theorem snoc_ne {α : Type} (l : List α) (a : α) : (l ++ [a]).isEmpty = false := by cases l <;> rfl
theorem rg_S11i_3 : True := by
  k_with "exec If Compare" => (((with_reducible show wpAny _ _ (exec (Stmt.If (Expr.Compare _ [CmpOp.NotIn] _ _) _ _ _) _) _ _ _); refine Halt.out ?_))
  k_with "exec If Compare cons cons" => (((with_reducible show wpAny _ _ (exec (Stmt.If (Expr.Compare _ [CmpOp.NotIn] _ _) _ _ _) _) _ _ _); refine Halt.out ?_))
  trivial
theorem Fre.plain_pattern : PlainAttrs "re.Pattern" :=
  ⟨⟨"object.__getattribute__", by rw [typeLookup_type, builtinLookup_eq_fast]; kernel_rfl, by decide +kernel⟩, by rw [typeLookup_type, builtinLookup_eq_fast]; kernel_rfl⟩
theorem Fre.type_sub : typeOf (.builtin "re.Pattern.sub") = pure (.type "method_descriptor") := by show builtinType _ = _; rw [builtinType_eq_fast]; kernel_rfl
theorem getMethod_sub {M : Model} {w : World} {A : Around} {E : Value → Shared → Prop} {s : Shared} {h₀ : Heap} {L : Addr} {m : Str → Option Value} {pl : Sem Bool} {Q : Value × List Value → Shared → Prop} (F : Fr h₀ L s.heap m) (X : (gen.heap_1 w.params).In h₀) (h : Q (.builtin "re.Pattern.sub", [.ref 109]) s) : wpAny M A (getMethod (.ref 109) (Str.ofString "sub") pl) Q E s :=
  getMethod_builtin (T := "re.Pattern") (name := Str.ofString "sub") (id := "re.Pattern.sub") ⟨_, F.keep _ _ (X _ _ (twin_at w.params)), rfl⟩ Fre.plain_pattern Fre.slot_sub Fre.type_sub (by intro _ e; cases e; exact ⟨_, F.keep _ _ (X _ _ (twin_at w.params)), rfl⟩) h
theorem rg_S11i_4 : True := by
  k_with "getMethod ref" => (k_dflt (refine' getMethod_sub (by walk_at "asm") (by with_reducible assumption) ?_))
  trivial
inductive NoGen : Prop
  | mk : NoGen
theorem rg_S11i_5 : True := by
  k_with "execs cons" => (((rename NoGen => ng9); first | (refine execs_lastR ?_) | (refine execs_consR (fun qk hqk => ?_))))
  k_with "call builtin:str.replace" => (((with_reducible show wpAny _ _ (call (Value.builtin _) [Value.str _ _, Value.str _ _, Value.str _ _]) _ _ _); k_dflt (refine' SC.replaceW (by exact Nat.succ_ne_zero _) (by exact Nat.succ_ne_zero _) (by exact Nat.ne_of_lt (Nat.lt_succ_self _)) (by decide) (by omega) (by decide) ?_); intro _ _))
  k_with "eval Lambda" => ((k_dflt (refine' kla_eval (by exact rfl) ?_); k_dflt (refine' lam_make (by walk_at "asm") (by walk_at "asm") (by with_reducible assumption) (by with_reducible assumption) (by with_reducible assumption) (by with_reducible assumption) (by with_reducible assumption) (by with_reducible assumption) (by with_reducible assumption) (by exact rfl) ?_); intro _ _ _ _ _ _ _ _ _ _ _ _ _; (try k_sweep)))
  trivial
theorem dropHd {h₀ : Heap} {L : Addr} {h : Heap} {a : Addr × Obj} {l : List (Addr × Obj)} (N : News h₀ L h (a :: l)) : News h₀ L h l := subN N fun _ hp => .tail _ hp
theorem rg_S11i_6 : True := by
  k_with "call builtin:re.Pattern.sub" => ((k_dflt (refine' sub_K (by walk_at "asm") (by walk_at "asm") (by with_reducible assumption) (by exact Ar.into (by assumption) (by decide) (by decide) _) (by with_reducible assumption) (by walk_at "mem") (by with_reducible assumption) ?_); intro _ _ _ _ N_pK9; (replace N_pK9 := dropHd N_pK9); (try k_sweep)))
  trivial
theorem len_br : (Str.ofString "[").length = 1 ∧ (Str.ofString "]").length = 1 ∧ Str.empty.length = 0 := ⟨rfl, rfl, rfl⟩
theorem rg_S11i_7 : True := by
  k_with "joinOk" => ((refine fitsL ?_; simp only [strLen_append, len_br.1, len_br.2.1, len_br.2.2]; omega))
  trivial
theorem rgm_S11_2 : True := by
  k_with "And" => (((with_reducible show PySem.Str.length (_ ++ _) ≤ sizeLine ∧ wpAny _ _ (joinParts _ _) _ _ _); refine' ⟨?_, ?_⟩; walk_at "joinOk"))
  trivial
theorem rg_S11i_8 : True := by
  k_with "joinParts" => (((first | (with_reducible show wpAny _ _ (joinParts _ []) _ _ _) | (with_reducible show wpAny _ _ (joinParts _ (evalEach [] _)) _ _ _)); (first | with_reducible refine' joinParts_nil ?_ ?_ | k_dflt (refine' joinParts_nil ?_ ?_)); rotate_left; walk_at "joinOk"))
  k_with "call builtin:str.find" => (((with_reducible show wpAny _ _ (call (Value.builtin _) [Value.str _ _, Value.str _ _, Value.int _ _, Value.int _ _]) _ _ _); k_dflt (refine' find4_told (by with_reducible assumption) ?_)))
  trivial
section
variable {prog : Program} {w : World} {A : Around} {E : Value → Shared → Prop}
/-- a while's turns, one by one: n at the most -/
noncomputable def WhN (prog : Program) (w : World) (A : Around) (E : Value → Shared → Prop) (test : PySem.Expr) (body : List Stmt) (env : Env) (Q : Flow → Shared → Prop) : Nat → Shared → Prop
  | 0, _ => False
  | n + 1, s => wpAny (model prog w) A (isTrue test env (eval test env)) (fun b s₂ =>
      if b = true then wpAny (model prog w) A (execs body env) (fun f s₃ => match f with | .next => WhN prog w A E test body env Q n s₃ | .cont => WhN prog w A E test body env Q n s₃ | .brk => Q .next s₃ | .ret v => Q (.ret v) s₃) E s₂ else Q .next s₂) E s
theorem WhN.succ {s : Shared} {test : PySem.Expr} {body : List Stmt} {env : Env} {Q : Flow → Shared → Prop} {n : Nat} (h : wpAny (model prog w) A (isTrue test env (eval test env)) (fun b s₂ =>
      if b = true then wpAny (model prog w) A (execs body env) (fun f s₃ => match f with | .next => WhN prog w A E test body env Q n s₃ | .cont => WhN prog w A E test body env Q n s₃ | .brk => Q .next s₃ | .ret v => Q (.ret v) s₃) E s₂ else Q .next s₂) E s) : WhN prog w A E test body env Q (n + 1) s := h
theorem While_n (n : Nat) {s : Shared} {test : PySem.Expr} {body : List Stmt} {env : Env} {Q : Flow → Shared → Prop} {pos : Pos} (h : WhN prog w A E test body env Q n s) (hE : PassesOwn (model prog w) A env E := by exact PassesOwn.never) :
    wpAny (model prog w) A (exec (.While test body [] pos) env) Q E s := by
  refine wpAny_While (codeAny_whileLoop (fun n s' => WhN prog w A E test body env Q n s') ?_ n h)
  intro n s' h'
  cases n with
  | zero => exact h'.elim
  | succ n =>
    refine wpAny_mono h' (fun b s₂ h₂ => ?_) hE
    cases b with
    | false =>
      simp only [Bool.false_eq_true, if_false] at h₂ ⊢
      exact wpAny_execs_nil h₂
    | true =>
      simp only [if_true] at h₂ ⊢
      refine wpAny_mono h₂ (fun f s₃ h₃ => ?_) hE
      cases f with
      | next => exact ⟨n, Nat.lt_succ_self _, h₃⟩
      | cont => exact ⟨n, Nat.lt_succ_self _, h₃⟩
      | brk => exact h₃
      | ret v => exact h₃
end
theorem slice_told {prog : Program} {w : World} {A : Around} {E : Value → Shared → Prop} {s : Shared} {h₀ : Heap} {L : Addr} {m : Str → Option Value} {news : List (Addr × Obj)} {value slice : PySem.Expr} {x y : Str} {t ui uj : Tok} {i j : Int} {Q : Value → Shared → Prop} (hy : Txt.slice x (some i) (some j) = y) (hF : Fr h₀ L s.heap m) (hN : News h₀ L s.heap news) (h : ∀ h' t' k, Fr h₀ L h' m → News h₀ L h' news → Q (.str y t') { s with heap := h', toks := k })
    (hs : subscripted slice false (.str x t) (.ref s.heap.objs.size) = operate [.ref s.heap.objs.size, .str x t] (getItem (.str x t) (.ref s.heap.objs.size)))
    (ht : ∀ r, letTemporaryGo value (.str x t) r = pure ()) (hsz : x.length ≤ sizeLine) :
    wpAny (model prog w) A (subscriptTail value slice (.str x t) (.ref s.heap.objs.size)) Q E { s with heap := s.heap.push { cls := .type "slice", data := .fields #[.int i ui, .int j uj, .none] } } := by
  subst hy
  exact slice_strN_ss hF hN h hs ht hsz
theorem Ar.roomD {A : Around} {d u : Nat} (h : Ar A d u) (hd : 1 ≤ d) (env : Env) : (A.deeper env).depth < recursionLimit := by have := h.hd; show A.depth + 1 < 1000; omega
theorem TabOk.same {pl : Pos} {ps ps2 : Array Value} {imm : List (Addr × Obj)} (h : TabOk pl ps imm) (ht : TriplesOk ps2.toList) (he : codeAmong pl ps2.toList = codeAmong pl ps.toList) : TabOk pl ps2 imm := ⟨ht, by rw [he]; exact h.2⟩
theorem gx_make4 {w : World} {A : Around} {E : Value → Shared → Prop} {s : Shared} {h₀ : Heap} {L a c la rl qa : Addr} {lo qo : Obj} {m mg mb : Str → Option Value} {cn : Str} {cs : Scope} {cl : List (Str × Addr)} {imm : List (Addr × Obj)} {p : Program} {loose : List Str} {mean : ExcName → Option Value} {ps : Array Value} {vs : List Value} {ts : List Str} {e : Nat} {px py : Pos} {Q : Value → Shared → Prop}
    (F : Fr h₀ L s.heap m) (N : News h₀ L s.heap ((la, listOf vs.toArray e) :: (rl, lo) :: (qa, qo) :: (130, tabObj ps) :: imm)) (T : Top p loose mean mg mb h₀) (C : CodeHd h₀ c 130) (n1 : @Ne Nat la 130) (n2 : @Ne Nat rl 130) (n3 : @Ne Nat qa 130) (o2 : OwnOff imm [130]) (hok : TabOk lamP ps imm) (hh : A.handled = none) (hroom : A.depth < recursionLimit) (hbare : AllBare s.gens)
    (hts : StrsAre vs ts) (hsz : ∀ t ∈ ts, t.length ≤ 100 ∧ (Txt.replace t (Str.ofString "\\") (Str.ofString "\\\\")).length ≤ 200)
    (hname : ∀ Q' : Value → Shared → Prop, Q' (.ref la) s → wpAny (model PR w) A (eval (.Name (Str.ofString "chunks") py) (envX cn cs L a (.ref c) cl)) Q' E s)
    (hcl : closureFor gxScope (envX cn cs L a (.ref c) cl) = pure []) (hs : ∀ x, genFold (.Name (Str.ofString "chunks") py) (envX cn cs L a (.ref c) cl) x = pure x)
    (h : ∀ g h' gs' tk' ps2, Fr h₀ L h' m → News h₀ L h' ((rl, lo) :: (qa, qo) :: (130, tabObj ps2) :: imm) → AllBare gs' → TabOk lamP ps2 imm →
      Gx w A L g ts ((rl, lo) :: (qa, qo) :: (130, tabObj ps2) :: imm) ⟨h', gs', s.drawn, tk', s.os⟩ → Q (.ref g) ⟨h', gs', s.drawn, tk', s.os⟩) :
    wpAny (model PR w) A (eval (.GeneratorExp gxElt [⟨.Name (Str.ofString "s") px, .Name (Str.ofString "chunks") py, [], 0⟩] gxScope genP) (envX cn cs L a (.ref c) cl)) Q E s := by
  refine gx_make (news := (la, listOf vs.toArray e) :: (rl, lo) :: (qa, qo) :: imm) F (subN N fun q hq => ?_) (List.Mem.head _) T C ?_ hok.1 hh hroom hbare hts hsz hname hcl hs fun g h' gs' tk' ps2 F' N' G' ht he X => ?_
  · simp only [List.mem_cons] at hq ⊢; grind
  · intro q hq
    rcases List.mem_cons.mp hq with rfl | hq
    · exact n1
    · rcases List.mem_cons.mp hq with rfl | hq
      · exact n2
      · rcases List.mem_cons.mp hq with rfl | hq
        · exact n3
        · exact o2 q hq 130 (List.Mem.head _)
  · have sub : ∀ q ∈ (rl, lo) :: (qa, qo) :: (130, tabObj ps2) :: imm, q ∈ (130, tabObj ps2) :: (la, listOf vs.toArray e) :: (rl, lo) :: (qa, qo) :: imm := fun q hq => by simp only [List.mem_cons] at hq ⊢; grind
    obtain ⟨K, k1, k2, k3⟩ := X
    exact h g h' gs' tk' ps2 F' (subN N' sub) G' (hok.same ht he) ⟨K, k1, fun q hq => k2 q (sub q hq), k3⟩
theorem rgm_S11_3 : True := by
  k_with "eval GeneratorExp" => ((k_dflt (refine' gx_make4 (by walk_at "asm") (by walk_at "asm") (by with_reducible assumption) (by with_reducible assumption) (by with_reducible assumption) (by with_reducible assumption) (by with_reducible assumption) (by with_reducible assumption) (by with_reducible assumption) (by walk_at "handled") (by exact Ar.roomD (by assumption) (by decide) _) (by with_reducible assumption) (by with_reducible assumption) (by with_reducible assumption) (by intro Q9 hq9; refine' nameX_L (by walk_at "asm") (by walk_at "mget") hq9 rfl (by with_unfolding_all rfl) (by decide)) (by exact rfl) (by intro _; with_unfolding_all rfl) ?_); intro _ _ _ _ _ _ _ _ _ _; (try k_sweep)))
  trivial
theorem rg_S11i_9 : True := by
  k_with "call builtin:str.join" => ((k_dflt (refine' gx_join (by walk_at "asm") (by walk_at "asm") (by with_reducible assumption) (by with_reducible assumption) (by with_reducible assumption) (by with_reducible assumption) ?_); intro _ _ _ _ _ _ _ _; (try k_sweep)))
  trivial
/-- behind the search for the dashes: the chunks -/
noncomputable def dhB (x : Str) (tx : Tok) (sa rl qa : Addr) (L0 imm : List (Addr × Obj)) (iv j : Int) (chs : List Str) (m : Str → Option Value) (news : List (Addr × Obj)) : Prop :=
  ∃ la vs e ti tj tn tq, news = (la, listOf (List.toArray vs) e) :: L0 ∧ StrsAre vs chs ∧ @Ne Nat la rl ∧ @Ne Nat la qa ∧ @Ne Nat la 130 ∧ OwnOff imm [la] ∧ m (Str.ofString "pat") = some (.str x tx) ∧ m (Str.ofString "STAR") = some (.ref sa) ∧ m (Str.ofString "QUESTION_MARK") = some (.str (Str.ofString ".") tq) ∧ m (Str.ofString "res") = some (.ref rl) ∧ m (Str.ofString "add") = some (.ref qa) ∧ m (Str.ofString "i") = some (.int iv ti) ∧ m (Str.ofString "j") = some (.int j tj) ∧ m (Str.ofString "n") = some (.int (x.length : Int) tn) ∧ m (Str.ofString "chunks") = some (.ref la)
theorem off_lt {imm : List (Addr × Obj)} {l : Addr} (h : AllLt l imm) : OwnOff imm [l] := fun p hp c hc => by rw [List.mem_singleton.mp hc]; exact Nat.ne_of_lt (allLt_mem' h p hp)
theorem off_lt4 {imm : List (Addr × Obj)} {l a b c : Addr} (h : a < l ∧ b < l ∧ c < l ∧ AllLt l imm) : OwnOff imm [l] := off_lt h.2.2.2
theorem strs2 {vs : List Value} {a b : Str} (h : StrsAre vs [a, b]) : ∃ t1 t2, vs = [.str a t1, .str b t2] := by
  cases h with
  | cons _ t1 h =>
    cases h with
    | cons _ t2 h =>
      cases h
      exact ⟨t1, t2, rfl⟩
theorem ck_item {prog : Program} {w : World} {A : Around} {E : Value → Shared → Prop} {s : Shared} {h₀ : Heap} {L : Addr} {news : List (Addr × Obj)} {value slice : PySem.Expr} {a : Addr} {l : List Value} {n : Nat} {k : Int} {u : Tok} {x : Value} {Q : Value → Shared → Prop}
    (N : News h₀ L s.heap news) (hm : (a, listOf (List.toArray l) n) ∈ news) (h0 : 0 ≤ k) (hfit : k < 2 ^ 63) (hx : l[k.toNat]? = some x) (h : Q x s)
    (hs : subscripted slice false (.ref a) (.int k u) = operate [.ref a, .int k u] (getItem (.ref a) (.int k u))) :
    wpAny (model prog w) A (subscriptTail value slice (.ref a) (.int k u)) Q E s :=
  kba_turn (value' := PySem.Expr.Name (PySem.Str.ofString "_") ⟨0, 0, 0, 0⟩) (fun _ => rfl) (kim_list N hm rfl rfl h0 hfit hx h hs (fun _ => rfl))
theorem strs1 {y z : Str} {t : Tok} (h : y = z) : StrsAre [.str y t] [z] := h ▸ .cons y t .nil
theorem nn_it {la it : Addr} {o o' : Obj} {L0 : List (Addr × Obj)} (h : ∀ p ∈ (la, o) :: L0, p.1 ≠ it) : ∀ p ∈ (la, o') :: L0, p.1 ≠ it := fun p hp => by
  rcases List.mem_cons.mp hp with rfl | hp
  · exact h (la, o) (List.Mem.head _)
  · exact h p (List.Mem.tail _ hp)
theorem told_eq {m : Str → Option Value} {k y z : Str} {t : Tok} (h : m k = some (.str y t)) (e : y = z) : m k = some (.str z t) := e ▸ h
theorem tr_tru {prog : Program} {w : World} {A : Around} {E : Value → Shared → Prop} {s : Shared} {h₀ : Heap} {L : Addr} {news : List (Addr × Obj)} {l : Addr} {vs : List Value} {n : Nat} {Q : Bool → Shared → Prop} (N : News h₀ L s.heap news) (hm : (l, listOf (List.toArray vs) n) ∈ news) (hz : vs.length ≤ 100000) (h : Q (!vs.isEmpty) { s with toks := s.toks + 1 + 1 }) :
    wpAny (model prog w) A (truthy (.ref l)) Q E s := wpAny_truthy_list (News.isList N hm) (by rw [List.size_toArray]; omega) (by rw [List.isEmpty_toArray]; exact h)
theorem rg_S11i_10 : True := by
  k_with "truthy ref" => ((k_dflt (refine' tr_tru (by walk_at "asm") (by walk_at "mem") (by first | walk_at "asm" | exact Nat.le_of_ble_eq_true rfl) ?_)))
  k_with "exec If Name" => (refine Halt.out ?_)
  k_with "exec If Compare" => (((with_reducible show wpAny _ _ (exec (Stmt.If (Expr.Compare (Expr.Subscript (Expr.Name (Str.ofString "stuff") _) _ _) _ _ _) _ _ _) _) _ _ _); refine Halt.out ?_))
  trivial
theorem off_ltp {imm : List (Addr × Obj)} {l a b c : Addr} (h : a < l ∧ b < l ∧ c < l ∧ AllLt l imm) : ∀ p ∈ imm, p.1 ≠ l := fun p hp => Nat.ne_of_lt (allLt_mem' h.2.2.2 p hp)
theorem tru_str1 {prog : Program} {w : World} {A : Around} {E : Value → Shared → Prop} {s : Shared} {x : Str} {t : Tok} {Q : Bool → Shared → Prop} (h1 : 1 ≤ x.length) (h2 : x.length ≤ 100) (h : Q true { s with toks := s.toks + 1 + 1 }) : wpAny (model prog w) A (truthy (.str x t)) Q E s :=
  PySem.P.truthy_str (by omega) (by rwa [show ((x.length : Int) != 0) = true from bne_iff_ne.mpr (by omega)])
theorem strs1' {vs : List Value} {a : Str} (h : StrsAre vs [a]) : ∃ t, vs = [.str a t] := by
  cases h with
  | cons _ t h => cases h; exact ⟨t, rfl⟩
inductive WhK (x : Str) (i j : Int) : List Str → Int → Str → Prop
  | one : find4 x (Str.ofString "-") (i + 1) j = -1 → Txt.slice x (some i) (some j) = Str.ofString "-" → WhK x i j [] i (Str.ofString "-")
  | two {a r : Str} : find4 x (Str.ofString "-") (i + 1) j = i + 1 → Txt.slice x (some i) (some (i + 1)) = a → find4 x (Str.ofString "-") (i + 1 + 3) j = -1 → Txt.slice x (some (i + 1 + 1)) (some j) = r → WhK x i j [a] (i + 1 + 1) r
theorem WhK.sl {x r : Str} {i j iv : Int} {l : List Str} (h : WhK x i j l iv r) : Txt.slice x (some iv) (some j) = r := by cases h <;> assumption
theorem WhK.len {x r : Str} {i j iv : Int} {l : List Str} (h : WhK x i j l iv r) : l.length ≤ 1 := by cases h with | one => exact Nat.zero_le _ | two => exact Nat.le_refl _
theorem strs_le9 {vs : List Value} {l : List Str} (h : StrsAre vs l) (k : l.length ≤ 1) : vs.length ≤ 100000 := by
  have e := PyProof.Rows.StrsAre.length h
  omega
inductive ChK : List Str → Str → List Str → Prop
  | more {l : List Str} {r : Str} : 1 ≤ r.length → r.length ≤ 100 → ChK l r (l ++ [r])
  | dash : ChK [Str.ofString "\\"] (Str.ofString "") [Str.ofString "\\-"]
inductive TnK : List Str → List Str → Prop
  | lone {a : Str} : TnK [a] [a]
  | ba : TnK [Str.ofString "b", Str.ofString "a|"] [Str.ofString "|"]
  | pl : TnK [Str.ofString "+", Str.ofString "}"] [Str.ofString "+", Str.ofString "}"]
  | pa : TnK [Str.ofString ")", Str.ofString "*"] [Str.ofString ")", Str.ofString "*"]
inductive StuffK (x : Str) (i j : Int) : Str → Str → Prop
  | plain {u : Str} : Txt.contains u (Str.ofString "-") = false → u.length ≤ 100 → StuffK x i j u (Txt.replace u (Str.ofString "\\") (Str.ofString "\\\\"))
  | dash {u0 u r : Str} {l0 l1 l2 : List Str} {iv : Int} : Txt.contains u0 (Str.ofString "-") = true → u0.length ≤ 100 → (Txt.item x i == Str.ofString "!") = false → WhK x i j l0 iv r → ChK l0 r l1 → TnK l1 l2 → (∀ t ∈ l2, t.length ≤ 100 ∧ (Txt.replace t (Str.ofString "\\") (Str.ofString "\\\\")).length ≤ 200) → JoinOk (Str.ofString "-") (l2.map gxF) = true → l2.length ≤ 1000 → Txt.join (Str.ofString "-") (l2.map gxF) = u → StuffK x i j u0 u
theorem StuffTo.k {x u0 u : Str} {i j : Int} (h : StuffTo x i j u0 u) : StuffK x i j u0 u := by
  cases h with
  | plain a b => exact .plain a b
  | one a b c d e => exact .dash (l1 := [Str.ofString "-"]) a b c (.one d e) (.more (by decide) (by decide)) .lone (by decide +kernel) (by decide +kernel) (by decide) (by decide +kernel)
  | two a b c d e f g D =>
    cases D with
    | ba => exact .dash (l1 := [Str.ofString "b", Str.ofString "a|"]) a b c (.two d e f g) (.more (l := [Str.ofString "b"]) (by decide) (by decide)) .ba (by decide +kernel) (by decide +kernel) (by decide) (by decide +kernel)
    | pl => exact .dash (l1 := [Str.ofString "+", Str.ofString "}"]) a b c (.two d e f g) (.more (l := [Str.ofString "+"]) (by decide) (by decide)) .pl (by decide +kernel) (by decide +kernel) (by decide) (by decide +kernel)
    | pa => exact .dash (l1 := [Str.ofString ")", Str.ofString "*"]) a b c (.two d e f g) (.more (l := [Str.ofString ")"]) (by decide) (by decide)) .pa (by decide +kernel) (by decide +kernel) (by decide) (by decide +kernel)
    | bs => exact .dash (l1 := [Str.ofString "\\-"]) a b c (.two d e f g) .dash .lone (by decide +kernel) (by decide +kernel) (by decide) (by decide +kernel)
inductive Unr : Prop
  | mk : Unr
theorem rg_S11i_11 : True := by
  k_with "subscriptTail Name Slice str ref" => (((rename Unr => un9); (with_reducible show wpAny _ _ (subscriptTail _ (Expr.Slice (some _) (some _) none _) _ _) _ _ _); (refine' slice_told (s := ⟨_, _, _, _, _⟩) (by with_reducible assumption) (by walk_at "asm") (by walk_at "asm") ?_ (by with_unfolding_all rfl) (by intro _; with_unfolding_all rfl) (by exact fitsL (by with_reducible assumption)); intro _ _ _ _ _; (try k_sweep))))
  k_with "subscriptTail Name BinOp ref int" => (((rename Unr => un9); k_dflt (refine' ck_item (by walk_at "asm") (by walk_at "mem") (by decide) (by decide) (by exact rfl) ?_ (by with_unfolding_all rfl))))
  k_with "subscriptTail Name Name ref int" => (((rename Unr => un9); k_dflt (refine' ck_item (by walk_at "asm") (by walk_at "mem") (by decide) (by decide) (by exact rfl) ?_ (by with_unfolding_all rfl))))
  k_with "setItem ref int" => (((rename Unr => un9); k_dflt (refine' ki_set (by walk_at "asm") (by walk_at "asm") (by decide) (by decide) (by exact rfl) (by walk_at "upd") ?_); intro _ _ _; (try k_sweep)))
  k_with "delItem ref int" => (((rename Unr => un9); k_dflt (refine' ki_del (by walk_at "asm") (by walk_at "asm") (by exact rfl) (by exact rfl) (by exact rfl) (by walk_at "upd") (by exact Nat.le_of_ble_eq_true rfl) ?_); intro _ _ _; (try k_sweep)))
  k_with "off" => (exact off_ltp (by with_reducible assumption))
  k_with "exec For Name Call cons nil" => (((rename Unr => un9); refine Halt.out ?_))
  k_with "truthy str" => (((rename Unr => un9); k_dflt (refine' tru_str1 (by with_reducible assumption) (by with_reducible assumption) ?_)))
  k_with "WhN" => (refine WhN.succ ?_)
  trivial
noncomputable def trB (x : Str) (tx : Tok) (sa rl qa : Addr) (L0 : List (Addr × Obj)) (i j : Int) (m : Str → Option Value) (news : List (Addr × Obj)) : Prop :=
  news = L0 ∧ ∃ ti tj tn tq, m (Str.ofString "pat") = some (.str x tx) ∧ m (Str.ofString "STAR") = some (.ref sa) ∧ m (Str.ofString "QUESTION_MARK") = some (.str (Str.ofString ".") tq) ∧ m (Str.ofString "res") = some (.ref rl) ∧ m (Str.ofString "add") = some (.ref qa) ∧ m (Str.ofString "i") = some (.int i ti) ∧ m (Str.ofString "j") = some (.int j tj) ∧ m (Str.ofString "n") = some (.int (x.length : Int) tn)
theorem trJ.elim {x : Str} {tx : Tok} {sa : Addr} {out : List (Option Str)} {n : Nat} {m : Str → Option Value} {news : List (Addr × Obj)} {P : Prop} (h : trJ x tx sa out n m news) (k : ∀ (i : Int) (ti : Tok) (rs : List (Option Str)) (rv : List Value) (re : Nat) (rl qa : Addr) (ps : Array Value) (imm : List (Addr × Obj)) (tn tq : Tok), news = (rl, listOf (List.toArray rv) re) :: (qa, bmObj rl) :: (130, tabObj ps) :: imm → TrP x n i rs out → Rel2 (ItemIn sa) rv rs → OwnOff imm [rl] → OwnOff imm [130] → TabOk lamP ps imm → @Ne Nat rl qa → @Ne Nat rl 130 → @Ne Nat qa 130 → rv.length + n ≤ 1000 → 0 ≤ i → i ≤ (x.length : Int) → m (Str.ofString "pat") = some (.str x tx) → m (Str.ofString "STAR") = some (.ref sa) → m (Str.ofString "QUESTION_MARK") = some (.str (Str.ofString ".") tq) → m (Str.ofString "res") = some (.ref rl) → m (Str.ofString "add") = some (.ref qa) → m (Str.ofString "i") = some (.int i ti) → m (Str.ofString "n") = some (.int (x.length : Int) tn) → P) : P := by
  obtain ⟨i, ti, rs, rv, re, rl, qa, ps, imm, tn, tq, e, a1, a2, a3, a4, a5, a6, a7, a8, a9, a10, a11, h1, h2, h3, h4, h5, h6, h7⟩ := h
  exact k i ti rs rv re rl qa ps imm tn tq e a1 a2 a3 a4 a5 a6 a7 a8 a9 a10 a11 h1 h2 h3 h4 h5 h6 h7
theorem dhB.mk {x : Str} {tx : Tok} {sa rl qa : Addr} {L0 imm : List (Addr × Obj)} {iv j : Int} {chs : List Str} {m : Str → Option Value} {la : Addr} (vs : List Value) {e : Nat} {ti tj tn tq : Tok} (hv : StrsAre vs chs) (u1 : @Ne Nat la rl) (u2 : @Ne Nat la qa) (u3 : @Ne Nat la 130) (u4 : OwnOff imm [la]) (h1 : m (Str.ofString "pat") = some (.str x tx)) (h2 : m (Str.ofString "STAR") = some (.ref sa)) (h3 : m (Str.ofString "QUESTION_MARK") = some (.str (Str.ofString ".") tq)) (h4 : m (Str.ofString "res") = some (.ref rl)) (h5 : m (Str.ofString "add") = some (.ref qa)) (h6 : m (Str.ofString "i") = some (.int iv ti)) (h7 : m (Str.ofString "j") = some (.int j tj)) (h8 : m (Str.ofString "n") = some (.int (x.length : Int) tn)) (h9 : m (Str.ofString "chunks") = some (.ref la)) : dhB x tx sa rl qa L0 imm iv j chs m ((la, listOf (List.toArray vs) e) :: L0) := ⟨la, vs, e, ti, tj, tn, tq, rfl, hv, u1, u2, u3, u4, h1, h2, h3, h4, h5, h6, h7, h8, h9⟩
theorem dhB.elim {x : Str} {tx : Tok} {sa rl qa : Addr} {L0 imm : List (Addr × Obj)} {iv j : Int} {chs : List Str} {m : Str → Option Value} {news : List (Addr × Obj)} {P : Prop} (h : dhB x tx sa rl qa L0 imm iv j chs m news) (k : ∀ (la : Addr) (vs : List Value) (e : Nat) (ti tj tn tq : Tok), news = (la, listOf (List.toArray vs) e) :: L0 → StrsAre vs chs → @Ne Nat la rl → @Ne Nat la qa → @Ne Nat la 130 → OwnOff imm [la] → m (Str.ofString "pat") = some (.str x tx) → m (Str.ofString "STAR") = some (.ref sa) → m (Str.ofString "QUESTION_MARK") = some (.str (Str.ofString ".") tq) → m (Str.ofString "res") = some (.ref rl) → m (Str.ofString "add") = some (.ref qa) → m (Str.ofString "i") = some (.int iv ti) → m (Str.ofString "j") = some (.int j tj) → m (Str.ofString "n") = some (.int (x.length : Int) tn) → m (Str.ofString "chunks") = some (.ref la) → P) : P := by
  obtain ⟨la, vs, e, ti, tj, tn, tq, q, hv, u1, u2, u3, u4, h1, h2, h3, h4, h5, h6, h7, h8, h9⟩ := h
  exact k la vs e ti tj tn tq q hv u1 u2 u3 u4 h1 h2 h3 h4 h5 h6 h7 h8 h9
theorem trB.mk {x : Str} {tx : Tok} {sa rl qa : Addr} {L0 : List (Addr × Obj)} {i j : Int} {m : Str → Option Value} {ti tj tn tq : Tok} (h1 : m (Str.ofString "pat") = some (.str x tx)) (h2 : m (Str.ofString "STAR") = some (.ref sa)) (h3 : m (Str.ofString "QUESTION_MARK") = some (.str (Str.ofString ".") tq)) (h4 : m (Str.ofString "res") = some (.ref rl)) (h5 : m (Str.ofString "add") = some (.ref qa)) (h6 : m (Str.ofString "i") = some (.int i ti)) (h7 : m (Str.ofString "j") = some (.int j tj)) (h8 : m (Str.ofString "n") = some (.int (x.length : Int) tn)) : trB x tx sa rl qa L0 i j m L0 := ⟨rfl, ti, tj, tn, tq, h1, h2, h3, h4, h5, h6, h7, h8⟩
theorem trB.elim {x : Str} {tx : Tok} {sa rl qa : Addr} {L0 : List (Addr × Obj)} {i j : Int} {m : Str → Option Value} {news : List (Addr × Obj)} {P : Prop} (h : trB x tx sa rl qa L0 i j m news) (k : news = L0 → ∀ ti tj tn tq : Tok, m (Str.ofString "pat") = some (.str x tx) → m (Str.ofString "STAR") = some (.ref sa) → m (Str.ofString "QUESTION_MARK") = some (.str (Str.ofString ".") tq) → m (Str.ofString "res") = some (.ref rl) → m (Str.ofString "add") = some (.ref qa) → m (Str.ofString "i") = some (.int i ti) → m (Str.ofString "j") = some (.int j tj) → m (Str.ofString "n") = some (.int (x.length : Int) tn) → P) : P := by
  obtain ⟨e, ti, tj, tn, tq, h1, h2, h3, h4, h5, h6, h7, h8⟩ := h
  exact k e ti tj tn tq h1 h2 h3 h4 h5 h6 h7 h8
theorem rg_S11i_12 : True := by
  k_with "exec If BoolOp" => (refine Halt.out ?_)
  k_with "exec If BoolOp cons nil" => (refine Halt.out ?_)
  trivial
set_option maxRecDepth 100000 in
set_option maxHeartbeats 8000000 in
theorem tr_walk {w : World} {s : Shared} {A : Around} {R : Result → Shared → Prop} {h₀ : Heap} (G : Gd w h₀) (hst : h₀.StaysIn s.heap) (hA : Ar A 560 8500) (hgs : AllBare s.gens) {x : Str} {tx tq : Tok} {sa : Addr} {ps : Array Value} (hx : x.length ≤ 1000)
   (h1 : s.heap.get? 130 = some (tabObj ps)) (n1 : h₀.get? 130 = none) (C0 : CodeHd h₀ 134 130) (hok : TabOk lamP ps []) {n : Nat} {out : List (Option Str)} (htr : TrP x n 0 [] out) (hn : n ≤ 1000)
   (hR : ∀ s' rl rv re ps', s'.os = s.os → AllBare s'.gens → (∀ b o, b ≠ 130 → s.heap.get? b = some o → s'.heap.get? b = some o) → s'.heap.get? 130 = some (tabObj ps') → s.heap.get? rl = none → s'.heap.get? rl = some (listOf (List.toArray rv) re) → Rel2 (ItemIn sa) rv out → R (.ok (.ret (.ref rl))) s') :
   codeAny (model PR w) A (.call (.ref 135) ⟨[.str x tx, .ref sa, .str (Str.ofString ".") tq], []⟩) R s := by
  refine' call_fn (binds := [(Str.ofString "pat", .str x tx), (Str.ofString "STAR", .ref sa), (Str.ofString "QUESTION_MARK", .str (Str.ofString ".") tq)]) (G.keeps hst) ?a ?b ?c ?d ?e ?f ?g ?h ?i ?j
  walk_at "sides"
  intro h₁ m hm F0
  have k1 : m (Str.ofString "pat") = some (.str x tx) := by rw [hm]; rfl
  have k2 : m (Str.ofString "STAR") = some (.ref sa) := by rw [hm]; rfl
  have k3 : m (Str.ofString "QUESTION_MARK") = some (.str (Str.ofString ".") tq) := by rw [hm]; rfl
  clear hm
  have hall : ∀ p ∈ [((130 : Addr), tabObj ps)], s.heap.get? p.1 = some p.2 := by
    intro p hp
    rw [List.mem_singleton.mp hp]; exact h1
  have hg : h₀.StaysIn (hideAll s.heap [130]) := stays_hide (as := [(130, tabObj ps)]) hst (by
    intro p hp
    rw [List.mem_singleton.mp hp]; exact n1)
  obtain ⟨F, N⟩ := rebaseFr (as := [(130, tabObj ps)]) F0 hall
  have G2 : Gd w (hideAll s.heap [130]) := G.keeps hg
  have C2 : CodeHd (hideAll s.heap [130]) 134 130 := C0.keeps hg
  obtain ⟨p, loose, mean, mg, mb, T⟩ := G2.T
  have X := G2.K
  clear F0
  replace F : Fr (hideAll s.heap [130]) s.heap.objs.size h₁ m := F
  replace N : News (hideAll s.heap [130]) s.heap.objs.size h₁ [(130, tabObj ps)] := N
  have hx2 : x.length ≤ 100000 := by omega
  walk_at "go"
  refine Halt.in ?_
  rename Fr _ _ _ _ => F9
  rename News _ _ _ _ => N9
  obtain ⟨rl, qa, mm, ti, tn, tq', F9, N9, ne1, ne2, ne3, c1, c2, c3, c4, c5, c6, c7⟩ : ∃ rl qa mm ti tn tq', Fr (hideAll s.heap [130]) s.heap.objs.size _ mm ∧ News (hideAll s.heap [130]) s.heap.objs.size _ [(rl, listOf #[] 0), (qa, bmObj rl), (130, tabObj ps)] ∧ @Ne Nat rl qa ∧ @Ne Nat rl 130 ∧ @Ne Nat qa 130 ∧
      mm (Str.ofString "pat") = some (.str x tx) ∧ mm (Str.ofString "STAR") = some (.ref sa) ∧ mm (Str.ofString "QUESTION_MARK") = some (.str (Str.ofString ".") tq') ∧ mm (Str.ofString "res") = some (.ref rl) ∧ mm (Str.ofString "add") = some (.ref qa) ∧ mm (Str.ofString "i") = some (.int 0 ti) ∧ mm (Str.ofString "n") = some (.int (x.length : Int) tn) :=
    ⟨_, _, _, _, _, _, F9, trStart N9, by k_ne, by k_ne, by k_ne, by walk_at "mget", by walk_at "mget", by walk_at "mget", by walk_at "mget", by walk_at "mget", by walk_at "mget", by walk_at "mget"⟩
  refine While_gen (trJ x tx sa out) (n₀ := n) hgs F9 N9 ?start ?turn PassesOwn.never
  case start => exact ⟨0, _, [], [], _, rl, qa, ps, [], _, _, rfl, htr, .nil, (fun _ h => nomatch h), (fun _ h => nomatch h), hok, ne1, ne2, ne3, by simpa using hn, Int.le_refl _, by omega, c1, c2, c3, c4, c5, c6, c7⟩
  case turn =>
    clear F9 N9 c1 c2 c3 c4 c5 c6 c7 ne1 ne2 ne3
    rintro n₁ m₁ news₁ s₁ hos hgs₁ F₁ N₁ hJ9
    refine trJ.elim hJ9 ?_
    clear hJ9
    rintro i ti rs rv re rl qa ps' imm tn tq₂ rfl hrun hrel o1 o2 tok ne1 ne2 ne3 hlen hi0 hi1 c1 c2 c3 c4 c5 c6 c7
    obtain ⟨h₂, g₂, d₂, t₂, os₂⟩ := s₁
    dsimp only at hos hgs₁ F₁ N₁
    subst hos
    cases hrun with
    | @set _ _ j1 j2 je u0 u v z _ _ e0 e1 e2 e3 e4 e5 e6 e7 e8 e9 e10 e11 e12 =>
      have f1 : (Txt.item x i == Str.ofString "*") = false := by rw [e1]; decide
      have f2 : (Txt.item x i == Str.ofString "?") = false := by rw [e1]; decide
      have f3 : (Txt.item x i == Str.ofString "[") = true := by rw [e1]; decide
      have hrv : rv.length ≤ 100000 := by omega
      have le1 := e2.le
      have le2 := e3.le
      walk_at "go"
      refine Halt.in ?_
      rename Fr _ _ _ _ => F9
      rename News _ _ _ _ => N9
      refine cutX (h₀ := hideAll s.heap [130]) (L := s.heap.objs.size) (os := s.os) (trB x tx sa rl qa ((rl, listOf (List.toArray rv) re) :: (qa, bmObj rl) :: (130, tabObj ps') :: imm) (i + 1) j1) ?step1 ?rest1
      case step1 =>
        refine wpAny_If ?_
        have hj : i + 1 < (x.length : Int) := by omega
        cases e2
        all_goals walk_at "go"
        all_goals exact Cut.intro rfl hgs₁ (by with_reducible assumption) (by with_reducible assumption) (trB.mk (by walk_at "mget") (by walk_at "mget") (by walk_at "mget") (by walk_at "mget") (by walk_at "mget") (by walk_at "mget") (by walk_at "mget") (by walk_at "mget"))
      clear F9 N9
      rintro h₃ g₃ d₃ tk₃ m₃ news₃ hgs₃ F₃ N₃ hJ9
      refine trB.elim hJ9 ?_
      clear hJ9
      rintro rfl ti₃ tj₃ tn₃ tq₃ a1 a2 a3 a4 a5 a6 a7 a8
      walk_at "go"
      refine Halt.in ?_
      refine cutX (h₀ := hideAll s.heap [130]) (L := s.heap.objs.size) (os := s.os) (trB x tx sa rl qa ((rl, listOf (List.toArray rv) re) :: (qa, bmObj rl) :: (130, tabObj ps') :: imm) (i + 1) j2) ?step2 ?rest2
      case step2 =>
        refine wpAny_If ?_
        have hj : j1 < (x.length : Int) := by omega
        cases e3
        all_goals walk_at "go"
        all_goals exact Cut.intro rfl hgs₃ (by with_reducible assumption) (by with_reducible assumption) (trB.mk (by walk_at "mget") (by walk_at "mget") (by walk_at "mget") (by walk_at "mget") (by walk_at "mget") (by walk_at "mget") (by walk_at "mget") (by walk_at "mget"))
      clear a1 a2 a3 a4 a5 a6 a7 a8 F₃ N₃
      rintro h₄ g₄ d₄ tk₄ m₄ news₄ hgs₄ F₄ N₄ hJ9
      refine trB.elim hJ9 ?_
      clear hJ9
      rintro rfl ti₄ tj₄ tn₄ tq₄ a1 a2 a3 a4 a5 a6 a7 a8
      walk_at "go"
      refine Halt.in ?_
      rename Fr _ _ _ _ => F9
      rename News _ _ _ _ => N9
      refine While_gen (fun n m news => ∃ j : Int, trB x tx sa rl qa ((rl, listOf (List.toArray rv) re) :: (qa, bmObj rl) :: (130, tabObj ps') :: imm) (i + 1) j m news ∧ j2 ≤ j ∧ j ≤ je ∧ (n : Int) = je - j) (n₀ := (je - j2).toNat) hgs₄ F9 N9 ?wstart ?wturn PassesOwn.never
      case wstart => exact ⟨j2, (trB.mk (by walk_at "mget") (by walk_at "mget") (by walk_at "mget") (by walk_at "mget") (by walk_at "mget") (by walk_at "mget") (by walk_at "mget") (by walk_at "mget")), Int.le_refl _, e4, by omega⟩
      clear a1 a2 a3 a4 a5 a6 a7 a8 F9 N9
      rintro n₅ m₅ news₅ s₅ hos₅ hgs₅ F₅ N₅ ⟨j, hJ9, q1, q2, q3⟩
      refine trB.elim hJ9 ?_
      clear hJ9
      rintro rfl ti₅ tj₅ tn₅ tq₅ a1 a2 a3 a4 a5 a6 a7 a8
      obtain ⟨h₅, g₅, d₅, t₅, os₅⟩ := s₅
      dsimp only at hos₅ hgs₅ F₅ N₅
      subst hos₅
      have hj : j < (x.length : Int) := by omega
      rcases (by omega : j < je ∨ je ≤ j) with hlt | hge
      · have fj : (Txt.item x j != Str.ofString "]") = true := by rw [bne, e6 j q1 hlt]; rfl
        walk_at "go"
        · exact GStep.intro (n' := n₅ - 1) rfl hgs₅ (by with_reducible assumption) (by with_reducible assumption) (by omega) ⟨j + 1, (trB.mk (by walk_at "mget") (by walk_at "mget") (by walk_at "mget") (by walk_at "mget") (by walk_at "mget") (by walk_at "mget") (by walk_at "mget") (by walk_at "mget")), by omega, by omega, by omega⟩
      · obtain rfl : j = je := by omega
        have fj : (Txt.item x j != Str.ofString "]") = false := by rw [bne, e7]; rfl
        walk_at "go"
        refine Halt.in ?_
        rename Fr _ _ _ _ => F9
        rename News _ _ _ _ => N9
        refine cutX (h₀ := hideAll s.heap [130]) (L := s.heap.objs.size) (os := s.os) (fun m news => ∃ ps2 iv, TabOk lamP ps2 imm ∧ trB x tx sa rl qa ((rl, listOf (List.toArray rv) re) :: (qa, bmObj rl) :: (130, tabObj ps2) :: imm) iv j m news ∧ ∃ t, m (Str.ofString "stuff") = some (.str u t)) ?step4 ?rest4
        case step4 =>
          refine wpAny_If ?_
          cases e9.k with
          | plain g1 g2 =>
            rw [← e8] at g1
            have g3 : (Txt.slice x (some (i + 1)) (some j)).length ≤ 100000 := by rw [e8]; omega
            have g4 : (Builtin.Str.occurrences (Txt.slice x (some (i + 1)) (some j)) (Str.ofString "-") 0 (Txt.slice x (some (i + 1)) (some j)).length 1).isEmpty = true := by simpa [Txt.contains] using g1
            have ng := NoGen.mk
            walk_at "go"
            exact Cut.intro rfl hgs₅ (by with_reducible assumption) (by with_reducible assumption) ⟨_, _, tok, (trB.mk (by walk_at "mget") (by walk_at "mget") (by walk_at "mget") (by walk_at "mget") (by walk_at "mget") (by walk_at "mget") (by walk_at "mget") (by walk_at "mget")), _, by rw [← e8]; walk_at "mget"⟩
          | @dash _ r l0 l1 l2 iv g1 g2 g5 gW gC gT gZ gO gN gJ =>
            rw [← e8] at g1
            have g3 : (Txt.slice x (some (i + 1)) (some j)).length ≤ 100000 := by rw [e8]; omega
            have g4 : (Builtin.Str.occurrences (Txt.slice x (some (i + 1)) (some j)) (Str.ofString "-") 0 (Txt.slice x (some (i + 1)) (some j)).length 1).isEmpty = false := by simpa [Txt.contains] using g1
            have ng := NoGen.mk
            have un := Unr.mk
            have hsl := gW.sl
            walk_at "go"
            refine Halt.in ?_
            rename Fr _ _ _ _ => F9
            rename News _ _ _ _ => N9
            refine cutX (h₀ := hideAll s.heap [130]) (L := s.heap.objs.size) (os := s.os) (dhB x tx sa rl qa ((rl, listOf (List.toArray rv) re) :: (qa, bmObj rl) :: (130, tabObj ps') :: imm) imm iv j l0) ?w1 ?w2
            case w1 =>
              refine While_n 2 ?_ PassesOwn.never
              cases gW with
              | one p1 p2 =>
                walk_at "go"
                exact Cut.intro rfl (by with_reducible assumption) (by with_reducible assumption) (by with_reducible assumption) (dhB.mk [] .nil (by k_ne) (by k_ne) (by k_ne) (off_lt4 (by assumption)) (by walk_at "mget") (by walk_at "mget") (by walk_at "mget") (by walk_at "mget") (by walk_at "mget") (by walk_at "mget") (by walk_at "mget") (by walk_at "mget") (by walk_at "mget"))
              | two p1 p2 p3 p4 =>
                walk_at "go"
                rename News _ _ _ _ => N8
                exact Cut.intro rfl (by with_reducible assumption) (by with_reducible assumption) N8 (dhB.mk [_] (.cons _ _ .nil) (by k_ne) (by k_ne) (by k_ne) (off_lt4 (by assumption)) (by walk_at "mget") (by walk_at "mget") (by walk_at "mget") (by walk_at "mget") (by walk_at "mget") (by walk_at "mget") (by walk_at "mget") (by walk_at "mget") (by walk_at "mget"))
            clear a1 a2 a3 a4 a5 a6 a7 a8
            clear F9 N9
            intro h₆ g₆ d₆ tk₆ m₆ news₆ hgs₆ F9 N9 hJ9
            refine dhB.elim hJ9 ?_
            clear hJ9
            rintro la vs le tii tjj tnn tqq rfl hvs u1 u2 u3 u4 b1 b2 b3 b4 b5 b6 b7 b8 b9
            walk_at "go"
            refine Halt.in ?_
            rename Fr _ _ _ _ => F9
            rename News _ _ _ _ => N9
            refine cutX (h₀ := hideAll s.heap [130]) (L := s.heap.objs.size) (os := s.os) (dhB x tx sa rl qa ((rl, listOf (List.toArray rv) re) :: (qa, bmObj rl) :: (130, tabObj ps') :: imm) imm iv j l1) ?c1 ?c2
            case c1 =>
              refine wpAny_If ?_
              cases gC with
              | more q1 q2 =>
                have hvl := strs_le9 hvs gW.len
                walk_at "go"
                rename News _ _ _ _ => N8
                rw [List.push_toArray] at N8
                exact Cut.intro rfl (by with_reducible assumption) (by with_reducible assumption) N8 (dhB.mk (vs ++ [_]) (strs_snoc hvs _ _) u1 u2 u3 u4 (by walk_at "mget") (by walk_at "mget") (by walk_at "mget") (by walk_at "mget") (by walk_at "mget") (by walk_at "mget") (by walk_at "mget") (by walk_at "mget") (by walk_at "mget"))
              | dash =>
                obtain ⟨ta, rfl⟩ := strs1' hvs
                clear hvs
                walk_at "go"
                exact Cut.intro rfl (by with_reducible assumption) (by with_reducible assumption) (by with_reducible assumption) (dhB.mk [_] (strs1 (by decide +kernel)) u1 u2 u3 u4 (by walk_at "mget") (by walk_at "mget") (by walk_at "mget") (by walk_at "mget") (by walk_at "mget") (by walk_at "mget") (by walk_at "mget") (by walk_at "mget") (by walk_at "mget"))
            clear b1 b2 b3 b4 b5 b6 b7 b8 b9 u1 u2 u3 u4 hvs gC gW
            clear F9 N9
            intro h₇ g₇ d₇ tk₇ m₇ news₇ hgs₇ F9 N9 hJ9
            refine dhB.elim hJ9 ?_
            clear hJ9
            rintro la vs le tii tjj tnn tqq rfl hvs u1 u2 u3 u4 b1 b2 b3 b4 b5 b6 b7 b8 b9
            walk_at "go"
            refine Halt.in ?_
            rename Fr _ _ _ _ => F9
            rename News _ _ _ _ => N9
            refine cutX (h₀ := hideAll s.heap [130]) (L := s.heap.objs.size) (os := s.os) (dhB x tx sa rl qa ((rl, listOf (List.toArray rv) re) :: (qa, bmObj rl) :: (130, tabObj ps') :: imm) imm iv j l2) ?f1 ?f2
            case f1 =>
              refine' wpAny_For ?_ (by intro _; rfl)
              cases gT with
              | @lone c9 =>
                obtain ⟨ta, rfl⟩ := strs1' hvs
                clear hvs
                walk_at "go"
                refine Halt.in ?_
                rename Fr _ _ _ _ => F9
                rename News _ _ _ _ => N9
                rename IsRange _ _ _ _ _ _ _ _ => R9
                refine iter_range (h₀ := hideAll s.heap [130]) (n := 0) (fun k m news => dhB x tx sa rl qa ((rl, listOf (List.toArray rv) re) :: (qa, bmObj rl) :: (130, tabObj ps') :: imm) imm iv j [c9] m news) (by walk_at "handled") R9 (by decide) (by decide) F9 N9 ?h0 ?turn ?done
                case h0 => exact dhB.mk [_] (.cons _ _ .nil) u1 u2 u3 u4 (by walk_at "mget") (by walk_at "mget") (by walk_at "mget") (by walk_at "mget") (by walk_at "mget") (by walk_at "mget") (by walk_at "mget") (by walk_at "mget") (by walk_at "mget")
                case turn => exact fun ix _ _ _ _ _ _ _ _ hix => absurd hix (Nat.not_lt_zero _)
                case done =>
                  clear F9 N9
                  intro m₇ news₇ h₇ tk₇ hJ9 F9 N9
                  exact Cut.intro rfl (by with_reducible assumption) F9 N9 hJ9
              | ba =>
                obtain ⟨ta, tb, rfl⟩ := strs2 hvs
                clear hvs
                walk_at "go"
                refine Halt.in ?_
                rename Fr _ _ _ _ => F9
                rename News _ _ _ _ => N9
                rename IsRange _ _ _ _ _ _ _ _ => R9
                refine iter_range (h₀ := hideAll s.heap [130]) (n := 1) (fun k m news => dhB x tx sa rl qa ((rl, listOf (List.toArray rv) re) :: (qa, bmObj rl) :: (130, tabObj ps') :: imm) imm iv j (if k = 0 then [Str.ofString "b", Str.ofString "a|"] else [Str.ofString "|"]) m news) (by walk_at "handled") R9 (by decide) (by decide) F9 N9 ?h0 ?turn ?done
                case h0 => exact dhB.mk [_, _] (.cons _ _ (.cons _ _ .nil)) u1 u2 u3 u4 (by walk_at "mget") (by walk_at "mget") (by walk_at "mget") (by walk_at "mget") (by walk_at "mget") (by walk_at "mget") (by walk_at "mget") (by walk_at "mget") (by walk_at "mget")
                case done =>
                  clear F9 N9
                  intro m₇ news₇ h₇ tk₇ hJ9 F9 N9
                  exact Cut.intro rfl (by with_reducible assumption) F9 N9 hJ9
                case turn =>
                  clear F9 N9 b1 b2 b3 b4 b5 b6 b7 b8 b9
                  rintro ix tt m₇ news₇ h₇ tk₇ it itO s₇ hix hJ9 F9 N9 hit hz1 hz2 hz3
                  refine dhB.elim hJ9 ?_
                  clear hJ9 u1 u2 u3 u4
                  rintro la vs le tii tjj tnn tqq rfl hvs u1 u2 u3 u4 b1 b2 b3 b4 b5 b6 b7 b8 b9
                  obtain rfl : ix = 0 := by omega
                  obtain ⟨ta, tb, rfl⟩ := strs2 hvs
                  clear hvs
                  obtain ⟨_, _, _, _, _⟩ := s₇
                  dsimp only at hz1 hz2 hz3
                  subst hz1 hz2 hz3
                  replace F9 : Fr (hideAll s.heap [130]) s.heap.objs.size h₇ m₇ := F9
                  replace N9 : News (hideAll s.heap [130]) s.heap.objs.size h₇ _ := N9
                  have ne9 : @Ne Nat it la := fun e => hit _ (List.Mem.head _) e.symm
                  rewrite [show (2 - 1 : Int) + ((0 : Nat) : Int) * (-1) = 1 by decide]
                  walk_at "go"
                  rename Fr _ _ _ _ => F8
                  rename News _ _ _ _ => N8
                  exact ⟨_, _, _, _, rfl, F8, N8, nn_it hit, dhB.mk [_] (strs1 (by decide +kernel)) u1 u2 u3 u4 (by walk_at "mget") (by walk_at "mget") (by walk_at "mget") (by walk_at "mget") (by walk_at "mget") (by walk_at "mget") (by walk_at "mget") (by walk_at "mget") (by walk_at "mget")⟩
              | pl =>
                obtain ⟨ta, tb, rfl⟩ := strs2 hvs
                clear hvs
                walk_at "go"
                refine Halt.in ?_
                rename Fr _ _ _ _ => F9
                rename News _ _ _ _ => N9
                rename IsRange _ _ _ _ _ _ _ _ => R9
                refine iter_range (h₀ := hideAll s.heap [130]) (n := 1) (fun k m news => dhB x tx sa rl qa ((rl, listOf (List.toArray rv) re) :: (qa, bmObj rl) :: (130, tabObj ps') :: imm) imm iv j (if k = 0 then [Str.ofString "+", Str.ofString "}"] else [Str.ofString "+", Str.ofString "}"]) m news) (by walk_at "handled") R9 (by decide) (by decide) F9 N9 ?h0 ?turn ?done
                case h0 => exact dhB.mk [_, _] (.cons _ _ (.cons _ _ .nil)) u1 u2 u3 u4 (by walk_at "mget") (by walk_at "mget") (by walk_at "mget") (by walk_at "mget") (by walk_at "mget") (by walk_at "mget") (by walk_at "mget") (by walk_at "mget") (by walk_at "mget")
                case done =>
                  clear F9 N9
                  intro m₇ news₇ h₇ tk₇ hJ9 F9 N9
                  exact Cut.intro rfl (by with_reducible assumption) F9 N9 hJ9
                case turn =>
                  clear F9 N9 b1 b2 b3 b4 b5 b6 b7 b8 b9
                  rintro ix tt m₇ news₇ h₇ tk₇ it itO s₇ hix hJ9 F9 N9 hit hz1 hz2 hz3
                  refine dhB.elim hJ9 ?_
                  clear hJ9 u1 u2 u3 u4
                  rintro la vs le tii tjj tnn tqq rfl hvs u1 u2 u3 u4 b1 b2 b3 b4 b5 b6 b7 b8 b9
                  obtain rfl : ix = 0 := by omega
                  obtain ⟨ta, tb, rfl⟩ := strs2 hvs
                  clear hvs
                  obtain ⟨_, _, _, _, _⟩ := s₇
                  dsimp only at hz1 hz2 hz3
                  subst hz1 hz2 hz3
                  replace F9 : Fr (hideAll s.heap [130]) s.heap.objs.size h₇ m₇ := F9
                  replace N9 : News (hideAll s.heap [130]) s.heap.objs.size h₇ _ := N9
                  have ne9 : @Ne Nat it la := fun e => hit _ (List.Mem.head _) e.symm
                  rewrite [show (2 - 1 : Int) + ((0 : Nat) : Int) * (-1) = 1 by decide]
                  walk_at "go"
                  rename Fr _ _ _ _ => F8
                  rename News _ _ _ _ => N8
                  exact ⟨_, _, _, _, rfl, F8, N8, nn_it hit, dhB.mk [_, _] (.cons _ _ (.cons _ _ .nil)) u1 u2 u3 u4 (by walk_at "mget") (by walk_at "mget") (by walk_at "mget") (by walk_at "mget") (by walk_at "mget") (by walk_at "mget") (by walk_at "mget") (by walk_at "mget") (by walk_at "mget")⟩
              | pa =>
                obtain ⟨ta, tb, rfl⟩ := strs2 hvs
                clear hvs
                walk_at "go"
                refine Halt.in ?_
                rename Fr _ _ _ _ => F9
                rename News _ _ _ _ => N9
                rename IsRange _ _ _ _ _ _ _ _ => R9
                refine iter_range (h₀ := hideAll s.heap [130]) (n := 1) (fun k m news => dhB x tx sa rl qa ((rl, listOf (List.toArray rv) re) :: (qa, bmObj rl) :: (130, tabObj ps') :: imm) imm iv j (if k = 0 then [Str.ofString ")", Str.ofString "*"] else [Str.ofString ")", Str.ofString "*"]) m news) (by walk_at "handled") R9 (by decide) (by decide) F9 N9 ?h0 ?turn ?done
                case h0 => exact dhB.mk [_, _] (.cons _ _ (.cons _ _ .nil)) u1 u2 u3 u4 (by walk_at "mget") (by walk_at "mget") (by walk_at "mget") (by walk_at "mget") (by walk_at "mget") (by walk_at "mget") (by walk_at "mget") (by walk_at "mget") (by walk_at "mget")
                case done =>
                  clear F9 N9
                  intro m₇ news₇ h₇ tk₇ hJ9 F9 N9
                  exact Cut.intro rfl (by with_reducible assumption) F9 N9 hJ9
                case turn =>
                  clear F9 N9 b1 b2 b3 b4 b5 b6 b7 b8 b9
                  rintro ix tt m₇ news₇ h₇ tk₇ it itO s₇ hix hJ9 F9 N9 hit hz1 hz2 hz3
                  refine dhB.elim hJ9 ?_
                  clear hJ9 u1 u2 u3 u4
                  rintro la vs le tii tjj tnn tqq rfl hvs u1 u2 u3 u4 b1 b2 b3 b4 b5 b6 b7 b8 b9
                  obtain rfl : ix = 0 := by omega
                  obtain ⟨ta, tb, rfl⟩ := strs2 hvs
                  clear hvs
                  obtain ⟨_, _, _, _, _⟩ := s₇
                  dsimp only at hz1 hz2 hz3
                  subst hz1 hz2 hz3
                  replace F9 : Fr (hideAll s.heap [130]) s.heap.objs.size h₇ m₇ := F9
                  replace N9 : News (hideAll s.heap [130]) s.heap.objs.size h₇ _ := N9
                  have ne9 : @Ne Nat it la := fun e => hit _ (List.Mem.head _) e.symm
                  rewrite [show (2 - 1 : Int) + ((0 : Nat) : Int) * (-1) = 1 by decide]
                  walk_at "go"
                  rename Fr _ _ _ _ => F8
                  rename News _ _ _ _ => N8
                  exact ⟨_, _, _, _, rfl, F8, N8, nn_it hit, dhB.mk [_, _] (.cons _ _ (.cons _ _ .nil)) u1 u2 u3 u4 (by walk_at "mget") (by walk_at "mget") (by walk_at "mget") (by walk_at "mget") (by walk_at "mget") (by walk_at "mget") (by walk_at "mget") (by walk_at "mget") (by walk_at "mget")⟩
            clear b1 b2 b3 b4 b5 b6 b7 b8 b9 u1 u2 u3 u4 hvs gT
            clear F9 N9
            intro h₈ g₈ d₈ tk₈ m₈ news₈ hgs₈ F9 N9 hJ9
            refine dhB.elim hJ9 ?_
            clear hJ9
            rintro la vs le tii tjj tnn tqq rfl hvs u1 u2 u3 u4 b1 b2 b3 b4 b5 b6 b7 b8 b9
            walk_at "go"
            exact Cut.intro rfl (by with_reducible assumption) (by with_reducible assumption) (by with_reducible assumption) ⟨_, _, by with_reducible assumption, (trB.mk (by walk_at "mget") (by walk_at "mget") (by walk_at "mget") (by walk_at "mget") (by walk_at "mget") (by walk_at "mget") (by walk_at "mget") (by walk_at "mget")), _, told_eq (by walk_at "mget") gJ⟩
        clear a1 a2 a3 a4 a5 a6 a7 a8 F9 N9
        clear tok
        rintro h₆ g₆ d₆ tk₆ m₆ news₆ hgs₆ F₆ N₆ ⟨ps₆, iv₆, tok, hJ9, ts₆, a9⟩
        refine trB.elim hJ9 ?_
        clear hJ9
        rintro rfl ti₆ tj₆ tn₆ tq₆ a1 a2 a3 a4 a5 a6 a7 a8
        have hrv : rv.length ≤ 100000 := by omega
        have p1 : 1 ≤ v.length := by cases e11 <;> omega
        have p2 : v.length ≤ 100 := by cases e11 <;> assumption
        have p2b : v.length ≤ 100000 := Nat.le_trans p2 (by decide)
        have p3 : (v == Str.ofString "!") = false := by cases e11 <;> assumption
        walk_at "go"
        all_goals first | (exfalso; omega) | skip
        refine Halt.in ?_
        refine wpAny_If ?_
        cases e11 with
        | barred p1 p2 p5 p3 p4 =>
          walk_at "go"
          all_goals first
            | (exfalso; omega)
            | exact tr_end (s := ⟨_, _, _, _, s.os⟩) rfl hgs₆ (by with_reducible assumption) (by with_reducible assumption) e12 hrel ⟨_, rfl⟩ (by with_reducible assumption) (by with_reducible assumption) (by with_reducible assumption) ne1 ne2 ne3 hlen hi0 (by omega) (by omega) (by walk_at "mget") (by walk_at "mget") (by walk_at "mget") (by walk_at "mget") (by walk_at "mget") (by walk_at "mget") (by walk_at "mget")
        | told p1 p2 p3 p4 p5 =>
          walk_at "go"
          refine Halt.in ?_
          refine wpAny_If ?_
          walk_at "go"
          all_goals first
            | (exfalso; omega)
            | (rename News _ _ _ _ => N9; replace N9 := dropHd N9; exact tr_end (s := ⟨_, _, _, _, s.os⟩) rfl hgs₆ N9 (by with_reducible assumption) e12 hrel ⟨_, rfl⟩ (by with_reducible assumption) (by with_reducible assumption) (by with_reducible assumption) ne1 ne2 ne3 hlen hi0 (by omega) (by omega) (by walk_at "mget") (by walk_at "mget") (by walk_at "mget") (by walk_at "mget") (by walk_at "mget") (by walk_at "mget") (by walk_at "mget"))
        | bare p1 p2 p3 p4 p5 =>
          walk_at "go"
          refine Halt.in ?_
          refine wpAny_If ?_
          walk_at "go"
          all_goals first
            | (exfalso; omega)
            | (rename News _ _ _ _ => N9; replace N9 := dropHd N9; exact tr_end (s := ⟨_, _, _, _, s.os⟩) rfl hgs₆ N9 (by with_reducible assumption) e12 hrel ⟨_, rfl⟩ (by with_reducible assumption) (by with_reducible assumption) (by with_reducible assumption) ne1 ne2 ne3 hlen hi0 (by omega) (by omega) (by walk_at "mget") (by walk_at "mget") (by walk_at "mget") (by walk_at "mget") (by walk_at "mget") (by walk_at "mget") (by walk_at "mget"))
    | stop e =>
      subst e
      walk_at "go"
      rename Fr _ _ _ _ => F9
      rename News _ _ _ _ => N9
      have key : ∀ b o, b ≠ 130 → s.heap.get? b = some o → (hideAll s.heap [130]).get? b = some o := fun b o hb e => hideAll_get _ e (by simp [hb])
      refine hR ⟨_, _, _, _, s.os⟩ rl rv re ps' rfl hgs₁ (fun b o hb e => F9.keep b o (key b o hb e)) (N9 (_, _) (by walk_at "mem")).1 ?_ (N9 (rl, listOf (List.toArray rv) re) (List.Mem.head _)).1 hrel
      cases hh : s.heap.get? rl with
      | none => rfl
      | some o =>
        have h5 := F9.keep _ _ (key rl o ne2 hh)
        have h6 := key rl o ne2 hh
        have h7 := (N9 (rl, listOf (List.toArray rv) re) (List.Mem.head _)).2.2
        rw [h6] at h7; cases h7
    | any e1 e2 e3 =>
      have f1 : (Txt.item x i == Str.ofString "*") = false := by rw [e2]; decide
      have f2 : (Txt.item x i == Str.ofString "?") = true := by rw [e2]; decide
      have hrv : rv.length ≤ 100000 := by omega
      walk_at "go"
      exact tr_end (s := s) rfl hgs₁ (by with_reducible assumption) (by with_reducible assumption) e3 hrel ⟨_, rfl⟩ o1 o2 tok ne1 ne2 ne3 hlen hi0 (by omega) (by omega) (by walk_at "mget") (by walk_at "mget") (by walk_at "mget") (by walk_at "mget") (by walk_at "mget") (by walk_at "mget") (by walk_at "mget")
    | lone e1 e2 ec e3 =>
      have hrv : rv.length ≤ 100000 := by omega
      obtain ⟨f1, f2, f3⟩ := lone_ne e2 ec
      walk_at "go"
      exact tr_end (s := ⟨_, _, _, _, s.os⟩) rfl hgs₁ (by with_reducible assumption) (by with_reducible assumption) e3 hrel ⟨_, rfl⟩ o1 o2 tok ne1 ne2 ne3 hlen hi0 (by omega) (by omega) (by walk_at "mget") (by walk_at "mget") (by walk_at "mget") (by walk_at "mget") (by walk_at "mget") (by walk_at "mget") (by walk_at "mget")
    | star e1 e2 e3 e4 =>
      have f1 : (Txt.item x i == Str.ofString "*") = true := by rw [e2]; decide
      have hrv : rv.length ≤ 100000 := by omega
      rcases nil_or_snoc rv with rfl | ⟨rv', v, rfl⟩
      · walk_at "go"
        refine Halt.in ?_
        refine wpAny_If ?_
        walk_at "go"
        exact tr_end (s := ⟨_, _, _, _, s.os⟩) rfl hgs₁ (by with_reducible assumption) (by with_reducible assumption) e4 hrel rfl o1 o2 tok ne1 ne2 ne3 hlen hi0 (by omega) (by omega) (by walk_at "mget") (by walk_at "mget") (by walk_at "mget") (by walk_at "mget") (by walk_at "mget") (by walk_at "mget") (by walk_at "mget")
      · obtain ⟨rs', o, rfl, hrel', ho⟩ := hrel.inv_snoc
        cases o with
        | none => exact absurd rfl (e3 rs')
        | some t =>
          obtain ⟨tt, rfl⟩ := ho
          walk_at "go"
          refine Halt.in ?_
          refine wpAny_If ?_
          walk_at "go"
          all_goals (first | (rename List.isEmpty _ = true => hz; rw [snoc_ne] at hz; exact absurd hz (by decide)) | skip)
          all_goals exact tr_end (s := ⟨_, _, _, _, s.os⟩) rfl hgs₁ (by with_reducible assumption) (by with_reducible assumption) e4 hrel rfl o1 o2 tok ne1 ne2 ne3 hlen hi0 (by omega) (by omega) (by walk_at "mget") (by walk_at "mget") (by walk_at "mget") (by walk_at "mget") (by walk_at "mget") (by walk_at "mget") (by walk_at "mget")
    | star2 e1 e2 e3 =>
      have f1 : (Txt.item x i == Str.ofString "*") = true := by rw [e2]; decide
      have hrv : rv.length ≤ 100000 := by omega
      rcases nil_or_snoc rv with rfl | ⟨rv', v, rfl⟩
      · have := hrel.length; simp at this
      · obtain ⟨rs', o, ho1, hrel', ho⟩ := hrel.inv_snoc
        obtain ⟨rfl, ho2⟩ := List.append_inj' ho1 rfl
        cases ho2
        replace ho : v = .ref sa := ho
        subst ho
        walk_at "go"
        refine Halt.in ?_
        refine wpAny_If ?_
        walk_at "go"
        all_goals (first | (rename List.isEmpty _ = true => hz; rw [snoc_ne] at hz; exact absurd hz (by decide)) | skip)
        all_goals exact GStep.intro rfl hgs₁ (by with_reducible assumption) (by with_reducible assumption) (Nat.lt_succ_self _) ⟨i + 1, _, _, _, re, rl, qa, _, imm, _, _, rfl, e3, hrel, o1, o2, tok, ne1, ne2, ne3, by omega, by omega, by omega, by walk_at "mget", by walk_at "mget", by walk_at "mget", by walk_at "mget", by walk_at "mget", by walk_at "mget", by walk_at "mget"⟩
end Mine
theorem Mine.off_S12 : True := by w_top off; trivial
theorem Mine.rs_S12 {M : Model} {A : Around} {E : Value → Shared → Prop} {s : Shared} {Q : Flow → Shared → Prop} {p : Pos} {env : Env} (h : wpAny M A (exec (Stmt.Pass p) env) Q E s) : wpAny M A (exec (Stmt.Pass p) env) Q E s := by first | (walk1; fail) | exact h
namespace Mine
theorem reg_S12 : True := by
  k_with_none
  k_with "cj" => (first | with_reducible assumption | exact cj1 (by with_reducible assumption) | exact cj2 (by with_reducible assumption) | exact cj3 (by with_reducible assumption) | exact cj4 (by with_reducible assumption) | exact cj5 (by with_reducible assumption) | exact ce2 (by with_reducible assumption) | exact ce3 (by with_reducible assumption) | exact ce4 (by with_reducible assumption) | exact ce5 (by with_reducible assumption))
  k_with "ne1" => (refine neN ?_; first | with_reducible assumption | (refine Ne.symm ?_; with_reducible assumption) | walk_at "cj" | (refine Ne.symm ?_; walk_at "cj") | (refine Nat.ne_of_lt ?_; walk_at "cj") | (refine Nat.ne_of_gt ?_; walk_at "cj") | ((try dsimp only); omega))
  k_with "eval Constant int" => (refine r_int ?_)
  k_with "eval Constant str" => (refine r_str ?_)
  k_with "binaryOp Add int int" => (refine r_add ?_)
  k_with "binaryOp Sub int int" => (refine r_sub ?_)
  k_with "unaryOp USub int" => (refine r_neg ?_)
  k_with "inplaceOp Add int int" => (refine r_iadd ?_)
  k_with "eval Slice" => (refine r_slice ?_)
  k_with "SlQ" => (refine SlQ.go ?_)
  k_with "mget" => (first | with_reducible assumption | with_reducible exact upd_eq | ((with_reducible refine Eq.trans upd_eq ?_); rfl) | ((with_reducible refine upd_ne (by kernel_rfl) ?_); walk_at "mget") | (goal_lacks upd; first | exact if_pos rfl | (refine Eq.trans (if_neg (by decide)) ?_; walk_at "mget")))
  k_with "newTuple" => ((refine' r_tuple (by walk_at "asm") (by walk_at "asm") (by exact Nat.le_of_ble_eq_true rfl) ?_); intro _ _ _ _ _; walk_at "lt"; (try k_sweep))
  k_with "ite" => (first | with_reducible refine ite_tt ?_ | with_reducible refine ite_ff ?_ | (refine ite_pos (by with_reducible assumption) ?_) | (refine ite_neg (by refine ne_true_of_eq_false ?_; with_reducible assumption) ?_))
  k_with "tup" => (first | (refine News.isTup (by walk_at "asm") (by walk_at "mem")) | with_reducible assumption | (refine stays_tup (Fr.keep (by walk_at "asm")) (by walk_at "asm")))
  k_with "lst" => (first | (refine News.isList (by walk_at "asm") (by walk_at "mem")) | with_reducible assumption | (refine stays_list (Fr.keep (by walk_at "asm")) (by walk_at "asm")))
  k_with "off" => (first | exact List.forall_mem_nil _ | exact OwnOff.ne (by with_reducible assumption) (List.Mem.head _) | (refine List.forall_mem_cons.mpr ?_; refine And.intro ?_ ?_; (focus k_ne); (walk_at "off")))
  k_with "upd" => (first | (apply upd_hd; walk_at "off") | (apply upd_tl; (case hne => k_ne); (case hu => walk_at "upd")))
  k_with "RunTo" => ((first | refine NextTo.next (by with_reducible assumption) ?_ | refine NextTo.ret (by with_reducible assumption) ?_ | refine NextTo.brk (by with_reducible assumption) ?_ | refine NextTo.cont (by with_reducible assumption) ?_); (try dsimp only))
  k_with "go" => (repeat' (first | (k_unfold; (try dsimp only)) | walk1 | (dsimp only; walk1)))
  k_with "sides" => (((case b => (k_is)); (case c => (k_is)); (case a => (exact Ar.room (by assumption))); (case d => (exact BindsTo.of_eq rfl)); (case e => (exact locs rfl)); (case g => (rfl)); (case h => (rfl)); (case i => (rfl)); (case j => (decide))))
  k_with "mem" => (first | exact List.Mem.head _ | (refine' List.Mem.tail _ ?_; walk_at "mem"))
  k_with "units" => (first | exact Ar.units0 (by assumption) _ | exact Ar.unitsD (by assumption) (by decide) _)
  k_with "asm" => (with_reducible assumption)
  k_with "lt" => (((rename ∀ p ∈ _, (p : Addr × Obj).1 < _ => l9); (replace l9 := allLt_of l9); (dsimp only [AllLt] at l9)))
  k_with "ne" => (((rename ∀ p ∈ _, (p : Addr × Obj).1 ≠ _ => l9); (replace l9 := allNe_of l9); (dsimp only [AllNe] at l9)))
  k_with "storeName" => ((with_reducible refine' r_store (by walk_at "asm") (by walk_at "asm") (by kernel_rfl) ?_); intro _ _ _; (try k_sweep))
  k_with "exec While Compare cons nil" => (refine Halt.out ?_)
  k_with "exec While BoolOp cons nil" => (refine Halt.out ?_)
  k_with "exec While Constant cons nil" => (refine Halt.out ?_)
  k_with "exec While Name cons nil" => (refine Halt.out ?_)
  k_with "exec While" => (refine Halt.out ?_)
  k_with "execs cons" => (first | (refine execs_lastQ (fun tk => ?_)) | (refine execs_consQ (fun tk qk hqk => ?_)))
  k_with "newList" => (((refine' r_list (by walk_at "asm") (by walk_at "asm") (by exact Nat.le_of_ble_eq_true rfl) ?_); intro _ _ _ _ _; walk_at "lt"; (try k_sweep)))
  k_with "subscriptTail Name Slice str ref" => ((with_reducible first | refine' slice_ss5 (by walk_at "asm") (by walk_at "asm") (by with_reducible assumption) ?_ | refine' slice_sn5 (by walk_at "asm") (by walk_at "asm") (by with_reducible assumption) ?_); intro _ _ _ _ _; (try k_sweep))
  k_with "handled" => (first | exact Ar.hhD (by assumption) _ | exact Ar.hh (by assumption) | rfl)
  k_with "assign Tuple" => (((with_reducible show wpAny _ _ (assign (Expr.Tuple _ _ _) _ (Value.ref _)) _ _ _); k_dflt (refine' r_unpack (by walk_at "asm") (by walk_at "asm") (by walk_at "tup") (by walk_at "handled") rfl rfl ?_); intro _ _ _; (try k_sweep)))
  k_with "asz" => (k_dflt (first | exact aszL (by with_reducible assumption) | exact Nat.le_of_ble_eq_true rfl))
  k_with "call builtin:list.append" => (((with_reducible show wpAny _ _ (call (Value.builtin _) [Value.ref _, _]) _ _ _); (refine' r_append (by walk_at "asm") (by walk_at "asm") (by walk_at "upd") (by walk_at "asz") ?_); intro _ _ _; (try k_sweep)))
  k_with "sub" => ((intro _ hpK9; first | exact List.mem_of_mem_tail hpK9 | (simp only [List.mem_cons, List.mem_append] at hpK9 ⊢; grind)))
  k_with "exec For Tuple Name cons nil" => ((k_dflt (refine' wpAny_For ?_ (by intro _; rfl))))
  k_with "exec For Name Name cons nil" => ((k_dflt (refine' wpAny_For ?_ (by intro _; rfl))))
  k_with "exec For Name Call cons nil" => ((k_dflt (refine' wpAny_For ?_ (by intro _; rfl))))
  k_with "exec For Name List cons nil" => ((k_dflt (refine' wpAny_For ?_ (by intro _; rfl))))
  k_with "exec For Name Attribute cons nil" => ((k_dflt (refine' wpAny_For ?_ (by intro _; rfl))))
  k_with "pyIter ref" => (refine Halt.out ?_)
  k_with "subscriptTail Name Constant ref int" => (((with_reducible show wpAny _ _ (subscriptTail _ _ (Value.ref _) (Value.int _ _)) _ _ _); (refine' item_tupleL (by refine' News.isTup (by walk_at "asm") (by walk_at "mem")) (by decide) (by decide) rfl rfl ?_ (by with_unfolding_all rfl) (by intro _; with_unfolding_all rfl))))
  k_with "eval Name" => ((goal_lacks compEnvC; first | (with_reducible refine' nmK (by decide +kernel) (by walk_at "asm") (by walk_at "mget") ?_) | k_dflt (first | (goal_lacks envOf; refine' nameX_L (by walk_at "asm") (by walk_at "mget") ?_ rfl (by with_unfolding_all rfl) (by decide)) | (goal_lacks envOf; refine' nameX_C (by walk_at "asm") rfl (by walk_at "mem") (by walk_at "asm") ?_ rfl (by with_unfolding_all rfl) (by decide)) | (refine' nameX_K (by walk_at "asm") (by walk_at "asm") (by k_asm) (by k_is) ?_ rfl (by with_unfolding_all rfl) (by decide)) | (refine' nameX_B (by walk_at "asm") (by walk_at "asm") (by k_asm) (by k_is) (by boot_fast) (by decide) ?_ rfl (by with_unfolding_all rfl) (by decide)))))
  k_with "loadName" => ((first | (with_reducible refine' ldL (by walk_at "asm") (by walk_at "mget") (by kernel_rfl) ?_) | k_dflt (refine' ldX (by walk_at "asm") (by walk_at "mget") ?_ rfl (by with_unfolding_all rfl))))
  trivial
theorem rg_S12_1 : True := by
  k_with "unpackItems ref" => ((k_dflt (refine' unpackItemsN_ (by walk_at "asm") (by walk_at "asm") (by walk_at "tup") (by walk_at "handled") (by exact rfl) ?_); intro _ _ _; (try k_sweep)))
  k_with "getAttr ref" => (((with_reducible show wpAny _ _ (getAttr (Value.ref _) (PySem.Str.ofString "append") true) _ _ _); k_dflt (refine' bm_makeK (by walk_at "asm") (by walk_at "asm") (by with_reducible assumption) (by walk_at "handled") (by exact Ar.dep (by with_reducible assumption) (by decide) _) (by exact Ar.uni (by with_reducible assumption) (by decide) _) (by walk_at "mem") ?_); intro _ _ _ _ _ _; walk_at "ne"; (try k_sweep)))
  k_with "callWith ref" => (((with_reducible show wpAny _ _ (callWith _ (Value.ref _) [] _ []) _ _ _); k_dflt (refine' bm_callWith (by walk_at "asm") (by walk_at "mem") ?_ rfl rfl)))
  k_with "BmPost" => ((k_dflt (refine' BmPost.intro (by walk_at "asm") (by walk_at "mem") ?_)))
  k_with "call ref" => (((with_reducible show wpAny _ _ (call (Value.ref _) [_] []) _ _ _); k_dflt (refine' bm_callK (by walk_at "asm") (by walk_at "asm") (by walk_at "mem") (by walk_at "upd") ?_ (by walk_at "asz")); intro _ _ _; (try k_sweep)))
  trivial
theorem Rel2.at' {α β : Type} {R : α → β → Prop} {l : List α} {r : List β} (h : Rel2 R l r) : ∀ {k : Nat} {b : β} {t : List β}, r.drop k = b :: t → ∃ a, l[k]? = some a ∧ R a b ∧ r.drop (k + 1) = t := by
  induction h with
  | nil => intro k b t e; simp at e
  | cons x _ ih =>
    intro k b t e
    cases k with
    | zero => simp at e; obtain ⟨rfl, rfl⟩ := e; exact ⟨_, rfl, x, by simp⟩
    | succ k => obtain ⟨a, h1, h2, h3⟩ := ih (by simpa using e); exact ⟨a, by simpa using h1, h2, by simpa using h3⟩
/-- the list from a place on -/
structure Rem (out : List (Option Str)) (i : Int) (rem : List (Option Str)) : Prop where
  h0 : 0 ≤ i
  hd : out.drop i.toNat = rem
  hl : i + (rem.length : Int) = (out.length : Int)
theorem Rem.step {out : List (Option Str)} {i : Int} {o : Option Str} {r : List (Option Str)} {sa : Addr} {rv : List Value} (h : Rem out i (o :: r)) (hrel : Rel2 (ItemIn sa) rv out) : ∃ v, rv[i.toNat]? = some v ∧ ItemIn sa v o ∧ Rem out (i + 1) r := by
  obtain ⟨v, h1, h2, h3⟩ := hrel.at' h.hd
  have h4 := h.h0
  have h5 := h.hl
  simp only [List.length_cons] at h5
  exact ⟨v, h1, h2, by lia, by rw [show (i + 1).toNat = i.toNat + 1 by lia]; exact h3, by lia⟩
noncomputable def grp (g : List Str) : Str := Str.empty ++ Str.ofString "(?>.*?" ++ Txt.join (Str.ofString "") g ++ Str.ofString ")"
noncomputable def tailF : List (List Str) → List Str
  | [] => []
  | [g] => [Str.ofString ".*", Txt.join (Str.ofString "") g]
  | g :: g2 :: r => grp g :: tailF (g2 :: r)
noncomputable def flatG : List (List Str) → List (Option Str)
  | [] => []
  | g :: r => none :: (g.map some ++ flatG r)
noncomputable def joinOut (pre : List Str) (gs : List (List Str)) : Str := Str.empty ++ Str.ofString "(?s:" ++ Txt.join (Str.ofString "") (pre ++ tailF gs) ++ Str.ofString ")\\Z"
theorem strsSnoc {vs : List Value} {ys : List Str} (h : StrsAre vs ys) (y : Str) (t : Tok) : StrsAre (vs ++ [.str y t]) (ys ++ [y]) := by
  induction h with
  | nil => exact .cons y t .nil
  | cons z t' _ ih => exact .cons z t' ih
inductive jnB (il sa rl qa : Addr) (nn : Nat) (i : Int) (m : Str → Option Value) : Prop
  | mk (ti tn : Tok) (c1 : m (Str.ofString "inp") = some (.ref il)) (c2 : m (Str.ofString "STAR") = some (.ref sa)) (c3 : m (Str.ofString "res") = some (.ref rl)) (c4 : m (Str.ofString "add") = some (.ref qa)) (c5 : m (Str.ofString "i") = some (.int i ti)) (c6 : m (Str.ofString "n") = some (.int (nn : Int) tn)) : jnB il sa rl qa nn i m
inductive jn0 (il sa rl qa : Addr) (out : List (Option Str)) (pre : List Str) : (Str → Option Value) → List (Addr × Obj) → Prop
  | mk {m : Str → Option Value} (vs : List Value) (e : Nat) (hvs : StrsAre vs pre) (B : jnB il sa rl qa out.length (pre.length : Int) m) : jn0 il sa rl qa out pre m [(rl, listOf (List.toArray vs) e), (qa, bmObj rl)]
inductive jn1 (il sa rl qa : Addr) (out : List (Option Str)) (pre : List Str) (rest : List (Option Str)) : Nat → (Str → Option Value) → List (Addr × Obj) → Prop
  | mk {m : Str → Option Value} (i : Int) (acc rem : List Str) (vs : List Value) (e : Nat) (hpre : pre = acc ++ rem) (hrem : Rem out i (rem.map some ++ rest)) (hvs : StrsAre vs acc) (B : jnB il sa rl qa out.length i m) : jn1 il sa rl qa out pre rest rem.length m [(rl, listOf (List.toArray vs) e), (qa, bmObj rl)]
inductive jn2 (il sa rl qa : Addr) (out : List (Option Str)) (fin : List Str) : Nat → (Str → Option Value) → List (Addr × Obj) → Prop
  | mk {m : Str → Option Value} (i : Int) (acc : List Str) (gs : List (List Str)) (vs : List Value) (e : Nat) (imm : List (Addr × Obj)) (hfin : fin = acc ++ tailF gs) (hgl : ∀ g ∈ gs, g ≠ [] ∧ (g.map (·.length)).sum + g.length ≤ 1000) (hrem : Rem out i (flatG gs)) (hvs : StrsAre vs acc) (o1 : OwnOff imm [rl]) (B : jnB il sa rl qa out.length i m) :
      jn2 il sa rl qa out fin gs.length m ((rl, listOf (List.toArray vs) e) :: (qa, bmObj rl) :: imm)
inductive jn3 (il sa rl qa fl : Addr) (out : List (Option Str)) (g : List Str) (rest : List (Option Str)) (L0 : List (Addr × Obj)) : Nat → (Str → Option Value) → List (Addr × Obj) → Prop
  | mk {m : Str → Option Value} (i : Int) (acc rem : List Str) (vs : List Value) (e : Nat) (hpre : g = acc ++ rem) (hrem : Rem out i (rem.map some ++ rest)) (hvs : StrsAre vs acc) (B : jnB il sa rl qa out.length i m) (c7 : m (Str.ofString "fixed") = some (.ref fl)) : jn3 il sa rl qa fl out g rest L0 rem.length m ((fl, listOf (List.toArray vs) e) :: L0)
inductive jn4 (il sa rl qa fl : Addr) (out : List (Option Str)) (g : List Str) (i : Int) (L0 : List (Addr × Obj)) : (Str → Option Value) → List (Addr × Obj) → Prop
  | mk {m : Str → Option Value} (vs : List Value) (e : Nat) (hvs : StrsAre vs g) (B : jnB il sa rl qa out.length i m) (c7 : m (Str.ofString "fixed") = some (.ref fl)) : jn4 il sa rl qa fl out g i L0 m ((fl, listOf (List.toArray vs) e) :: L0)
theorem item_told {prog : Program} {w : World} {A : Around} {E : Value → Shared → Prop} {s : Shared} {h₀ : Heap} {L : Addr} {m : Str → Option Value} {value slice : PySem.Expr} {a : Addr} {l : List Value} {n : Nat} {k : Int} {u : Tok} {x : Value} {Q : Value → Shared → Prop}
    (F : Fr h₀ L s.heap m) (hl : h₀.get? a = some (listOf (List.toArray l) n)) (h0 : 0 ≤ k) (hfit : k < 2 ^ 63) (hx : l[k.toNat]? = some x) (h : Q x s)
    (hs : subscripted slice false (.ref a) (.int k u) = operate [.ref a, .int k u] (getItem (.ref a) (.int k u))) (hg : ∀ r, letTemporaryGo value (.ref a) r = pure ()) :
    wpAny (model prog w) A (subscriptTail value slice (.ref a) (.int k u)) Q E s :=
  item_listL ⟨_, F.keep _ _ hl, rfl, n, rfl⟩ h0 hfit hx h hs hg
theorem rg_S12_2 : True := by
  k_with "subscriptTail Name Name ref int" => (((with_reducible show wpAny _ _ (subscriptTail _ _ (Value.ref _) (Value.int _ _)) _ _ _); k_dflt (refine' item_told (by walk_at "asm") (by with_reducible assumption) (by with_reducible assumption) (by with_reducible assumption) (by with_reducible assumption) ?_ (by with_unfolding_all rfl) (by intro _; with_unfolding_all rfl))))
  k_with "compareOp IsNot str ref" => (((with_reducible show wpAny _ _ (compareOp _ (Value.str _ _) (Value.ref _)) _ _ _); k_dflt (refine' wpAny_isNot_other rfl (by intro eK9; cases eK9) ?_)))
  k_with "exec While Compare cons cons" => (refine Halt.out ?_)
  k_with "exec While Compare" => (refine Halt.out ?_)
  trivial
theorem flatG_nil_or (gs : List (List Str)) : flatG gs = [] ∨ ∃ r, flatG gs = none :: r := by
  cases gs with
  | nil => exact .inl rfl
  | cons g r => exact .inr ⟨_, rfl⟩
theorem rg_S12_3 : True := by
  k_with "call builtin:len" => (((with_reducible show wpAny _ _ (call (Value.builtin _) [Value.ref _]) _ _ _); k_dflt (refine' len_lst (by walk_at "lst") (by with_reducible assumption) (by lia) ?_)))
  k_with "call builtin:str.join" => (((with_reducible show wpAny _ _ (call (Value.builtin _) [Value.str _ _, Value.ref _]) _ _ _); k_dflt (refine' join_listW (by refine' News.isList (by walk_at "asm") (by walk_at "mem")) (by with_reducible assumption) (by decide) (by with_reducible assumption) ?_); intro _ _))
  trivial
theorem len_jn : (Str.ofString "(?s:").length = 4 ∧ (Str.ofString ")\\Z").length = 3 ∧ Str.empty.length = 0 ∧ (Str.ofString "(?>.*?").length = 6 ∧ (Str.ofString ")").length = 1 := ⟨rfl, rfl, rfl, rfl, rfl⟩
theorem rg_S12_4 : True := by
  k_with "joinOk" => ((refine fitsL ?_; simp only [strLen_append, len_jn.1, len_jn.2.1, len_jn.2.2.1, len_jn.2.2.2.1, len_jn.2.2.2.2]; lia))
  trivial
theorem rgm_S12_1 : True := by
  k_with "And" => (((with_reducible show PySem.Str.length (_ ++ _) ≤ sizeLine ∧ wpAny _ _ (joinParts _ _) _ _ _); refine' ⟨?_, ?_⟩; walk_at "joinOk"))
  trivial
theorem rg_S12_5 : True := by
  k_with "joinParts nil" => (((first | with_reducible refine' joinParts_nil ?_ ?_ | k_dflt (refine' joinParts_nil ?_ ?_)); rotate_left; walk_at "joinOk"))
  k_with "formatField str" => ((k_dflt (refine' formatField_str ?_ (by exact fitsL (by lia))); intro _ _))
  trivial
theorem join_len_le (g : List Str) : (Txt.join (Str.ofString "") g).length ≤ (g.map (·.length)).sum := by
  show (Builtin.Str.glued (Str.ofString "") g).length ≤ _
  rw [StrLaws.glued_eq_join]
  have := StrLaws.join_length_le (Str.ofString "") g
  simpa [show (Str.ofString "").length = 0 from rfl] using this
theorem off_lt2 {imm : List (Addr × Obj)} {l a b : Addr} (h : a < l ∧ b < l ∧ AllLt l imm) : OwnOff imm [l] := fun p hp c hc => by rw [List.mem_singleton.mp hc]; exact Nat.ne_of_lt (allLt_mem' h.2.2 p hp)
theorem Rem.skip {out : List (Option Str)} {i : Int} {g : List Str} {r : List (Option Str)} (h : Rem out i (g.map some ++ r)) : Rem out (i + (g.length : Int)) r := by
  have h0 := h.h0
  have h2 := h.hl
  simp only [List.length_append, List.length_map] at h2
  refine ⟨by lia, ?_, by lia⟩
  rw [show (i + (g.length : Int)).toNat = i.toNat + g.length by lia, ← List.drop_drop, h.hd]
  simp
theorem tail9 {h₀ : Heap} {L : Addr} {h : Heap} {a : Addr × Obj} {l : List (Addr × Obj)} (N : News h₀ L h (a :: l)) : News h₀ L h l := subN N fun _ hp => .tail _ hp
theorem aszP {vs : List Value} {v : Value} (h : vs.length ≤ 90000) : (vs.toArray.push v).size ≤ sizeLine := by rw [sizeLine_eq, Array.size_push, List.size_toArray]; lia
theorem rg_S12_6 : True := by
  k_with "asz" => (k_dflt (first | exact aszL (by with_reducible assumption) | exact aszP (by with_reducible assumption) | exact Nat.le_of_ble_eq_true rfl))
  trivial
theorem jnStart {h₀ : Heap} {L : Addr} {h : Heap} {t q r : Addr × Obj} (N : News h₀ L h [t, q, r]) : News h₀ L h [r, q] := subN N fun p hp => by simp only [List.mem_cons] at hp ⊢; grind
set_option maxRecDepth 100000 in
set_option maxHeartbeats 4000000 in
theorem jn_walk {w : World} {s : Shared} {A : Around} {R : Result → Shared → Prop} {h₀ : Heap} (G : Gd w h₀) (hst : h₀.StaysIn s.heap) (hA : Ar A 210 2100) (hgs : AllBare s.gens) {il sa : Addr} {rv : List Value} {re : Nat} {out : List (Option Str)} {pre : List Str} {gs : List (List Str)}
   (hil : s.heap.get? il = some (listOf (List.toArray rv) re)) (hrel : Rel2 (ItemIn sa) rv out) (ho : out = pre.map some ++ flatG gs) (hgl : ∀ g ∈ gs, g ≠ [] ∧ (g.map (·.length)).sum + g.length ≤ 1000) (hfl : ((pre ++ tailF gs).map (·.length)).sum + (pre ++ tailF gs).length ≤ 90000) (hol : out.length ≤ 1000)
   (hR : ∀ s' t, s'.os = s.os → AllBare s'.gens → s.heap.StaysIn s'.heap → R (.ok (.ret (.str (joinOut pre gs) t))) s') :
   codeAny (model PR w) A (.call (.ref 142) ⟨[.ref il, .ref sa], []⟩) R s := by
  refine' call_fn (binds := [(Str.ofString "inp", .ref il), (Str.ofString "STAR", .ref sa)]) (G.keeps hst) ?a ?b ?c ?d ?e ?f ?g ?h ?i ?j
  walk_at "sides"
  intro h₁ m hm F
  have k1 : m (Str.ofString "inp") = some (.ref il) := by rw [hm]; rfl
  have k2 : m (Str.ofString "STAR") = some (.ref sa) := by rw [hm]; rfl
  clear hm
  replace G : Gd w s.heap := G.keeps hst
  obtain ⟨p, loose, mean, mg, mb, T⟩ := G.T
  have X := G.K
  have N : News s.heap s.heap.objs.size h₁ [] := News.nil
  have hlen : rv.length = out.length := hrel.length
  have hIL : s.heap.IsList il (List.toArray rv) := ⟨_, hil, rfl, re, rfl⟩
  walk_at "go"
  refine Halt.in ?_
  rename Fr _ _ _ _ => F9
  rename News _ _ _ _ => N9
  obtain ⟨rl, qa, mm, ti, tn, F9, N9, ne1, c1, c2, c3, c4, c5, c6⟩ : ∃ rl qa mm ti tn, Fr s.heap s.heap.objs.size _ mm ∧ News s.heap s.heap.objs.size _ [(rl, listOf #[] 0), (qa, bmObj rl)] ∧ @Ne Nat rl qa ∧
      mm (Str.ofString "inp") = some (.ref il) ∧ mm (Str.ofString "STAR") = some (.ref sa) ∧ mm (Str.ofString "res") = some (.ref rl) ∧ mm (Str.ofString "add") = some (.ref qa) ∧ mm (Str.ofString "i") = some (.int 0 ti) ∧ mm (Str.ofString "n") = some (.int (out.length : Int) tn) :=
    ⟨_, _, _, _, _, F9, jnStart N9, by k_ne, by walk_at "mget", by walk_at "mget", by walk_at "mget", by walk_at "mget", by walk_at "mget", by walk_at "mget"⟩
  have hpl : out.length = pre.length + (flatG gs).length := by rw [ho]; simp
  refine cutX (h₀ := s.heap) (L := s.heap.objs.size) (os := s.os) (jn0 il sa rl qa out pre) ?step1 ?rest1
  case step1 =>
    refine While_gen (jn1 il sa rl qa out pre (flatG gs)) (n₀ := pre.length) hgs F9 N9 ?start ?turn PassesOwn.never
    case start => exact .mk 0 [] pre [] _ rfl ⟨Int.le_refl _, by rw [← ho]; rfl, by rw [← ho]; simp⟩ .nil (.mk ti tn c1 c2 c3 c4 c5 c6)
    case turn =>
      clear F9 N9 c1 c2 c3 c4 c5 c6
      intro n₁ m₁ news₁ s₁ hos hgs₁ F₁ N₁ hJ
      induction hJ
      rename_i i acc rem vs e hpre hrem hvs hB
      induction hB
      rename_i ti tn c1 c2 c3 c4 c5 c6
      obtain ⟨h₂, g₂, d₂, t₂, os₂⟩ := s₁
      dsimp only at hos hgs₁ F₁ N₁
      subst hos
      have i0 := hrem.h0
      have i1 := hrem.hl
      cases rem with
      | cons y rem =>
        obtain ⟨v, hv, ⟨t, rfl⟩, hstep⟩ := hrem.step hrel
        simp only [List.map_cons, List.length_cons, List.cons_append] at i1
        have i2 : i < (out.length : Int) := by lia
        have i3 : i < 2 ^ 63 := by lia
        have hvl : vs.length ≤ 100000 := by
          have := hvs.length
          rw [hpre] at hfl
          simp at hfl
          lia
        walk_at "go"
        rename Fr _ _ _ _ => F8
        rename News _ _ _ _ => N8
        rw [List.push_toArray] at N8
        exact GStep.intro rfl hgs₁ F8 N8 (Nat.lt_succ_self _) (.mk (i + 1) (acc ++ [y]) rem (vs ++ [.str y t]) _ (by rw [hpre]; simp) hstep (strsSnoc hvs y t) (.mk _ _ (by walk_at "mget") (by walk_at "mget") (by walk_at "mget") (by walk_at "mget") (by walk_at "mget") (by walk_at "mget")))
      | nil =>
        obtain rfl : pre = acc := by rw [hpre, List.append_nil]
        simp only [List.map_nil, List.nil_append] at hrem i1
        have i9 : i = (pre.length : Int) := by lia
        rcases flatG_nil_or gs with hn | ⟨r, hn⟩
        · have i8 : ¬ i < (out.length : Int) := by rw [hn] at i1; simp at i1; lia
          walk_at "go"
          rename Fr _ _ _ _ => F8
          rename News _ _ _ _ => N8
          exact Cut.intro rfl hgs₁ F8 N8 (.mk _ _ hvs (.mk _ _ (by walk_at "mget") (by walk_at "mget") (by walk_at "mget") (by walk_at "mget") (by rw [← i9]; walk_at "mget") (by walk_at "mget")))
        · rw [hn] at hrem i1
          simp only [List.length_cons] at i1
          have i2 : i < (out.length : Int) := by lia
          have i3 : i < 2 ^ 63 := by lia
          obtain ⟨v, hv, hv2, hstep⟩ := hrem.step hrel
          replace hv2 : v = .ref sa := hv2
          subst hv2
          walk_at "go"
          rename Fr _ _ _ _ => F8
          rename News _ _ _ _ => N8
          exact Cut.intro rfl hgs₁ F8 N8 (.mk _ _ hvs (.mk _ _ (by walk_at "mget") (by walk_at "mget") (by walk_at "mget") (by walk_at "mget") (by rw [← i9]; walk_at "mget") (by walk_at "mget")))
  clear F9 N9 c1 c2 c3 c4 c5 c6
  intro h₃ g₃ d₃ tk₃ m₃ news₃ hgs₃ F₃ N₃ hJ
  induction hJ
  rename_i vs₃ e₃ hvs₃ hB
  induction hB
  rename_i ti₃ tn₃ c1 c2 c3 c4 c5 c6
  walk_at "go"
  refine Halt.in ?_
  rename Fr _ _ _ _ => F9
  rename News _ _ _ _ => N9
  refine While_gen (jn2 il sa rl qa out (pre ++ tailF gs)) (n₀ := gs.length) hgs₃ F9 N9 ?start2 ?turn2 PassesOwn.never
  case start2 => exact .mk (pre.length : Int) pre gs vs₃ e₃ [] rfl hgl ⟨by lia, by rw [ho]; simp, by lia⟩ hvs₃ (fun _ h => nomatch h) (.mk ti₃ tn₃ c1 c2 c3 c4 c5 c6)
  case turn2 =>
    clear F9 N9 c1 c2 c3 c4 c5 c6
    intro n₁ m₁ news₁ s₁ hos hgs₁ F₁ N₁ hJ
    induction hJ
    rename_i i acc gs' vs e imm hfin hgl' hrem hvs o1 hB
    induction hB
    rename_i ti tn c1 c2 c3 c4 c5 c6
    obtain ⟨h₂, g₂, d₂, t₂, os₂⟩ := s₁
    dsimp only at hos hgs₁ F₁ N₁
    subst hos
    have i0 := hrem.h0
    have i1 := hrem.hl
    have hvl : vs.length ≤ 90000 := by
      have := hvs.length
      rw [hfin] at hfl
      simp at hfl
      lia
    cases gs' with
    | nil =>
      have hacc : acc = pre ++ tailF gs := by rw [hfin]; simp [tailF]
      have i8 : i = (out.length : Int) := by simpa [flatG] using i1
      subst i8
      have hw9 : ((pre ++ tailF gs).map (·.length)).sum + (pre ++ tailF gs).length ≤ 1048576 := by lia
      have hw8 := join_len_le (pre ++ tailF gs)
      have hw7 : (Txt.join (Str.ofString "") (pre ++ tailF gs)).length ≤ 90000 := by lia
      have hIs : StrsAre (List.toArray vs).toList (pre ++ tailF gs) := hacc ▸ hvs
      walk_at "go"
      rename Fr _ _ _ _ => F8
      exact hR ⟨_, _, _, _, s.os⟩ _ rfl hgs₁ F8.keep
    | cons g gs' =>
      obtain ⟨hg1, hg2⟩ := hgl' g (List.Mem.head _)
      simp only [flatG, List.length_cons, List.length_append, List.length_map] at i1
      have hg3 : 1 ≤ g.length := List.length_pos_iff.mpr hg1
      have i2 : i < (out.length : Int) := by lia
      have i3 : i < 2 ^ 63 := by lia
      have i4 : i + 1 < (out.length : Int) := by lia
      have i5 : i + 1 < 2 ^ 63 := by lia
      have i6 : 0 ≤ i + 1 := by lia
      have i7 : i + 1 ≠ (out.length : Int) := by lia
      obtain ⟨v, hv, hv2, hstep⟩ := hrem.step hrel
      replace hv2 : v = .ref sa := hv2
      subst hv2
      obtain ⟨y, g', rfl⟩ : ∃ y g', g = y :: g' := by
        cases g with
        | nil => exact absurd rfl hg1
        | cons y g' => exact ⟨y, g', rfl⟩
      obtain ⟨v, hv', ⟨ty, rfl⟩, -⟩ := Rem.step (o := some y) (r := g'.map some ++ flatG gs') hstep hrel
      walk_at "go"
      all_goals first | (exfalso; lia) | refine Halt.in ?_
      rename Fr _ _ _ _ => F9
      rename News _ _ _ _ => N9
      obtain ⟨fl, mm, ti, tn, F9, N9, l1, c1, c2, c3, c4, c5, c6, c7⟩ : ∃ fl mm ti tn, Fr s.heap s.heap.objs.size _ mm ∧ News s.heap s.heap.objs.size _ ((fl, listOf #[] 0) :: (rl, listOf (List.toArray vs) e) :: (qa, bmObj rl) :: imm) ∧ (rl < fl ∧ qa < fl ∧ AllLt fl imm) ∧
          mm (Str.ofString "inp") = some (.ref il) ∧ mm (Str.ofString "STAR") = some (.ref sa) ∧ mm (Str.ofString "res") = some (.ref rl) ∧ mm (Str.ofString "add") = some (.ref qa) ∧ mm (Str.ofString "i") = some (.int (i + 1) ti) ∧ mm (Str.ofString "n") = some (.int (out.length : Int) tn) ∧ mm (Str.ofString "fixed") = some (.ref fl) :=
        ⟨_, _, _, _, F9, N9, by assumption, by walk_at "mget", by walk_at "mget", by walk_at "mget", by walk_at "mget", by walk_at "mget", by walk_at "mget", by walk_at "mget"⟩
      have ofl : OwnOff imm [fl] := off_lt2 l1
      have nfr : @Ne Nat rl fl := Nat.ne_of_lt l1.1
      have nfq : @Ne Nat qa fl := Nat.ne_of_lt l1.2.1
      refine cutX (h₀ := s.heap) (L := s.heap.objs.size) (os := s.os) (jn4 il sa rl qa fl out (y :: g') (i + 1 + ((y :: g').length : Int)) ((rl, listOf (List.toArray vs) e) :: (qa, bmObj rl) :: imm)) ?step3 ?rest3
      case step3 =>
        refine While_gen (jn3 il sa rl qa fl out (y :: g') (flatG gs') ((rl, listOf (List.toArray vs) e) :: (qa, bmObj rl) :: imm)) (n₀ := (y :: g').length) hgs₁ F9 N9 ?start3 ?turn3 PassesOwn.never
        case start3 => exact .mk (i + 1) [] (y :: g') [] 0 rfl hstep .nil (.mk ti tn c1 c2 c3 c4 c5 c6) c7
        case turn3 =>
          clear F9 N9 c1 c2 c3 c4 c5 c6 c7 hstep hv hv' i2 i3 i4 i5 i6 i7
          intro n₁ m₁ news₁ s₁ hos hgs₁ F₁ N₁ hJ
          induction hJ
          rename_i k acc3 rem vs3 e3 hpre hrem3 hvs3 hB c7
          induction hB
          rename_i ti tn c1 c2 c3 c4 c5 c6
          obtain ⟨h₂, g₂, d₂, t₂, os₂⟩ := s₁
          dsimp only at hos hgs₁ F₁ N₁
          subst hos
          have i0 := hrem3.h0
          have i1' := hrem3.hl
          have hgl3 : (y :: g').length = acc3.length + rem.length := by rw [hpre, List.length_append]
          have hgm : (y :: g').length ≤ 1000 := by lia
          cases rem with
          | cons z rem =>
            obtain ⟨v, hv, ⟨t, rfl⟩, hstep⟩ := hrem3.step hrel
            simp only [List.map_cons, List.length_cons, List.cons_append] at i1'
            have i2 : k < (out.length : Int) := by lia
            have i3 : k < 2 ^ 63 := by lia
            have hvl3 : vs3.length ≤ 100000 := by
              have := hvs3.length
              simp only [List.length_cons] at hgl3 hgm
              lia
            walk_at "go"
            rename Fr _ _ _ _ => F8
            rename News _ _ _ _ => N8
            rw [List.push_toArray] at N8
            exact GStep.intro rfl hgs₁ F8 N8 (Nat.lt_succ_self _) (.mk (k + 1) (acc3 ++ [z]) rem (vs3 ++ [.str z t]) _ (by rw [hpre]; simp) hstep (strsSnoc hvs3 z t) (.mk _ _ (by walk_at "mget") (by walk_at "mget") (by walk_at "mget") (by walk_at "mget") (by walk_at "mget") (by walk_at "mget")) (by walk_at "mget"))
          | nil =>
            obtain rfl : y :: g' = acc3 := by rw [hpre, List.append_nil]
            simp only [List.map_nil, List.nil_append] at hrem3 i1'
            have i9 : k = i + 1 + ((y :: g').length : Int) := by simp only [List.length_cons] at i1 ⊢; lia
            rcases flatG_nil_or gs' with hn | ⟨r, hn⟩
            · have i8 : ¬ k < (out.length : Int) := by rw [hn] at i1'; simp at i1'; lia
              walk_at "go"
              rename Fr _ _ _ _ => F8
              rename News _ _ _ _ => N8
              exact Cut.intro rfl hgs₁ F8 N8 (.mk _ _ hvs3 (.mk _ _ (by walk_at "mget") (by walk_at "mget") (by walk_at "mget") (by walk_at "mget") (by rw [← i9]; walk_at "mget") (by walk_at "mget")) (by walk_at "mget"))
            · rw [hn] at hrem3 i1'
              simp only [List.length_cons] at i1'
              have i2 : k < (out.length : Int) := by lia
              have i3 : k < 2 ^ 63 := by lia
              obtain ⟨v, hv, hv2, hstep⟩ := hrem3.step hrel
              replace hv2 : v = .ref sa := hv2
              subst hv2
              walk_at "go"
              rename Fr _ _ _ _ => F8
              rename News _ _ _ _ => N8
              exact Cut.intro rfl hgs₁ F8 N8 (.mk _ _ hvs3 (.mk _ _ (by walk_at "mget") (by walk_at "mget") (by walk_at "mget") (by walk_at "mget") (by rw [← i9]; walk_at "mget") (by walk_at "mget")) (by walk_at "mget"))
      clear F9 N9 c1 c2 c3 c4 c5 c6 c7
      intro h₃ g₃ d₃ tk₃ m₃ news₃ hgs₃ F₃ N₃ hJ
      induction hJ
      rename_i vs₃ e₃ hvs₃ hB c7
      induction hB
      rename_i ti₃ tn₃ c1 c2 c3 c4 c5 c6
      replace hvs₃ : StrsAre (List.toArray vs₃).toList (y :: g') := hvs₃
      have hw1 : ((y :: g').map (·.length)).sum + (y :: g').length ≤ 1048576 := by lia
      have hw2 := join_len_le (y :: g')
      have hw3 : (Txt.join (Str.ofString "") (y :: g')).length ≤ 1000 := by lia
      have hvl2 : vs.length ≤ 100000 := by lia
      cases gs' with
      | nil =>
        have i7 : i + 1 + ((y :: g').length : Int) = (out.length : Int) := by simp only [flatG, List.length_cons, List.length_nil] at i1 ⊢; lia
        walk_at "go"
        all_goals (first | (exfalso; lia) | skip)
        rename Fr _ _ _ _ => F8
        rename News _ _ _ _ => N8
        rw [List.push_toArray, List.push_toArray] at N8
        exact GStep.intro rfl hgs₃ F8 (tail9 N8) (Nat.lt_succ_self _) (.mk (out.length : Int) (acc ++ [Str.ofString ".*"] ++ [Txt.join (Str.ofString "") (y :: g')]) [] _ _ imm (by rw [hfin]; simp [tailF]) (fun _ h => nomatch h) ⟨by lia, by simp [flatG], by simp [flatG]⟩ (strsSnoc (strsSnoc hvs _ _) _ _) o1 (.mk _ _ (by walk_at "mget") (by walk_at "mget") (by walk_at "mget") (by walk_at "mget") (by rw [← i7]; walk_at "mget") (by walk_at "mget")))
      | cons g2 r =>
        have i8 : i + 1 + ((y :: g').length : Int) ≠ (out.length : Int) := by simp only [flatG, List.length_cons, List.length_append] at i1 ⊢; lia
        have hrem2 : Rem out (i + 1 + ((y :: g').length : Int)) (flatG (g2 :: r)) := hstep.skip
        walk_at "go"
        all_goals (first | (exfalso; lia) | skip)
        rename Fr _ _ _ _ => F8
        rename News _ _ _ _ => N8
        rw [List.push_toArray] at N8
        exact GStep.intro rfl hgs₃ F8 (tail9 N8) (Nat.lt_succ_self _) (.mk _ (acc ++ [grp (y :: g')]) (g2 :: r) _ _ imm (by rw [hfin]; simp [tailF]) (fun g h => hgl' g (List.Mem.tail _ h)) hrem2 (strsSnoc hvs _ _) o1 (.mk _ _ (by walk_at "mget") (by walk_at "mget") (by walk_at "mget") (by walk_at "mget") (by walk_at "mget") (by walk_at "mget")))
end Mine
theorem Mine.off_Ob : True := by w_top off; trivial
theorem Mine.rs_Ob {M : Model} {A : Around} {E : Value → Shared → Prop} {s : Shared} {Q : Flow → Shared → Prop} {p : Pos} {env : Env} (h : wpAny M A (exec (Stmt.Pass p) env) Q E s) : wpAny M A (exec (Stmt.Pass p) env) Q E s := by first | (walk1; fail) | exact h
namespace Mine
theorem reg_Ob : True := by
  k_with_none
  k_with "cj" => (first | with_reducible assumption | exact cj1 (by with_reducible assumption) | exact cj2 (by with_reducible assumption) | exact cj3 (by with_reducible assumption) | exact cj4 (by with_reducible assumption) | exact cj5 (by with_reducible assumption) | exact ce2 (by with_reducible assumption) | exact ce3 (by with_reducible assumption) | exact ce4 (by with_reducible assumption) | exact ce5 (by with_reducible assumption))
  k_with "ne1" => (refine neN ?_; first | with_reducible assumption | (refine Ne.symm ?_; with_reducible assumption) | walk_at "cj" | (refine Ne.symm ?_; walk_at "cj") | (refine Nat.ne_of_lt ?_; walk_at "cj") | (refine Nat.ne_of_gt ?_; walk_at "cj") | ((try dsimp only); omega))
  k_with "eval Constant int" => (refine r_int ?_)
  k_with "eval Constant str" => (refine r_str ?_)
  k_with "binaryOp Add int int" => (refine r_add ?_)
  k_with "binaryOp Sub int int" => (refine r_sub ?_)
  k_with "unaryOp USub int" => (refine r_neg ?_)
  k_with "inplaceOp Add int int" => (refine r_iadd ?_)
  k_with "eval Slice" => (refine r_slice ?_)
  k_with "SlQ" => (refine SlQ.go ?_)
  k_with "mget" => (first | with_reducible assumption | with_reducible exact upd_eq | ((with_reducible refine Eq.trans upd_eq ?_); rfl) | ((with_reducible refine upd_ne (by kernel_rfl) ?_); walk_at "mget") | (goal_lacks upd; first | exact if_pos rfl | (refine Eq.trans (if_neg (by decide)) ?_; walk_at "mget")))
  k_with "newTuple" => ((refine' r_tuple (by walk_at "asm") (by walk_at "asm") (by exact Nat.le_of_ble_eq_true rfl) ?_); intro _ _ _ _ _; walk_at "lt"; (try k_sweep))
  k_with "ite" => (first | with_reducible refine ite_tt ?_ | with_reducible refine ite_ff ?_ | (refine ite_pos (by with_reducible assumption) ?_) | (refine ite_neg (by refine ne_true_of_eq_false ?_; with_reducible assumption) ?_))
  k_with "tup" => (first | (refine News.isTup (by walk_at "asm") (by walk_at "mem")) | with_reducible assumption | (refine stays_tup (Fr.keep (by walk_at "asm")) (by walk_at "asm")))
  k_with "lst" => (first | (refine News.isList (by walk_at "asm") (by walk_at "mem")) | with_reducible assumption | (refine stays_list (Fr.keep (by walk_at "asm")) (by walk_at "asm")))
  k_with "off" => (first | exact List.forall_mem_nil _ | exact OwnOff.ne (by with_reducible assumption) (List.Mem.head _) | (refine List.forall_mem_cons.mpr ?_; refine And.intro ?_ ?_; (focus k_ne); (walk_at "off")))
  k_with "upd" => (first | (apply upd_hd; walk_at "off") | (apply upd_tl; (case hne => k_ne); (case hu => walk_at "upd")))
  k_with "RunTo" => ((first | refine NextTo.next (by with_reducible assumption) ?_ | refine NextTo.ret (by with_reducible assumption) ?_ | refine NextTo.brk (by with_reducible assumption) ?_ | refine NextTo.cont (by with_reducible assumption) ?_); (try dsimp only))
  k_with "go" => (repeat' (first | (k_unfold; (try dsimp only)) | walk1 | (dsimp only; walk1)))
  k_with "sides" => (((case b => (k_is)); (case c => (k_is)); (case a => (exact Ar.room (by assumption))); (case d => (exact BindsTo.of_eq rfl)); (case e => (exact locs rfl)); (case g => (rfl)); (case h => (rfl)); (case i => (rfl)); (case j => (decide))))
  k_with "mem" => (first | exact List.Mem.head _ | (refine' List.Mem.tail _ ?_; walk_at "mem"))
  k_with "units" => (first | exact Ar.units0 (by assumption) _ | exact Ar.unitsD (by assumption) (by decide) _)
  k_with "asm" => (with_reducible assumption)
  k_with "lt" => (((rename ∀ p ∈ _, (p : Addr × Obj).1 < _ => l9); (replace l9 := allLt_of l9); (dsimp only [AllLt] at l9)))
  k_with "ne" => (((rename ∀ p ∈ _, (p : Addr × Obj).1 ≠ _ => l9); (replace l9 := allNe_of l9); (dsimp only [AllNe] at l9)))
  k_with "storeName" => ((with_reducible refine' r_store (by walk_at "asm") (by walk_at "asm") (by kernel_rfl) ?_); intro _ _ _; (try k_sweep))
  k_with "exec While Compare cons nil" => (refine Halt.out ?_)
  k_with "exec While BoolOp cons nil" => (refine Halt.out ?_)
  k_with "exec While Constant cons nil" => (refine Halt.out ?_)
  k_with "exec While Name cons nil" => (refine Halt.out ?_)
  k_with "exec While" => (refine Halt.out ?_)
  k_with "execs cons" => (first | (refine execs_lastQ (fun tk => ?_)) | (refine execs_consQ (fun tk qk hqk => ?_)))
  k_with "newList" => (((refine' r_list (by walk_at "asm") (by walk_at "asm") (by exact Nat.le_of_ble_eq_true rfl) ?_); intro _ _ _ _ _; walk_at "lt"; (try k_sweep)))
  k_with "subscriptTail Name Slice str ref" => ((with_reducible first | refine' slice_ss5 (by walk_at "asm") (by walk_at "asm") (by with_reducible assumption) ?_ | refine' slice_sn5 (by walk_at "asm") (by walk_at "asm") (by with_reducible assumption) ?_); intro _ _ _ _ _; (try k_sweep))
  k_with "handled" => (first | exact Ar.hhD (by assumption) _ | exact Ar.hh (by assumption) | rfl)
  k_with "assign Tuple" => (((with_reducible show wpAny _ _ (assign (Expr.Tuple _ _ _) _ (Value.ref _)) _ _ _); k_dflt (refine' r_unpack (by walk_at "asm") (by walk_at "asm") (by walk_at "tup") (by walk_at "handled") rfl rfl ?_); intro _ _ _; (try k_sweep)))
  k_with "asz" => (k_dflt (first | exact aszL (by with_reducible assumption) | exact Nat.le_of_ble_eq_true rfl))
  k_with "call builtin:list.append" => (((with_reducible show wpAny _ _ (call (Value.builtin _) [Value.ref _, _]) _ _ _); (refine' r_append (by walk_at "asm") (by walk_at "asm") (by walk_at "upd") (by walk_at "asz") ?_); intro _ _ _; (try k_sweep)))
  k_with "sub" => ((intro _ hpK9; first | exact List.mem_of_mem_tail hpK9 | (simp only [List.mem_cons, List.mem_append] at hpK9 ⊢; grind)))
  k_with "exec For Tuple Name cons nil" => ((k_dflt (refine' wpAny_For ?_ (by intro _; rfl))))
  k_with "exec For Name Name cons nil" => ((k_dflt (refine' wpAny_For ?_ (by intro _; rfl))))
  k_with "exec For Name Call cons nil" => ((k_dflt (refine' wpAny_For ?_ (by intro _; rfl))))
  k_with "exec For Name List cons nil" => ((k_dflt (refine' wpAny_For ?_ (by intro _; rfl))))
  k_with "exec For Name Attribute cons nil" => ((k_dflt (refine' wpAny_For ?_ (by intro _; rfl))))
  k_with "pyIter ref" => (refine Halt.out ?_)
  k_with "subscriptTail Name Constant ref int" => (((with_reducible show wpAny _ _ (subscriptTail _ _ (Value.ref _) (Value.int _ _)) _ _ _); (refine' item_tupleL (by refine' News.isTup (by walk_at "asm") (by walk_at "mem")) (by decide) (by decide) rfl rfl ?_ (by with_unfolding_all rfl) (by intro _; with_unfolding_all rfl))))
  k_with "eval Name" => ((goal_lacks compEnvC; first | (with_reducible refine' nmK (by decide +kernel) (by walk_at "asm") (by walk_at "mget") ?_) | k_dflt (first | (goal_lacks envOf; refine' nameX_L (by walk_at "asm") (by walk_at "mget") ?_ rfl (by with_unfolding_all rfl) (by decide)) | (goal_lacks envOf; refine' nameX_C (by walk_at "asm") rfl (by walk_at "mem") (by walk_at "asm") ?_ rfl (by with_unfolding_all rfl) (by decide)) | (refine' nameX_K (by walk_at "asm") (by walk_at "asm") (by k_asm) (by k_is) ?_ rfl (by with_unfolding_all rfl) (by decide)) | (refine' nameX_B (by walk_at "asm") (by walk_at "asm") (by k_asm) (by k_is) (by boot_fast) (by decide) ?_ rfl (by with_unfolding_all rfl) (by decide)))))
  k_with "loadName" => ((first | (with_reducible refine' ldL (by walk_at "asm") (by walk_at "mget") (by kernel_rfl) ?_) | k_dflt (refine' ldX (by walk_at "asm") (by walk_at "mget") ?_ rfl (by with_unfolding_all rfl))))
  trivial
open PySem.W.X in
theorem x_endO {h₁ h : Heap} {g : Array GenState} {d : Drawn} {os : OsState} {t : Nat} {q : Addr} {o : Obj} {news : List (Addr × Obj)} {Q : Value → Shared → Prop}
    (hQ : ∀ q o h' tk, h₁.StaysIn h' → h₁.get? q = none → h'.get? q = some o → Q (.ref q) ⟨h', g, d, tk, os⟩) (D : Mem h₁ h [] news) (hm : (q, o) ∈ news) : Q (.ref q) ⟨h, g, d, t, os⟩ :=
  hQ _ _ _ _ (fun b o e => D.keep b o e (by simp [away])) (D.nw _ hm).2 (D.nw _ hm).1
local macro_rules | `(tactic| x_close) => `(tactic| (refine' x_endO ?a ?b ?c; (case a => assumption); (case b => assumption); (case c => first | exact List.Mem.head _ | exact List.Mem.tail _ (List.Mem.head _))))
open PySem.W.X in
set_option maxRecDepth 100000 in
set_option maxHeartbeats 4000000 in
theorem obj_make {w : World} {h : Heap} {g : Array GenState} {d : Drawn} {os : OsState} {tk : Nat} {A : Around} {Q : Value → Shared → Prop} {E : Value → Shared → Prop} (G : Gd w h) (hA : A.handled = none) (hd : A.depth ≤ 800) (hu : A.units ≤ 8000)
   (hQ : ∀ q o h' tk, h.StaysIn h' → h.get? q = none → h'.get? q = some o → Q (.ref q) ⟨h', g, d, tk, os⟩) :
   wpAny (model PR w) A (call (.type "object") [] []) Q E ⟨h, g, d, tk, os⟩ := by
  have X := G.K
  x_run
theorem obj_K {w : World} {A : Around} {E : Value → Shared → Prop} {s : Shared} {h₀ : Heap} {L : Addr} {m : Str → Option Value} {news : List (Addr × Obj)} {Q : Value → Shared → Prop} (F : Fr h₀ L s.heap m) (N : News h₀ L s.heap news) (G : Gd w h₀) (hA : A.handled = none) (hd : A.depth ≤ 800) (hu : A.units ≤ 8000)
    (h : ∀ q o h' tk, Fr h₀ L h' m → News h₀ L h' ((q, o) :: news) → (∀ p ∈ news, p.1 ≠ q) → Q (.ref q) { s with heap := h', toks := tk }) :
    wpAny (model PR w) A (call (.type "object") [] []) Q E s := by
  obtain ⟨hh, g, d, tk, os⟩ := s
  exact obj_make (G.keeps F.keep) hA hd hu fun q o h' tk hk hn ho => h q o h' tk (stayF F hk) (moreN F (stayN N hk) hn ho) (neN' N hn)
end Mine
theorem Mine.off_S13 : True := by w_top off; trivial
theorem Mine.rs_S13 {M : Model} {A : Around} {E : Value → Shared → Prop} {s : Shared} {Q : Flow → Shared → Prop} {p : Pos} {env : Env} (h : wpAny M A (exec (Stmt.Pass p) env) Q E s) : wpAny M A (exec (Stmt.Pass p) env) Q E s := by first | (walk1; fail) | exact h
namespace Mine
theorem reg_S13 : True := by
  k_with_none
  k_with "cj" => (first | with_reducible assumption | exact cj1 (by with_reducible assumption) | exact cj2 (by with_reducible assumption) | exact cj3 (by with_reducible assumption) | exact cj4 (by with_reducible assumption) | exact cj5 (by with_reducible assumption) | exact ce2 (by with_reducible assumption) | exact ce3 (by with_reducible assumption) | exact ce4 (by with_reducible assumption) | exact ce5 (by with_reducible assumption))
  k_with "ne1" => (refine neN ?_; first | with_reducible assumption | (refine Ne.symm ?_; with_reducible assumption) | walk_at "cj" | (refine Ne.symm ?_; walk_at "cj") | (refine Nat.ne_of_lt ?_; walk_at "cj") | (refine Nat.ne_of_gt ?_; walk_at "cj") | ((try dsimp only); omega))
  k_with "eval Constant int" => (refine r_int ?_)
  k_with "eval Constant str" => (refine r_str ?_)
  k_with "binaryOp Add int int" => (refine r_add ?_)
  k_with "binaryOp Sub int int" => (refine r_sub ?_)
  k_with "unaryOp USub int" => (refine r_neg ?_)
  k_with "inplaceOp Add int int" => (refine r_iadd ?_)
  k_with "eval Slice" => (refine r_slice ?_)
  k_with "SlQ" => (refine SlQ.go ?_)
  k_with "mget" => (first | with_reducible assumption | with_reducible exact upd_eq | ((with_reducible refine Eq.trans upd_eq ?_); rfl) | ((with_reducible refine upd_ne (by kernel_rfl) ?_); walk_at "mget") | (goal_lacks upd; first | exact if_pos rfl | (refine Eq.trans (if_neg (by decide)) ?_; walk_at "mget")))
  k_with "newTuple" => ((refine' r_tuple (by walk_at "asm") (by walk_at "asm") (by exact Nat.le_of_ble_eq_true rfl) ?_); intro _ _ _ _ _; walk_at "lt"; (try k_sweep))
  k_with "ite" => (first | with_reducible refine ite_tt ?_ | with_reducible refine ite_ff ?_ | (refine ite_pos (by with_reducible assumption) ?_) | (refine ite_neg (by refine ne_true_of_eq_false ?_; with_reducible assumption) ?_))
  k_with "tup" => (first | (refine News.isTup (by walk_at "asm") (by walk_at "mem")) | with_reducible assumption | (refine stays_tup (Fr.keep (by walk_at "asm")) (by walk_at "asm")))
  k_with "lst" => (first | (refine News.isList (by walk_at "asm") (by walk_at "mem")) | with_reducible assumption | (refine stays_list (Fr.keep (by walk_at "asm")) (by walk_at "asm")))
  k_with "off" => (first | exact List.forall_mem_nil _ | exact OwnOff.ne (by with_reducible assumption) (List.Mem.head _) | (refine List.forall_mem_cons.mpr ?_; refine And.intro ?_ ?_; (focus k_ne); (walk_at "off")))
  k_with "upd" => (first | (apply upd_hd; walk_at "off") | (apply upd_tl; (case hne => k_ne); (case hu => walk_at "upd")))
  k_with "RunTo" => ((first | refine NextTo.next (by with_reducible assumption) ?_ | refine NextTo.ret (by with_reducible assumption) ?_ | refine NextTo.brk (by with_reducible assumption) ?_ | refine NextTo.cont (by with_reducible assumption) ?_); (try dsimp only))
  k_with "go" => (repeat' (first | (k_unfold; (try dsimp only)) | walk1 | (dsimp only; walk1)))
  k_with "sides" => (((case b => (k_is)); (case c => (k_is)); (case a => (exact Ar.room (by assumption))); (case d => (exact BindsTo.of_eq rfl)); (case e => (exact locs rfl)); (case g => (rfl)); (case h => (rfl)); (case i => (rfl)); (case j => (decide))))
  k_with "mem" => (first | exact List.Mem.head _ | (refine' List.Mem.tail _ ?_; walk_at "mem"))
  k_with "units" => (first | exact Ar.units0 (by assumption) _ | exact Ar.unitsD (by assumption) (by decide) _)
  k_with "asm" => (with_reducible assumption)
  k_with "lt" => (((rename ∀ p ∈ _, (p : Addr × Obj).1 < _ => l9); (replace l9 := allLt_of l9); (dsimp only [AllLt] at l9)))
  k_with "ne" => (((rename ∀ p ∈ _, (p : Addr × Obj).1 ≠ _ => l9); (replace l9 := allNe_of l9); (dsimp only [AllNe] at l9)))
  k_with "storeName" => ((with_reducible refine' r_store (by walk_at "asm") (by walk_at "asm") (by kernel_rfl) ?_); intro _ _ _; (try k_sweep))
  k_with "exec While Compare cons nil" => (refine Halt.out ?_)
  k_with "exec While BoolOp cons nil" => (refine Halt.out ?_)
  k_with "exec While Constant cons nil" => (refine Halt.out ?_)
  k_with "exec While Name cons nil" => (refine Halt.out ?_)
  k_with "exec While" => (refine Halt.out ?_)
  k_with "execs cons" => (first | (refine execs_lastQ (fun tk => ?_)) | (refine execs_consQ (fun tk qk hqk => ?_)))
  k_with "newList" => (((refine' r_list (by walk_at "asm") (by walk_at "asm") (by exact Nat.le_of_ble_eq_true rfl) ?_); intro _ _ _ _ _; walk_at "lt"; (try k_sweep)))
  k_with "subscriptTail Name Slice str ref" => ((with_reducible first | refine' slice_ss5 (by walk_at "asm") (by walk_at "asm") (by with_reducible assumption) ?_ | refine' slice_sn5 (by walk_at "asm") (by walk_at "asm") (by with_reducible assumption) ?_); intro _ _ _ _ _; (try k_sweep))
  k_with "handled" => (first | exact Ar.hhD (by assumption) _ | exact Ar.hh (by assumption) | rfl)
  k_with "assign Tuple" => (((with_reducible show wpAny _ _ (assign (Expr.Tuple _ _ _) _ (Value.ref _)) _ _ _); k_dflt (refine' r_unpack (by walk_at "asm") (by walk_at "asm") (by walk_at "tup") (by walk_at "handled") rfl rfl ?_); intro _ _ _; (try k_sweep)))
  k_with "asz" => (k_dflt (first | exact aszL (by with_reducible assumption) | exact Nat.le_of_ble_eq_true rfl))
  k_with "call builtin:list.append" => (((with_reducible show wpAny _ _ (call (Value.builtin _) [Value.ref _, _]) _ _ _); (refine' r_append (by walk_at "asm") (by walk_at "asm") (by walk_at "upd") (by walk_at "asz") ?_); intro _ _ _; (try k_sweep)))
  k_with "sub" => ((intro _ hpK9; first | exact List.mem_of_mem_tail hpK9 | (simp only [List.mem_cons, List.mem_append] at hpK9 ⊢; grind)))
  k_with "exec For Tuple Name cons nil" => ((k_dflt (refine' wpAny_For ?_ (by intro _; rfl))))
  k_with "exec For Name Name cons nil" => ((k_dflt (refine' wpAny_For ?_ (by intro _; rfl))))
  k_with "exec For Name Call cons nil" => ((k_dflt (refine' wpAny_For ?_ (by intro _; rfl))))
  k_with "exec For Name List cons nil" => ((k_dflt (refine' wpAny_For ?_ (by intro _; rfl))))
  k_with "exec For Name Attribute cons nil" => ((k_dflt (refine' wpAny_For ?_ (by intro _; rfl))))
  k_with "pyIter ref" => (refine Halt.out ?_)
  k_with "subscriptTail Name Constant ref int" => (((with_reducible show wpAny _ _ (subscriptTail _ _ (Value.ref _) (Value.int _ _)) _ _ _); (refine' item_tupleL (by refine' News.isTup (by walk_at "asm") (by walk_at "mem")) (by decide) (by decide) rfl rfl ?_ (by with_unfolding_all rfl) (by intro _; with_unfolding_all rfl))))
  k_with "eval Name" => ((goal_lacks compEnvC; first | (with_reducible refine' nmK (by decide +kernel) (by walk_at "asm") (by walk_at "mget") ?_) | k_dflt (first | (goal_lacks envOf; refine' nameX_L (by walk_at "asm") (by walk_at "mget") ?_ rfl (by with_unfolding_all rfl) (by decide)) | (goal_lacks envOf; refine' nameX_C (by walk_at "asm") rfl (by walk_at "mem") (by walk_at "asm") ?_ rfl (by with_unfolding_all rfl) (by decide)) | (refine' nameX_K (by walk_at "asm") (by walk_at "asm") (by k_asm) (by k_is) ?_ rfl (by with_unfolding_all rfl) (by decide)) | (refine' nameX_B (by walk_at "asm") (by walk_at "asm") (by k_asm) (by k_is) (by boot_fast) (by decide) ?_ rfl (by with_unfolding_all rfl) (by decide)))))
  k_with "loadName" => ((first | (with_reducible refine' ldL (by walk_at "asm") (by walk_at "mget") (by kernel_rfl) ?_) | k_dflt (refine' ldX (by walk_at "asm") (by walk_at "mget") ?_ rfl (by with_unfolding_all rfl))))
  trivial
theorem tr_call {w : World} {A : Around} {E : Value → Shared → Prop} {s : Shared} {h₀ : Heap} {L sa : Addr} {so : Obj} {m : Str → Option Value} {ps : Array Value} {x : Str} {tx tq : Tok} {n : Nat} {out : List (Option Str)} {Q : Value → Shared → Prop}
   (F : Fr h₀ L s.heap m) (N : News h₀ L s.heap [(sa, so), (130, tabObj ps)]) (G : Gd w h₀) (hA : Ar A 560 8500) (hgs : AllBare s.gens) (hx : x.length ≤ 1000) (C0 : CodeHd h₀ 134 130) (hok : TabOk lamP ps []) (hn0 : @Ne Nat sa 130)
   (htr : TrP x n 0 [] out) (hn : n ≤ 1000)
   (h : ∀ h' gs' d' tk' rl rv re ps', Fr h₀ L h' m → News h₀ L h' [(rl, listOf (List.toArray rv) re), (sa, so), (130, tabObj ps')] → AllBare gs' → Rel2 (ItemIn sa) rv out → Q (.ref rl) ⟨h', gs', d', tk', s.os⟩) :
   wpAny (model PR w) A (call (.ref 135) [.str x tx, .ref sa, .str (Str.ofString ".") tq] []) Q E s := by
  have hP := N (130, tabObj ps) (List.Mem.tail _ (List.Mem.head _))
  have hS := N (sa, so) (List.Mem.head _)
  refine wpAny_call (tr_walk G F.keep hA hgs hx hP.1 hP.2.2 C0 hok htr hn fun s' rl rv re ps' hos hg' hk h1 hf hl hr => ?_)
  obtain ⟨h', gs', d', tk', os'⟩ := s'
  dsimp only at hos hg' hk h1 hl
  subst hos
  have hfL : rl ≠ L := by
    obtain ⟨oL, _, _, hL, _⟩ := F.ns
    rintro rfl
    rw [hf] at hL; cases hL
  have hf0 : h₀.get? rl = none := by
    cases hq : h₀.get? rl with
    | none => rfl
    | some o' => have := F.keep _ _ hq; rw [hf] at this; cases this
  refine h h' gs' d' tk' rl rv re ps' ⟨F.ns.at' fun o e => hk _ _ (fun q => hP.2.1 q.symm) e, fun b o e => hk b o (fun q => by rw [q, hP.2.2] at e; cases e) (F.keep b o e), F.above⟩ ?_ hg' hr
  intro q hq
  rcases List.mem_cons.mp hq with rfl | hq
  · exact ⟨hl, hfL, hf0⟩
  · rcases List.mem_cons.mp hq with rfl | hq
    · exact ⟨hk _ _ hn0 hS.1, hS.2⟩
    · rw [List.mem_singleton.mp hq]
      exact ⟨h1, hP.2⟩
theorem jn_call {w : World} {A : Around} {E : Value → Shared → Prop} {s : Shared} {h₀ : Heap} {L il sa : Addr} {m : Str → Option Value} {news : List (Addr × Obj)} {rv : List Value} {re : Nat} {out : List (Option Str)} {pre : List Str} {gs : List (List Str)} {Q : Value → Shared → Prop}
   (F : Fr h₀ L s.heap m) (N : News h₀ L s.heap news) (G : Gd w h₀) (hA : Ar A 210 2100) (hgs : AllBare s.gens) (hil : (il, listOf (List.toArray rv) re) ∈ news) (hrel : Rel2 (ItemIn sa) rv out) (ho : out = pre.map some ++ flatG gs) (hgl : ∀ g ∈ gs, g ≠ [] ∧ (g.map (·.length)).sum + g.length ≤ 1000) (hfl : ((pre ++ tailF gs).map (·.length)).sum + (pre ++ tailF gs).length ≤ 90000) (hol : out.length ≤ 1000)
   (h : ∀ h' gs' d' tk' t, Fr h₀ L h' m → News h₀ L h' news → AllBare gs' → Q (.str (joinOut pre gs) t) ⟨h', gs', d', tk', s.os⟩) :
   wpAny (model PR w) A (call (.ref 142) [.ref il, .ref sa] []) Q E s := by
  refine wpAny_call (jn_walk G F.keep hA hgs (N _ hil).1 hrel ho hgl hfl hol fun s' t hos hg' hk => ?_)
  obtain ⟨h', gs', d', tk', os'⟩ := s'
  dsimp only at hos hg' hk
  subst hos
  exact h h' gs' d' tk' t (stayF F hk) (stayN N hk) hg'
theorem rg_S13_1 : True := by
  k_with "call ref" => (((with_reducible show wpAny _ _ (call (Value.ref 135) [Value.str _ _, Value.ref _, Value.str _ _] []) _ _ _); k_dflt (refine' tr_call (by walk_at "asm") (by walk_at "asm") (by with_reducible assumption) (by exact Ar.into (by assumption) (by decide) (by decide) _) (by with_reducible assumption) (by with_reducible assumption) (by with_reducible assumption) (by with_reducible assumption) (by k_ne) (by with_reducible assumption) (by with_reducible assumption) ?_); intro _ _ _ _ _ _ _ _ _ _ _ _; (try k_sweep)))
  k_with "call ref" => (((with_reducible show wpAny _ _ (call (Value.ref 142) [Value.ref _, Value.ref _] []) _ _ _); k_dflt (refine' jn_call (by walk_at "asm") (by walk_at "asm") (by with_reducible assumption) (by exact Ar.into (by assumption) (by decide) (by decide) _) (by with_reducible assumption) (by walk_at "mem") (by with_reducible assumption) (by with_reducible assumption) (by with_reducible assumption) (by with_reducible assumption) (by with_reducible assumption) ?_); intro _ _ _ _ _ _ _ _; (try k_sweep)))
  k_with "call type:object" => ((k_dflt (refine' obj_K (by walk_at "asm") (by walk_at "asm") (by with_reducible assumption) (by walk_at "handled") (by exact Ar.dep (by with_reducible assumption) (by decide) _) (by exact Ar.uni (by with_reducible assumption) (by decide) _) ?_); intro _ _ _ _ _ _ _; walk_at "ne"; (try k_sweep)))
  trivial
set_option maxRecDepth 100000 in
set_option maxHeartbeats 4000000 in
theorem trans_walk {w : World} {s : Shared} {A : Around} {R : Result → Shared → Prop} {h₀ : Heap} (G : Gd w h₀) (hst : h₀.StaysIn s.heap) (hA : Ar A 570 8600) (hgs : AllBare s.gens) {x : Str} {tx : Tok} {ps : Array Value} (hx : x.length ≤ 1000)
   (h1 : s.heap.get? 130 = some (tabObj ps)) (n1 : h₀.get? 130 = none) (C0 : CodeHd h₀ 134 130) (hok : TabOk lamP ps []) {n : Nat} {out : List (Option Str)} (htr : TrP x n 0 [] out) (hn : n ≤ 1000)
   {pre : List Str} {gs : List (List Str)} (ho : out = pre.map some ++ flatG gs) (hgl : ∀ g ∈ gs, g ≠ [] ∧ (g.map (·.length)).sum + g.length ≤ 1000) (hfl : ((pre ++ tailF gs).map (·.length)).sum + (pre ++ tailF gs).length ≤ 90000) (hol : out.length ≤ 1000)
   (hR : ∀ s' t ps', s'.os = s.os → AllBare s'.gens → (∀ b o, b ≠ 130 → s.heap.get? b = some o → s'.heap.get? b = some o) → s'.heap.get? 130 = some (tabObj ps') → R (.ok (.ret (.str (joinOut pre gs) t))) s') :
   codeAny (model PR w) A (.call (.ref 116) ⟨[.str x tx], []⟩) R s := by
  refine' call_fn (binds := [(Str.ofString "pat", .str x tx)]) (G.keeps hst) ?a ?b ?c ?d ?e ?f ?g ?h ?i ?j
  walk_at "sides"
  intro h₁ m hm F0
  have k1 : m (Str.ofString "pat") = some (.str x tx) := by rw [hm]; rfl
  clear hm
  have hall : ∀ p ∈ [((130 : Addr), tabObj ps)], s.heap.get? p.1 = some p.2 := by
    intro p hp
    rw [List.mem_singleton.mp hp]; exact h1
  have hg : h₀.StaysIn (hideAll s.heap [130]) := stays_hide (as := [(130, tabObj ps)]) hst (by
    intro p hp
    rw [List.mem_singleton.mp hp]; exact n1)
  obtain ⟨F, N⟩ := rebaseFr (as := [(130, tabObj ps)]) F0 hall
  have G2 : Gd w (hideAll s.heap [130]) := G.keeps hg
  have C2 : CodeHd (hideAll s.heap [130]) 134 130 := C0.keeps hg
  obtain ⟨p, loose, mean, mg, mb, T⟩ := G2.T
  have X := G2.K
  clear F0
  replace F : Fr (hideAll s.heap [130]) s.heap.objs.size h₁ m := F
  replace N : News (hideAll s.heap [130]) s.heap.objs.size h₁ [(130, tabObj ps)] := N
  walk_at "go"
  rename Fr _ _ _ _ => F9
  rename News _ _ _ _ => N9
  have key : ∀ b o, b ≠ 130 → s.heap.get? b = some o → (hideAll s.heap [130]).get? b = some o := fun b o hb e => hideAll_get _ e (by simp [hb])
  exact hR ⟨_, _, _, _, s.os⟩ _ _ rfl (by with_reducible assumption) (fun b o hb e => F9.keep b o (key b o hb e)) (N9 _ (List.Mem.tail _ (List.Mem.tail _ (List.Mem.head _)))).1
end Mine
theorem Mine.off_P1 : True := by w_top off; trivial
theorem Mine.rs_P1 {M : Model} {A : Around} {E : Value → Shared → Prop} {s : Shared} {Q : Flow → Shared → Prop} {p : Pos} {env : Env} (h : wpAny M A (exec (Stmt.Pass p) env) Q E s) : wpAny M A (exec (Stmt.Pass p) env) Q E s := by first | (walk1; fail) | exact h
namespace Mine
/-- a text of these signs -/
noncomputable abbrev tx (l : List Nat) : Str := ⟨l.toArray⟩
theorem sl_clip {x : Str} {i j : Int} (h : (x.length : Int) ≤ j) : Txt.slice x (some i) (some j) = Txt.slice x (some i) (some (x.length : Int)) := by
  have e : Builtin.Str.strSliceIndices (some i) (some j) 1 x.length = Builtin.Str.strSliceIndices (some i) (some (x.length : Int)) 1 x.length := by
    have a1 : ¬ j < 0 := by lia
    have a2 : ¬ ((x.length : Int) < 0) := by lia
    have e1 : max (0 : Int) (min j (x.length : Int)) = x.length := by lia
    have e2 : max (0 : Int) (min (x.length : Int) (x.length : Int)) = x.length := by lia
    simp [Builtin.Str.strSliceIndices, a1, a2, e1, e2]
  unfold Txt.slice
  rw [e]
/-- what stands in x from the place i on -/
structure View (x : Str) (i : Int) (r : List Nat) : Prop where
  h0 : 0 ≤ i
  hl : i ≤ (x.length : Int)
  hd : x.cps.toList.drop i.toNat = r
theorem View.start (x : Str) : View x 0 x.cps.toList := ⟨Int.le_refl _, by lia, rfl⟩
theorem View.len {x : Str} {i : Int} {r : List Nat} (V : View x i r) : i + (r.length : Int) = (x.length : Int) := by
  have h0 := V.h0
  have hl := V.hl
  have e := congrArg List.length V.hd
  rw [List.length_drop] at e
  have : x.cps.toList.length = x.length := by simp [Str.length]
  lia
theorem View.slice {x : Str} {i j : Int} {r : List Nat} (V : View x i r) (n : Nat) (hj : j = i + (n : Int)) : Txt.slice x (some i) (some j) = tx (r.take n) := by
  have h0 := V.h0
  have hl := V.hl
  have hlen : x.cps.toList.length = x.length := by simp [Str.length]
  have key : ∀ j' : Int, i ≤ j' → j' ≤ (x.length : Int) → Txt.slice x (some i) (some j') = tx (r.take (j' - i).toNat) := fun j' h1 h2 => by
    rw [eq_of_beq (slice_closesL h0 h1 h2), V.hd]
  rcases Int.le_total j (x.length : Int) with h | h
  · rw [key j (by lia) h, show (j - i).toNat = n by lia]
  · rw [sl_clip h, key _ hl (Int.le_refl _)]
    have hr := V.len
    rw [List.take_of_length_le (by lia), List.take_of_length_le (by lia)]
theorem View.step {x : Str} {i j : Int} {a r : List Nat} (V : View x i (a ++ r)) (hj : j = i + (a.length : Int)) : View x j r := by
  have h0 := V.h0
  have hl := V.len
  rw [List.length_append] at hl
  refine ⟨by lia, by lia, ?_⟩
  rw [show j.toNat = i.toNat + a.length by lia, ← List.drop_drop, V.hd]
  simp
theorem View.drop {x : Str} {i : Int} {r : List Nat} (V : View x i r) (k : Nat) (hk : k ≤ r.length) : View x (i + (k : Int)) (r.drop k) := by
  have e : r = r.take k ++ r.drop k := (List.take_append_drop k r).symm
  rw [e] at V
  exact V.step (by rw [List.length_take]; lia)
theorem View.item {x : Str} {i : Int} {c : Nat} {r : List Nat} (V : View x i (c :: r)) : Txt.item x i = ⟨#[c]⟩ := by
  refine item_meets V.h0 ?_
  have := congrArg (fun l => l[0]?) V.hd
  simp only [List.getElem?_drop, List.getElem?_cons_zero, Nat.add_zero] at this
  simpa using this
theorem View.lt {x : Str} {i : Int} {c : Nat} {r : List Nat} (V : View x i (c :: r)) : i < (x.length : Int) := by
  have := V.len
  simp only [List.length_cons] at this
  lia
theorem View.at_end {x : Str} {i : Int} (V : View x i []) : i = (x.length : Int) := by
  have := V.len
  simpa using this
theorem View.ch {x : Str} {i : Int} {r : List Nat} (V : View x i r) : ch x i = tx (r.take 1) := V.slice 1 rfl
theorem tx_beq (a b : List Nat) : (tx a == tx b) = (a == b) := by
  rw [Bool.eq_iff_iff, beq_iff_eq, beq_iff_eq]
  constructor
  · intro h; simpa using h
  · intro h; rw [h]
theorem tx_append (a b : List Nat) : tx a ++ tx b = tx (a ++ b) := by
  show Str.mk _ = _
  simp [tx]
theorem tx_len (a : List Nat) : (tx a).length = a.length := by simp [Str.length]
theorem tx_inj {a b : List Nat} (h : a ≠ b) : (tx a == tx b) = false := by rw [tx_beq]; simpa using h
end Mine
theorem Mine.off_P2 : True := by w_top off; trivial
theorem Mine.rs_P2 {M : Model} {A : Around} {E : Value → Shared → Prop} {s : Shared} {Q : Flow → Shared → Prop} {p : Pos} {env : Env} (h : wpAny M A (exec (Stmt.Pass p) env) Q E s) : wpAny M A (exec (Stmt.Pass p) env) Q E s := by first | (walk1; fail) | exact h
namespace Mine
theorem occ_full {x y : Str} {hi : Nat} : ∀ (l : List Nat) (st : Array Nat × Nat), ¬ st.fst.size < 1 → (forIn l st (StrLaws.occBody x y hi 1)).run = st
  | [], _, _ => rfl
  | a :: l, st, h => by
    rw [List.forIn_cons]
    have : StrLaws.occBody x y hi 1 a st = pure (ForInStep.yield st) := by
      unfold StrLaws.occBody
      rw [if_neg (fun h' => h h'.1.1.1)]
    rw [this]
    exact occ_full l st h
theorem find4_here {x y : Str} {i j : Int} {c : Nat} {r : List Nat} (V : View x i (c :: r)) (hy : y = tx [c]) (hj : i < j) : find4 x y i j = i := by
  have h0 := V.h0
  have hlt := V.lt
  subst hy
  unfold find4
  have e1 : fromIndex x.length i = i.toNat := by unfold fromIndex; rw [if_neg (by lia)]; lia
  have e2 : fromIndex x.length j = j.toNat := by unfold fromIndex; rw [if_neg (by lia)]; lia
  rw [e1, e2]
  obtain ⟨k, hk⟩ : ∃ k, min j.toNat x.length + 1 - i.toNat = k + 1 := ⟨min j.toNat x.length - i.toNat, by lia⟩
  have hm : i.toNat + (tx [c]).length ≤ min j.toNat x.length := by rw [tx_len]; simp; lia
  have hat : Builtin.Str.subAt x (tx [c]) i.toNat = true := by
    refine ((StrLaws.subAt_one x c i.toNat).mpr ?_).2
    have := congrArg (fun l => l[0]?) V.hd
    simpa using this
  have hocc : Builtin.Str.occurrences x (tx [c]) i.toNat (min j.toNat x.length) 1 = [i.toNat] := by
    rw [StrLaws.occ_eq, hk, List.range'_succ, List.forIn_cons]
    have : StrLaws.occBody x (tx [c]) (min j.toNat x.length) 1 i.toNat (#[], i.toNat) = pure (ForInStep.yield (#[i.toNat], i.toNat + (tx [c]).length)) := by
      unfold StrLaws.occBody
      rw [if_pos ⟨⟨⟨by simp, Nat.le_refl _⟩, hm⟩, hat⟩]
      rfl
    rw [this]
    show ((forIn _ (#[i.toNat], _) _ : Id _).run.fst).toList = _
    rw [occ_full _ _ (by simp)]
  rw [hocc]
  show ((i.toNat : Nat) : Int) = i
  lia
theorem find4_none {x : Str} {i j : Int} {c : Nat} (h0 : 0 ≤ j) (hj : j ≤ i) : find4 x (tx [c]) i j = -1 := by
  unfold find4
  have e1 : fromIndex x.length i = i.toNat := by unfold fromIndex; rw [if_neg (by lia)]; lia
  have e2 : fromIndex x.length j = j.toNat := by unfold fromIndex; rw [if_neg (by lia)]; lia
  rw [e1, e2]
  have hocc : Builtin.Str.occurrences x (tx [c]) i.toNat (min j.toNat x.length) 1 = [] := by
    rw [StrLaws.occ_eq]
    rcases (by lia : min j.toNat x.length + 1 - i.toNat = 0 ∨ min j.toNat x.length + 1 - i.toNat = 1) with h | h
    · rw [h]; rfl
    · rw [h, List.range'_succ, List.forIn_cons]
      have : StrLaws.occBody x (tx [c]) (min j.toNat x.length) 1 i.toNat (#[], i.toNat) = pure (ForInStep.yield (#[], i.toNat)) := by
        unfold StrLaws.occBody
        rw [if_neg]
        rintro ⟨⟨_, h2⟩, _⟩
        rw [tx_len] at h2
        simp at h2
        lia
      rw [this]
      rfl
  rw [hocc]
/-- one token of the pattern, and the piece of text that it becomes -/
noncomputable def TrStep (t o : List Nat) : Prop := ∀ (x : Str) (i : Int) (n : Nat) (rs out : List (Option Str)) (rest : List Nat), View x i (t ++ rest) → TrP x n (i + (t.length : Int)) (rs ++ [some (tx o)]) out → TrP x (n + 1) i rs out
theorem any_step : TrStep [63] [46] := fun x i n rs out rest V h => by
  refine TrP.any V.lt (V.item.trans (by decide +kernel)) ?_
  have e : tx [46] = Str.ofString "." := by decide +kernel
  rw [e] at h
  exact h
theorem lone_step {c : Nat} {o : List Nat} (hc : lone c = true) (ho : escOf c = tx o) : TrStep [c] o := fun x i n rs out rest V h => by
  refine TrP.lone V.lt V.item hc ?_
  rw [ho]
  exact h
theorem set_item {x : Str} {i : Int} {body rest : List Nat} (V : View x i (body ++ 93 :: rest)) (p : Nat) (hp : p ≤ body.length) : Txt.item x (i + (p : Int)) = tx [(body ++ [93]).getD p 0] := by
  have W := V.drop p (by rw [List.length_append]; lia)
  have e : (body ++ 93 :: rest).drop p = (body ++ [93]).getD p 0 :: (body ++ 93 :: rest).drop (p + 1) := by
    have hlt : p < (body ++ 93 :: rest).length := by rw [List.length_append, List.length_cons]; lia
    rw [List.drop_eq_getElem_cons hlt]
    congr 1
    rcases Nat.lt_or_ge p body.length with h | h
    · simp [List.getD_eq_getElem?_getD, List.getElem_append_left h, List.getElem?_append_left h, h]
    · have : p = body.length := by lia
      subst this
      simp
  rw [e] at W
  exact W.item
theorem set_step {body : List Nat} {z : List Nat} {u v z' : Str} (a b : Nat) (ha : a = if (body ++ [93]).getD 0 0 = 33 then 1 else 0) (hb : b = if (body ++ [93]).getD a 0 = 93 then 1 else 0) (hab : a + b ≤ body.length) (hno : (body.drop (a + b)).all (· != 93) = true)
    (hst : ∀ (x : Str) (i : Int) (rest : List Nat), View x i (body ++ 93 :: rest) → StuffTo x i (i + (body.length : Int)) (tx body) u) (hs : SubTo u v) (hp : PieceOf v z') (hz : z' = tx z) : TrStep (91 :: body ++ [93]) z := fun x i n rs out rest V h => by
  subst hz
  have V0 : View x i (91 :: (body ++ 93 :: rest)) := by simpa using V
  have W : View x (i + 1) (body ++ 93 :: rest) := View.step (a := [91]) V0 rfl
  have it := fun p hp => set_item W p hp
  have hW := W.len
  rw [List.length_append, List.length_cons] at hW
  have hlen : ((91 :: body ++ [93]).length : Int) = (body.length : Int) + 2 := by simp; lia
  rw [hlen] at h
  refine TrP.set (j1 := i + 1 + (a : Int)) (j2 := i + 1 + ((a + b : Nat) : Int)) (je := i + 1 + (body.length : Int)) (u0 := tx body) V0.lt (V0.item.trans (by decide +kernel)) ?_ ?_ (by lia) (by lia) ?_ ?_ ?_ (hst x (i + 1) rest W) hs hp ?_
  · have h0 := it 0 (Nat.zero_le _)
    rw [show i + 1 + ((0 : Nat) : Int) = i + 1 by lia] at h0
    have hc : Str.ofString "!" = tx [33] := by decide +kernel
    by_cases hq : (body ++ [93]).getD 0 0 = 33
    · rw [if_pos hq] at ha
      subst ha
      exact .yes (by rw [h0, hc, hq, tx_beq]; rfl)
    · rw [if_neg hq] at ha
      subst ha
      have := OptAt.no (x := x) (c := Str.ofString "!") (j := i + 1) (by rw [h0, hc]; exact tx_inj (by simpa using hq))
      simpa using this
  · have h0 := it a (by lia)
    have hc : Str.ofString "]" = tx [93] := by decide +kernel
    by_cases hq : (body ++ [93]).getD a 0 = 93
    · rw [if_pos hq] at hb
      subst hb
      have := OptAt.yes (x := x) (c := Str.ofString "]") (j := i + 1 + (a : Int)) (by rw [h0, hc, hq, tx_beq]; rfl)
      rw [show i + 1 + ((a + 1 : Nat) : Int) = i + 1 + (a : Int) + 1 by lia]
      exact this
    · rw [if_neg hq] at hb
      subst hb
      have := OptAt.no (x := x) (c := Str.ofString "]") (j := i + 1 + (a : Int)) (by rw [h0, hc]; exact tx_inj (by simpa using hq))
      simpa using this
  · intro k hk1 hk2
    obtain ⟨p, rfl⟩ : ∃ p : Nat, k = i + 1 + (p : Int) := ⟨(k - i - 1).toNat, by lia⟩
    rw [it p (by lia), show Str.ofString "]" = tx [93] by decide +kernel]
    refine tx_inj fun e => ?_
    have hpl : p < body.length := by lia
    have e2 : (body ++ [93]).getD p 0 = body[p] := by simp [List.getD_eq_getElem?_getD, List.getElem?_append_left hpl, hpl]
    rw [e2] at e
    have hm : body[p] ∈ body.drop (a + b) := by
      refine List.mem_of_getElem? (i := p - (a + b)) ?_
      rw [List.getElem?_drop, show a + b + (p - (a + b)) = p by lia, List.getElem?_eq_getElem hpl]
    have h9 := List.all_eq_true.mp hno _ hm
    have e3 : body[p] = 93 := by simpa using e
    rw [e3] at h9
    exact absurd h9 (by decide)
  · rw [it body.length (Nat.le_refl _), show Str.ofString "]" = tx [93] by decide +kernel]
    simp
  · rw [W.slice body.length rfl]
    simp
  · rw [show i + 1 + (body.length : Int) + 1 = i + ((body.length : Int) + 2) by lia]
    exact h
theorem stuff_plain {body : List Nat} {u : Str} (h : Txt.contains (tx body) (Str.ofString "-") = false) (hl : body.length ≤ 100) (hu : u = Txt.replace (tx body) (Str.ofString "\\") (Str.ofString "\\\\")) : ∀ (x : Str) (i : Int) (rest : List Nat), View x i (body ++ 93 :: rest) → StuffTo x i (i + (body.length : Int)) (tx body) u := fun x i rest _ => by
  subst hu
  exact .plain h (by rw [tx_len]; exact hl)
theorem stuff_two {a : Nat} {r : List Nat} {A R u : Str} (h : Txt.contains (tx (a :: 45 :: r)) (Str.ofString "-") = true) (hr : r.length ≤ 2) (ha : a ≠ 33) (hA : A = tx [a]) (hR : R = tx r) (hD : Dash A R u) : ∀ (x : Str) (i : Int) (rest : List Nat), View x i (a :: 45 :: r ++ 93 :: rest) → StuffTo x i (i + ((a :: 45 :: r).length : Int)) (tx (a :: 45 :: r)) u := fun x i rest V => by
  have hm : Str.ofString "-" = tx [45] := by decide +kernel
  have V1 : View x (i + 1) (45 :: r ++ 93 :: rest) := View.step (a := [a]) V rfl
  have V2 : View x (i + 1 + 1) (r ++ 93 :: rest) := View.step (a := [45]) V1 rfl
  have h0 := V.h0
  have hl : ((a :: 45 :: r).length : Int) = (r.length : Int) + 2 := by simp; lia
  rw [hl]
  refine StuffTo.two (a := A) (r := R) h (by rw [tx_len]; simp; lia) ?_ ?_ ?_ ?_ ?_ hD
  · rw [V.item, show Str.ofString "!" = tx [33] by decide +kernel]
    exact tx_inj (by simpa using ha)
  · exact find4_here V1 hm (by lia)
  · exact (V.slice (j := i + 1) 1 rfl).trans (by rw [hA]; rfl)
  · rw [hm]
    exact find4_none (by lia) (by lia)
  · rw [V2.slice r.length (by lia), hR]
    simp
theorem stuff_one : ∀ (x : Str) (i : Int) (rest : List Nat), View x i ([45] ++ 93 :: rest) → StuffTo x i (i + (([45] : List Nat).length : Int)) (tx [45]) (Str.ofString "\\-") := fun x i rest V => by
  have hm : Str.ofString "-" = tx [45] := by decide +kernel
  have h0 := V.h0
  refine StuffTo.one (by decide +kernel) (by decide) ?_ ?_ ?_
  · rw [V.item]; decide +kernel
  · rw [hm]; exact find4_none (by simp; lia) (by simp)
  · exact (V.slice (j := i + (([45] : List Nat).length : Int)) 1 rfl).trans (by rw [hm]; rfl)
end Mine
theorem Mine.off_P3 : True := by w_top off; trivial
theorem Mine.rs_P3 {M : Model} {A : Around} {E : Value → Shared → Prop} {s : Shared} {Q : Flow → Shared → Prop} {p : Pos} {env : Env} (h : wpAny M A (exec (Stmt.Pass p) env) Q E s) : wpAny M A (exec (Stmt.Pass p) env) Q E s := by first | (walk1; fail) | exact h
namespace Mine
theorem ne_tx {a b : List Nat} (h : (a == b) = false) : (tx a == tx b) = false := by rw [tx_beq]; exact h
theorem of_bs : Str.ofString "\\" = tx [92] := by decide +kernel
theorem of_hy : Str.ofString "-" = tx [45] := by decide +kernel
theorem of_cl : Str.ofString "]" = tx [93] := by decide +kernel
theorem of_op : Str.ofString "[" = tx [91] := by decide +kernel
theorem of_ca : Str.ofString "^" = tx [94] := by decide +kernel
theorem of_no : Str.ofString "" = tx [] := by decide +kernel
theorem of_dot : Str.ofString "." = tx [46] := by decide +kernel
theorem sign_plain {x : Str} {i : Int} {c : Nat} {r : List Nat} (V : View x i (c :: r)) (hc : c ≠ 92) : signF x i = (tx [c], i + 1) := by
  unfold signF
  have h : Mine.ch x i = tx [c] := V.ch
  rw [h, of_bs, if_neg (by rw [tx_beq]; simpa using hc)]
theorem sign_esc {x : Str} {i : Int} {c : Nat} {r : List Nat} (V : View x i (92 :: c :: r)) : signF x i = (tx [c], i + 1 + 1) := by
  unfold signF
  have h : Mine.ch x i = tx [92] := V.ch
  have W : View x (i + 1) (c :: r) := View.step (a := [92]) V rfl
  have h2 : Mine.ch x (i + 1) = tx [c] := W.ch
  rw [h, of_bs, if_pos (by simp), h2]
theorem run_stop {x : Str} {i : Int} {r : List Nat} {ps : List (Str × Str)} (V : View x i (93 :: r)) (hp : ps ≠ []) : RunP x 0 i ps ps i := by
  have h : Mine.ch x i = tx [93] := V.ch
  exact .stop hp (by rw [h, of_cl]; simp)
theorem run_single {x : Str} {n : Nat} {i j : Int} {c d : Nat} {r : List Nat} {ps qs : List (Str × Str)} (V : View x i (c :: d :: r)) (hc : c ≠ 92) (hp : ps = [] ∨ c ≠ 93) (hd : d ≠ 45) (h : RunP x n (i + 1) (ps ++ [(tx [c], tx [c])]) qs j) : RunP x (n + 1) i ps qs j := by
  have hs := sign_plain V hc
  have W : View x (i + 1) (d :: r) := View.step (a := [c]) V rfl
  have h1 : Mine.ch x i = tx [c] := V.ch
  have h2 : Mine.ch x (i + 1) = tx [d] := W.ch
  refine .single ?_ ?_ ?_ ?_
  · rcases hp with hp | hp
    · exact .inl hp
    · exact .inr (by rw [h1, of_cl]; exact ne_tx (by simpa using hp))
  · rw [hs, h2, of_hy]; exact ne_tx (by simpa using hd)
  · rw [hs, of_no]; exact ne_tx rfl
  · rw [hs]; exact h
theorem run_esc {x : Str} {n : Nat} {i j : Int} {c d : Nat} {r : List Nat} {ps qs : List (Str × Str)} (V : View x i (92 :: c :: d :: r)) (hd : d ≠ 45) (h : RunP x n (i + 1 + 1) (ps ++ [(tx [c], tx [c])]) qs j) : RunP x (n + 1) i ps qs j := by
  have hs := sign_esc V
  have W : View x (i + 1 + 1) (d :: r) := View.step (a := [c]) (View.step (a := [92]) V rfl) rfl
  have h1 : Mine.ch x i = tx [92] := V.ch
  have h2 : Mine.ch x (i + 1 + 1) = tx [d] := W.ch
  refine .single ?_ ?_ ?_ ?_
  · exact .inr (by rw [h1, of_cl]; exact ne_tx rfl)
  · rw [hs, h2, of_hy]; exact ne_tx (by simpa using hd)
  · rw [hs, of_no]; exact ne_tx rfl
  · rw [hs]; exact h
theorem run_pair {x : Str} {n : Nat} {i j : Int} {c d : Nat} {r : List Nat} {ps qs : List (Str × Str)} (V : View x i (c :: 45 :: d :: r)) (hc : c ≠ 92) (hp : ps = [] ∨ c ≠ 93) (hd : d ≠ 92) (hd2 : d ≠ 93) (hcd : ¬ d < c) (h : RunP x n (i + 1 + 1 + 1) (ps ++ [(tx [c], tx [d])]) qs j) : RunP x (n + 1) i ps qs j := by
  have hs := sign_plain V hc
  have W : View x (i + 1) (45 :: d :: r) := View.step (a := [c]) V rfl
  have W2 : View x (i + 1 + 1) (d :: r) := View.step (a := [45]) W rfl
  have hs2 := sign_plain W2 hd
  have h1 : Mine.ch x i = tx [c] := V.ch
  have h2 : Mine.ch x (i + 1) = tx [45] := W.ch
  refine .pair ?_ ?_ ?_ ?_ ?_ ?_
  · rcases hp with hp | hp
    · exact .inl hp
    · exact .inr (by rw [h1, of_cl]; exact ne_tx (by simpa using hp))
  · rw [hs, h2, of_hy]; simp
  · rw [hs, W2.slice 1 (by dsimp only; lia), of_cl]; exact ne_tx (by simpa using hd2)
  · rw [hs, of_no]; exact ne_tx rfl
  · rw [hs]
    dsimp only
    rw [hs2]
    dsimp only
    refine decide_eq_false fun h9 => hcd ?_
    have h8 : [d] < [c] := h9
    rcases List.cons_lt_cons_iff.mp h8 with h7 | ⟨_, h7⟩
    · exact h7
    · exact absurd h7 (List.not_lt_nil _)
  · rw [hs]
    dsimp only
    rw [hs2]
    exact h
/-- one piece of the text, and what it is read as -/
noncomputable def OneStep (o : List Nat) (one : One) : Prop := ∀ (x : Str) (i : Int) (rest : List Nat), View x i (o ++ rest) → OneP x i one (i + (o.length : Int))
theorem one_dot' : OneStep [46] (true, []) := fun x i rest V => by
  have h : Mine.ch x i = tx [46] := V.ch
  exact .dot (by rw [h, of_dot]; simp)
theorem one_esc' {c : Nat} (hc : tx [c] ∈ escs) : OneStep [92, c] (false, [(tx [c], tx [c])]) := fun x i rest V => by
  have h : Mine.ch x i = tx [92] := V.ch
  have W : View x (i + 1) (c :: rest) := View.step (a := [92]) V rfl
  exact .esc (by rw [h, of_bs]; simp) (W.slice 1 (by lia)) hc
theorem one_set' {body : List Nat} {qs : List (Str × Str)} {n : Nat} (hb : body.head? ≠ some 94) (hne : body ≠ []) (h : ∀ (x : Str) (i : Int) (rest : List Nat), View x i (body ++ 93 :: rest) → RunP x n i [] qs (i + (body.length : Int))) (hn : n ≤ 1000) : OneStep (91 :: body ++ [93]) (false, qs) := fun x i rest V => by
  have V0 : View x i (91 :: (body ++ 93 :: rest)) := by simpa using V
  have W : View x (i + 1) (body ++ 93 :: rest) := View.step (a := [91]) V0 rfl
  have h1 : Mine.ch x i = tx [91] := V0.ch
  have h2 : Mine.ch x (i + 1) = tx ((body ++ 93 :: rest).take 1) := W.ch
  have hlen : ((91 :: body ++ [93]).length : Int) = (body.length : Int) + 2 := by simp; lia
  rw [hlen, show i + ((body.length : Int) + 2) = i + 1 + (body.length : Int) + 1 by lia]
  refine .set (n := n) (by rw [h1, of_op]; simp) ?_ (by simp only [Bool.false_eq_true, if_false]; exact h x (i + 1) rest W) hn
  rw [h2, of_ca]
  cases body with
  | nil => exact absurd rfl hne
  | cons c b => exact ne_tx (by simpa using hb)
theorem one_bar' {body : List Nat} {qs : List (Str × Str)} {n : Nat} (h : ∀ (x : Str) (i : Int) (rest : List Nat), View x i (body ++ 93 :: rest) → RunP x n i [] qs (i + (body.length : Int))) (hn : n ≤ 1000) : OneStep (91 :: 94 :: body ++ [93]) (true, qs) := fun x i rest V => by
  have V0 : View x i (91 :: 94 :: (body ++ 93 :: rest)) := by simpa using V
  have V1 : View x (i + 1) (94 :: (body ++ 93 :: rest)) := View.step (a := [91]) V0 rfl
  have W : View x (i + 1 + 1) (body ++ 93 :: rest) := View.step (a := [94]) V1 rfl
  have h1 : Mine.ch x i = tx [91] := V0.ch
  have h2 : Mine.ch x (i + 1) = tx [94] := V1.ch
  have hlen : ((91 :: 94 :: body ++ [93]).length : Int) = (body.length : Int) + 3 := by simp; lia
  rw [hlen, show i + ((body.length : Int) + 3) = i + 1 + 1 + (body.length : Int) + 1 by lia]
  exact .set (n := n) (by rw [h1, of_op]; simp) (by rw [h2, of_ca]; simp) (by rw [if_pos rfl]; exact h x (i + 1 + 1) rest W) hn
theorem sub_hit' {u w : Str} {b c : Nat} (hu : u = w) (h : HitIn w b c) : SubTo u (subOut w b c) := by subst hu; exact .hit h
theorem pc_barred {v : Str} {z : List Nat} (h1 : (decide (2 ≤ v.length) && decide (v.length ≤ 100) && decide ((Str.ofString "^" ++ Txt.slice v (some 1) none).length ≤ 200) && !(v == Str.ofString "!") && (Txt.item v 0 == Str.ofString "!") && decide (Str.empty ++ Str.ofString "[" ++ (Str.ofString "^" ++ Txt.slice v (some 1) none) ++ Str.ofString "]" = tx z)) = true) : ∃ z', PieceOf v z' ∧ z' = tx z := by
  simp only [Bool.and_eq_true, decide_eq_true_eq, Bool.not_eq_true'] at h1
  obtain ⟨⟨⟨⟨⟨a, b⟩, c⟩, d⟩, e⟩, f⟩ := h1
  exact ⟨_, .barred a b c d e, f⟩
theorem pc_told {v : Str} {z : List Nat} (h1 : (decide (1 ≤ v.length) && decide (v.length ≤ 100) && !(v == Str.ofString "!") && !(Txt.item v 0 == Str.ofString "!") && ([Str.ofString "^", Str.ofString "["].any fun x => x == Txt.item v 0) && decide (Str.empty ++ Str.ofString "[" ++ (Str.ofString "\\" ++ v) ++ Str.ofString "]" = tx z)) = true) : ∃ z', PieceOf v z' ∧ z' = tx z := by
  simp only [Bool.and_eq_true, decide_eq_true_eq, Bool.not_eq_true'] at h1
  obtain ⟨⟨⟨⟨⟨a, b⟩, c⟩, d⟩, e⟩, f⟩ := h1
  exact ⟨_, .told a b c d e, f⟩
theorem pc_bare {v : Str} {z : List Nat} (h1 : (decide (1 ≤ v.length) && decide (v.length ≤ 100) && !(v == Str.ofString "!") && !(Txt.item v 0 == Str.ofString "!") && !([Str.ofString "^", Str.ofString "["].any fun x => x == Txt.item v 0) && decide (Str.empty ++ Str.ofString "[" ++ v ++ Str.ofString "]" = tx z)) = true) : ∃ z', PieceOf v z' ∧ z' = tx z := by
  simp only [Bool.and_eq_true, decide_eq_true_eq, Bool.not_eq_true'] at h1
  obtain ⟨⟨⟨⟨⟨a, b⟩, c⟩, d⟩, e⟩, f⟩ := h1
  exact ⟨_, .bare a b c d e, f⟩
theorem set_step' {body z : List Nat} {u v : Str} (a b : Nat) (ha : a = if (body ++ [93]).getD 0 0 = 33 then 1 else 0) (hb : b = if (body ++ [93]).getD a 0 = 93 then 1 else 0) (hab : a + b ≤ body.length) (hno : (body.drop (a + b)).all (· != 93) = true)
    (hst : ∀ (x : Str) (i : Int) (rest : List Nat), View x i (body ++ 93 :: rest) → StuffTo x i (i + (body.length : Int)) (tx body) u) (hs : SubTo u v) (hp : ∃ z', PieceOf v z' ∧ z' = tx z) : TrStep (91 :: body ++ [93]) z :=
  let ⟨_, hp1, hp2⟩ := hp
  set_step a b ha hb hab hno hst hs hp1 hp2
theorem st_a1_0 : TrStep [91, 43, 45, 125, 93] [91, 43, 45, 125, 93] :=
  set_step' (body := [43, 45, 125]) 0 0 (by decide) (by decide) (by decide) (by decide) (stuff_two (a := 43) (r := [125]) (by decide +kernel) (by decide) (by decide) (by decide +kernel) (by decide +kernel) Dash.pl) (.miss (by decide +kernel)) (pc_bare (by decide +kernel))
theorem st_a2 : TrStep [91, 33, 97, 93] [91, 94, 97, 93] :=
  set_step' (body := [33, 97]) 1 0 (by decide) (by decide) (by decide) (by decide) (stuff_plain (by decide +kernel) (by decide) rfl) (.miss (by decide +kernel)) (pc_barred (by decide +kernel))
theorem st_m1_0 : TrStep [91, 124, 93] [91, 92, 124, 93] :=
  set_step' (body := [124]) 0 0 (by decide) (by decide) (by decide) (by decide) (stuff_plain (by decide +kernel) (by decide) rfl) (sub_hit' (by decide +kernel) HitIn.bar) (pc_bare (by decide +kernel))
theorem st_m2_0 : TrStep [91, 98, 45, 97, 124, 93] [91, 92, 124, 93] :=
  set_step' (body := [98, 45, 97, 124]) 0 0 (by decide) (by decide) (by decide) (by decide) (stuff_two (a := 98) (r := [97, 124]) (by decide +kernel) (by decide) (by decide) (by decide +kernel) (by decide +kernel) Dash.ba) (sub_hit' (by decide +kernel) HitIn.bar) (pc_bare (by decide +kernel))
theorem st_a1_1 : TrStep [91, 93, 91, 93] [91, 93, 91, 93] :=
  set_step' (body := [93, 91]) 0 1 (by decide) (by decide) (by decide) (by decide) (stuff_plain (by decide +kernel) (by decide) rfl) (.miss (by decide +kernel)) (pc_bare (by decide +kernel))
theorem st_m1_1 : TrStep [91, 93, 93] [91, 93, 93] :=
  set_step' (body := [93]) 0 1 (by decide) (by decide) (by decide) (by decide) (stuff_plain (by decide +kernel) (by decide) rfl) (.miss (by decide +kernel)) (pc_bare (by decide +kernel))
theorem st_m2_1 : TrStep [91, 33, 91, 93] [91, 94, 91, 93] :=
  set_step' (body := [33, 91]) 1 0 (by decide) (by decide) (by decide) (by decide) (stuff_plain (by decide +kernel) (by decide) rfl) (.miss (by decide +kernel)) (pc_barred (by decide +kernel))
theorem st_a1_2 : TrStep [91, 94, 33, 93] [91, 92, 94, 33, 93] :=
  set_step' (body := [94, 33]) 0 0 (by decide) (by decide) (by decide) (by decide) (stuff_plain (by decide +kernel) (by decide) rfl) (.miss (by decide +kernel)) (pc_told (by decide +kernel))
theorem st_m1_2 : TrStep [91, 94, 93] [91, 92, 94, 93] :=
  set_step' (body := [94]) 0 0 (by decide) (by decide) (by decide) (by decide) (stuff_plain (by decide +kernel) (by decide) rfl) (.miss (by decide +kernel)) (pc_told (by decide +kernel))
theorem st_m2_2 : TrStep [91, 33, 33, 93] [91, 94, 33, 93] :=
  set_step' (body := [33, 33]) 1 0 (by decide) (by decide) (by decide) (by decide) (stuff_plain (by decide +kernel) (by decide) rfl) (.miss (by decide +kernel)) (pc_barred (by decide +kernel))
theorem st_a1_3 : TrStep [91, 92, 45, 93] [91, 92, 92, 92, 45, 93] :=
  set_step' (body := [92, 45]) 0 0 (by decide) (by decide) (by decide) (by decide) (stuff_two (a := 92) (r := []) (by decide +kernel) (by decide) (by decide) (by decide +kernel) (by decide +kernel) Dash.bs) (.miss (by decide +kernel)) (pc_bare (by decide +kernel))
theorem st_m1_3 : TrStep [91, 45, 93] [91, 92, 45, 93] :=
  set_step' (body := [45]) 0 0 (by decide) (by decide) (by decide) (by decide) stuff_one (.miss (by decide +kernel)) (pc_bare (by decide +kernel))
theorem st_m2_3 : TrStep [91, 33, 92, 93] [91, 94, 92, 92, 93] :=
  set_step' (body := [33, 92]) 1 0 (by decide) (by decide) (by decide) (by decide) (stuff_plain (by decide +kernel) (by decide) rfl) (.miss (by decide +kernel)) (pc_barred (by decide +kernel))
theorem st_a1_4 : TrStep [91, 63, 42, 93] [91, 63, 42, 93] :=
  set_step' (body := [63, 42]) 0 0 (by decide) (by decide) (by decide) (by decide) (stuff_plain (by decide +kernel) (by decide) rfl) (.miss (by decide +kernel)) (pc_bare (by decide +kernel))
theorem st_m0_4 : TrStep [91, 42, 93] [91, 42, 93] :=
  set_step' (body := [42]) 0 0 (by decide) (by decide) (by decide) (by decide) (stuff_plain (by decide +kernel) (by decide) rfl) (.miss (by decide +kernel)) (pc_bare (by decide +kernel))
theorem st_m1_4 : TrStep [91, 33, 63, 93] [91, 94, 63, 93] :=
  set_step' (body := [33, 63]) 1 0 (by decide) (by decide) (by decide) (by decide) (stuff_plain (by decide +kernel) (by decide) rfl) (.miss (by decide +kernel)) (pc_barred (by decide +kernel))
theorem st_m2_4 : TrStep [91, 41, 45, 42, 93] [91, 41, 45, 42, 93] :=
  set_step' (body := [41, 45, 42]) 0 0 (by decide) (by decide) (by decide) (by decide) (stuff_two (a := 41) (r := [42]) (by decide +kernel) (by decide) (by decide) (by decide +kernel) (by decide +kernel) Dash.pa) (.miss (by decide +kernel)) (pc_bare (by decide +kernel))
theorem st_a1_5 : TrStep [91, 126, 10, 93] [91, 92, 126, 10, 93] :=
  set_step' (body := [126, 10]) 0 0 (by decide) (by decide) (by decide) (by decide) (stuff_plain (by decide +kernel) (by decide) rfl) (sub_hit' (by decide +kernel) HitIn.lf) (pc_bare (by decide +kernel))
theorem st_m1_5 : TrStep [91, 10, 93] [91, 10, 93] :=
  set_step' (body := [10]) 0 0 (by decide) (by decide) (by decide) (by decide) (stuff_plain (by decide +kernel) (by decide) rfl) (.miss (by decide +kernel)) (pc_bare (by decide +kernel))
theorem st_m2_5 : TrStep [91, 33, 126, 93] [91, 94, 92, 126, 93] :=
  set_step' (body := [33, 126]) 1 0 (by decide) (by decide) (by decide) (by decide) (stuff_plain (by decide +kernel) (by decide) rfl) (sub_hit' (by decide +kernel) HitIn.til) (pc_barred (by decide +kernel))
theorem st_a0 : TrStep [63] [46] := any_step
theorem st_m0_0 : TrStep [124] [92, 124] := lone_step (by decide) (by decide +kernel)
theorem st_m0_1 : TrStep [93] [92, 93] := lone_step (by decide) (by decide +kernel)
theorem st_m0_2 : TrStep [94] [92, 94] := lone_step (by decide) (by decide +kernel)
theorem st_m0_3 : TrStep [45] [92, 45] := lone_step (by decide) (by decide +kernel)
theorem st_m0_5 : TrStep [10] [92, 10] := lone_step (by decide) (by decide +kernel)
theorem on_a1_0 : OneStep [91, 43, 45, 125, 93] (false, [(tx [43], tx [125])]) :=
  one_set' (body := [43, 45, 125]) (n := 1) (by decide) (by decide) (fun x i rest V => by
      have V0 : View x i ([43, 45, 125] ++ 93 :: rest) := V
      have V0_0 : View x (i + 1) ([45, 125] ++ 93 :: rest) := View.step (a := [43]) V0 rfl
      have V0_1 : View x (i + 1 + 1) ([125] ++ 93 :: rest) := View.step (a := [45]) V0_0 rfl
      have V1 : View x (i + 1 + 1 + 1) ([] ++ 93 :: rest) := View.step (a := [125]) V0_1 rfl
      rw [show i + (([43, 45, 125] : List Nat).length : Int) = i + 1 + 1 + 1 by simp; try lia]
      refine run_pair V0 (by decide) (.inl rfl) (by decide) (by decide) (by decide) ?_; 
      exact run_stop V1 (by simp)) (by decide)
theorem on_a2 : OneStep [91, 94, 97, 93] (true, [(tx [97], tx [97])]) :=
  one_bar' (body := [97]) (n := 1) (fun x i rest V => by
      have V0 : View x i ([97] ++ 93 :: rest) := V
      have V1 : View x (i + 1) ([] ++ 93 :: rest) := View.step (a := [97]) V0 rfl
      rw [show i + (([97] : List Nat).length : Int) = i + 1 by simp; try lia]
      refine run_single V0 (by decide) (.inl rfl) (by decide) ?_; 
      exact run_stop V1 (by simp)) (by decide)
theorem on_m1_0 : OneStep [91, 92, 124, 93] (false, [(tx [124], tx [124])]) :=
  one_set' (body := [92, 124]) (n := 1) (by decide) (by decide) (fun x i rest V => by
      have V0 : View x i ([92, 124] ++ 93 :: rest) := V
      have V0_0 : View x (i + 1) ([124] ++ 93 :: rest) := View.step (a := [92]) V0 rfl
      have V1 : View x (i + 1 + 1) ([] ++ 93 :: rest) := View.step (a := [124]) V0_0 rfl
      rw [show i + (([92, 124] : List Nat).length : Int) = i + 1 + 1 by simp; try lia]
      refine run_esc V0 (by decide) ?_; 
      exact run_stop V1 (by simp)) (by decide)
theorem on_a1_1 : OneStep [91, 93, 91, 93] (false, [(tx [93], tx [93]), (tx [91], tx [91])]) :=
  one_set' (body := [93, 91]) (n := 2) (by decide) (by decide) (fun x i rest V => by
      have V0 : View x i ([93, 91] ++ 93 :: rest) := V
      have V1 : View x (i + 1) ([91] ++ 93 :: rest) := View.step (a := [93]) V0 rfl
      have V2 : View x (i + 1 + 1) ([] ++ 93 :: rest) := View.step (a := [91]) V1 rfl
      rw [show i + (([93, 91] : List Nat).length : Int) = i + 1 + 1 by simp; try lia]
      refine run_single V0 (by decide) (.inl rfl) (by decide) ?_; refine run_single V1 (by decide) (.inr (by decide)) (by decide) ?_; 
      exact run_stop V2 (by simp)) (by decide)
theorem on_m1_1 : OneStep [91, 93, 93] (false, [(tx [93], tx [93])]) :=
  one_set' (body := [93]) (n := 1) (by decide) (by decide) (fun x i rest V => by
      have V0 : View x i ([93] ++ 93 :: rest) := V
      have V1 : View x (i + 1) ([] ++ 93 :: rest) := View.step (a := [93]) V0 rfl
      rw [show i + (([93] : List Nat).length : Int) = i + 1 by simp; try lia]
      refine run_single V0 (by decide) (.inl rfl) (by decide) ?_; 
      exact run_stop V1 (by simp)) (by decide)
theorem on_m2_1 : OneStep [91, 94, 91, 93] (true, [(tx [91], tx [91])]) :=
  one_bar' (body := [91]) (n := 1) (fun x i rest V => by
      have V0 : View x i ([91] ++ 93 :: rest) := V
      have V1 : View x (i + 1) ([] ++ 93 :: rest) := View.step (a := [91]) V0 rfl
      rw [show i + (([91] : List Nat).length : Int) = i + 1 by simp; try lia]
      refine run_single V0 (by decide) (.inl rfl) (by decide) ?_; 
      exact run_stop V1 (by simp)) (by decide)
theorem on_a1_2 : OneStep [91, 92, 94, 33, 93] (false, [(tx [94], tx [94]), (tx [33], tx [33])]) :=
  one_set' (body := [92, 94, 33]) (n := 2) (by decide) (by decide) (fun x i rest V => by
      have V0 : View x i ([92, 94, 33] ++ 93 :: rest) := V
      have V0_0 : View x (i + 1) ([94, 33] ++ 93 :: rest) := View.step (a := [92]) V0 rfl
      have V1 : View x (i + 1 + 1) ([33] ++ 93 :: rest) := View.step (a := [94]) V0_0 rfl
      have V2 : View x (i + 1 + 1 + 1) ([] ++ 93 :: rest) := View.step (a := [33]) V1 rfl
      rw [show i + (([92, 94, 33] : List Nat).length : Int) = i + 1 + 1 + 1 by simp; try lia]
      refine run_esc V0 (by decide) ?_; refine run_single V1 (by decide) (.inr (by decide)) (by decide) ?_; 
      exact run_stop V2 (by simp)) (by decide)
theorem on_m1_2 : OneStep [91, 92, 94, 93] (false, [(tx [94], tx [94])]) :=
  one_set' (body := [92, 94]) (n := 1) (by decide) (by decide) (fun x i rest V => by
      have V0 : View x i ([92, 94] ++ 93 :: rest) := V
      have V0_0 : View x (i + 1) ([94] ++ 93 :: rest) := View.step (a := [92]) V0 rfl
      have V1 : View x (i + 1 + 1) ([] ++ 93 :: rest) := View.step (a := [94]) V0_0 rfl
      rw [show i + (([92, 94] : List Nat).length : Int) = i + 1 + 1 by simp; try lia]
      refine run_esc V0 (by decide) ?_; 
      exact run_stop V1 (by simp)) (by decide)
theorem on_m2_2 : OneStep [91, 94, 33, 93] (true, [(tx [33], tx [33])]) :=
  one_bar' (body := [33]) (n := 1) (fun x i rest V => by
      have V0 : View x i ([33] ++ 93 :: rest) := V
      have V1 : View x (i + 1) ([] ++ 93 :: rest) := View.step (a := [33]) V0 rfl
      rw [show i + (([33] : List Nat).length : Int) = i + 1 by simp; try lia]
      refine run_single V0 (by decide) (.inl rfl) (by decide) ?_; 
      exact run_stop V1 (by simp)) (by decide)
theorem on_a1_3 : OneStep [91, 92, 92, 92, 45, 93] (false, [(tx [92], tx [92]), (tx [45], tx [45])]) :=
  one_set' (body := [92, 92, 92, 45]) (n := 2) (by decide) (by decide) (fun x i rest V => by
      have V0 : View x i ([92, 92, 92, 45] ++ 93 :: rest) := V
      have V0_0 : View x (i + 1) ([92, 92, 45] ++ 93 :: rest) := View.step (a := [92]) V0 rfl
      have V1 : View x (i + 1 + 1) ([92, 45] ++ 93 :: rest) := View.step (a := [92]) V0_0 rfl
      have V1_0 : View x (i + 1 + 1 + 1) ([45] ++ 93 :: rest) := View.step (a := [92]) V1 rfl
      have V2 : View x (i + 1 + 1 + 1 + 1) ([] ++ 93 :: rest) := View.step (a := [45]) V1_0 rfl
      rw [show i + (([92, 92, 92, 45] : List Nat).length : Int) = i + 1 + 1 + 1 + 1 by simp; try lia]
      refine run_esc V0 (by decide) ?_; refine run_esc V1 (by decide) ?_; 
      exact run_stop V2 (by simp)) (by decide)
theorem on_m1_3 : OneStep [91, 92, 45, 93] (false, [(tx [45], tx [45])]) :=
  one_set' (body := [92, 45]) (n := 1) (by decide) (by decide) (fun x i rest V => by
      have V0 : View x i ([92, 45] ++ 93 :: rest) := V
      have V0_0 : View x (i + 1) ([45] ++ 93 :: rest) := View.step (a := [92]) V0 rfl
      have V1 : View x (i + 1 + 1) ([] ++ 93 :: rest) := View.step (a := [45]) V0_0 rfl
      rw [show i + (([92, 45] : List Nat).length : Int) = i + 1 + 1 by simp; try lia]
      refine run_esc V0 (by decide) ?_; 
      exact run_stop V1 (by simp)) (by decide)
theorem on_m2_3 : OneStep [91, 94, 92, 92, 93] (true, [(tx [92], tx [92])]) :=
  one_bar' (body := [92, 92]) (n := 1) (fun x i rest V => by
      have V0 : View x i ([92, 92] ++ 93 :: rest) := V
      have V0_0 : View x (i + 1) ([92] ++ 93 :: rest) := View.step (a := [92]) V0 rfl
      have V1 : View x (i + 1 + 1) ([] ++ 93 :: rest) := View.step (a := [92]) V0_0 rfl
      rw [show i + (([92, 92] : List Nat).length : Int) = i + 1 + 1 by simp; try lia]
      refine run_esc V0 (by decide) ?_; 
      exact run_stop V1 (by simp)) (by decide)
theorem on_a1_4 : OneStep [91, 63, 42, 93] (false, [(tx [63], tx [63]), (tx [42], tx [42])]) :=
  one_set' (body := [63, 42]) (n := 2) (by decide) (by decide) (fun x i rest V => by
      have V0 : View x i ([63, 42] ++ 93 :: rest) := V
      have V1 : View x (i + 1) ([42] ++ 93 :: rest) := View.step (a := [63]) V0 rfl
      have V2 : View x (i + 1 + 1) ([] ++ 93 :: rest) := View.step (a := [42]) V1 rfl
      rw [show i + (([63, 42] : List Nat).length : Int) = i + 1 + 1 by simp; try lia]
      refine run_single V0 (by decide) (.inl rfl) (by decide) ?_; refine run_single V1 (by decide) (.inr (by decide)) (by decide) ?_; 
      exact run_stop V2 (by simp)) (by decide)
theorem on_m0_4 : OneStep [91, 42, 93] (false, [(tx [42], tx [42])]) :=
  one_set' (body := [42]) (n := 1) (by decide) (by decide) (fun x i rest V => by
      have V0 : View x i ([42] ++ 93 :: rest) := V
      have V1 : View x (i + 1) ([] ++ 93 :: rest) := View.step (a := [42]) V0 rfl
      rw [show i + (([42] : List Nat).length : Int) = i + 1 by simp; try lia]
      refine run_single V0 (by decide) (.inl rfl) (by decide) ?_; 
      exact run_stop V1 (by simp)) (by decide)
theorem on_m1_4 : OneStep [91, 94, 63, 93] (true, [(tx [63], tx [63])]) :=
  one_bar' (body := [63]) (n := 1) (fun x i rest V => by
      have V0 : View x i ([63] ++ 93 :: rest) := V
      have V1 : View x (i + 1) ([] ++ 93 :: rest) := View.step (a := [63]) V0 rfl
      rw [show i + (([63] : List Nat).length : Int) = i + 1 by simp; try lia]
      refine run_single V0 (by decide) (.inl rfl) (by decide) ?_; 
      exact run_stop V1 (by simp)) (by decide)
theorem on_m2_4 : OneStep [91, 41, 45, 42, 93] (false, [(tx [41], tx [42])]) :=
  one_set' (body := [41, 45, 42]) (n := 1) (by decide) (by decide) (fun x i rest V => by
      have V0 : View x i ([41, 45, 42] ++ 93 :: rest) := V
      have V0_0 : View x (i + 1) ([45, 42] ++ 93 :: rest) := View.step (a := [41]) V0 rfl
      have V0_1 : View x (i + 1 + 1) ([42] ++ 93 :: rest) := View.step (a := [45]) V0_0 rfl
      have V1 : View x (i + 1 + 1 + 1) ([] ++ 93 :: rest) := View.step (a := [42]) V0_1 rfl
      rw [show i + (([41, 45, 42] : List Nat).length : Int) = i + 1 + 1 + 1 by simp; try lia]
      refine run_pair V0 (by decide) (.inl rfl) (by decide) (by decide) (by decide) ?_; 
      exact run_stop V1 (by simp)) (by decide)
theorem on_a1_5 : OneStep [91, 92, 126, 10, 93] (false, [(tx [126], tx [126]), (tx [10], tx [10])]) :=
  one_set' (body := [92, 126, 10]) (n := 2) (by decide) (by decide) (fun x i rest V => by
      have V0 : View x i ([92, 126, 10] ++ 93 :: rest) := V
      have V0_0 : View x (i + 1) ([126, 10] ++ 93 :: rest) := View.step (a := [92]) V0 rfl
      have V1 : View x (i + 1 + 1) ([10] ++ 93 :: rest) := View.step (a := [126]) V0_0 rfl
      have V2 : View x (i + 1 + 1 + 1) ([] ++ 93 :: rest) := View.step (a := [10]) V1 rfl
      rw [show i + (([92, 126, 10] : List Nat).length : Int) = i + 1 + 1 + 1 by simp; try lia]
      refine run_esc V0 (by decide) ?_; refine run_single V1 (by decide) (.inr (by decide)) (by decide) ?_; 
      exact run_stop V2 (by simp)) (by decide)
theorem on_m1_5 : OneStep [91, 10, 93] (false, [(tx [10], tx [10])]) :=
  one_set' (body := [10]) (n := 1) (by decide) (by decide) (fun x i rest V => by
      have V0 : View x i ([10] ++ 93 :: rest) := V
      have V1 : View x (i + 1) ([] ++ 93 :: rest) := View.step (a := [10]) V0 rfl
      rw [show i + (([10] : List Nat).length : Int) = i + 1 by simp; try lia]
      refine run_single V0 (by decide) (.inl rfl) (by decide) ?_; 
      exact run_stop V1 (by simp)) (by decide)
theorem on_m2_5 : OneStep [91, 94, 92, 126, 93] (true, [(tx [126], tx [126])]) :=
  one_bar' (body := [92, 126]) (n := 1) (fun x i rest V => by
      have V0 : View x i ([92, 126] ++ 93 :: rest) := V
      have V0_0 : View x (i + 1) ([126] ++ 93 :: rest) := View.step (a := [92]) V0 rfl
      have V1 : View x (i + 1 + 1) ([] ++ 93 :: rest) := View.step (a := [126]) V0_0 rfl
      rw [show i + (([92, 126] : List Nat).length : Int) = i + 1 + 1 by simp; try lia]
      refine run_esc V0 (by decide) ?_; 
      exact run_stop V1 (by simp)) (by decide)
theorem on_a0 : OneStep [46] (true, []) := one_dot'
theorem on_m0_0 : OneStep [92, 124] (false, [(tx [124], tx [124])]) := one_esc' (by decide +kernel)
theorem on_m0_1 : OneStep [92, 93] (false, [(tx [93], tx [93])]) := one_esc' (by decide +kernel)
theorem on_m0_2 : OneStep [92, 94] (false, [(tx [94], tx [94])]) := one_esc' (by decide +kernel)
theorem on_m0_3 : OneStep [92, 45] (false, [(tx [45], tx [45])]) := one_esc' (by decide +kernel)
theorem on_m0_5 : OneStep [92, 10] (false, [(tx [10], tx [10])]) := one_esc' (by decide +kernel)
structure Tk where
  t : List Nat
  o : List Nat
  one : One
noncomputable def anyK : Nat → Nat → Tk
  | 0, 0 => ⟨[63], [46], (true, [])⟩
  | 0, 1 => ⟨[91, 43, 45, 125, 93], [91, 43, 45, 125, 93], (false, [(tx [43], tx [125])])⟩
  | 0, _ => ⟨[91, 33, 97, 93], [91, 94, 97, 93], (true, [(tx [97], tx [97])])⟩
  | 1, 0 => ⟨[63], [46], (true, [])⟩
  | 1, 1 => ⟨[91, 93, 91, 93], [91, 93, 91, 93], (false, [(tx [93], tx [93]), (tx [91], tx [91])])⟩
  | 1, _ => ⟨[91, 33, 97, 93], [91, 94, 97, 93], (true, [(tx [97], tx [97])])⟩
  | 2, 0 => ⟨[63], [46], (true, [])⟩
  | 2, 1 => ⟨[91, 94, 33, 93], [91, 92, 94, 33, 93], (false, [(tx [94], tx [94]), (tx [33], tx [33])])⟩
  | 2, _ => ⟨[91, 33, 97, 93], [91, 94, 97, 93], (true, [(tx [97], tx [97])])⟩
  | 3, 0 => ⟨[63], [46], (true, [])⟩
  | 3, 1 => ⟨[91, 92, 45, 93], [91, 92, 92, 92, 45, 93], (false, [(tx [92], tx [92]), (tx [45], tx [45])])⟩
  | 3, _ => ⟨[91, 33, 97, 93], [91, 94, 97, 93], (true, [(tx [97], tx [97])])⟩
  | 4, 0 => ⟨[63], [46], (true, [])⟩
  | 4, 1 => ⟨[91, 63, 42, 93], [91, 63, 42, 93], (false, [(tx [63], tx [63]), (tx [42], tx [42])])⟩
  | 4, _ => ⟨[91, 33, 97, 93], [91, 94, 97, 93], (true, [(tx [97], tx [97])])⟩
  | _, 0 => ⟨[63], [46], (true, [])⟩
  | _, 1 => ⟨[91, 126, 10, 93], [91, 92, 126, 10, 93], (false, [(tx [126], tx [126]), (tx [10], tx [10])])⟩
  | _, _ => ⟨[91, 33, 97, 93], [91, 94, 97, 93], (true, [(tx [97], tx [97])])⟩
noncomputable def mkK : Nat → Nat → Tk
  | 0, 0 => ⟨[124], [92, 124], (false, [(tx [124], tx [124])])⟩
  | 0, 1 => ⟨[91, 124, 93], [91, 92, 124, 93], (false, [(tx [124], tx [124])])⟩
  | 0, _ => ⟨[91, 98, 45, 97, 124, 93], [91, 92, 124, 93], (false, [(tx [124], tx [124])])⟩
  | 1, 0 => ⟨[93], [92, 93], (false, [(tx [93], tx [93])])⟩
  | 1, 1 => ⟨[91, 93, 93], [91, 93, 93], (false, [(tx [93], tx [93])])⟩
  | 1, _ => ⟨[91, 33, 91, 93], [91, 94, 91, 93], (true, [(tx [91], tx [91])])⟩
  | 2, 0 => ⟨[94], [92, 94], (false, [(tx [94], tx [94])])⟩
  | 2, 1 => ⟨[91, 94, 93], [91, 92, 94, 93], (false, [(tx [94], tx [94])])⟩
  | 2, _ => ⟨[91, 33, 33, 93], [91, 94, 33, 93], (true, [(tx [33], tx [33])])⟩
  | 3, 0 => ⟨[45], [92, 45], (false, [(tx [45], tx [45])])⟩
  | 3, 1 => ⟨[91, 45, 93], [91, 92, 45, 93], (false, [(tx [45], tx [45])])⟩
  | 3, _ => ⟨[91, 33, 92, 93], [91, 94, 92, 92, 93], (true, [(tx [92], tx [92])])⟩
  | 4, 0 => ⟨[91, 42, 93], [91, 42, 93], (false, [(tx [42], tx [42])])⟩
  | 4, 1 => ⟨[91, 33, 63, 93], [91, 94, 63, 93], (true, [(tx [63], tx [63])])⟩
  | 4, _ => ⟨[91, 41, 45, 42, 93], [91, 41, 45, 42, 93], (false, [(tx [41], tx [42])])⟩
  | _, 0 => ⟨[10], [92, 10], (false, [(tx [10], tx [10])])⟩
  | _, 1 => ⟨[91, 10, 93], [91, 10, 93], (false, [(tx [10], tx [10])])⟩
  | _, _ => ⟨[91, 33, 126, 93], [91, 94, 92, 126, 93], (true, [(tx [126], tx [126])])⟩
/-- what every token keeps -/
structure TkOk (a : Tk) : Prop where
  st : TrStep a.t a.o
  on : OneStep a.o a.one
  hd : ∃ c r, a.o = c :: r ∧ c ≠ 40 ∧ c ≠ 41 ∧ c ≠ 42 ∧ (c = 46 → r = [])
  lt : 1 ≤ a.t.length ∧ a.t.length ≤ 6
  lo : a.o.length ≤ 6
theorem ok_a0 : TkOk ⟨[63], [46], (true, [])⟩ := ⟨st_a0, on_a0, ⟨_, _, rfl, by decide, by decide, by decide, by decide⟩, by decide, by decide⟩
theorem ok_a1_0 : TkOk ⟨[91, 43, 45, 125, 93], [91, 43, 45, 125, 93], (false, [(tx [43], tx [125])])⟩ := ⟨st_a1_0, on_a1_0, ⟨_, _, rfl, by decide, by decide, by decide, by decide⟩, by decide, by decide⟩
theorem ok_a2 : TkOk ⟨[91, 33, 97, 93], [91, 94, 97, 93], (true, [(tx [97], tx [97])])⟩ := ⟨st_a2, on_a2, ⟨_, _, rfl, by decide, by decide, by decide, by decide⟩, by decide, by decide⟩
theorem ok_a1_1 : TkOk ⟨[91, 93, 91, 93], [91, 93, 91, 93], (false, [(tx [93], tx [93]), (tx [91], tx [91])])⟩ := ⟨st_a1_1, on_a1_1, ⟨_, _, rfl, by decide, by decide, by decide, by decide⟩, by decide, by decide⟩
theorem ok_a1_2 : TkOk ⟨[91, 94, 33, 93], [91, 92, 94, 33, 93], (false, [(tx [94], tx [94]), (tx [33], tx [33])])⟩ := ⟨st_a1_2, on_a1_2, ⟨_, _, rfl, by decide, by decide, by decide, by decide⟩, by decide, by decide⟩
theorem ok_a1_3 : TkOk ⟨[91, 92, 45, 93], [91, 92, 92, 92, 45, 93], (false, [(tx [92], tx [92]), (tx [45], tx [45])])⟩ := ⟨st_a1_3, on_a1_3, ⟨_, _, rfl, by decide, by decide, by decide, by decide⟩, by decide, by decide⟩
theorem ok_a1_4 : TkOk ⟨[91, 63, 42, 93], [91, 63, 42, 93], (false, [(tx [63], tx [63]), (tx [42], tx [42])])⟩ := ⟨st_a1_4, on_a1_4, ⟨_, _, rfl, by decide, by decide, by decide, by decide⟩, by decide, by decide⟩
theorem ok_a1_5 : TkOk ⟨[91, 126, 10, 93], [91, 92, 126, 10, 93], (false, [(tx [126], tx [126]), (tx [10], tx [10])])⟩ := ⟨st_a1_5, on_a1_5, ⟨_, _, rfl, by decide, by decide, by decide, by decide⟩, by decide, by decide⟩
theorem anyK_ok : ∀ (k i : Nat), TkOk (anyK k i)
  | 0, 0 => ok_a0
  | 0, 1 => ok_a1_0
  | 0, (_ + 2) => ok_a2
  | 1, 0 => ok_a0
  | 1, 1 => ok_a1_1
  | 1, (_ + 2) => ok_a2
  | 2, 0 => ok_a0
  | 2, 1 => ok_a1_2
  | 2, (_ + 2) => ok_a2
  | 3, 0 => ok_a0
  | 3, 1 => ok_a1_3
  | 3, (_ + 2) => ok_a2
  | 4, 0 => ok_a0
  | 4, 1 => ok_a1_4
  | 4, (_ + 2) => ok_a2
  | (_ + 5), 0 => ok_a0
  | (_ + 5), 1 => ok_a1_5
  | (_ + 5), (_ + 2) => ok_a2
theorem ok_m0_0 : TkOk ⟨[124], [92, 124], (false, [(tx [124], tx [124])])⟩ := ⟨st_m0_0, on_m0_0, ⟨_, _, rfl, by decide, by decide, by decide, by decide⟩, by decide, by decide⟩
theorem ok_m1_0 : TkOk ⟨[91, 124, 93], [91, 92, 124, 93], (false, [(tx [124], tx [124])])⟩ := ⟨st_m1_0, on_m1_0, ⟨_, _, rfl, by decide, by decide, by decide, by decide⟩, by decide, by decide⟩
theorem ok_m2_0 : TkOk ⟨[91, 98, 45, 97, 124, 93], [91, 92, 124, 93], (false, [(tx [124], tx [124])])⟩ := ⟨st_m2_0, on_m1_0, ⟨_, _, rfl, by decide, by decide, by decide, by decide⟩, by decide, by decide⟩
theorem ok_m0_1 : TkOk ⟨[93], [92, 93], (false, [(tx [93], tx [93])])⟩ := ⟨st_m0_1, on_m0_1, ⟨_, _, rfl, by decide, by decide, by decide, by decide⟩, by decide, by decide⟩
theorem ok_m1_1 : TkOk ⟨[91, 93, 93], [91, 93, 93], (false, [(tx [93], tx [93])])⟩ := ⟨st_m1_1, on_m1_1, ⟨_, _, rfl, by decide, by decide, by decide, by decide⟩, by decide, by decide⟩
theorem ok_m2_1 : TkOk ⟨[91, 33, 91, 93], [91, 94, 91, 93], (true, [(tx [91], tx [91])])⟩ := ⟨st_m2_1, on_m2_1, ⟨_, _, rfl, by decide, by decide, by decide, by decide⟩, by decide, by decide⟩
theorem ok_m0_2 : TkOk ⟨[94], [92, 94], (false, [(tx [94], tx [94])])⟩ := ⟨st_m0_2, on_m0_2, ⟨_, _, rfl, by decide, by decide, by decide, by decide⟩, by decide, by decide⟩
theorem ok_m1_2 : TkOk ⟨[91, 94, 93], [91, 92, 94, 93], (false, [(tx [94], tx [94])])⟩ := ⟨st_m1_2, on_m1_2, ⟨_, _, rfl, by decide, by decide, by decide, by decide⟩, by decide, by decide⟩
theorem ok_m2_2 : TkOk ⟨[91, 33, 33, 93], [91, 94, 33, 93], (true, [(tx [33], tx [33])])⟩ := ⟨st_m2_2, on_m2_2, ⟨_, _, rfl, by decide, by decide, by decide, by decide⟩, by decide, by decide⟩
theorem ok_m0_3 : TkOk ⟨[45], [92, 45], (false, [(tx [45], tx [45])])⟩ := ⟨st_m0_3, on_m0_3, ⟨_, _, rfl, by decide, by decide, by decide, by decide⟩, by decide, by decide⟩
theorem ok_m1_3 : TkOk ⟨[91, 45, 93], [91, 92, 45, 93], (false, [(tx [45], tx [45])])⟩ := ⟨st_m1_3, on_m1_3, ⟨_, _, rfl, by decide, by decide, by decide, by decide⟩, by decide, by decide⟩
theorem ok_m2_3 : TkOk ⟨[91, 33, 92, 93], [91, 94, 92, 92, 93], (true, [(tx [92], tx [92])])⟩ := ⟨st_m2_3, on_m2_3, ⟨_, _, rfl, by decide, by decide, by decide, by decide⟩, by decide, by decide⟩
theorem ok_m0_4 : TkOk ⟨[91, 42, 93], [91, 42, 93], (false, [(tx [42], tx [42])])⟩ := ⟨st_m0_4, on_m0_4, ⟨_, _, rfl, by decide, by decide, by decide, by decide⟩, by decide, by decide⟩
theorem ok_m1_4 : TkOk ⟨[91, 33, 63, 93], [91, 94, 63, 93], (true, [(tx [63], tx [63])])⟩ := ⟨st_m1_4, on_m1_4, ⟨_, _, rfl, by decide, by decide, by decide, by decide⟩, by decide, by decide⟩
theorem ok_m2_4 : TkOk ⟨[91, 41, 45, 42, 93], [91, 41, 45, 42, 93], (false, [(tx [41], tx [42])])⟩ := ⟨st_m2_4, on_m2_4, ⟨_, _, rfl, by decide, by decide, by decide, by decide⟩, by decide, by decide⟩
theorem ok_m0_5 : TkOk ⟨[10], [92, 10], (false, [(tx [10], tx [10])])⟩ := ⟨st_m0_5, on_m0_5, ⟨_, _, rfl, by decide, by decide, by decide, by decide⟩, by decide, by decide⟩
theorem ok_m1_5 : TkOk ⟨[91, 10, 93], [91, 10, 93], (false, [(tx [10], tx [10])])⟩ := ⟨st_m1_5, on_m1_5, ⟨_, _, rfl, by decide, by decide, by decide, by decide⟩, by decide, by decide⟩
theorem ok_m2_5 : TkOk ⟨[91, 33, 126, 93], [91, 94, 92, 126, 93], (true, [(tx [126], tx [126])])⟩ := ⟨st_m2_5, on_m2_5, ⟨_, _, rfl, by decide, by decide, by decide, by decide⟩, by decide, by decide⟩
theorem mkK_ok : ∀ (k i : Nat), TkOk (mkK k i)
  | 0, 0 => ok_m0_0
  | 0, 1 => ok_m1_0
  | 0, (_ + 2) => ok_m2_0
  | 1, 0 => ok_m0_1
  | 1, 1 => ok_m1_1
  | 1, (_ + 2) => ok_m2_1
  | 2, 0 => ok_m0_2
  | 2, 1 => ok_m1_2
  | 2, (_ + 2) => ok_m2_2
  | 3, 0 => ok_m0_3
  | 3, 1 => ok_m1_3
  | 3, (_ + 2) => ok_m2_3
  | 4, 0 => ok_m0_4
  | 4, 1 => ok_m1_4
  | 4, (_ + 2) => ok_m2_4
  | (_ + 5), 0 => ok_m0_5
  | (_ + 5), 1 => ok_m1_5
  | (_ + 5), (_ + 2) => ok_m2_5
end Mine
theorem Mine.off_P4 : True := by w_top off; trivial
theorem Mine.rs_P4 {M : Model} {A : Around} {E : Value → Shared → Prop} {s : Shared} {Q : Flow → Shared → Prop} {p : Pos} {env : Env} (h : wpAny M A (exec (Stmt.Pass p) env) Q E s) : wpAny M A (exec (Stmt.Pass p) env) Q E s := by first | (walk1; fail) | exact h
namespace Mine
inductive It
  | any (i : Nat)
  | tab (two : Bool) (i : Nat)
noncomputable def patL (k : Nat) : List It → List Nat
  | [] => []
  | .any i :: r => (anyK k i).t ++ patL k r
  | .tab two i :: r => (if two = true then [42, 42] else [42]) ++ ((mkK k i).t ++ patL k r)
noncomputable def leadL : List It → List Nat
  | [] => []
  | .any _ :: r => 32 :: leadL r
  | .tab _ _ :: r => 9 :: leadL r
noncomputable def outs (k : Nat) : List It → List (Option Str)
  | [] => []
  | .any i :: r => some (tx (anyK k i).o) :: outs k r
  | .tab _ i :: r => none :: some (tx (mkK k i).o) :: outs k r
noncomputable def stepsN : List It → Nat
  | [] => 0
  | .any _ :: r => stepsN r + 1
  | .tab two _ :: r => stepsN r + 1 + (if two = true then 2 else 1)
theorem ne_none_snoc (rs : List (Option Str)) (s : Str) : ∀ rs', rs ++ [some s] ≠ rs' ++ [none] := fun rs' h => by
  have := (List.append_inj' h rfl).2
  cases this
theorem tr_all {k : Nat} {x : Str} : ∀ (its : List It) (i : Int) (rs : List (Option Str)), View x i (patL k its) → (∀ rs', rs ≠ rs' ++ [none]) → TrP x (stepsN its) i rs (rs ++ outs k its)
  | [], i, rs, V, _ => by
    rw [outs, List.append_nil]
    exact .stop V.at_end
  | .any a :: r, i, rs, V, h => by
    have ih := tr_all (k := k) (x := x) r (i + ((anyK k a).t.length : Int)) (rs ++ [some (tx (anyK k a).o)]) (View.step V rfl) (ne_none_snoc _ _)
    rw [List.append_assoc] at ih
    exact (anyK_ok k a).st x i _ rs _ _ V ih
  | .tab two a :: r, i, rs, V, h => by
    have hs : Str.ofString "*" = tx [42] := by decide +kernel
    cases two with
    | false =>
      have V0 : View x i (42 :: ((mkK k a).t ++ patL k r)) := V
      have V1 : View x (i + 1) ((mkK k a).t ++ patL k r) := View.step (a := [42]) V0 rfl
      have ih := tr_all (k := k) (x := x) r (i + 1 + ((mkK k a).t.length : Int)) (rs ++ [none] ++ [some (tx (mkK k a).o)]) (View.step V1 rfl) (ne_none_snoc _ _)
      rw [List.append_assoc, List.append_assoc] at ih
      refine .star V0.lt (V0.item.trans hs.symm) h ?_
      refine (mkK_ok k a).st x (i + 1) _ (rs ++ [none]) _ _ V1 ?_
      rw [List.append_assoc]
      exact ih
    | true =>
      have V0 : View x i (42 :: 42 :: ((mkK k a).t ++ patL k r)) := V
      have V1 : View x (i + 1) (42 :: ((mkK k a).t ++ patL k r)) := View.step (a := [42]) V0 rfl
      have V2 : View x (i + 1 + 1) ((mkK k a).t ++ patL k r) := View.step (a := [42]) V1 rfl
      have ih := tr_all (k := k) (x := x) r (i + 1 + 1 + ((mkK k a).t.length : Int)) (rs ++ [none] ++ [some (tx (mkK k a).o)]) (View.step V2 rfl) (ne_none_snoc _ _)
      rw [List.append_assoc, List.append_assoc] at ih
      refine .star V0.lt (V0.item.trans hs.symm) h ?_
      refine .star2 V1.lt (V1.item.trans hs.symm) ?_
      refine (mkK_ok k a).st x (i + 1 + 1) _ (rs ++ [none]) _ _ V2 ?_
      rw [List.append_assoc]
      exact ih
/-- the anys ahead of the first star, and for each star its mark and the anys behind it -/
noncomputable def splitI : List It → List Nat × List (Nat × List Nat)
  | [] => ([], [])
  | .any i :: r => (i :: (splitI r).1, (splitI r).2)
  | .tab _ m :: r => ([], (m, (splitI r).1) :: (splitI r).2)
noncomputable def preT (k : Nat) (its : List It) : List Tk := (splitI its).1.map (anyK k)
noncomputable def grpT (k : Nat) (g : Nat × List Nat) : List Tk := mkK k g.1 :: g.2.map (anyK k)
noncomputable def gsT (k : Nat) (its : List It) : List (List Tk) := (splitI its).2.map (grpT k)
noncomputable def stT (g : List Tk) : List Str := g.map fun a => tx a.o
theorem outs_split (k : Nat) : ∀ its : List It, outs k its = (stT (preT k its)).map some ++ flatG ((gsT k its).map stT)
  | [] => rfl
  | .any i :: r => by
    have ih := outs_split k r
    show some _ :: outs k r = _
    rw [ih]
    rfl
  | .tab _ m :: r => by
    have ih := outs_split k r
    show none :: some _ :: outs k r = _
    rw [ih]
    rfl
noncomputable def cat (g : List Tk) : List Nat := (g.map (·.o)).flatten
noncomputable def tlL : List (List Tk) → List Nat
  | [] => []
  | [g] => 46 :: 42 :: cat g
  | g :: g2 :: r => [40, 63, 62, 46, 42, 63] ++ (cat g ++ (41 :: tlL (g2 :: r)))
noncomputable def bodyL (P : List Tk) (Gs : List (List Tk)) : List Nat := cat P ++ tlL Gs
theorem join_tx0 : ∀ l : List (List Nat), Str.join (tx []) (l.map tx) = tx l.flatten
  | [] => rfl
  | [a] => by simp [Str.join]
  | a :: b :: r => by
    show tx a ++ tx [] ++ Str.join (tx []) ((b :: r).map tx) = _
    rw [join_tx0 (b :: r), tx_append, tx_append]
    simp
theorem join_tx : ∀ l : List (List Nat), Txt.join (Str.ofString "") (l.map tx) = tx l.flatten
  | l => by
    show Builtin.Str.glued (Str.ofString "") (l.map tx) = _
    rw [StrLaws.glued_eq_join]
    have e : Str.ofString "" = tx [] := by decide +kernel
    rw [e]
    exact join_tx0 l
theorem join_strs (g : List Tk) : Txt.join (Str.ofString "") (stT g) = tx (cat g) := by
  have : stT g = (g.map (·.o)).map tx := by simp [stT]
  rw [this, join_tx]
  rfl
theorem tailF_tx : ∀ Gs : List (List Tk), Txt.join (Str.ofString "") (tailF (Gs.map stT)) = tx (tlL Gs) ∧ ∃ l : List (List Nat), tailF (Gs.map stT) = l.map tx ∧ l.flatten = tlL Gs
  | Gs => by
    have key : ∃ l : List (List Nat), tailF (Gs.map stT) = l.map tx ∧ l.flatten = tlL Gs := by
      induction Gs with
      | nil => exact ⟨[], rfl, rfl⟩
      | cons g r ih =>
        cases r with
        | nil =>
          refine ⟨[[46, 42], cat g], ?_, by simp [tlL]⟩
          show [Str.ofString ".*", Txt.join (Str.ofString "") (stT g)] = _
          rw [join_strs, show Str.ofString ".*" = tx [46, 42] by decide +kernel]
          rfl
        | cons g2 r =>
          obtain ⟨l, h1, h2⟩ := ih
          refine ⟨([40, 63, 62, 46, 42, 63] ++ (cat g ++ [41])) :: l, ?_, ?_⟩
          · show grp (stT g) :: tailF ((g2 :: r).map stT) = _
            rw [h1]
            show _ :: _ = _ :: _
            congr 1
            show Str.empty ++ Str.ofString "(?>.*?" ++ Txt.join (Str.ofString "") (stT g) ++ Str.ofString ")" = _
            rw [join_strs, show Str.empty = tx [] by decide +kernel, show Str.ofString "(?>.*?" = tx [40, 63, 62, 46, 42, 63] by decide +kernel, show Str.ofString ")" = tx [41] by decide +kernel, tx_append, tx_append, tx_append]
            simp
          · rw [List.flatten_cons, h2]
            simp [tlL]
    obtain ⟨l, h1, h2⟩ := key
    exact ⟨by rw [h1, join_tx, h2], l, h1, h2⟩
theorem joinOut_tx (P : List Tk) (Gs : List (List Tk)) : joinOut (stT P) (Gs.map stT) = tx ([40, 63, 115, 58] ++ (bodyL P Gs ++ [41, 92, 90])) := by
  obtain ⟨_, l, h1, h2⟩ := tailF_tx Gs
  unfold joinOut
  have e : stT P ++ tailF (Gs.map stT) = ((P.map (·.o)) ++ l).map tx := by rw [h1]; simp [stT]
  rw [e, join_tx, show Str.empty = tx [] by decide +kernel, show Str.ofString "(?s:" = tx [40, 63, 115, 58] by decide +kernel, show Str.ofString ")\\Z" = tx [41, 92, 90] by decide +kernel, tx_append, tx_append, tx_append]
  simp [bodyL, cat, h2]
noncomputable def ptl : List (List Tk) → List Piece
  | [] => []
  | [g] => [(2, g.map (·.one))]
  | g :: g2 :: r => (1, g.map (·.one)) :: (0, []) :: ptl (g2 :: r)
noncomputable def stepsT : List (List Tk) → Nat
  | [] => 0
  | [g] => g.length + 1
  | g :: g2 :: r => stepsT (g2 :: r) + 1 + g.length + 1
theorem Nice.tl (Gs : List (List Tk)) : (tlL Gs).head? ≠ some 42 := by
  cases Gs with
  | nil => simp [tlL]
  | cons g r =>
    cases r with
    | nil => simp [tlL]
    | cons g2 r => simp [tlL]
theorem slice_ne {x : Str} {i j : Int} {r : List Nat} {w : List Nat} {n : Nat} (V : View x i r) (hj : j = i + (n : Int)) (h : r.take n ≠ w) : (Txt.slice x (some i) (some j) == tx w) = false := by
  rw [V.slice n hj]
  exact tx_inj h
theorem run_ones {x : Str} {b : Bool} {d : List Piece} {k : Int} {r : List Piece} {n : Nat} {rest : List Nat} (hrest : rest.head? ≠ some 42) : ∀ (g : List Tk) (i : Int) (os : List One), (∀ a ∈ g, TkOk a) → View x i (cat g ++ rest) →
    PcP x n b (i + ((cat g).length : Int)) d k (os ++ g.map (·.one)) r → PcP x (n + g.length) b i d k os r
  | [], i, os, _, V, h => by simpa [cat] using h
  | a :: g, i, os, hg, V, h => by
    have ha := hg a (List.Mem.head _)
    have V0 : View x i (a.o ++ (cat g ++ rest)) := by simpa [cat] using V
    have V1 : View x (i + (a.o.length : Int)) (cat g ++ rest) := View.step V0 rfl
    have ih := run_ones hrest g (i + (a.o.length : Int)) (os ++ [a.one]) (fun c hc => hg c (List.Mem.tail _ hc)) V1 (by
      have e : i + ((cat (a :: g)).length : Int) = i + (a.o.length : Int) + ((cat g).length : Int) := by simp [cat]; lia
      rw [e] at h
      simpa using h)
    obtain ⟨c, o', ho, h40, h41, h42, h46⟩ := ha.hd
    have hone := ha.on x i (cat g ++ rest) V0
    have Vc : View x i (c :: (o' ++ (cat g ++ rest))) := by rw [ho] at V0; exact V0
    have hn : n + (a :: g).length = (n + g.length) + 1 := by simp only [List.length_cons]; lia
    rw [hn]
    obtain ⟨i, rfl⟩ := Int.eq_ofNat_of_zero_le V.h0
    have hlt := Vc.lt
    refine .one (i := i) (by lia) (fun _ => ⟨?_, ?_⟩) (fun _ => ?_) hone ih
    · rw [show Str.ofString "(?>.*?" = tx [40, 63, 62, 46, 42, 63] by decide +kernel]
      exact slice_ne (n := 6) Vc rfl (fun e => h40 (by simpa using congrArg List.head? e))
    · rw [show Str.ofString ".*" = tx [46, 42] by decide +kernel]
      refine slice_ne (n := 2) Vc rfl (fun e => ?_)
      have e1 : c = 46 := by simpa using congrArg List.head? e
      have e2 := h46 e1
      subst e2
      have e3 : ((cat g ++ rest).take 1) = [42] := by
        simp only [List.nil_append, List.take_succ_cons, List.cons.injEq] at e
        exact e.2
      cases g with
      | nil =>
        simp only [cat, List.map_nil, List.flatten_nil, List.nil_append] at e3
        cases rest with
        | nil => cases e3
        | cons q _ => simp at e3; exact hrest (by rw [e3]; rfl)
      | cons a2 g2 =>
        obtain ⟨c2, o2, ho2, _, _, h42', _⟩ := (hg a2 (List.Mem.tail _ (List.Mem.head _))).hd
        simp [cat, ho2] at e3
        exact h42' e3
    · have h1 : Mine.ch x i = tx [c] := Vc.ch
      rw [h1, show Str.ofString ")" = tx [41] by decide +kernel]
      exact tx_inj (by simpa using h41)
theorem pc_tail {x : Str} : ∀ (Gs : List (List Tk)) (i : Int) (d : List Piece) (k : Int) (os : List One), (∀ g ∈ Gs, ∀ a ∈ g, TkOk a) → View x i (tlL Gs) → PcP x (stepsT Gs) false i d k os (d ++ [(k, os)] ++ ptl Gs)
  | [], i, d, k, os, _, V => by
    have e := V.at_end
    rw [ptl, List.append_nil]
    obtain ⟨i, rfl⟩ := Int.eq_ofNat_of_zero_le V.h0
    exact .stop (i := i) (by lia)
  | [g], i, d, k, os, hg, V => by
    have V0 : View x i (46 :: 42 :: (cat g ++ [])) := by simpa [tlL] using V
    have V2 : View x (i + 2) (cat g ++ []) := View.step (a := [46, 42]) V0 rfl
    have Vend : View x (i + 2 + ((cat g).length : Int)) [] := View.step V2 rfl
    have e := Vend.at_end
    have hend : PcP x 0 false (i + 2 + ((cat g).length : Int)) (d ++ [(k, os)]) 2 (g.map (·.one)) (d ++ [(k, os)] ++ [(2, g.map (·.one))]) := by
      obtain ⟨j, hj⟩ := Int.eq_ofNat_of_zero_le Vend.h0
      rw [hj] at e ⊢
      exact .stop (i := j) (by lia)
    obtain ⟨i, rfl⟩ := Int.eq_ofNat_of_zero_le V.h0
    have hlt := V0.lt
    refine .dst (i := i) (by lia) ?_ ?_ ?_
    · rw [show Str.ofString "(?>.*?" = tx [40, 63, 62, 46, 42, 63] by decide +kernel]
      exact slice_ne (n := 6) V0 rfl (fun e => by have := congrArg List.head? e; simp at this)
    · rw [V0.slice (j := (i : Int) + 2) 2 rfl, show Str.ofString ".*" = tx [46, 42] by decide +kernel]
      simp
    · have := run_ones (x := x) (b := false) (d := d ++ [(k, os)]) (k := 2) (n := 0) (rest := []) (r := d ++ [(k, os)] ++ ptl [g]) (by simp) g (i + 2) [] (hg g (List.Mem.head _)) V2 (by
        rw [List.nil_append]
        exact hend)
      simpa using this
  | g :: g2 :: r, i, d, k, os, hg, V => by
    have V0 : View x i ([40, 63, 62, 46, 42, 63] ++ (cat g ++ (41 :: tlL (g2 :: r)))) := V
    have V6 : View x (i + 6) (cat g ++ (41 :: tlL (g2 :: r))) := View.step V0 rfl
    have V7 : View x (i + 6 + ((cat g).length : Int)) (41 :: tlL (g2 :: r)) := View.step V6 rfl
    have V8 : View x (i + 6 + ((cat g).length : Int) + 1) (tlL (g2 :: r)) := View.step (a := [41]) V7 rfl
    have ih := pc_tail (x := x) (g2 :: r) (i + 6 + ((cat g).length : Int) + 1) (d ++ [(k, os)] ++ [(1, g.map (·.one))]) 0 [] (fun g' hg' => hg g' (List.Mem.tail _ hg')) V8
    have e : d ++ [(k, os)] ++ [(1, g.map (·.one))] ++ [(0, [])] ++ ptl (g2 :: r) = d ++ [(k, os)] ++ ptl (g :: g2 :: r) := by simp [ptl]
    rw [e] at ih
    have hcls : PcP x (stepsT (g2 :: r) + 1) true (i + 6 + ((cat g).length : Int)) (d ++ [(k, os)]) 1 (g.map (·.one)) (d ++ [(k, os)] ++ ptl (g :: g2 :: r)) := by
      have h1 : Mine.ch x (i + 6 + ((cat g).length : Int)) = tx [41] := V7.ch
      have hlt := V7.lt
      obtain ⟨j, hj⟩ := Int.eq_ofNat_of_zero_le V7.h0
      rw [hj] at h1 hlt ih ⊢
      exact .cls (i := j) (by lia) (by rw [h1, show Str.ofString ")" = tx [41] by decide +kernel]; simp) ih
    obtain ⟨i, rfl⟩ := Int.eq_ofNat_of_zero_le V.h0
    have hlt := View.lt V0
    refine .opn (i := i) (by lia) ?_ ?_
    · rw [View.slice (j := (i : Int) + 6) V0 6 rfl, show Str.ofString "(?>.*?" = tx [40, 63, 62, 46, 42, 63] by decide +kernel]
      simp
    · refine run_ones (x := x) (b := true) (rest := 41 :: tlL (g2 :: r)) (by simp) g (i + 6) [] (hg g (List.Mem.head _)) V6 ?_
      rw [List.nil_append]
      exact hcls
theorem pc_all {P : List Tk} {Gs : List (List Tk)} (hP : ∀ a ∈ P, TkOk a) (hG : ∀ g ∈ Gs, ∀ a ∈ g, TkOk a) : PcP (tx (bodyL P Gs)) (stepsT Gs + P.length) false 0 [] 0 [] ((0, P.map (·.one)) :: ptl Gs) := by
  have V : View (tx (bodyL P Gs)) 0 (cat P ++ tlL Gs) := View.start _
  have W : View (tx (bodyL P Gs)) (0 + ((cat P).length : Int)) (tlL Gs) := View.step V rfl
  have := pc_tail (x := tx (bodyL P Gs)) Gs (0 + ((cat P).length : Int)) [] 0 (P.map (·.one)) hG W
  refine run_ones (x := tx (bodyL P Gs)) (b := false) (Nice.tl Gs) P 0 [] hP V ?_
  simpa using this
end Mine
theorem Mine.off_P5 : True := by w_top off; trivial
theorem Mine.rs_P5 {M : Model} {A : Around} {E : Value → Shared → Prop} {s : Shared} {Q : Flow → Shared → Prop} {p : Pos} {env : Env} (h : wpAny M A (exec (Stmt.Pass p) env) Q E s) : wpAny M A (exec (Stmt.Pass p) env) Q E s := by first | (walk1; fail) | exact h
namespace Mine
noncomputable def mkC : Nat → Nat
  | 0 => 124
  | 1 => 93
  | 2 => 94
  | 3 => 45
  | 4 => 42
  | _ => 10
noncomputable def plC : Nat → Nat
  | 0 => 46
  | 1 => 91
  | 2 => 33
  | 3 => 92
  | 4 => 63
  | _ => 126
theorem any_fit : ∀ k i : Nat, ((anyK k i).one.1 == (anyK k i).one.2.any (okPair (tx [mkC k]))) = false ∧ ((anyK k i).one.1 == (anyK k i).one.2.any (okPair (tx [plC k]))) = false
  | 0, 0 => by decide +kernel
  | 0, 1 => by decide +kernel
  | 0, (_ + 2) => (by decide +kernel : ((anyK 0 2).one.1 == (anyK 0 2).one.2.any (okPair (tx [mkC 0]))) = false ∧ ((anyK 0 2).one.1 == (anyK 0 2).one.2.any (okPair (tx [plC 0]))) = false)
  | 1, 0 => by decide +kernel
  | 1, 1 => by decide +kernel
  | 1, (_ + 2) => (by decide +kernel : ((anyK 1 2).one.1 == (anyK 1 2).one.2.any (okPair (tx [mkC 1]))) = false ∧ ((anyK 1 2).one.1 == (anyK 1 2).one.2.any (okPair (tx [plC 1]))) = false)
  | 2, 0 => by decide +kernel
  | 2, 1 => by decide +kernel
  | 2, (_ + 2) => (by decide +kernel : ((anyK 2 2).one.1 == (anyK 2 2).one.2.any (okPair (tx [mkC 2]))) = false ∧ ((anyK 2 2).one.1 == (anyK 2 2).one.2.any (okPair (tx [plC 2]))) = false)
  | 3, 0 => by decide +kernel
  | 3, 1 => by decide +kernel
  | 3, (_ + 2) => (by decide +kernel : ((anyK 3 2).one.1 == (anyK 3 2).one.2.any (okPair (tx [mkC 3]))) = false ∧ ((anyK 3 2).one.1 == (anyK 3 2).one.2.any (okPair (tx [plC 3]))) = false)
  | 4, 0 => by decide +kernel
  | 4, 1 => by decide +kernel
  | 4, (_ + 2) => (by decide +kernel : ((anyK 4 2).one.1 == (anyK 4 2).one.2.any (okPair (tx [mkC 4]))) = false ∧ ((anyK 4 2).one.1 == (anyK 4 2).one.2.any (okPair (tx [plC 4]))) = false)
  | (_ + 5), 0 => (by decide +kernel : ((anyK 5 0).one.1 == (anyK 5 0).one.2.any (okPair (tx [mkC 5]))) = false ∧ ((anyK 5 0).one.1 == (anyK 5 0).one.2.any (okPair (tx [plC 5]))) = false)
  | (_ + 5), 1 => (by decide +kernel : ((anyK 5 1).one.1 == (anyK 5 1).one.2.any (okPair (tx [mkC 5]))) = false ∧ ((anyK 5 1).one.1 == (anyK 5 1).one.2.any (okPair (tx [plC 5]))) = false)
  | (_ + 5), (_ + 2) => (by decide +kernel : ((anyK 5 2).one.1 == (anyK 5 2).one.2.any (okPair (tx [mkC 5]))) = false ∧ ((anyK 5 2).one.1 == (anyK 5 2).one.2.any (okPair (tx [plC 5]))) = false)
theorem mk_fit : ∀ k i : Nat, ((mkK k i).one.1 == (mkK k i).one.2.any (okPair (tx [mkC k]))) = false ∧ ((mkK k i).one.1 == (mkK k i).one.2.any (okPair (tx [plC k]))) = true
  | 0, 0 => by decide +kernel
  | 0, 1 => by decide +kernel
  | 0, (_ + 2) => (by decide +kernel : ((mkK 0 2).one.1 == (mkK 0 2).one.2.any (okPair (tx [mkC 0]))) = false ∧ ((mkK 0 2).one.1 == (mkK 0 2).one.2.any (okPair (tx [plC 0]))) = true)
  | 1, 0 => by decide +kernel
  | 1, 1 => by decide +kernel
  | 1, (_ + 2) => (by decide +kernel : ((mkK 1 2).one.1 == (mkK 1 2).one.2.any (okPair (tx [mkC 1]))) = false ∧ ((mkK 1 2).one.1 == (mkK 1 2).one.2.any (okPair (tx [plC 1]))) = true)
  | 2, 0 => by decide +kernel
  | 2, 1 => by decide +kernel
  | 2, (_ + 2) => (by decide +kernel : ((mkK 2 2).one.1 == (mkK 2 2).one.2.any (okPair (tx [mkC 2]))) = false ∧ ((mkK 2 2).one.1 == (mkK 2 2).one.2.any (okPair (tx [plC 2]))) = true)
  | 3, 0 => by decide +kernel
  | 3, 1 => by decide +kernel
  | 3, (_ + 2) => (by decide +kernel : ((mkK 3 2).one.1 == (mkK 3 2).one.2.any (okPair (tx [mkC 3]))) = false ∧ ((mkK 3 2).one.1 == (mkK 3 2).one.2.any (okPair (tx [plC 3]))) = true)
  | 4, 0 => by decide +kernel
  | 4, 1 => by decide +kernel
  | 4, (_ + 2) => (by decide +kernel : ((mkK 4 2).one.1 == (mkK 4 2).one.2.any (okPair (tx [mkC 4]))) = false ∧ ((mkK 4 2).one.1 == (mkK 4 2).one.2.any (okPair (tx [plC 4]))) = true)
  | (_ + 5), 0 => (by decide +kernel : ((mkK 5 0).one.1 == (mkK 5 0).one.2.any (okPair (tx [mkC 5]))) = false ∧ ((mkK 5 0).one.1 == (mkK 5 0).one.2.any (okPair (tx [plC 5]))) = true)
  | (_ + 5), 1 => (by decide +kernel : ((mkK 5 1).one.1 == (mkK 5 1).one.2.any (okPair (tx [mkC 5]))) = false ∧ ((mkK 5 1).one.1 == (mkK 5 1).one.2.any (okPair (tx [plC 5]))) = true)
  | (_ + 5), (_ + 2) => (by decide +kernel : ((mkK 5 2).one.1 == (mkK 5 2).one.2.any (okPair (tx [mkC 5]))) = false ∧ ((mkK 5 2).one.1 == (mkK 5 2).one.2.any (okPair (tx [plC 5]))) = true)
/-- the ruler: a mark in each cell that is the last ahead of a stop -/
noncomputable def rulL (k sz n : Nat) : List Nat := (List.range n).map fun q => if (q + 1) % sz = 0 then mkC k else plC k
theorem rul_len (k sz n : Nat) : (rulL k sz n).length = n := by simp [rulL]
theorem rul_ch {k sz n q : Nat} (h : q < n) : Mine.ch (tx (rulL k sz n)) (q : Int) = tx [if (q + 1) % sz = 0 then mkC k else plC k] := by
  have V : View (tx (rulL k sz n)) 0 (rulL k sz n) := View.start _
  have W := V.drop q (by rw [rul_len]; lia)
  have e : (rulL k sz n).drop q = (if (q + 1) % sz = 0 then mkC k else plC k) :: (rulL k sz n).drop (q + 1) := by
    have hlt : q < (rulL k sz n).length := by rw [rul_len]; exact h
    rw [List.drop_eq_getElem_cons hlt]
    congr 1
    simp [rulL]
  rw [e, show (0 : Int) + (q : Int) = (q : Int) by lia] at W
  exact W.ch
theorem fit_cons {x : Str} {i : Int} {o : One} {r : List One} {c : Nat} (hc : Mine.ch x i = tx [c]) : fitF x i (o :: r) = if (o.1 == o.2.any (okPair (tx [c]))) = true then false else fitF x (i + 1) r := by
  obtain ⟨b, ps⟩ := o
  rw [fitF, hc, if_neg (by rw [of_no, tx_beq]; simp)]
theorem fit_anys {k sz n : Nat} : ∀ (l : List Nat) (q : Nat), q + l.length ≤ n → fitF (tx (rulL k sz n)) (q : Int) ((l.map (anyK k)).map (·.one)) = true
  | [], _, _ => rfl
  | a :: l, q, h => by
    simp only [List.length_cons] at h
    have hf := any_fit k a
    rw [List.map_cons, List.map_cons, fit_cons (rul_ch (by lia))]
    have : ((anyK k a).one.1 == (anyK k a).one.2.any (okPair (tx [if (q + 1) % sz = 0 then mkC k else plC k]))) = false := by
      split
      · exact hf.1
      · exact hf.2
    rw [this, if_neg (by decide)]
    exact fit_anys l (q + 1) (by lia)
theorem fit_grp {k sz n q : Nat} (g : Nat × List Nat) (h : q + 1 + g.2.length ≤ n) : fitF (tx (rulL k sz n)) (q : Int) ((grpT k g).map (·.one)) = decide ((q + 1) % sz = 0) := by
  have hf := mk_fit k g.1
  rw [grpT, List.map_cons, fit_cons (rul_ch (by lia))]
  by_cases hm : (q + 1) % sz = 0
  · rw [if_pos hm, hf.1, if_neg (by decide), decide_eq_true hm]
    exact fit_anys g.2 (q + 1) h
  · rw [if_neg hm, hf.2, if_pos rfl, decide_eq_false hm]
/-- the column behind a group: the next stop, and the anys -/
noncomputable def nextC (sz p : Nat) : Nat := (p / sz + 1) * sz
theorem next_facts {sz p : Nat} (h : 1 ≤ sz) : p < nextC sz p ∧ nextC sz p ≤ p + sz ∧ nextC sz p % sz = 0 ∧ ∀ q, p ≤ q → q + 1 < nextC sz p → (q + 1) % sz ≠ 0 := by
  have h1 := Nat.div_add_mod p sz
  have h2 := Nat.mod_lt p h
  have h3 : nextC sz p = sz * (p / sz) + sz := by unfold nextC; rw [Nat.add_mul, Nat.one_mul, Nat.mul_comm]
  refine ⟨by lia, by lia, by unfold nextC; simp, fun q hq1 hq2 hq3 => ?_⟩
  obtain ⟨c, hc⟩ := Nat.dvd_of_mod_eq_zero hq3
  have h4 : sz * (p / sz) < sz * c := by lia
  have h5 : sz * c < sz * (p / sz + 1) := by rw [Nat.mul_add, Nat.mul_one]; lia
  have h6 := Nat.lt_of_mul_lt_mul_left h4
  have h7 := Nat.lt_of_mul_lt_mul_left h5
  lia
noncomputable def colG (sz : Nat) : Nat → List (Nat × List Nat) → Nat
  | p, [] => p
  | p, g :: r => colG sz (nextC sz p + g.2.length) r
theorem colG_le {sz : Nat} (h : 1 ≤ sz) : ∀ (gs : List (Nat × List Nat)) (p : Nat), p ≤ colG sz p gs
  | [], _ => Nat.le_refl _
  | g :: r, p => by
    have h1 := (next_facts (p := p) h).1
    have h2 := colG_le h r (nextC sz p + g.2.length)
    rw [colG]
    lia
theorem sea {k sz n : Nat} (h : 1 ≤ sz) (g : Nat × List Nat) : ∀ (d p : Nat), p + d + 1 = nextC sz p → nextC sz p + g.2.length ≤ n → SeaP (tx (rulL k sz n)) ((grpT k g).map (·.one)) ((n : Int) - (((grpT k g).map (·.one)).length : Int)) d (p : Int) ((p + d : Nat) : Int)
  | 0, p, hd, hn => by
    have hl : ((grpT k g).map (·.one)).length = g.2.length + 1 := by simp [grpT]
    have h1 := next_facts (p := p) h
    refine .hit (by rw [hl]; lia) ?_
    rw [fit_grp g (by lia), decide_eq_true]
    rw [show p + 1 = nextC sz p by lia]
    exact h1.2.2.1
  | d + 1, p, hd, hn => by
    have hl : ((grpT k g).map (·.one)).length = g.2.length + 1 := by simp [grpT]
    have h1 := next_facts (p := p) h
    have hq : (p + 1) % sz ≠ 0 := h1.2.2.2 p (Nat.le_refl _) (by lia)
    have hsame : nextC sz (p + 1) = nextC sz p := by
      have h2 := next_facts (p := p + 1) h
      rcases Nat.lt_trichotomy (nextC sz (p + 1)) (nextC sz p) with h9 | h9 | h9
      · exact absurd h2.2.2.1 (by
          have := h1.2.2.2 (nextC sz (p + 1) - 1) (by lia) (by lia)
          rwa [show nextC sz (p + 1) - 1 + 1 = nextC sz (p + 1) by lia] at this)
      · exact h9
      · exact absurd h1.2.2.1 (by
          have := h2.2.2.2 (nextC sz p - 1) (by lia) (by lia)
          rwa [show nextC sz p - 1 + 1 = nextC sz p by lia] at this)
    have ih := sea (k := k) (n := n) h g d (p + 1) (by lia) (by lia)
    refine .miss (by rw [hl]; lia) ?_ (q := ((p + (d + 1) : Nat) : Int)) ?_
    · rw [fit_grp g (by lia), decide_eq_false hq]
    · rw [show p + (d + 1) = p + 1 + d by lia]
      exact ih
/-- the heads that are due -/
noncomputable def dueL (sz level n : Nat) : List Int := (List.range ((n + sz - level) / sz)).map fun t => ((level + t * sz : Nat) : Int)
theorem filt_range {sz : Nat} (h1 : 1 ≤ sz) (h7 : sz ≤ 7) (p : Nat) : ∀ cnt : Nat, (List.range cnt).filter (fun i => decide ((p + i + 1) % sz = 0)) = (List.range ((p + cnt + sz - nextC sz p) / sz)).map fun t => nextC sz p - 1 - p + t * sz
  | 0 => by
    have hn := next_facts (p := p) h1
    rw [show p + 0 + sz - nextC sz p = p + sz - nextC sz p by lia]
    have : (p + sz - nextC sz p) / sz = 0 := Nat.div_eq_of_lt (by lia)
    rw [this]
    rfl
  | cnt + 1 => by
    have ih := filt_range h1 h7 p cnt
    have hn := next_facts (p := p) h1
    obtain ⟨a, ha⟩ : ∃ a, p + sz = nextC sz p + a := ⟨p + sz - nextC sz p, by lia⟩
    rw [List.range_succ, List.filter_append, ih, show p + (cnt + 1) + sz - nextC sz p = (a + cnt) + 1 by lia, show p + cnt + sz - nextC sz p = a + cnt by lia]
    obtain ⟨q, r, hq, hr⟩ : ∃ q r, a + cnt = sz * q + r ∧ r < sz := ⟨(a + cnt) / sz, (a + cnt) % sz, (Nat.div_add_mod _ _).symm, Nat.mod_lt _ h1⟩
    have hdiv : (a + cnt) / sz = q := by rw [hq]; rw [Nat.mul_add_div (by lia), Nat.div_eq_of_lt hr]; rfl
    have hnm : ∃ c, nextC sz p = sz * c := ⟨p / sz + 1, by unfold nextC; rw [Nat.mul_comm]⟩
    obtain ⟨c, hc⟩ := hnm
    by_cases hlast : r + 1 = sz
    · have hdiv2 : (a + cnt + 1) / sz = q + 1 := by
        rw [show a + cnt + 1 = sz * (q + 1) by rw [Nat.mul_add]; lia]
        exact Nat.mul_div_cancel_left _ h1
      have hm : (p + cnt + 1) % sz = 0 := by
        rw [show p + cnt + 1 = sz * (c + q) by rw [Nat.mul_add]; lia]
        exact Nat.mul_mod_right _ _
      rw [hdiv, hdiv2, List.range_succ, List.map_append]
      congr 1
      rw [List.filter_cons_of_pos (by simpa using hm)]
      simp only [List.filter_nil, List.map_cons, List.map_nil, List.cons.injEq, and_true]
      rw [Nat.mul_comm q sz]
      lia
    · have hdiv2 : (a + cnt + 1) / sz = q := by
        rw [show a + cnt + 1 = sz * q + (r + 1) by lia, Nat.mul_add_div (by lia), Nat.div_eq_of_lt (by lia)]
        rfl
      have hm : (p + cnt + 1) % sz ≠ 0 := by
        have e : p + cnt + 1 + sz = sz * (c + q) + (r + 1) := by rw [Nat.mul_add]; lia
        intro h9
        have h10 : (p + cnt + 1 + sz) % sz = 0 := by rw [Nat.add_mod_right]; exact h9
        rw [e, Nat.mul_add_mod, Nat.mod_eq_of_lt (by lia)] at h10
        lia
      rw [hdiv, hdiv2]
      rw [List.filter_cons_of_neg (by simpa using hm)]
      simp
theorem star_due {k sz n p : Nat} (h1 : 1 ≤ sz) (h7 : sz ≤ 7) (g : Nat × List Nat) (hn : p + g.2.length ≤ n) :
    starF (tx (rulL k sz n)) (p : Int) (n - g.2.length - p) ((grpT k g).map (·.one)) = dueL sz (nextC sz p + g.2.length) n := by
  unfold starF
  have hl : ((grpT k g).map (·.one)).length = g.2.length + 1 := by simp [grpT]
  have hn0 := next_facts (p := p) h1
  rw [hl, List.filter_map]
  have e1 : (List.range (n - g.2.length - p)).filter ((fun q => fitF (tx (rulL k sz n)) q ((grpT k g).map (·.one))) ∘ fun i : Nat => (p : Int) + (i : Int)) = (List.range (n - g.2.length - p)).filter (fun i => decide ((p + i + 1) % sz = 0)) := by
    refine List.filter_congr fun i hi => ?_
    have hi' := List.mem_range.mp hi
    show fitF _ ((p : Int) + (i : Int)) _ = _
    rw [show (p : Int) + (i : Int) = ((p + i : Nat) : Int) by lia, fit_grp g (by lia)]
  rw [e1, filt_range h1 h7 p, List.map_map, List.map_map]
  unfold dueL
  rw [show p + (n - g.2.length - p) + sz - nextC sz p = n + sz - (nextC sz p + g.2.length) by lia]
  refine List.map_congr_left fun t _ => ?_
  show ((p : Int) + ((nextC sz p - 1 - p + t * sz : Nat) : Int)) + ((g.2.length + 1 : Nat) : Int) = ((nextC sz p + g.2.length + t * sz : Nat) : Int)
  lia
theorem end_tail {k sz n : Nat} (h1 : 1 ≤ sz) (h7 : sz ≤ 7) : ∀ (gs : List (Nat × List Nat)) (p : Nat), colG sz p gs ≤ n → EndP (tx (rulL k sz n)) (ptl (gs.map (grpT k))) [(p : Int)] (if gs = [] then [((colG sz p gs : Nat) : Int)] else dueL sz (colG sz p gs) n)
  | [], p, _ => .nil
  | [g], p, hn => by
    have hn' : nextC sz p + g.2.length ≤ n := hn
    have hl : ((grpT k g).map (·.one)).length = g.2.length + 1 := by simp [grpT]
    have hn0 := next_facts (p := p) h1
    rw [if_neg (by simp)]
    show EndP _ [(2, (grpT k g).map (·.one))] _ (dueL sz (nextC sz p + g.2.length) n)
    rw [← star_due h1 h7 g (by lia)]
    refine .star (by lia) ?_
    rw [hl, tx_len, rul_len]
    lia
  | g :: g2 :: r, p, hn => by
    have hcol : colG sz p (g :: g2 :: r) = colG sz (nextC sz p + g.2.length) (g2 :: r) := rfl
    have hle := colG_le h1 (g2 :: r) (nextC sz p + g.2.length)
    have hl : ((grpT k g).map (·.one)).length = g.2.length + 1 := by simp [grpT]
    have hn0 := next_facts (p := p) h1
    have ih := end_tail (k := k) h1 h7 (g2 :: r) (nextC sz p + g.2.length) (by rw [hcol] at hn; exact hn)
    rw [if_neg (by simp)] at ih ⊢
    rw [hcol] at hn ⊢
    show EndP _ ((1, (grpT k g).map (·.one)) :: (0, []) :: ptl ((g2 :: r).map (grpT k))) _ _
    have hs := sea (k := k) (n := n) h1 g (nextC sz p - 1 - p) p (by lia) (by lia)
    rw [show p + (nextC sz p - 1 - p) = nextC sz p - 1 by lia] at hs
    refine .look (n := nextC sz p - 1 - p) (q := ((nextC sz p - 1 : Nat) : Int)) (by rw [tx_len, rul_len]; exact hs) ?_
    refine .fix rfl ?_
    rw [hl]
    rw [show ((nextC sz p - 1 : Nat) : Int) + ((g.2.length + 1 : Nat) : Int) + (([] : List One).length : Int) = ((nextC sz p + g.2.length : Nat) : Int) by simp; lia]
    exact ih
theorem end_all {k sz n : Nat} (h1 : 1 ≤ sz) (h7 : sz ≤ 7) (its : List It) (hn : colG sz (splitI its).1.length (splitI its).2 ≤ n) :
    EndP (tx (rulL k sz n)) ((0, (preT k its).map (·.one)) :: ptl (gsT k its)) [0] (if (splitI its).2 = [] then [((colG sz (splitI its).1.length (splitI its).2 : Nat) : Int)] else dueL sz (colG sz (splitI its).1.length (splitI its).2) n) := by
  have hle := colG_le h1 (splitI its).2 (splitI its).1.length
  refine .fix ?_ ?_
  · exact fit_anys (k := k) (sz := sz) (n := n) (splitI its).1 0 (by lia)
  · have := end_tail (k := k) h1 h7 (splitI its).2 (splitI its).1.length hn
    have hl : ((preT k its).map (·.one)).length = (splitI its).1.length := by simp [preT]
    rw [hl, show (0 : Int) + (((splitI its).1.length : Nat) : Int) = (((splitI its).1.length : Nat) : Int) by lia]
    exact this
/-- the column of a lead -/
noncomputable def colI (sz : Nat) : Nat → List It → Nat
  | c, [] => c
  | c, .any _ :: r => colI sz (c + 1) r
  | c, .tab _ _ :: r => colI sz (nextC sz c) r
theorem colI_split (sz : Nat) : ∀ (its : List It) (c : Nat), colI sz c its = colG sz (c + (splitI its).1.length) (splitI its).2
  | [], c => rfl
  | .any a :: r, c => by
    show colI sz (c + 1) r = colG sz (c + ((splitI r).1.length + 1)) (splitI r).2
    rw [colI_split sz r (c + 1)]
    congr 1
    lia
  | .tab _ m :: r, c => by
    show colI sz (nextC sz c) r = colG sz (nextC sz (c + 0) + (splitI r).1.length) (splitI r).2
    rw [colI_split sz r (nextC sz c)]
    rfl
noncomputable def cntA : List It → Nat
  | [] => 0
  | .any _ :: r => cntA r + 1
  | .tab _ _ :: r => cntA r
noncomputable def cntT : List It → Nat
  | [] => 0
  | .any _ :: r => cntT r
  | .tab _ _ :: r => cntT r + 1
theorem colI_le {sz : Nat} (h : 1 ≤ sz) : ∀ (its : List It) (c : Nat), colI sz c its ≤ c + cntA its + cntT its * sz
  | [], c => by simp [colI, cntA, cntT]
  | .any a :: r, c => by
    have := colI_le h r (c + 1)
    simp only [colI, cntA, cntT]
    lia
  | .tab _ m :: r, c => by
    have h1 := colI_le h r (nextC sz c)
    have h2 := (next_facts (p := c) h).2.1
    simp only [colI, cntA, cntT]
    rw [Nat.add_mul]
    lia
theorem split_tabs : ∀ its : List It, (splitI its).2 = [] ↔ cntT its = 0
  | [] => by simp [splitI, cntT]
  | .any _ :: r => by simpa [splitI, cntT] using split_tabs r
  | .tab _ _ :: r => by simp [splitI, cntT]
end Mine
theorem Mine.off_P6 : True := by w_top off; trivial
theorem Mine.rs_P6 {M : Model} {A : Around} {E : Value → Shared → Prop} {s : Shared} {Q : Flow → Shared → Prop} {p : Pos} {env : Env} (h : wpAny M A (exec (Stmt.Pass p) env) Q E s) : wpAny M A (exec (Stmt.Pass p) env) Q E s := by first | (walk1; fail) | exact h
namespace Mine
theorem ilF_more {cnt : List Int} {ts : Int} (h0 : 1 ≤ ts) : ∀ (d k : Nat), (cnt.length : Int) - ts ≤ (k : Int) → ilF cnt ts (k + d) = ilF cnt ts k
  | 0, k, _ => rfl
  | d + 1, k, h => by
    have ih := ilF_more (cnt := cnt) h0 d k h
    show ilF cnt ts (k + d) + Int.fdiv (ts + ((k + d : Nat) : Int)) ts * cnt.getD (ts + ((k + d : Nat) : Int)).toNat 0 = _
    have : cnt.getD (ts + ((k + d : Nat) : Int)).toNat 0 = 0 := by
      rw [List.getD_eq_getElem?_getD, List.getElem?_eq_none (by lia)]
      rfl
    rw [this, Int.mul_zero, Int.add_zero, ih]
theorem ilF_upd {cnt cnt' : List Int} {ts b : Int} (h0 : 1 ≤ ts) (hb : 0 ≤ b) (h : ∀ m : Nat, cnt'.getD m 0 = cnt.getD m 0 + if (m : Int) = b then 1 else 0) : ∀ k : Nat, ilF cnt' ts k = ilF cnt ts k + if ts ≤ b ∧ b < ts + (k : Int) then Int.fdiv b ts else 0
  | 0 => by
    rw [if_neg (by lia)]
    rfl
  | k + 1 => by
    have ih := ilF_upd h0 hb h k
    show ilF cnt' ts k + Int.fdiv (ts + (k : Int)) ts * cnt'.getD (ts + (k : Int)).toNat 0 = ilF cnt ts k + Int.fdiv (ts + (k : Int)) ts * cnt.getD (ts + (k : Int)).toNat 0 + _
    rw [ih, h]
    by_cases he : ((ts + (k : Int)).toNat : Int) = b
    · rw [if_pos he, if_neg (by lia), if_pos (by lia), Int.mul_add, Int.mul_one, show ts + (k : Int) = b by lia]
      lia
    · rw [if_neg he, Int.add_zero]
      by_cases h2 : ts ≤ b ∧ b < ts + (k : Int)
      · rw [if_pos h2, if_pos (by lia)]
        lia
      · rw [if_neg h2, if_neg (by lia)]
        lia
theorem getD_ext (cnt : List Int) (b : Int) (hb : 0 ≤ b) : ∀ m : Nat, (((if (cnt.length : Int) ≤ b then cnt ++ List.replicate (b - cnt.length + 1).toNat 0 else cnt).set b.toNat ((if (cnt.length : Int) ≤ b then cnt ++ List.replicate (b - cnt.length + 1).toNat 0 else cnt).getD b.toNat 0 + 1))).getD m 0 = cnt.getD m 0 + if (m : Int) = b then 1 else 0 := by
  intro m
  have hext : ∀ m : Nat, (if (cnt.length : Int) ≤ b then cnt ++ List.replicate (b - cnt.length + 1).toNat 0 else cnt).getD m 0 = cnt.getD m 0 := by
    intro m
    by_cases hl : (cnt.length : Int) ≤ b
    · rw [if_pos hl]
      rcases Nat.lt_or_ge m cnt.length with h | h
      · simp [List.getD_eq_getElem?_getD, List.getElem?_append_left h]
      · rw [List.getD_eq_getElem?_getD, List.getD_eq_getElem?_getD, List.getElem?_append_right h, List.getElem?_eq_none h, List.getElem?_replicate]
        split <;> rfl
    · rw [if_neg hl]
  have hlen : b.toNat < (if (cnt.length : Int) ≤ b then cnt ++ List.replicate (b - cnt.length + 1).toNat 0 else cnt).length := by
    by_cases hl : (cnt.length : Int) ≤ b
    · rw [if_pos hl, List.length_append, List.length_replicate]; lia
    · rw [if_neg hl]; lia
  generalize (if (cnt.length : Int) ≤ b then cnt ++ List.replicate (b - cnt.length + 1).toNat 0 else cnt) = c2 at hext hlen ⊢
  rw [List.getD_eq_getElem?_getD, List.getElem?_set]
  by_cases he : b.toNat = m
  · subst he
    rw [if_pos rfl, if_pos hlen, if_pos (by lia)]
    rw [← hext b.toNat]
    rfl
  · rw [if_neg he, if_neg (by lia), Int.add_zero, ← hext m, List.getD_eq_getElem?_getD]
theorem level_big {st : List Int × Int × Int} {ts : Int} (h0 : 1 ≤ ts) (k : Nat) (hk : (st.1.length : Int) - ts ≤ (k : Int)) : levelF st ts = st.2.1 + ts * (ilF st.1 ts k + st.2.2) := by
  unfold levelF
  obtain ⟨d, hd⟩ : ∃ d, k = ((st.1.length : Int) - ts).toNat + d := ⟨k - ((st.1.length : Int) - ts).toNat, by lia⟩
  rw [hd, ilF_more h0 d _ (by lia)]
/-- the state of the reader of a lead -/
structure WsInv (sz : Nat) (st : List Int × Int × Int) (c : Nat) (N : Nat) : Prop where
  lv : levelF st (sz : Int) = (c : Int)
  b0 : 0 ≤ st.2.1
  en : ∀ x ∈ st.1, 0 ≤ x ∧ x ≤ (N : Int)
theorem WsInv.blank {sz : Nat} {st : List Int × Int × Int} {c N : Nat} (I : WsInv sz st c N) : WsInv sz (wsStep st 32) (c + 1) (N + 1) := by
  refine ⟨?_, ?_, fun x hx => ?_⟩
  · have h := I.lv
    show levelF (st.1, st.2.1 + 1, st.2.2) _ = _
    unfold levelF at h ⊢
    dsimp only at h ⊢
    lia
  · have := I.b0
    show 0 ≤ st.2.1 + 1
    lia
  · have := I.en x hx
    lia
theorem WsInv.tab {sz : Nat} (h1 : 1 ≤ sz) {st : List Int × Int × Int} {c N : Nat} (I : WsInv sz st c N) : WsInv sz (wsStep st 9) (nextC sz c) (N + 1) := by
  obtain ⟨cnt, b, nt⟩ := st
  have hb : 0 ≤ b := I.b0
  have hlv := I.lv
  have hst : wsStep (cnt, b, nt) 9 = ((if (cnt.length : Int) ≤ b then cnt ++ List.replicate (b - cnt.length + 1).toNat 0 else cnt).set b.toNat ((if (cnt.length : Int) ≤ b then cnt ++ List.replicate (b - cnt.length + 1).toNat 0 else cnt).getD b.toNat 0 + 1), 0, nt + 1) := rfl
  rw [hst]
  have hg := getD_ext cnt b hb
  have hmem : ∀ x ∈ (if (cnt.length : Int) ≤ b then cnt ++ List.replicate (b - cnt.length + 1).toNat 0 else cnt).set b.toNat ((if (cnt.length : Int) ≤ b then cnt ++ List.replicate (b - cnt.length + 1).toNat 0 else cnt).getD b.toNat 0 + 1), 0 ≤ x ∧ x ≤ ((N + 1 : Nat) : Int) := by
    intro x hx
    obtain ⟨m, hm, rfl⟩ := List.mem_iff_getElem.mp hx
    have e := hg m
    rw [List.getD_eq_getElem?_getD, List.getElem?_eq_getElem hm] at e
    simp only [Option.getD_some] at e
    rw [e]
    have h2 : 0 ≤ cnt.getD m 0 ∧ cnt.getD m 0 ≤ (N : Int) := by
      rcases Nat.lt_or_ge m cnt.length with h | h
      · have := I.en cnt[m] (List.getElem_mem h)
        rw [List.getD_eq_getElem?_getD, List.getElem?_eq_getElem h]
        exact this
      · rw [List.getD_eq_getElem?_getD, List.getElem?_eq_none h]
        exact ⟨Int.le_refl _, by simp⟩
    split <;> lia
  generalize (if (cnt.length : Int) ≤ b then cnt ++ List.replicate (b - cnt.length + 1).toNat 0 else cnt).set b.toNat ((if (cnt.length : Int) ≤ b then cnt ++ List.replicate (b - cnt.length + 1).toNat 0 else cnt).getD b.toNat 0 + 1) = cnt' at hg hmem ⊢
  refine ⟨?_, Int.le_refl _, hmem⟩
  have hz : (1 : Int) ≤ (sz : Int) := by lia
  have e1 := level_big (st := (cnt, b, nt)) hz (cnt.length + cnt'.length + b.toNat + 1) (by dsimp only; lia)
  have e2 := level_big (st := (cnt', 0, nt + 1)) hz (cnt.length + cnt'.length + b.toNat + 1) (by dsimp only; lia)
  rw [hlv] at e1
  rw [e2]
  dsimp only at e1 ⊢
  have hup := ilF_upd (ts := (sz : Int)) hz hb hg (cnt.length + cnt'.length + b.toNat + 1)
  have hd : (if (sz : Int) ≤ b ∧ b < (sz : Int) + ((cnt.length + cnt'.length + b.toNat + 1 : Nat) : Int) then Int.fdiv b (sz : Int) else 0) = ((b.toNat / sz : Nat) : Int) := by
    have hbn : b = ((b.toNat : Nat) : Int) := by lia
    by_cases hlt : (sz : Int) ≤ b
    · rw [if_pos (by lia)]
      conv => lhs; rw [hbn]
      rw [Int.fdiv_eq_ediv_of_nonneg _ (by lia)]
      rfl
    · rw [if_neg (by lia), Nat.div_eq_of_lt (by lia)]
      rfl
  rw [hup, hd]
  generalize hS : ilF cnt (sz : Int) (cnt.length + cnt'.length + b.toNat + 1) = S at e1
  obtain ⟨M, hM⟩ : ∃ M : Int, S + nt = M := ⟨_, rfl⟩
  have e3 : (c : Int) = b + (sz : Int) * M := by rw [e1, hM]
  have hMn : 0 ≤ M ∨ M < 0 := by lia
  have hdm := Nat.div_add_mod b.toNat sz
  have hml := Nat.mod_lt b.toNat h1
  unfold nextC
  have key : ((c / sz : Nat) : Int) = ((b.toNat / sz : Nat) : Int) + M := by
    have : (c : Int) = ((b.toNat % sz : Nat) : Int) + (sz : Int) * (((b.toNat / sz : Nat) : Int) + M) := by
      rw [e3, Int.mul_add]
      have h9 : b = (sz : Int) * ((b.toNat / sz : Nat) : Int) + ((b.toNat % sz : Nat) : Int) := by
        have : ((b.toNat : Nat) : Int) = ((sz * (b.toNat / sz) + b.toNat % sz : Nat) : Int) := by rw [hdm]
        push_cast at this ⊢
        lia
      lia
    have h8 : ((c / sz : Nat) : Int) = (c : Int) / (sz : Int) := rfl
    rw [h8, this, Int.add_mul_ediv_left _ _ (by lia), Int.ediv_eq_zero_of_lt (by lia) (by lia)]
    lia
  push_cast
  push_cast at key
  generalize (b.toNat : Int) / (sz : Int) = Y at key ⊢
  rw [key, Int.zero_add, show S + Y + (nt + 1) = Y + M + 1 by lia, Int.mul_comm]
theorem ws_fold {sz : Nat} (h1 : 1 ≤ sz) : ∀ (its : List It) (st : List Int × Int × Int) (c N : Nat), WsInv sz st c N → WsInv sz ((leadL its).foldl wsStep st) (colI sz c its) (N + its.length)
  | [], st, c, N, I => I
  | .any a :: r, st, c, N, I => by
    have := ws_fold h1 r _ _ _ I.blank
    rw [List.length_cons, show N + (r.length + 1) = N + 1 + r.length by lia]
    exact this
  | .tab _ m :: r, st, c, N, I => by
    have := ws_fold h1 r _ _ _ (I.tab h1)
    rw [List.length_cons, show N + (r.length + 1) = N + 1 + r.length by lia]
    exact this
theorem lead_ok : ∀ its : List It, ∀ c ∈ leadL its, wsOk c = true
  | [], _, h => nomatch h
  | .any _ :: r, c, h => by
    rcases List.mem_cons.mp h with rfl | h
    · rfl
    · exact lead_ok r c h
  | .tab _ _ :: r, c, h => by
    rcases List.mem_cons.mp h with rfl | h
    · rfl
    · exact lead_ok r c h
theorem ws_all {sz : Nat} (h1 : 1 ≤ sz) (its : List It) (t : List Nat) (ht : t.takeWhile wsOk = []) : WsInv sz (wsAll (leadL its ++ t)) (colI sz 0 its) its.length := by
  have e : (leadL its ++ t).takeWhile wsOk = leadL its := by
    rw [List.takeWhile_append_of_pos (lead_ok its), ht, List.append_nil]
  unfold wsAll
  rw [e]
  have := ws_fold h1 its ([], 0, 0) 0 0 ⟨?_, Int.le_refl _, fun _ h => nomatch h⟩
  · simpa using this
  · rw [level_big (k := 0) (by lia) (by simp)]
    simp [ilF]
end Mine
theorem Mine.off_P7 : True := by w_top off; trivial
theorem Mine.rs_P7 {M : Model} {A : Around} {E : Value → Shared → Prop} {s : Shared} {Q : Flow → Shared → Prop} {p : Pos} {env : Env} (h : wpAny M A (exec (Stmt.Pass p) env) Q E s) : wpAny M A (exec (Stmt.Pass p) env) Q E s := by first | (walk1; fail) | exact h
namespace Mine
theorem leadL_append : ∀ a b : List It, leadL (a ++ b) = leadL a ++ leadL b
  | [], _ => rfl
  | .any _ :: r, b => by simp [leadL, leadL_append r b]
  | .tab _ _ :: r, b => by simp [leadL, leadL_append r b]
theorem patL_append (k : Nat) : ∀ a b : List It, patL k (a ++ b) = patL k a ++ patL k b
  | [], _ => rfl
  | .any _ :: r, b => by simp [patL, patL_append k r b]
  | .tab _ _ :: r, b => by simp [patL, patL_append k r b]
theorem at3_any : ∀ (k : Nat) (i : Int), 0 ≤ i → at3 (kindN k).anys.a (kindN k).anys.b (kindN k).anys.c i = tx (anyK k i.toNat).t := by
  intro k i h0
  obtain ⟨j, rfl⟩ := Int.eq_ofNat_of_zero_le h0
  rw [Int.toNat_natCast]
  have h2 : ∀ m : Nat, ¬ ((m + 2 : Nat) : Int) = 0 ∧ ¬ ((m + 2 : Nat) : Int) = 1 := fun m => by lia
  match k, j with
  | 0, 0 => decide +kernel
  | 0, 1 => decide +kernel
  | 0, m + 2 => unfold at3; rw [if_neg (h2 m).1, if_neg (h2 m).2]; exact (by decide +kernel : (kindN 0).anys.c = tx (anyK 0 2).t)
  | 1, 0 => decide +kernel
  | 1, 1 => decide +kernel
  | 1, m + 2 => unfold at3; rw [if_neg (h2 m).1, if_neg (h2 m).2]; exact (by decide +kernel : (kindN 1).anys.c = tx (anyK 1 2).t)
  | 2, 0 => decide +kernel
  | 2, 1 => decide +kernel
  | 2, m + 2 => unfold at3; rw [if_neg (h2 m).1, if_neg (h2 m).2]; exact (by decide +kernel : (kindN 2).anys.c = tx (anyK 2 2).t)
  | 3, 0 => decide +kernel
  | 3, 1 => decide +kernel
  | 3, m + 2 => unfold at3; rw [if_neg (h2 m).1, if_neg (h2 m).2]; exact (by decide +kernel : (kindN 3).anys.c = tx (anyK 3 2).t)
  | 4, 0 => decide +kernel
  | 4, 1 => decide +kernel
  | 4, m + 2 => unfold at3; rw [if_neg (h2 m).1, if_neg (h2 m).2]; exact (by decide +kernel : (kindN 4).anys.c = tx (anyK 4 2).t)
  | _ + 5, 0 => exact (by decide +kernel : at3 (kindN 5).anys.a (kindN 5).anys.b (kindN 5).anys.c ((0 : Nat) : Int) = tx (anyK 5 0).t)
  | _ + 5, 1 => exact (by decide +kernel : at3 (kindN 5).anys.a (kindN 5).anys.b (kindN 5).anys.c ((1 : Nat) : Int) = tx (anyK 5 1).t)
  | _ + 5, m + 2 => unfold at3; rw [if_neg (h2 m).1, if_neg (h2 m).2]; exact (by decide +kernel : (kindN 5).anys.c = tx (anyK 5 2).t)
theorem at3_mk : ∀ (k : Nat) (i : Int), 0 ≤ i → at3 (kindN k).marks.a (kindN k).marks.b (kindN k).marks.c i = tx (mkK k i.toNat).t := by
  intro k i h0
  obtain ⟨j, rfl⟩ := Int.eq_ofNat_of_zero_le h0
  rw [Int.toNat_natCast]
  have h2 : ∀ m : Nat, ¬ ((m + 2 : Nat) : Int) = 0 ∧ ¬ ((m + 2 : Nat) : Int) = 1 := fun m => by lia
  match k, j with
  | 0, 0 => decide +kernel
  | 0, 1 => decide +kernel
  | 0, m + 2 => unfold at3; rw [if_neg (h2 m).1, if_neg (h2 m).2]; exact (by decide +kernel : (kindN 0).marks.c = tx (mkK 0 2).t)
  | 1, 0 => decide +kernel
  | 1, 1 => decide +kernel
  | 1, m + 2 => unfold at3; rw [if_neg (h2 m).1, if_neg (h2 m).2]; exact (by decide +kernel : (kindN 1).marks.c = tx (mkK 1 2).t)
  | 2, 0 => decide +kernel
  | 2, 1 => decide +kernel
  | 2, m + 2 => unfold at3; rw [if_neg (h2 m).1, if_neg (h2 m).2]; exact (by decide +kernel : (kindN 2).marks.c = tx (mkK 2 2).t)
  | 3, 0 => decide +kernel
  | 3, 1 => decide +kernel
  | 3, m + 2 => unfold at3; rw [if_neg (h2 m).1, if_neg (h2 m).2]; exact (by decide +kernel : (kindN 3).marks.c = tx (mkK 3 2).t)
  | 4, 0 => decide +kernel
  | 4, 1 => decide +kernel
  | 4, m + 2 => unfold at3; rw [if_neg (h2 m).1, if_neg (h2 m).2]; exact (by decide +kernel : (kindN 4).marks.c = tx (mkK 4 2).t)
  | _ + 5, 0 => exact (by decide +kernel : at3 (kindN 5).marks.a (kindN 5).marks.b (kindN 5).marks.c ((0 : Nat) : Int) = tx (mkK 5 0).t)
  | _ + 5, 1 => exact (by decide +kernel : at3 (kindN 5).marks.a (kindN 5).marks.b (kindN 5).marks.c ((1 : Nat) : Int) = tx (mkK 5 1).t)
  | _ + 5, m + 2 => unfold at3; rw [if_neg (h2 m).1, if_neg (h2 m).2]; exact (by decide +kernel : (kindN 5).marks.c = tx (mkK 5 2).t)
noncomputable def SideOf (k : Nat) (q : Str × Str) (its : List It) : Prop := q.1 = tx (leadL its) ∧ q.2 = tx (patL k its)
theorem side_any {k : Nat} {q : Str × Str} {its : List It} (h : SideOf k q its) (i : Nat) : SideOf k (q.1 ++ Str.ofString " ", q.2 ++ tx (anyK k i).t) (its ++ [.any i]) := by
  obtain ⟨h1, h2⟩ := h
  refine ⟨?_, ?_⟩
  · rw [h1, show Str.ofString " " = tx [32] by decide +kernel, tx_append, leadL_append]
    rfl
  · show q.2 ++ tx (anyK k i).t = _
    rw [h2, tx_append, patL_append]
    simp [patL]
theorem side_grow {k : Nat} {f : Nat → Str} (hf : ∀ j, ∃ i, f j = tx (anyK k i).t) : ∀ (n : Nat) (q : Str × Str) (its : List It), SideOf k q its → ∃ its', SideOf k (grow f n q) its' ∧ its'.length = its.length + n
  | 0, q, its, h => ⟨its, h, rfl⟩
  | n + 1, q, its, h => by
    obtain ⟨its', h1, h2⟩ := side_grow hf n q its h
    obtain ⟨i, hi⟩ := hf n
    refine ⟨its' ++ [.any i], ?_, by simp [h2]; lia⟩
    show SideOf k ((grow f n q).1 ++ Str.ofString " ", (grow f n q).2 ++ f n) _
    rw [hi]
    exact side_any h1 i
theorem side_turn {k : Nat} {q : Str × Str} {its : List It} (h : SideOf k q its) (t : Int) : ∃ its', SideOf k (turnT (at3 (kindN k).anys.a (kindN k).anys.b (kindN k).anys.c) (at3 (kindN k).marks.a (kindN k).marks.b (kindN k).marks.c) q t) its' ∧ its'.length ≤ its.length + 5 := by
  have hfm : ∀ z : Int, 0 ≤ Int.fmod z 3 := fun z => Int.fmod_nonneg_of_pos z (by decide)
  obtain ⟨its', h1, h2⟩ := side_grow (k := k) (f := fun j => at3 (kindN k).anys.a (kindN k).anys.b (kindN k).anys.c (Int.fmod (Int.fdiv t 3 + (j : Int)) 3)) (fun j => ⟨_, at3_any k _ (hfm _)⟩) (Int.fmod t 5).toNat q its h
  have hlt : Int.fmod t 5 < 5 := Int.fmod_lt_of_pos t (by decide)
  unfold turnT
  dsimp only
  by_cases hz : Int.fmod (Int.fdiv t 5) 7 = 0
  · rw [if_pos hz]
    exact ⟨its', h1, by lia⟩
  · rw [if_neg hz]
    refine ⟨its' ++ [.tab (decide (Int.fmod (Int.fdiv t 2) 2 = 1)) (Int.fmod (Int.fdiv t 7) 3).toNat], ⟨?_, ?_⟩, by simp; lia⟩
    · rw [h1.1, show Str.ofString "\t" = tx [9] by decide +kernel, tx_append, leadL_append]
      rfl
    · have hs : stars t = tx (if decide (Int.fmod (Int.fdiv t 2) 2 = 1) = true then [42, 42] else [42]) := by
        have h0 : 0 ≤ Int.fmod (Int.fdiv t 2) 2 := Int.fmod_nonneg_of_pos _ (by decide)
        have h9 : Int.fmod (Int.fdiv t 2) 2 < 2 := Int.fmod_lt_of_pos _ (by decide)
        unfold stars
        rcases (by lia : Int.fmod (Int.fdiv t 2) 2 = 0 ∨ Int.fmod (Int.fdiv t 2) 2 = 1) with e | e
        · rw [e]; decide +kernel
        · rw [e]; decide +kernel
      show (grow _ _ q).2 ++ (stars t ++ _) = _
      rw [h1.2, hs, at3_mk k _ (hfm _), tx_append, tx_append, patL_append]
      simp only [patL, List.append_nil]
theorem side_fold {k : Nat} : ∀ (ts : List Int) (q : Str × Str) (its : List It), SideOf k q its → ∃ its', SideOf k (ts.foldl (turnT (at3 (kindN k).anys.a (kindN k).anys.b (kindN k).anys.c) (at3 (kindN k).marks.a (kindN k).marks.b (kindN k).marks.c)) q) its' ∧ its'.length ≤ its.length + 5 * ts.length
  | [], q, its, h => ⟨its, h, by simp⟩
  | t :: ts, q, its, h => by
    obtain ⟨i1, h1, h2⟩ := side_turn h t
    obtain ⟨i2, h3, h4⟩ := side_fold ts _ i1 h1
    exact ⟨i2, h3, by simp only [List.length_cons]; lia⟩
theorem side_items (k : Nat) (ts : List Int) (hl : ts.length = 4) : ∃ its : List It, SideOf k (sideF (at3 (kindN k).anys.a (kindN k).anys.b (kindN k).anys.c) (at3 (kindN k).marks.a (kindN k).marks.b (kindN k).marks.c) ts) its ∧ its.length ≤ 23 := by
  have hfm : ∀ z : Int, 0 ≤ Int.fmod z 3 := fun z => Int.fmod_nonneg_of_pos z (by decide)
  obtain ⟨i1, h1, h2⟩ := side_fold (k := k) ts (Str.ofString "", Str.ofString "") [] ⟨by decide +kernel, by show Str.ofString "" = tx []; decide +kernel⟩
  obtain ⟨i2, h3, h4⟩ := side_grow (k := k) (f := fun j => at3 (kindN k).anys.a (kindN k).anys.b (kindN k).anys.c (Int.fmod (ts.sum + (j : Int)) 3)) (fun j => ⟨_, at3_any k _ (hfm _)⟩) (Int.fmod ts.sum 4).toNat _ i1 h1
  have hlt : Int.fmod ts.sum 4 < 4 := Int.fmod_lt_of_pos _ (by decide)
  refine ⟨i2, h3, ?_⟩
  rw [hl] at h2
  simp at h2
  lia
theorem mul_tx (l : List Nat) (n : Int) : Txt.mul (tx l) n = tx ((List.replicate n.toNat l).flatten) := by
  unfold Txt.mul
  by_cases h : n < 1
  · rw [if_pos h, show n.toNat = 0 by lia]
    rfl
  · rw [if_neg h]
    split
    · rename_i h2
      simp only [Bool.or_eq_true, beq_iff_eq] at h2
      rcases h2 with rfl | h2
      · simp
      · have : l = [] := by rw [tx_len] at h2; exact List.length_eq_zero_iff.mp h2
        subst this
        simp
    · have key : ∀ (m : Nat) (acc : Array Nat), ((List.replicate m (tx l).cps).foldl (· ++ ·) acc) = acc ++ ((List.replicate m l).flatten).toArray := by
        intro m
        induction m with
        | zero => intro acc; simp
        | succ m ih => intro acc; rw [List.replicate_succ, List.foldl_cons, ih]; simp [List.replicate_succ]
      rw [key]
      simp
theorem rul_blocks (k sz : Nat) (h1 : 1 ≤ sz) : ∀ K : Nat, rulL k sz (K * sz) = (List.replicate K (List.replicate (sz - 1) (plC k) ++ [mkC k])).flatten
  | 0 => by simp [rulL]
  | K + 1 => by
    have ih := rul_blocks k sz h1 K
    rw [List.replicate_succ, List.flatten_cons, ← ih]
    unfold rulL
    rw [show (K + 1) * sz = sz + K * sz by rw [Nat.add_mul]; lia, List.range_add, List.map_append]
    congr 1
    · apply List.ext_getElem
      · simp; lia
      · intro q hq1 hq2
        simp only [List.length_map, List.length_range] at hq1
        rw [List.getElem_map, List.getElem_range]
        by_cases hq : q + 1 = sz
        · rw [if_pos (by rw [hq]; exact Nat.mod_self _), List.getElem_append_right (by simp; lia)]
          simp
        · rw [if_neg (by rw [Nat.mod_eq_of_lt (by lia)]; lia), List.getElem_append_left (by simp; lia)]
          simp
    · rw [List.map_map]
      refine List.map_congr_left fun q _ => ?_
      show (if (sz + q + 1) % sz = 0 then mkC k else plC k) = if (q + 1) % sz = 0 then mkC k else plC k
      rw [show sz + q + 1 = q + 1 + sz by lia, Nat.add_mod_right]
theorem rul_take (k sz n m : Nat) (h : n ≤ m) : (rulL k sz m).take n = rulL k sz n := by
  unfold rulL
  rw [← List.map_take, List.take_range, Nat.min_eq_left h]
theorem kind_signs : ∀ k : Nat, (kindN k).mark = tx [mkC k] ∧ (kindN k).plain = tx [plC k]
  | 0 => by decide +kernel
  | 1 => by decide +kernel
  | 2 => by decide +kernel
  | 3 => by decide +kernel
  | 4 => by decide +kernel
  | _ + 5 => (by decide +kernel : (kindN 5).mark = tx [mkC 5] ∧ (kindN 5).plain = tx [plC 5])
theorem slice_to (x : Str) (n : Nat) : Txt.slice x none (some (n : Int)) = tx (x.cps.toList.take n) := by
  have e : Txt.slice x none (some (n : Int)) = Txt.slice x (some 0) (some (n : Int)) := by
    unfold Txt.slice
    rw [StrLaws.sliceIdx_none_lo]
  rw [e]
  exact (View.start x).slice n (by lia)
theorem ruler_eq (k sz n : Nat) (h1 : 1 ≤ sz) : Txt.slice (Txt.mul (Txt.mul (kindN k).plain ((sz : Int) - 1) ++ (kindN k).mark) (Int.fdiv (n : Int) (sz : Int) + 1)) none (some (n : Int)) = tx (rulL k sz n) := by
  obtain ⟨hm, hp⟩ := kind_signs k
  have hd : Int.fdiv (n : Int) (sz : Int) = ((n / sz : Nat) : Int) := by rw [Int.fdiv_eq_ediv_of_nonneg _ (by lia)]; rfl
  rw [hm, hp, mul_tx, tx_append, mul_tx, hd, slice_to, show (((n / sz : Nat) : Int) + 1).toNat = n / sz + 1 by generalize n / sz = y; lia, show ((sz : Int) - 1).toNat = sz - 1 by lia]
  have hb : (List.replicate (sz - 1) [plC k]).flatten = List.replicate (sz - 1) (plC k) := by
    generalize sz - 1 = m
    induction m with
    | zero => rfl
    | succ m ih => rw [List.replicate_succ, List.flatten_cons, ih]; rfl
  rw [hb, ← rul_blocks k sz h1]
  show tx ((rulL k sz ((n / sz + 1) * sz)).take n) = _
  rw [rul_take]
  have h2 := Nat.div_add_mod n sz
  have h3 := Nat.mod_lt n h1
  rw [Nat.add_mul, Nat.one_mul, Nat.mul_comm]
  lia
theorem neg_lo (x : Str) (j : Int) (u : Option Int) (h0 : j < 0) (h1 : -(x.length : Int) ≤ j) : Txt.slice x (some j) u = Txt.slice x (some (j + x.length)) u := by
  have e : Builtin.Str.strSliceIndices (some j) u 1 x.length = Builtin.Str.strSliceIndices (some (j + x.length)) u 1 x.length := by
    have a2 : ¬ (j + (x.length : Int) < 0) := by lia
    simp [Builtin.Str.strSliceIndices, h0, a2]
  unfold Txt.slice
  rw [e]
theorem neg_hi (x : Str) (j : Int) (l : Option Int) (h0 : j < 0) (h1 : -(x.length : Int) ≤ j) : Txt.slice x l (some j) = Txt.slice x l (some (j + x.length)) := by
  have e : Builtin.Str.strSliceIndices l (some j) 1 x.length = Builtin.Str.strSliceIndices l (some (j + x.length)) 1 x.length := by
    have a2 : ¬ (j + (x.length : Int) < 0) := by lia
    simp [Builtin.Str.strSliceIndices, h0, a2]
  unfold Txt.slice
  rw [e]
theorem slice_end (x : Str) (l : Option Int) : Txt.slice x l none = Txt.slice x l (some (x.length : Int)) := by
  unfold Txt.slice
  rw [StrLaws.sliceIdx_none_hi]
theorem shell (b : List Nat) : Txt.slice (tx ([40, 63, 115, 58] ++ (b ++ [41, 92, 90]))) none (some 4) = Str.ofString "(?s:" ∧ Txt.slice (tx ([40, 63, 115, 58] ++ (b ++ [41, 92, 90]))) (some (-3)) none = Str.ofString ")\\Z" ∧
    Txt.slice (tx ([40, 63, 115, 58] ++ (b ++ [41, 92, 90]))) (some 4) (some (-3)) = tx b := by
  have hl : (tx ([40, 63, 115, 58] ++ (b ++ [41, 92, 90]))).length = b.length + 7 := by rw [tx_len]; simp
  have V : View (tx ([40, 63, 115, 58] ++ (b ++ [41, 92, 90]))) 0 ([40, 63, 115, 58] ++ (b ++ [41, 92, 90])) := View.start _
  have V4 : View (tx ([40, 63, 115, 58] ++ (b ++ [41, 92, 90]))) 4 (b ++ [41, 92, 90]) := View.step V rfl
  have V5 : View (tx ([40, 63, 115, 58] ++ (b ++ [41, 92, 90]))) (4 + (b.length : Int)) [41, 92, 90] := View.step V4 rfl
  refine ⟨?_, ?_, ?_⟩
  · refine (slice_to _ 4).trans ?_
    exact (by decide +kernel : tx [40, 63, 115, 58] = Str.ofString "(?s:")
  · rw [neg_lo _ _ _ (by decide) (by rw [hl]; lia), slice_end, hl]
    rw [show (-3 : Int) + ((b.length + 7 : Nat) : Int) = 4 + (b.length : Int) by lia]
    rw [V5.slice 3 (by lia)]
    exact (by decide +kernel : tx [41, 92, 90] = Str.ofString ")\\Z")
  · rw [neg_hi _ _ _ (by decide) (by rw [hl]; lia), hl, show (-3 : Int) + ((b.length + 7 : Nat) : Int) = 4 + (b.length : Int) by lia, V4.slice b.length rfl]
    simp
theorem count_lead (its : List It) : Txt.count (tx (leadL its)) (Str.ofString " ") = (cntA its : Int) ∧ Txt.count (tx (leadL its)) (Str.ofString "\t") = (cntT its : Int) := by
  rw [show Str.ofString " " = ⟨#[32]⟩ by decide +kernel, show Str.ofString "\t" = ⟨#[9]⟩ by decide +kernel, count_cnt, count_cnt]
  show cnt 32 (leadL its) = _ ∧ cnt 9 (leadL its) = _
  induction its with
  | nil => exact ⟨rfl, rfl⟩
  | cons a r ih =>
    cases a with
    | any i =>
      show cnt 32 (32 :: leadL r) = _ ∧ cnt 9 (32 :: leadL r) = _
      rw [cnt_cons, cnt_cons, ih.1, ih.2]
      simp only [cntA, cntT]
      exact ⟨by simp; lia, by simp⟩
    | tab b i =>
      show cnt 32 (9 :: leadL r) = _ ∧ cnt 9 (9 :: leadL r) = _
      rw [cnt_cons, cnt_cons, ih.1, ih.2]
      simp only [cntA, cntT]
      exact ⟨by simp, by simp; lia⟩
end Mine
theorem Mine.off_S14 : True := by w_top off; trivial
theorem Mine.rs_S14 {M : Model} {A : Around} {E : Value → Shared → Prop} {s : Shared} {Q : Flow → Shared → Prop} {p : Pos} {env : Env} (h : wpAny M A (exec (Stmt.Pass p) env) Q E s) : wpAny M A (exec (Stmt.Pass p) env) Q E s := by first | (walk1; fail) | exact h
namespace Mine
theorem reg_S14 : True := by
  k_with_none
  k_with "cj" => (first | with_reducible assumption | exact cj1 (by with_reducible assumption) | exact cj2 (by with_reducible assumption) | exact cj3 (by with_reducible assumption) | exact cj4 (by with_reducible assumption) | exact cj5 (by with_reducible assumption) | exact ce2 (by with_reducible assumption) | exact ce3 (by with_reducible assumption) | exact ce4 (by with_reducible assumption) | exact ce5 (by with_reducible assumption))
  k_with "ne1" => (refine neN ?_; first | with_reducible assumption | (refine Ne.symm ?_; with_reducible assumption) | walk_at "cj" | (refine Ne.symm ?_; walk_at "cj") | (refine Nat.ne_of_lt ?_; walk_at "cj") | (refine Nat.ne_of_gt ?_; walk_at "cj") | ((try dsimp only); omega))
  k_with "eval Constant int" => (refine r_int ?_)
  k_with "eval Constant str" => (refine r_str ?_)
  k_with "binaryOp Add int int" => (refine r_add ?_)
  k_with "binaryOp Sub int int" => (refine r_sub ?_)
  k_with "unaryOp USub int" => (refine r_neg ?_)
  k_with "inplaceOp Add int int" => (refine r_iadd ?_)
  k_with "eval Slice" => (refine r_slice ?_)
  k_with "SlQ" => (refine SlQ.go ?_)
  k_with "mget" => (first | with_reducible assumption | with_reducible exact upd_eq | ((with_reducible refine Eq.trans upd_eq ?_); rfl) | ((with_reducible refine upd_ne (by kernel_rfl) ?_); walk_at "mget") | (goal_lacks upd; first | exact if_pos rfl | (refine Eq.trans (if_neg (by decide)) ?_; walk_at "mget")))
  k_with "newTuple" => ((refine' r_tuple (by walk_at "asm") (by walk_at "asm") (by exact Nat.le_of_ble_eq_true rfl) ?_); intro _ _ _ _ _; walk_at "lt"; (try k_sweep))
  k_with "ite" => (first | with_reducible refine ite_tt ?_ | with_reducible refine ite_ff ?_ | (refine ite_pos (by with_reducible assumption) ?_) | (refine ite_neg (by refine ne_true_of_eq_false ?_; with_reducible assumption) ?_))
  k_with "tup" => (first | (refine News.isTup (by walk_at "asm") (by walk_at "mem")) | with_reducible assumption | (refine stays_tup (Fr.keep (by walk_at "asm")) (by walk_at "asm")))
  k_with "lst" => (first | (refine News.isList (by walk_at "asm") (by walk_at "mem")) | with_reducible assumption | (refine stays_list (Fr.keep (by walk_at "asm")) (by walk_at "asm")))
  k_with "off" => (first | exact List.forall_mem_nil _ | exact OwnOff.ne (by with_reducible assumption) (List.Mem.head _) | (refine List.forall_mem_cons.mpr ?_; refine And.intro ?_ ?_; (focus k_ne); (walk_at "off")))
  k_with "upd" => (first | (apply upd_hd; walk_at "off") | (apply upd_tl; (case hne => k_ne); (case hu => walk_at "upd")))
  k_with "RunTo" => ((first | refine NextTo.next (by with_reducible assumption) ?_ | refine NextTo.ret (by with_reducible assumption) ?_ | refine NextTo.brk (by with_reducible assumption) ?_ | refine NextTo.cont (by with_reducible assumption) ?_); (try dsimp only))
  k_with "go" => (repeat' (first | (k_unfold; (try dsimp only)) | walk1 | (dsimp only; walk1)))
  k_with "sides" => (((case b => (k_is)); (case c => (k_is)); (case a => (exact Ar.room (by assumption))); (case d => (exact BindsTo.of_eq rfl)); (case e => (exact locs rfl)); (case g => (rfl)); (case h => (rfl)); (case i => (rfl)); (case j => (decide))))
  k_with "mem" => (first | exact List.Mem.head _ | (refine' List.Mem.tail _ ?_; walk_at "mem"))
  k_with "units" => (first | exact Ar.units0 (by assumption) _ | exact Ar.unitsD (by assumption) (by decide) _)
  k_with "asm" => (with_reducible assumption)
  k_with "lt" => (((rename ∀ p ∈ _, (p : Addr × Obj).1 < _ => l9); (replace l9 := allLt_of l9); (dsimp only [AllLt] at l9)))
  k_with "ne" => (((rename ∀ p ∈ _, (p : Addr × Obj).1 ≠ _ => l9); (replace l9 := allNe_of l9); (dsimp only [AllNe] at l9)))
  k_with "storeName" => ((with_reducible refine' r_store (by walk_at "asm") (by walk_at "asm") (by kernel_rfl) ?_); intro _ _ _; (try k_sweep))
  k_with "exec While Compare cons nil" => (refine Halt.out ?_)
  k_with "exec While BoolOp cons nil" => (refine Halt.out ?_)
  k_with "exec While Constant cons nil" => (refine Halt.out ?_)
  k_with "exec While Name cons nil" => (refine Halt.out ?_)
  k_with "exec While" => (refine Halt.out ?_)
  k_with "execs cons" => (first | (refine execs_lastQ (fun tk => ?_)) | (refine execs_consQ (fun tk qk hqk => ?_)))
  k_with "newList" => (((refine' r_list (by walk_at "asm") (by walk_at "asm") (by exact Nat.le_of_ble_eq_true rfl) ?_); intro _ _ _ _ _; walk_at "lt"; (try k_sweep)))
  k_with "subscriptTail Name Slice str ref" => ((with_reducible first | refine' slice_ss5 (by walk_at "asm") (by walk_at "asm") (by with_reducible assumption) ?_ | refine' slice_sn5 (by walk_at "asm") (by walk_at "asm") (by with_reducible assumption) ?_); intro _ _ _ _ _; (try k_sweep))
  k_with "handled" => (first | exact Ar.hhD (by assumption) _ | exact Ar.hh (by assumption) | rfl)
  k_with "assign Tuple" => (((with_reducible show wpAny _ _ (assign (Expr.Tuple _ _ _) _ (Value.ref _)) _ _ _); k_dflt (refine' r_unpack (by walk_at "asm") (by walk_at "asm") (by walk_at "tup") (by walk_at "handled") rfl rfl ?_); intro _ _ _; (try k_sweep)))
  k_with "asz" => (k_dflt (first | exact aszL (by with_reducible assumption) | exact Nat.le_of_ble_eq_true rfl))
  k_with "call builtin:list.append" => (((with_reducible show wpAny _ _ (call (Value.builtin _) [Value.ref _, _]) _ _ _); (refine' r_append (by walk_at "asm") (by walk_at "asm") (by walk_at "upd") (by walk_at "asz") ?_); intro _ _ _; (try k_sweep)))
  k_with "sub" => ((intro _ hpK9; first | exact List.mem_of_mem_tail hpK9 | (simp only [List.mem_cons, List.mem_append] at hpK9 ⊢; grind)))
  k_with "exec For Tuple Name cons nil" => ((k_dflt (refine' wpAny_For ?_ (by intro _; rfl))))
  k_with "exec For Name Name cons nil" => ((k_dflt (refine' wpAny_For ?_ (by intro _; rfl))))
  k_with "exec For Name Call cons nil" => ((k_dflt (refine' wpAny_For ?_ (by intro _; rfl))))
  k_with "exec For Name List cons nil" => ((k_dflt (refine' wpAny_For ?_ (by intro _; rfl))))
  k_with "exec For Name Attribute cons nil" => ((k_dflt (refine' wpAny_For ?_ (by intro _; rfl))))
  k_with "pyIter ref" => (refine Halt.out ?_)
  k_with "subscriptTail Name Constant ref int" => (((with_reducible show wpAny _ _ (subscriptTail _ _ (Value.ref _) (Value.int _ _)) _ _ _); (refine' item_tupleL (by refine' News.isTup (by walk_at "asm") (by walk_at "mem")) (by decide) (by decide) rfl rfl ?_ (by with_unfolding_all rfl) (by intro _; with_unfolding_all rfl))))
  k_with "eval Name" => ((goal_lacks compEnvC; first | (with_reducible refine' nmK (by decide +kernel) (by walk_at "asm") (by walk_at "mget") ?_) | k_dflt (first | (goal_lacks envOf; refine' nameX_L (by walk_at "asm") (by walk_at "mget") ?_ rfl (by with_unfolding_all rfl) (by decide)) | (goal_lacks envOf; refine' nameX_C (by walk_at "asm") rfl (by walk_at "mem") (by walk_at "asm") ?_ rfl (by with_unfolding_all rfl) (by decide)) | (refine' nameX_K (by walk_at "asm") (by walk_at "asm") (by k_asm) (by k_is) ?_ rfl (by with_unfolding_all rfl) (by decide)) | (refine' nameX_B (by walk_at "asm") (by walk_at "asm") (by k_asm) (by k_is) (by boot_fast) (by decide) ?_ rfl (by with_unfolding_all rfl) (by decide)))))
  k_with "loadName" => ((first | (with_reducible refine' ldL (by walk_at "asm") (by walk_at "mget") (by kernel_rfl) ?_) | k_dflt (refine' ldX (by walk_at "asm") (by walk_at "mget") ?_ rfl (by with_unfolding_all rfl))))
  trivial
section
variable {w : World} {A : Around} {E : Value → Shared → Prop} {s : Shared} {h₀ : Heap} {L : Addr} {m : Str → Option Value} {news : List (Addr × Obj)}
theorem totals_call {Q : Value → Shared → Prop} {l : Addr} {vs : List Value} {ns : List Int} (F : Fr h₀ L s.heap m) (N : News h₀ L s.heap news) (G : Gd w h₀) (hA : Ar A 4 40) (hl : h₀.IsList l vs.toArray) (hvs : IntsAre vs ns) (hlen : ns.length ≤ 63)
    (h : ∀ D h' tk ts ys e, Fr h₀ L h' m → News h₀ L h' ((D, listOf (List.toArray ys) e) :: news) → IntsAre ys ts → ts.length = 4 → (∀ t ∈ ts, 0 ≤ t ∧ t ≤ 100000000) → Q (.ref D) { s with heap := h', toks := tk }) :
    wpAny (model PR w) A (call (.ref 185) [.ref l] []) Q E s := by
  refine wpAny_call (totals_walk (G.keeps F.keep) hA (stays_list F.keep hl) hvs hlen fun D h' tk ys e ts hk hn hD hys h4 hb => ?_)
  refine h D h' tk ts ys.toList e (stayF F hk) (moreN F (stayN N hk) hn ?_) hys h4 hb
  rw [Array.toArray_toList]
  exact hD
theorem kind_call {Q : Value → Shared → Prop} {k : Int} {tk : Tok} (F : Fr h₀ L s.heap m) (N : News h₀ L s.heap news) (G : Gd w h₀) (hA : Ar A 4 40) (hk : 0 ≤ k ∧ k < 6)
    (h : ∀ a ma aa t1 t2 u1 u2 u3 v1 v2 v3 h' tk, Fr h₀ L h' m → News h₀ L h' ((ma, tupOf [.str (kindN k.toNat).marks.a u1, .str (kindN k.toNat).marks.b u2, .str (kindN k.toNat).marks.c u3]) :: (aa, tupOf [.str (kindN k.toNat).anys.a v1, .str (kindN k.toNat).anys.b v2, .str (kindN k.toNat).anys.c v3]) :: news) →
      IsTup h' a [Value.str (kindN k.toNat).mark t1, Value.str (kindN k.toNat).plain t2, Value.ref ma, Value.ref aa].toArray → Q (.ref a) { s with heap := h', toks := tk }) :
    wpAny (model PR w) A (call (.ref 180) [.int k tk] []) Q E s := by
  refine wpAny_call (kind_walk (G.keeps F.keep) hA hk fun a h' tk hst hK => ?_)
  obtain ⟨t1, t2, ma, aa, e1, ⟨⟨u1, u2, u3, e2⟩, v1, v2, v3, e3⟩, n1, n2⟩ := hK
  exact h a ma aa t1 t2 u1 u2 u3 v1 v2 v3 h' tk (stayF F hst) (moreN F (moreN F (stayN N hst) n2 e3) n1 e2) ⟨_, e1, rfl, _, rfl⟩
theorem side_call {Q : Value → Shared → Prop} {k : Nat} {D ma aa : Addr} {ys : List Value} {e : Nat} {ts : List Int} {u1 u2 u3 v1 v2 v3 : Tok} (F : Fr h₀ L s.heap m) (N : News h₀ L s.heap news) (G : Gd w h₀) (hA : Ar A 4 40)
    (hD : (D, listOf (List.toArray ys) e) ∈ news) (hys : IntsAre ys ts) (h4 : ts.length = 4) (hb : ∀ t ∈ ts, 0 ≤ t ∧ t ≤ 100000000) (hma : (ma, tupOf [.str (kindN k).marks.a u1, .str (kindN k).marks.b u2, .str (kindN k).marks.c u3]) ∈ news) (haa : (aa, tupOf [.str (kindN k).anys.a v1, .str (kindN k).anys.b v2, .str (kindN k).anys.c v3]) ∈ news)
    (h : ∀ a t1 t2 its h' tk, its.length ≤ 23 → Fr h₀ L h' m → News h₀ L h' news → IsTup h' a [Value.str (tx (leadL its)) t1, Value.str (tx (patL k its)) t2].toArray → Q (.ref a) { s with heap := h', toks := tk }) :
    wpAny (model PR w) A (call (.ref 192) [.ref D, .ref ma, .ref aa] []) Q E s := by
  have hlen : ∀ k : Nat, ((kindN k).anys.a.length ≤ 10 ∧ (kindN k).anys.b.length ≤ 10 ∧ (kindN k).anys.c.length ≤ 10) ∧ (kindN k).marks.a.length ≤ 10 ∧ (kindN k).marks.b.length ≤ 10 ∧ (kindN k).marks.c.length ≤ 10 := fun k => by
    match k with
    | 0 => decide
    | 1 => decide
    | 2 => decide
    | 3 => decide
    | 4 => decide
    | m + 5 => exact (by decide : ((kindN 5).anys.a.length ≤ 10 ∧ (kindN 5).anys.b.length ≤ 10 ∧ (kindN 5).anys.c.length ≤ 10) ∧ (kindN 5).marks.a.length ≤ 10 ∧ (kindN 5).marks.b.length ≤ 10 ∧ (kindN 5).marks.c.length ≤ 10)
  obtain ⟨⟨l1, l2, l3⟩, l4, l5, l6⟩ := hlen k
  refine wpAny_call (side_walk (G.keeps F.keep) hA (N _ hD).1 hys h4 hb ⟨_, (N _ haa).1, rfl, _, rfl⟩ ⟨_, (N _ hma).1, rfl, _, rfl⟩ l1 l2 l3 l4 l5 l6 fun a h' tk t1 t2 hst ha => ?_)
  obtain ⟨its, ⟨q1, q2⟩, hi⟩ := side_items k ts h4
  rw [q1, q2] at ha
  exact h a t1 t2 its h' tk hi (stayF F hst) (stayN N hst) ⟨_, ha, rfl, _, rfl⟩
theorem patL_len (k : Nat) : ∀ its : List It, (patL k its).length ≤ 8 * its.length
  | [] => Nat.le_refl _
  | .any i :: r => by
    have h1 := (anyK_ok k i).lt.2
    have ih := patL_len k r
    simp only [patL, List.length_append, List.length_cons]
    lia
  | .tab b i :: r => by
    have h1 := (mkK_ok k i).lt.2
    have ih := patL_len k r
    simp only [patL, List.length_append, List.length_cons]
    cases b <;> simp <;> lia
theorem stepsN_le : ∀ its : List It, stepsN its ≤ 3 * its.length
  | [] => Nat.le_refl _
  | .any _ :: r => by
    have := stepsN_le r
    simp only [stepsN, List.length_cons]
    lia
  | .tab b _ :: r => by
    have := stepsN_le r
    simp only [stepsN, List.length_cons]
    cases b <;> simp <;> lia
theorem outs_len (k : Nat) : ∀ its : List It, (outs k its).length ≤ 2 * its.length
  | [] => Nat.le_refl _
  | .any _ :: r => by
    have := outs_len k r
    simp only [outs, List.length_cons]
    lia
  | .tab _ _ :: r => by
    have := outs_len k r
    simp only [outs, List.length_cons]
    lia
theorem split_len : ∀ its : List It, (splitI its).1.length + ((splitI its).2.map fun g => g.2.length + 1).sum = its.length
  | [] => rfl
  | .any _ :: r => by
    have := split_len r
    simp only [splitI, List.length_cons]
    lia
  | .tab _ _ :: r => by
    have := split_len r
    simp only [splitI, List.length_cons, List.map_cons, List.sum_cons, List.length_nil]
    lia
theorem stT_sum (g : List Tk) (hg : ∀ a ∈ g, TkOk a) : ((stT g).map (·.length)).sum ≤ 6 * g.length := by
  induction g with
  | nil => exact Nat.le_refl _
  | cons a r ih =>
    have h1 := (hg a (List.Mem.head _)).lo
    have h2 := ih fun b hb => hg b (List.Mem.tail _ hb)
    have h3 : (tx a.o).length ≤ 6 := by rw [tx_len]; exact h1
    simp only [stT, List.map_cons, List.sum_cons, List.length_cons] at h2 ⊢
    lia
theorem ok_pre (k : Nat) (its : List It) : ∀ a ∈ preT k its, TkOk a := fun a ha => by
  obtain ⟨i, _, rfl⟩ := List.mem_map.mp ha
  exact anyK_ok k i
theorem ok_gs (k : Nat) (its : List It) : ∀ g ∈ gsT k its, ∀ a ∈ g, TkOk a := fun g hg a ha => by
  obtain ⟨q, _, rfl⟩ := List.mem_map.mp hg
  rcases List.mem_cons.mp ha with rfl | ha
  · exact mkK_ok k _
  · obtain ⟨i, _, rfl⟩ := List.mem_map.mp ha
    exact anyK_ok k i
theorem gs_len (k : Nat) (its : List It) : (preT k its).length + ((gsT k its).map List.length).sum = its.length := by
  have := split_len its
  have e : (gsT k its).map List.length = (splitI its).2.map fun g => g.2.length + 1 := by
    simp [gsT, grpT]
  rw [e]
  simpa [preT] using this
theorem sum_mem {l : List Nat} {a : Nat} (h : a ∈ l) : a ≤ l.sum := by
  induction l with
  | nil => cases h
  | cons b r ih =>
    rw [List.sum_cons]
    rcases List.mem_cons.mp h with rfl | h
    · lia
    · have := ih h
      lia
theorem tail_sum : ∀ (Gs : List (List Tk)), (∀ g ∈ Gs, ∀ a ∈ g, TkOk a) → ((tailF (Gs.map stT)).map (·.length)).sum + (tailF (Gs.map stT)).length ≤ 6 * (Gs.map List.length).sum + 12 * Gs.length
  | [], _ => Nat.le_refl _
  | [g], hg => by
    have h1 := stT_sum g (hg g (List.Mem.head _))
    have h2 := join_len_le (stT g)
    show ((Str.ofString ".*").length + ((Txt.join (Str.ofString "") (stT g)).length + 0)) + 2 ≤ _
    have h3 : (Str.ofString ".*").length = 2 := rfl
    simp only [List.map_cons, List.map_nil, List.sum_cons, List.sum_nil, List.length_cons, List.length_nil]
    lia
  | g :: g2 :: r, hg => by
    have h1 := stT_sum g (hg g (List.Mem.head _))
    have h2 := join_len_le (stT g)
    have ih := tail_sum (g2 :: r) fun q hq => hg q (List.Mem.tail _ hq)
    have h3 : (grp (stT g)).length = (Txt.join (Str.ofString "") (stT g)).length + 7 := by
      unfold grp
      rw [strLen_append, strLen_append, strLen_append, len_jn.2.2.1, len_jn.2.2.2.1, len_jn.2.2.2.2]
      lia
    show (((grp (stT g)) :: tailF ((g2 :: r).map stT)).map (·.length)).sum + ((grp (stT g)) :: tailF ((g2 :: r).map stT)).length ≤ _
    simp only [List.map_cons, List.sum_cons, List.length_cons] at ih ⊢
    lia
theorem gs_num : ∀ its : List It, (splitI its).2.length ≤ its.length
  | [] => Nat.le_refl _
  | .any _ :: r => by
    have := gs_num r
    simp only [splitI, List.length_cons]
    lia
  | .tab _ _ :: r => by
    have := gs_num r
    simp only [splitI, List.length_cons]
    lia
theorem trans_call {Q : Value → Shared → Prop} {k : Nat} {its : List It} {t : Tok} {ps : Array Value} (F : Fr h₀ L s.heap m) (N : News h₀ L s.heap ((130, tabObj ps) :: news)) (hc : ∀ p ∈ news, p.2.cls ≠ Value.none) (G : Gd w h₀) (hA : Ar A 570 8600) (hgs : AllBare s.gens) (C0 : CodeHd h₀ 134 130) (hok : TabOk lamP ps []) (hi : its.length ≤ 23)
    (h : ∀ h' gs' d' tk' t ps', Fr h₀ L h' m → News h₀ L h' ((130, tabObj ps') :: news) → AllBare gs' → Q (.str (tx ([40, 63, 115, 58] ++ (bodyL (preT k its) (gsT k its) ++ [41, 92, 90]))) t) ⟨h', gs', d', tk', s.os⟩) :
    wpAny (model PR w) A (call (.ref 116) [.str (tx (patL k its)) t] []) Q E s := by
  have hP := N (130, tabObj ps) (List.Mem.head _)
  have ho : ∀ p ∈ news, p.1 ≠ 130 := fun p hp e => by
    have h9 := (N p (List.Mem.tail _ hp)).1
    rw [e, hP.1] at h9
    exact hc p hp (by rw [← Option.some.inj h9])
  have hpl := patL_len k its
  have hsl := stepsN_le its
  have hol := outs_len k its
  have hgl := gs_len k its
  have hgn := gs_num its
  have htr := tr_all (k := k) (x := tx (patL k its)) its 0 [] (View.start _) (fun rs' h => by cases rs' <;> cases h)
  have hpre := stT_sum (preT k its) (ok_pre k its)
  have htl := tail_sum (gsT k its) (ok_gs k its)
  have hgl2 : (gsT k its).length ≤ 23 := by simp [gsT]; lia
  have hprl : (stT (preT k its)).length = (preT k its).length := by simp [stT]
  refine wpAny_call (trans_walk (pre := stT (preT k its)) (gs := (gsT k its).map stT) G F.keep hA hgs (by rw [tx_len]; lia) hP.1 hP.2.2 C0 hok htr (by lia) (outs_split k its) ?_ ?_ ?_ fun s' t ps' hos hg' hk h1 => ?_)
  · intro g hg
    obtain ⟨q, hq, rfl⟩ := List.mem_map.mp hg
    have h1 := stT_sum q (ok_gs k its q hq)
    have h2 : q.length ≤ ((gsT k its).map List.length).sum := sum_mem (List.mem_map_of_mem hq)
    refine ⟨?_, ?_⟩
    · obtain ⟨z, _, rfl⟩ := List.mem_map.mp hq
      simp [stT, grpT]
    · have : (stT q).length = q.length := by simp [stT]
      lia
  · rw [List.map_append, List.sum_append, List.length_append]
    lia
  · exact Nat.le_trans hol (by lia)
  · obtain ⟨h', gs', d', tk', os'⟩ := s'
    dsimp only at hos hg' hk h1
    subst hos
    rw [joinOut_tx]
    refine h h' gs' d' tk' t ps' ⟨F.ns.at' fun o e => hk _ _ (fun q => hP.2.1 q.symm) e, fun b o e => hk b o (fun q => by rw [q, hP.2.2] at e; cases e) (F.keep b o e), F.above⟩ (fun p hp => ?_) hg'
    rcases List.mem_cons.mp hp with rfl | hp
    · exact ⟨h1, hP.2⟩
    · exact ⟨hk _ _ (ho p hp) (N p (List.Mem.tail _ hp)).1, (N p (List.Mem.tail _ hp)).2⟩
theorem stepsT_le : ∀ Gs : List (List Tk), stepsT Gs ≤ (Gs.map List.length).sum + 2 * Gs.length
  | [] => Nat.le_refl _
  | [g] => by simp [stepsT]
  | g :: g2 :: r => by
    have := stepsT_le (g2 :: r)
    simp only [stepsT, List.map_cons, List.sum_cons, List.length_cons] at this ⊢
    lia
noncomputable def piecesT (k : Nat) (its : List It) : List Piece := (0, (preT k its).map (·.one)) :: ptl (gsT k its)
theorem cat_len (g : List Tk) (hg : ∀ a ∈ g, TkOk a) : (cat g).length ≤ 6 * g.length := by
  induction g with
  | nil => exact Nat.le_refl _
  | cons a r ih =>
    have h1 := (hg a (List.Mem.head _)).lo
    have h2 := ih fun b hb => hg b (List.Mem.tail _ hb)
    simp only [cat, List.map_cons, List.flatten_cons, List.length_append, List.length_cons] at h2 ⊢
    lia
theorem tlL_len : ∀ (Gs : List (List Tk)), (∀ g ∈ Gs, ∀ a ∈ g, TkOk a) → (tlL Gs).length ≤ 6 * (Gs.map List.length).sum + 7 * Gs.length
  | [], _ => Nat.le_refl _
  | [g], hg => by
    have h1 := cat_len g (hg g (List.Mem.head _))
    simp only [tlL, List.length_cons, List.map_cons, List.map_nil, List.sum_cons, List.sum_nil, List.length_nil]
    lia
  | g :: g2 :: r, hg => by
    have h1 := cat_len g (hg g (List.Mem.head _))
    have ih := tlL_len (g2 :: r) fun q hq => hg q (List.Mem.tail _ hq)
    simp only [tlL, List.length_append, List.length_cons, List.map_cons, List.sum_cons, List.length_nil] at ih ⊢
    lia
theorem pieces_call {Q : Value → Shared → Prop} {k : Nat} {its : List It} {t : Tok} (F : Fr h₀ L s.heap m) (N : News h₀ L s.heap news) (G : Gd w h₀) (hA : Ar A 4 40) (hi : its.length ≤ 23)
    (h : ∀ l h' tk e vs imm, Fr h₀ L h' m → News h₀ L h' ((l, listOf (List.toArray vs) e) :: (imm ++ news)) → Rel2 (PieceIn fun a o => (a, o) ∈ imm) vs (piecesT k its) → Q (.ref l) { s with heap := h', toks := tk }) :
    wpAny (model PR w) A (call (.ref 163) [.str (tx ([40, 63, 115, 58] ++ (bodyL (preT k its) (gsT k its) ++ [41, 92, 90]))) t] []) Q E s := by
  have hgl := gs_len k its
  have hgn := gs_num its
  have hgl2 : (gsT k its).length ≤ 23 := by simp [gsT]; lia
  have h1 := cat_len (preT k its) (ok_pre k its)
  have h2 := tlL_len (gsT k its) (ok_gs k its)
  have h3 := stepsT_le (gsT k its)
  have hb : (bodyL (preT k its) (gsT k its)).length ≤ 1000 := by unfold bodyL; rw [List.length_append]; lia
  obtain ⟨e1, e2, e3⟩ := shell (bodyL (preT k its) (gsT k its))
  refine wpAny_call (pieces_walk (G.keeps F.keep) hA (by rw [tx_len]; simp; lia) (by rw [tx_len]; lia) e1 e2 e3 (pc_all (ok_pre k its) (ok_gs k its)) (by lia) ?_)
  intro l h' tk hst e vs imm M hr _
  exact h l h' tk e vs imm (stayF F hst) (newsLift F N hst M) hr
theorem ends_call {Q : Value → Shared → Prop} {k sz n : Nat} {its : List It} {t : Tok} {l : Addr} {vs : List Value} {e : Nat} {imm : List (Addr × Obj)} (F : Fr h₀ L s.heap m) (N : News h₀ L s.heap news) (G : Gd w h₀) (hA : Ar A 4 40) (h1 : 1 ≤ sz) (h7 : sz ≤ 7) (hn : n ≤ 10000) (hc : colG sz (splitI its).1.length (splitI its).2 ≤ n)
    (hl : (l, listOf (List.toArray vs) e) ∈ news) (hi : ∀ p ∈ imm, p ∈ news) (hr : Rel2 (PieceIn fun a o => (a, o) ∈ imm) vs (piecesT k its))
    (h : ∀ a h' tk ov, Fr h₀ L h' m → News h₀ L h' news → h'.IsList a (List.toArray ov) → IntsAre ov (if (splitI its).2 = [] then [((colG sz (splitI its).1.length (splitI its).2 : Nat) : Int)] else dueL sz (colG sz (splitI its).1.length (splitI its).2) n) → Q (.ref a) { s with heap := h', toks := tk }) :
    wpAny (model PR w) A (call (.ref 173) [.ref l, .str (tx (rulL k sz n)) t] []) Q E s := by
  refine wpAny_call (ends_walk (G.keeps F.keep) hA (by rw [tx_len, rul_len]; exact hn) (N _ hl).1 (hr.mono fun _ _ q => q.mono fun a o ho => (N _ (hi _ ho)).1) (end_all h1 h7 its hc) fun a h' tk ov oe hst ha hov => ?_)
  refine h a h' tk ov.toList (stayF F hst) (stayN N hst) ⟨listOf (List.toArray ov.toList) oe, ?_, rfl, oe, rfl⟩ hov
  rw [Array.toArray_toList]
  exact ha
theorem level_call {Q : Value → Shared → Prop} {o dx : Addr} {st : List Int × Int × Int} {ts : Int} {tt : Tok} (F : Fr h₀ L s.heap m) (N : News h₀ L s.heap news) (G : Gd w h₀) (hA : Ar A 4 40) (ho : s.heap.get? o = some (instObj 100 dx)) (hw : WsIn w h₀ s.heap dx st) (n1 : h₀.get? o = none) (n2 : h₀.get? dx = none) (hts : 1 ≤ ts ∧ ts ≤ 7) (hcb : ∀ c ∈ st.1, 0 ≤ c ∧ c ≤ 1000)
    (h : ∀ h' tk t, s.heap.StaysIn h' → Fr h₀ L h' m → News h₀ L h' news → Q (.int (levelF st ts) t) { s with heap := h', toks := tk }) :
    wpAny (model PR w) A (call (.ref 69) [.ref o, .int ts tt] []) Q E s :=
  wpAny_call (level_walk G F.keep hA ho hw n1 n2 hts hcb fun h' tk t hst => h h' tk t hst (stayF F hst) (stayN N hst))
noncomputable def wsD (w : World) (t1 t2 t3 t4 t5 tnt : Tok) (v1 v2 v5 : Value) (nm : Addr) (nt : Int) : Obj := dictOf [⟨PyData.keyHash w.params (Str.ofString "raw"), .str (Str.ofString "raw") t1, v1⟩, ⟨PyData.keyHash w.params (Str.ofString "n"), .str (Str.ofString "n") t2, v2⟩, ⟨PyData.keyHash w.params (Str.ofString "nt"), .str (Str.ofString "nt") t3, .int nt tnt⟩, ⟨PyData.keyHash w.params (Str.ofString "norm"), .str (Str.ofString "norm") t4, .ref nm⟩, ⟨PyData.keyHash w.params (Str.ofString "is_simple"), .str (Str.ofString "is_simple") t5, v5⟩] 5
/-- what the reader of a lead keeps, in the ledger -/
noncomputable def WsHas (w : World) (o dx : Addr) (st : List Int × Int × Int) (news : List (Addr × Obj)) : Prop :=
  ∃ t1 t2 t3 t4 t5 v1 v2 v5 nm ct cv tb tnt, (o, instObj 100 dx) ∈ news ∧ (dx, wsD w t1 t2 t3 t4 t5 tnt v1 v2 v5 nm st.2.2) ∈ news ∧ (nm, tupOf [.ref ct, .int st.2.1 tb]) ∈ news ∧ (ct, tupOf cv) ∈ news ∧ IntsAre cv st.1 ∧ st.1.length ≤ 1000 ∧ 0 ≤ st.2.1 ∧ st.2.1 ≤ 1000 ∧ 0 ≤ st.2.2 ∧ st.2.2 ≤ 1000
theorem WsHas.mono {o dx : Addr} {st : List Int × Int × Int} {news' : List (Addr × Obj)} (H : WsHas w o dx st news) (k : ∀ p ∈ news, p ∈ news') : WsHas w o dx st news' := by
  obtain ⟨t1, t2, t3, t4, t5, v1, v2, v5, nm, ct, cv, tb, tnt, a, b, c, d, r⟩ := H
  exact ⟨t1, t2, t3, t4, t5, v1, v2, v5, nm, ct, cv, tb, tnt, k _ a, k _ b, k _ c, k _ d, r⟩
theorem WsHas.inn {h : Heap} {o dx : Addr} {st : List Int × Int × Int} (H : WsHas w o dx st news) (N : News h₀ L h news) : h.get? o = some (instObj 100 dx) ∧ WsIn w h₀ h dx st ∧ h₀.get? o = none ∧ h₀.get? dx = none := by
  obtain ⟨t1, t2, t3, t4, t5, v1, v2, v5, nm, ct, cv, tb, tnt, a, b, c, d, r⟩ := H
  exact ⟨(N _ a).1, ⟨t1, t2, t3, t4, t5, v1, v2, v5, nm, ct, cv, tb, tnt, (N _ b).1, (N _ c).2.2, (N _ d).2.2, (N _ c).1, (N _ d).1, r⟩, (N _ a).2.2, (N _ b).2.2⟩
theorem tup_ne {h : Heap} {a : Addr} {vs : List Value} (F : Fr h₀ L h m) (ha : h.get? a = some (tupOf vs)) : a ≠ L := by
  obtain ⟨oL, es, ep, hL, hd, _⟩ := F.ns
  rintro rfl
  rw [ha] at hL
  cases hL
  cases hd
theorem level_call' {Q : Value → Shared → Prop} {o dx : Addr} {st : List Int × Int × Int} {ts : Int} {tt : Tok} (F : Fr h₀ L s.heap m) (N : News h₀ L s.heap news) (G : Gd w h₀) (hA : Ar A 4 40) (hw : WsHas w o dx st news) (hts : 1 ≤ ts ∧ ts ≤ 7) (hcb : ∀ c ∈ st.1, 0 ≤ c ∧ c ≤ 1000)
    (h : ∀ h' tk t, Fr h₀ L h' m → News h₀ L h' news → Q (.int (levelF st ts) t) { s with heap := h', toks := tk }) :
    wpAny (model PR w) A (call (.ref 69) [.ref o, .int ts tt] []) Q E s :=
  let ⟨a, b, c, d⟩ := hw.inn N
  level_call F N G hA a b c d hts hcb fun h' tk t _ F' N' => h h' tk t F' N'
noncomputable def tailS (i : Int) : List Nat := if i = 0 then [120, 32, 9] else if i = 1 then [] else if i = 2 then [120] else [10, 32]
theorem tailS_ok (i : Int) : (tailS i).takeWhile wsOk = [] ∧ (tailS i).length ≤ 3 := by
  unfold tailS
  split
  · decide
  · split
    · decide
    · split
      · decide
      · decide
theorem tail4_at {prog : Program} {value slice : PySem.Expr} {t : Addr} {t1 t2 t3 t4 : Tok} {k : Int} {u : Tok} {Q : Value → Shared → Prop} (ht : IsTup s.heap t [Value.str (Str.ofString "x \t") t1, Value.str (Str.ofString "") t2, Value.str (Str.ofString "x") t3, Value.str (Str.ofString "\n ") t4].toArray)
    (h0 : 0 ≤ k) (h3 : k < 4) (h : ∀ t, Q (.str (tx (tailS k)) t) s)
    (hs : subscripted slice false (.ref t) (.int k u) = operate [.ref t, .int k u] (getItem (.ref t) (.int k u))) :
    wpAny (model prog w) A (subscriptTail value slice (.ref t) (.int k u)) Q E s := by
  have hk : k = 0 ∨ k = 1 ∨ k = 2 ∨ k = 3 := by lia
  refine kba_turn (value' := PySem.Expr.Name (PySem.Str.ofString "_") ⟨0, 0, 0, 0⟩) (fun _ => rfl) ?_
  rcases hk with rfl | rfl | rfl | rfl
  · exact item_tupleL ht (by decide) (by decide) (j := 0) rfl rfl ((by decide +kernel : tx (tailS 0) = Str.ofString "x \t") ▸ h t1) hs (fun _ => rfl)
  · exact item_tupleL ht (by decide) (by decide) (j := 1) rfl rfl ((by decide +kernel : tx (tailS 1) = Str.ofString "") ▸ h t2) hs (fun _ => rfl)
  · exact item_tupleL ht (by decide) (by decide) (j := 2) rfl rfl ((by decide +kernel : tx (tailS 2) = Str.ofString "x") ▸ h t3) hs (fun _ => rfl)
  · exact item_tupleL ht (by decide) (by decide) (j := 3) rfl rfl ((by decide +kernel : tx (tailS 3) = Str.ofString "\n ") ▸ h t4) hs (fun _ => rfl)
theorem leadL_len : ∀ its : List It, (leadL its).length = its.length
  | [] => rfl
  | .any _ :: r => by simp [leadL, leadL_len r]
  | .tab _ _ :: r => by simp [leadL, leadL_len r]
theorem lead_add {its : List It} {k : Int} {t1 t2 : Tok} {Q : Value → Shared → Prop} (hi : its.length ≤ 23) (h : ∀ t' tk', Q (.str (tx (leadL its ++ tailS k)) t') { s with toks := tk' }) : wpAny (model PR w) A (binaryOp .Add (.str (tx (leadL its)) t1) (.str (tx (tailS k)) t2)) Q E s := by
  refine PyProof.Rows.add_str ?_ ?_
  · rw [tx_append]; exact h
  · rw [tx_len, tx_len, leadL_len]
    have := (tailS_ok k).2
    exact fitsL (by lia)
theorem Ar.underMk {d u : Nat} {C : Addr} {rest : List Value} (h : Ar A (d + 9) (u + 9)) : Ar (A.under (.builtin "type.__call__" ⟨.ref C :: rest, []⟩)) d u := by
  refine ⟨h.hh, ?_, ?_⟩
  · have h1 := h.hd
    have h2 : (A.under (.builtin "type.__call__" ⟨.ref C :: rest, []⟩)).depth = A.depth + 1 := rfl
    lia
  · have h1 := h.hu
    have h2 : (A.under (.builtin "type.__call__" ⟨.ref C :: rest, []⟩)).units ≤ A.units + 9 := by
      show A.units + (1 + 3 * (Code.builtin "type.__call__" ⟨.ref C :: rest, []⟩).frames) ≤ _
      have h3 : (Code.builtin "type.__call__" ⟨.ref C :: rest, []⟩).frames = 0 := by kernel_rfl
      rw [h3]
      lia
    lia
theorem ws_make {Q : Value → Shared → Prop} {x : Str} {t : Tok} (F : Fr h₀ L s.heap m) (N : News h₀ L s.heap news) (G : Gd w h₀) (hA : Ar A 20 80) (hx : x.length ≤ 1000)
    (h : ∀ o dx h' tk news', Fr h₀ L h' m → News h₀ L h' news' → (∀ p ∈ news, p ∈ news') → WsHas w o dx (wsAll x.cps.toList) news' → Q (.ref o) { s with heap := h', toks := tk }) :
    wpAny (model PR w) A (call (.ref 100) [.str x t] []) Q E s := by
  refine wpAny_call (make_K (K := gen.heap_1 w.params) (fI := 55) F N (G.keeps F.keep).K (by k_is) (by k_is) (by k_is) fun o dx h' F' N' l1 l2 => ?_)
  have h1 := N' _ (List.Mem.head _)
  have h2 := N' _ (List.Mem.tail _ (List.Mem.head _))
  refine init_walk (s := { s with heap := h' }) G F'.keep (Ar.underMk (hA.mono (by decide) (by decide))) hx h1.1 h2.1 h1.2.2 h2.2.2 (Nat.ne_of_gt l2) fun h'' tk hk hw => ⟨rfl, ?_⟩
  obtain ⟨t1, t2, t3, t4, t5, v1, v2, v5, nm, ct, cv, tb, tnt, e1, n1, n2, e2, e3, r⟩ := hw
  have F'' : Fr h₀ L h'' m := ⟨F'.ns.at' fun ob e => hk _ _ (fun q => h2.2.1 q.symm) e, fun b ob e => hk b ob (fun q => by rw [q, h2.2.2] at e; cases e) (F'.keep b ob e), F'.above⟩
  refine h o dx h'' tk ((o, instObj 100 dx) :: (dx, wsD w t1 t2 t3 t4 t5 tnt v1 v2 v5 nm (wsAll x.cps.toList).2.2) :: (nm, tupOf [.ref ct, .int (wsAll x.cps.toList).2.1 tb]) :: (ct, tupOf cv) :: news) F'' ?_ (fun p hp => List.Mem.tail _ (List.Mem.tail _ (List.Mem.tail _ (List.Mem.tail _ hp)))) ⟨t1, t2, t3, t4, t5, v1, v2, v5, nm, ct, cv, tb, tnt, List.Mem.head _, List.Mem.tail _ (List.Mem.head _), List.Mem.tail _ (List.Mem.tail _ (List.Mem.head _)), List.Mem.tail _ (List.Mem.tail _ (List.Mem.tail _ (List.Mem.head _))), r⟩
  intro p hp
  rcases List.mem_cons.mp hp with rfl | hp
  · exact ⟨hk _ _ (Nat.ne_of_gt l2) h1.1, h1.2⟩
  · rcases List.mem_cons.mp hp with rfl | hp
    · exact ⟨e1, h2.2⟩
    · rcases List.mem_cons.mp hp with rfl | hp
      · exact ⟨e2, tup_ne F'' e2, n1⟩
      · rcases List.mem_cons.mp hp with rfl | hp
        · exact ⟨e3, tup_ne F'' e3, n2⟩
        · have n := N' p (List.Mem.tail _ (List.Mem.tail _ hp))
          exact ⟨hk _ _ (Nat.ne_of_lt (l1 p hp)) n.1, n.2⟩
theorem lead_len9 {its : List It} {k : Int} (hi : its.length ≤ 23) : (tx (leadL its ++ tailS k)).length ≤ 1000 := by
  rw [tx_len, List.length_append, leadL_len]
  have := (tailS_ok k).2
  lia
end
end Mine
theorem Mine.off_S15 : True := by w_top off; trivial
theorem Mine.rs_S15 {M : Model} {A : Around} {E : Value → Shared → Prop} {s : Shared} {Q : Flow → Shared → Prop} {p : Pos} {env : Env} (h : wpAny M A (exec (Stmt.Pass p) env) Q E s) : wpAny M A (exec (Stmt.Pass p) env) Q E s := by first | (walk1; fail) | exact h
namespace Mine
theorem reg_S15 : True := by
  k_with_none
  k_with "cj" => (first | with_reducible assumption | exact cj1 (by with_reducible assumption) | exact cj2 (by with_reducible assumption) | exact cj3 (by with_reducible assumption) | exact cj4 (by with_reducible assumption) | exact cj5 (by with_reducible assumption) | exact ce2 (by with_reducible assumption) | exact ce3 (by with_reducible assumption) | exact ce4 (by with_reducible assumption) | exact ce5 (by with_reducible assumption))
  k_with "ne1" => (refine neN ?_; first | with_reducible assumption | (refine Ne.symm ?_; with_reducible assumption) | walk_at "cj" | (refine Ne.symm ?_; walk_at "cj") | (refine Nat.ne_of_lt ?_; walk_at "cj") | (refine Nat.ne_of_gt ?_; walk_at "cj") | ((try dsimp only); omega))
  k_with "eval Constant int" => (refine r_int ?_)
  k_with "eval Constant str" => (refine r_str ?_)
  k_with "binaryOp Add int int" => (refine r_add ?_)
  k_with "binaryOp Sub int int" => (refine r_sub ?_)
  k_with "unaryOp USub int" => (refine r_neg ?_)
  k_with "inplaceOp Add int int" => (refine r_iadd ?_)
  k_with "eval Slice" => (refine r_slice ?_)
  k_with "SlQ" => (refine SlQ.go ?_)
  k_with "mget" => (first | with_reducible assumption | with_reducible exact upd_eq | ((with_reducible refine Eq.trans upd_eq ?_); rfl) | ((with_reducible refine upd_ne (by kernel_rfl) ?_); walk_at "mget") | (goal_lacks upd; first | exact if_pos rfl | (refine Eq.trans (if_neg (by decide)) ?_; walk_at "mget")))
  k_with "newTuple" => ((refine' r_tuple (by walk_at "asm") (by walk_at "asm") (by exact Nat.le_of_ble_eq_true rfl) ?_); intro _ _ _ _ _; walk_at "lt"; (try k_sweep))
  k_with "ite" => (first | with_reducible refine ite_tt ?_ | with_reducible refine ite_ff ?_ | (refine ite_pos (by with_reducible assumption) ?_) | (refine ite_neg (by refine ne_true_of_eq_false ?_; with_reducible assumption) ?_))
  k_with "tup" => (first | (refine News.isTup (by walk_at "asm") (by walk_at "mem")) | with_reducible assumption | (refine stays_tup (Fr.keep (by walk_at "asm")) (by walk_at "asm")))
  k_with "lst" => (first | (refine News.isList (by walk_at "asm") (by walk_at "mem")) | with_reducible assumption | (refine stays_list (Fr.keep (by walk_at "asm")) (by walk_at "asm")))
  k_with "off" => (first | exact List.forall_mem_nil _ | exact OwnOff.ne (by with_reducible assumption) (List.Mem.head _) | (refine List.forall_mem_cons.mpr ?_; refine And.intro ?_ ?_; (focus k_ne); (walk_at "off")))
  k_with "upd" => (first | (apply upd_hd; walk_at "off") | (apply upd_tl; (case hne => k_ne); (case hu => walk_at "upd")))
  k_with "RunTo" => ((first | refine NextTo.next (by with_reducible assumption) ?_ | refine NextTo.ret (by with_reducible assumption) ?_ | refine NextTo.brk (by with_reducible assumption) ?_ | refine NextTo.cont (by with_reducible assumption) ?_); (try dsimp only))
  k_with "go" => (repeat' (first | (k_unfold; (try dsimp only)) | walk1 | (dsimp only; walk1)))
  k_with "sides" => (((case b => (k_is)); (case c => (k_is)); (case a => (exact Ar.room (by assumption))); (case d => (exact BindsTo.of_eq rfl)); (case e => (exact locs rfl)); (case g => (rfl)); (case h => (rfl)); (case i => (rfl)); (case j => (decide))))
  k_with "mem" => (first | exact List.Mem.head _ | (refine' List.Mem.tail _ ?_; walk_at "mem"))
  k_with "units" => (first | exact Ar.units0 (by assumption) _ | exact Ar.unitsD (by assumption) (by decide) _)
  k_with "asm" => (with_reducible assumption)
  k_with "lt" => (((rename ∀ p ∈ _, (p : Addr × Obj).1 < _ => l9); (replace l9 := allLt_of l9); (dsimp only [AllLt] at l9)))
  k_with "ne" => (((rename ∀ p ∈ _, (p : Addr × Obj).1 ≠ _ => l9); (replace l9 := allNe_of l9); (dsimp only [AllNe] at l9)))
  k_with "storeName" => ((with_reducible refine' r_store (by walk_at "asm") (by walk_at "asm") (by kernel_rfl) ?_); intro _ _ _; (try k_sweep))
  k_with "exec While Compare cons nil" => (refine Halt.out ?_)
  k_with "exec While BoolOp cons nil" => (refine Halt.out ?_)
  k_with "exec While Constant cons nil" => (refine Halt.out ?_)
  k_with "exec While Name cons nil" => (refine Halt.out ?_)
  k_with "exec While" => (refine Halt.out ?_)
  k_with "execs cons" => (first | (refine execs_lastQ (fun tk => ?_)) | (refine execs_consQ (fun tk qk hqk => ?_)))
  k_with "newList" => (((refine' r_list (by walk_at "asm") (by walk_at "asm") (by exact Nat.le_of_ble_eq_true rfl) ?_); intro _ _ _ _ _; walk_at "lt"; (try k_sweep)))
  k_with "subscriptTail Name Slice str ref" => ((with_reducible first | refine' slice_ss5 (by walk_at "asm") (by walk_at "asm") (by with_reducible assumption) ?_ | refine' slice_sn5 (by walk_at "asm") (by walk_at "asm") (by with_reducible assumption) ?_); intro _ _ _ _ _; (try k_sweep))
  k_with "handled" => (first | exact Ar.hhD (by assumption) _ | exact Ar.hh (by assumption) | rfl)
  k_with "assign Tuple" => (((with_reducible show wpAny _ _ (assign (Expr.Tuple _ _ _) _ (Value.ref _)) _ _ _); k_dflt (refine' r_unpack (by walk_at "asm") (by walk_at "asm") (by walk_at "tup") (by walk_at "handled") rfl rfl ?_); intro _ _ _; (try k_sweep)))
  k_with "asz" => (k_dflt (first | exact aszL (by with_reducible assumption) | exact Nat.le_of_ble_eq_true rfl))
  k_with "call builtin:list.append" => (((with_reducible show wpAny _ _ (call (Value.builtin _) [Value.ref _, _]) _ _ _); (refine' r_append (by walk_at "asm") (by walk_at "asm") (by walk_at "upd") (by walk_at "asz") ?_); intro _ _ _; (try k_sweep)))
  k_with "sub" => ((intro _ hpK9; first | exact List.mem_of_mem_tail hpK9 | (simp only [List.mem_cons, List.mem_append] at hpK9 ⊢; grind)))
  k_with "exec For Tuple Name cons nil" => ((k_dflt (refine' wpAny_For ?_ (by intro _; rfl))))
  k_with "exec For Name Name cons nil" => ((k_dflt (refine' wpAny_For ?_ (by intro _; rfl))))
  k_with "exec For Name Call cons nil" => ((k_dflt (refine' wpAny_For ?_ (by intro _; rfl))))
  k_with "exec For Name List cons nil" => ((k_dflt (refine' wpAny_For ?_ (by intro _; rfl))))
  k_with "exec For Name Attribute cons nil" => ((k_dflt (refine' wpAny_For ?_ (by intro _; rfl))))
  k_with "pyIter ref" => (refine Halt.out ?_)
  k_with "subscriptTail Name Constant ref int" => (((with_reducible show wpAny _ _ (subscriptTail _ _ (Value.ref _) (Value.int _ _)) _ _ _); (refine' item_tupleL (by refine' News.isTup (by walk_at "asm") (by walk_at "mem")) (by decide) (by decide) rfl rfl ?_ (by with_unfolding_all rfl) (by intro _; with_unfolding_all rfl))))
  k_with "eval Name" => ((goal_lacks compEnvC; first | (with_reducible refine' nmK (by decide +kernel) (by walk_at "asm") (by walk_at "mget") ?_) | k_dflt (first | (goal_lacks envOf; refine' nameX_L (by walk_at "asm") (by walk_at "mget") ?_ rfl (by with_unfolding_all rfl) (by decide)) | (goal_lacks envOf; refine' nameX_C (by walk_at "asm") rfl (by walk_at "mem") (by walk_at "asm") ?_ rfl (by with_unfolding_all rfl) (by decide)) | (refine' nameX_K (by walk_at "asm") (by walk_at "asm") (by k_asm) (by k_is) ?_ rfl (by with_unfolding_all rfl) (by decide)) | (refine' nameX_B (by walk_at "asm") (by walk_at "asm") (by k_asm) (by k_is) (by boot_fast) (by decide) ?_ rfl (by with_unfolding_all rfl) (by decide)))))
  k_with "loadName" => ((first | (with_reducible refine' ldL (by walk_at "asm") (by walk_at "mget") (by kernel_rfl) ?_) | k_dflt (refine' ldX (by walk_at "asm") (by walk_at "mget") ?_ rfl (by with_unfolding_all rfl))))
  trivial
section
variable {w : World} {A : Around} {E : Value → Shared → Prop} {s : Shared} {h₀ : Heap} {L : Addr} {m : Str → Option Value} {news : List (Addr × Obj)}
theorem sizes_at {q : Int} (hq : 0 ≤ q ∧ q < 3) {t1 t2 t3 t4 t5 : Tok} {i : Nat} {v : Value} (h : [Value.int 1 t1, Value.int 2 t2, Value.int 3 t3, Value.int 4 t4, Value.int (5 + q) t5][i]? = some v) : ∃ sz : Nat, ∃ t, v = .int (sz : Int) t ∧ 1 ≤ sz ∧ sz ≤ 7 := by
  match i with
  | 0 => simp at h; exact ⟨1, t1, h.symm, by decide, by decide⟩
  | 1 => simp at h; exact ⟨2, t2, h.symm, by decide, by decide⟩
  | 2 => simp at h; exact ⟨3, t3, h.symm, by decide, by decide⟩
  | 3 => simp at h; exact ⟨4, t4, h.symm, by decide, by decide⟩
  | 4 => simp at h; exact ⟨(5 + q).toNat, t5, by rw [← h]; congr 1; lia, by lia, by lia⟩
  | n + 5 => simp at h
noncomputable def lenN (its : List It) (sz : Nat) : Nat := cntA its + (cntT its + 2) * sz
theorem len_eq (its : List It) (sz : Nat) : (cntA its : Int) + ((cntT its : Int) + 2) * (sz : Int) = ((lenN its sz : Nat) : Int) := by
  unfold lenN
  push_cast
  rfl
theorem cnt_le : ∀ its : List It, cntA its + cntT its = its.length
  | [] => rfl
  | .any _ :: r => by have := cnt_le r; simp only [cntA, cntT, List.length_cons]; lia
  | .tab _ _ :: r => by have := cnt_le r; simp only [cntA, cntT, List.length_cons]; lia
theorem len_le {its : List It} {sz : Nat} (hi : its.length ≤ 23) (h7 : sz ≤ 7) : lenN its sz ≤ 200 := by
  have h1 := cnt_le its
  unfold lenN
  have h2 : (cntT its + 2) * sz ≤ 25 * 7 := Nat.mul_le_mul (by lia) h7
  lia
theorem col_le {its : List It} {sz : Nat} (h1 : 1 ≤ sz) : colI sz 0 its + 2 * sz ≤ lenN its sz := by
  have := colI_le h1 its 0
  unfold lenN
  rw [Nat.add_mul]
  lia
theorem colG_eq (sz : Nat) (its : List It) : colG sz (splitI its).1.length (splitI its).2 = colI sz 0 its := by
  rw [colI_split sz its 0, Nat.zero_add]
noncomputable def dueF (its : List It) (sz : Nat) : List Int := if cntT its = 0 then [((colI sz 0 its : Nat) : Int)] else dueL sz (colI sz 0 its) (lenN its sz)
theorem ends_call' {Q : Value → Shared → Prop} {k sz : Nat} {its : List It} {x : Str} {t : Tok} {l : Addr} {vs : List Value} {e : Nat} {imm : List (Addr × Obj)} (F : Fr h₀ L s.heap m) (N : News h₀ L s.heap news) (G : Gd w h₀) (hA : Ar A 4 40) (h1 : 1 ≤ sz) (h7 : sz ≤ 7) (hi : its.length ≤ 23) (hx : x = tx (rulL k sz (lenN its sz)))
    {base : List (Addr × Obj)} (hr : Rel2 (PieceIn fun a o => (a, o) ∈ imm) vs (piecesT k its)) (hl : (l, listOf (List.toArray vs) e) ∈ base) (him : ∀ p ∈ imm, p ∈ base) (hb : ∀ p ∈ base, p ∈ news)
    (h : ∀ a h' tk ov, Fr h₀ L h' m → News h₀ L h' news → h'.IsList a (List.toArray ov) → IntsAre ov (dueF its sz) → Q (.ref a) { s with heap := h', toks := tk }) :
    wpAny (model PR w) A (call (.ref 173) [.ref l, .str x t] []) Q E s := by
  subst hx
  have hc := col_le (its := its) h1
  refine ends_call F N G hA h1 h7 (by have := len_le hi h7; lia) (by rw [colG_eq]; lia) (hb _ hl) (fun p hp => hb p (him p hp)) hr fun a h' tk ov F' N' ha hov => h a h' tk ov F' N' ha ?_
  rw [colG_eq] at hov
  unfold dueF
  by_cases hz : cntT its = 0
  · rw [if_pos hz]
    rw [if_pos ((split_tabs its).mpr hz)] at hov
    exact hov
  · rw [if_neg hz]
    rw [if_neg (fun q => hz ((split_tabs its).mp q))] at hov
    exact hov
theorem ruler_told (k sz : Nat) (its : List It) (h1 : 1 ≤ sz) : Txt.slice (Txt.mul (Txt.mul (kindN k).plain ((sz : Int) - 1) ++ (kindN k).mark) (Int.fdiv ((lenN its sz : Nat) : Int) (sz : Int) + 1)) none (some ((lenN its sz : Nat) : Int)) = tx (rulL k sz (lenN its sz)) := ruler_eq k sz _ h1
theorem level_told {Q : Value → Shared → Prop} {o dx : Addr} {its : List It} {j : Int} {sz : Nat} {tt : Tok} (F : Fr h₀ L s.heap m) (N : News h₀ L s.heap news) (G : Gd w h₀) (hA : Ar A 4 40) (hw : WsHas w o dx (wsAll (tx (leadL its ++ tailS j)).cps.toList) news) (h1 : 1 ≤ sz) (h7 : sz ≤ 7) (hi : its.length ≤ 23)
    (h : ∀ h' tk t, Fr h₀ L h' m → News h₀ L h' news → Q (.int ((colI sz 0 its : Nat) : Int) t) { s with heap := h', toks := tk }) :
    wpAny (model PR w) A (call (.ref 69) [.ref o, .int (sz : Int) tt] []) Q E s := by
  have hws := ws_all (sz := sz) h1 its (tailS j) (tailS_ok j).1
  refine level_call' F N G hA hw (by lia) (fun c hc => ?_) fun h' tk t F' N' => ?_
  · have := hws.en c hc
    lia
  · have e : levelF (wsAll (tx (leadL its ++ tailS j)).cps.toList) (sz : Int) = ((colI sz 0 its : Nat) : Int) := hws.lv
    rw [e]
    exact h h' tk t F' N'
theorem ints_carried : ∀ {ys : List Value} {ns : List Int}, CarriedAll ys (ns.map PyData.int) → IntsAre ys ns
  | _, [], .nil => .nil
  | _, n :: ns, .cons hc hr => by
    cases hc
    exact .cons _ _ (ints_carried hr)
theorem due_range {its : List It} {sz : Nat} (h1 : 1 ≤ sz) (hz : cntT its ≠ 0) : rangeInts ((colI sz 0 its : Nat) : Int) (sz : Int) ((lenN its sz - colI sz 0 its) / sz + 1) = dueF its sz := by
  have hc := col_le (its := its) h1
  unfold dueF rangeInts
  rw [if_neg hz]
  unfold dueL
  rw [show lenN its sz + sz - colI sz 0 its = (lenN its sz - colI sz 0 its) + sz by lia, Nat.add_div_right _ h1]
  refine List.map_congr_left fun t _ => ?_
  push_cast
  rfl
theorem range_size {its : List It} {sz : Nat} (h1 : 1 ≤ sz) : Builtin.Range.rangeSize ((colI sz 0 its : Nat) : Int) (((lenN its sz : Nat) : Int) + 1) (sz : Int) = (((lenN its sz - colI sz 0 its) / sz + 1 : Nat) : Int) := by
  have hc := col_le (its := its) h1
  unfold Builtin.Range.rangeSize
  rw [if_pos (by lia), if_pos (by lia)]
  rw [show ((lenN its sz : Nat) : Int) + 1 - ((colI sz 0 its : Nat) : Int) - 1 = ((lenN its sz - colI sz 0 its : Nat) : Int) by lia]
  push_cast
  rfl
theorem range_small {its : List It} {sz : Nat} (hi : its.length ≤ 23) (h1 : 1 ≤ sz) (h7 : sz ≤ 7) : Builtin.Range.small ((colI sz 0 its : Nat) : Int) (((lenN its sz : Nat) : Int) + 1) (sz : Int) = true := by
  have hc := col_le (its := its) h1
  have hl := len_le hi h7
  have hd := Nat.div_le_self (lenN its sz - colI sz 0 its) sz
  unfold Builtin.Range.small
  rw [range_size h1]
  generalize (lenN its sz - colI sz 0 its) / sz = y at hd ⊢
  simp only [Builtin.Range.rangeFitsLong, Bool.and_eq_true, Bool.or_eq_true, decide_eq_true_eq, beq_iff_eq]
  refine ⟨by lia, .inr ?_⟩
  rw [if_pos (by lia), Bool.and_eq_true, decide_eq_true_eq, decide_eq_true_eq]
  lia
theorem due_list {Q : Value → Shared → Prop} {its : List It} {sz : Nat} {r : Addr} {b : Int} {t u v : Tok} (F : Fr h₀ L s.heap m) (N : News h₀ L s.heap news) (hh : A.handled = none) (hi : its.length ≤ 23) (h1 : 1 ≤ sz) (h7 : sz ≤ 7) (hz : cntT its ≠ 0) (hr : IsRange s.heap r ((colI sz 0 its : Nat) : Int) b (sz : Int) t u v) (hb : b = ((lenN its sz : Nat) : Int) + 1)
    (h : ∀ D o h' tk ys, Fr h₀ L h' m → News h₀ L h' ((D, o) :: news) → (o.cls = .type "list" ∧ ∃ k, o.data = .seq (List.toArray ys) k) → IntsAre ys (dueF its sz) → Q (.ref D) { s with heap := h', toks := tk }) :
    wpAny (model PR w) A (call (.type "list") [.ref r]) Q E s := by
  subst hb
  have hl := len_le hi h7
  have hd := Nat.div_le_self (lenN its sz - colI sz 0 its) sz
  refine list_rangeD hh F N hr (range_small hi h1 h7) (range_size h1) (by lia) fun h' tk ys F' N' hk hn hl _ hc => ?_
  obtain ⟨o, ho, hcl, hdt⟩ := hl
  rw [due_range h1 hz] at hc
  refine h s.heap.objs.size o h' tk ys F' (fun p hp => ?_) ⟨hcl, hdt⟩ (ints_carried hc)
  rcases List.mem_cons.mp hp with rfl | hp
  · exact ⟨ho, Nat.ne_of_gt F.ns.lt, hn⟩
  · exact N' p hp
theorem ne_told {Q : Value → Shared → Prop} {a b : Addr} {xs ys : List Value} {ns : List Int} (ha : s.heap.IsList a xs.toArray) (hb : s.heap.IsList b ys.toArray) (hi : IntsAre xs ns) (hj : IntsAre ys ns) (hu : A.units + 64 < cLine) (h : Q (.bool false) s) :
    wpAny (model PR w) A (compareOp .NotEq (.ref a) (.ref b)) Q E s :=
  ke_ne_ints ha hb hi hj hu (by rw [decide_eq_true (rfl : ns = ns)]; exact h)
end
noncomputable def lawJ (NEWS : List (Addr × Obj)) (lp o : Addr) (k : Nat) (its : List It) (m : Str → Option Value) (news : List (Addr × Obj)) : Prop :=
  news = NEWS ∧ ∃ t1 t2 t3 t4, m (Str.ofString "pieces") = some (.ref lp) ∧ m (Str.ofString "line") = some (.ref o) ∧ m (Str.ofString "blanks") = some (.int (cntA its : Int) t1) ∧ m (Str.ofString "tabs") = some (.int (cntT its : Int) t2) ∧ m (Str.ofString "mark") = some (.str (kindN k).mark t3) ∧ m (Str.ofString "plain") = some (.str (kindN k).plain t4)
theorem law_iter {prog : Program} {w : World} {A : Around} {s : Shared} {env : Env} {h₀ : Heap} {target : PySem.Expr} {body : List Stmt} {R : Result → Shared → Prop} {L : Addr} (hL : env.locals = L) {zl lp o : Addr} {q : Int} {t1 t2 t3 t4 t5 : Tok} {e k : Nat} {its : List It} {m : Str → Option Value} {NEWS : List (Addr × Obj)}
    (F : Fr h₀ L s.heap m) (N : News h₀ L s.heap ((zl, listOf (List.toArray [Value.int 1 t1, Value.int 2 t2, Value.int 3 t3, Value.int 4 t4, Value.int (5 + q) t5]) e) :: NEWS)) (hh : A.handled = none) (hq : 0 ≤ q ∧ q < 3) (hJ : lawJ NEWS lp o k its m NEWS)
    (turn : ∀ (sz : Nat) tz m₁ h tk it itO s₀, 1 ≤ sz → sz ≤ 7 → lawJ NEWS lp o k its m₁ NEWS → Fr h₀ L h m₁ → News h₀ L h ((it, itO) :: (zl, listOf (List.toArray [Value.int 1 t1, Value.int 2 t2, Value.int 3 t3, Value.int 4 t4, Value.int (5 + q) t5]) e) :: NEWS) → (∀ p ∈ (zl, listOf (List.toArray [Value.int 1 t1, Value.int 2 t2, Value.int 3 t3, Value.int 4 t4, Value.int (5 + q) t5]) e) :: NEWS, p.1 ≠ it) → s₀.gens = s.gens → s₀.drawn = s.drawn → s₀.os = s.os →
      wpAny (model prog w) A (assign target env (.int (sz : Int) tz)) (fun _ s₃ => wpAny (model prog w) A (execs body env) (TurnP h₀ L s₀ it itO (fun m' news' => ∃ extra, news' = extra ++ (zl, listOf (List.toArray [Value.int 1 t1, Value.int 2 t2, Value.int 3 t3, Value.int 4 t4, Value.int (5 + q) t5]) e) :: NEWS ∧ lawJ NEWS lp o k its m' NEWS) R) (fun _ _ => False) s₃) (fun _ _ => False) { s with heap := h, toks := tk })
    (done : ∀ m' h' tk, Fr h₀ L h' m' → News h₀ L h' ((zl, listOf (List.toArray [Value.int 1 t1, Value.int 2 t2, Value.int 3 t3, Value.int 4 t4, Value.int (5 + q) t5]) e) :: NEWS) → R (.ok .next) { s with heap := h', toks := tk }) :
    wpAny (model prog w) A (pyIter (.ref zl)) (fun it s₂ => codeAny (model prog w) A (.forLoop target it body [] env) R s₂) (fun _ _ => False) s := by
  refine iter_listL hL (lo := listOf (List.toArray [Value.int 1 t1, Value.int 2 t2, Value.int 3 t3, Value.int 4 t4, Value.int (5 + q) t5]) e) (vs := [Value.int 1 t1, Value.int 2 t2, Value.int 3 t3, Value.int 4 t4, Value.int (5 + q) t5])
    (fun _ m' news' => news' = (zl, listOf (List.toArray [Value.int 1 t1, Value.int 2 t2, Value.int 3 t3, Value.int 4 t4, Value.int (5 + q) t5]) e) :: NEWS ∧ lawJ NEWS lp o k its m' NEWS) hh ⟨rfl, _, rfl⟩ (fun h m news i J _ N => ?_) F N ⟨rfl, hJ⟩ (fun i v m₁ news₁ h tk it itO s₀ hv J F₁ N₁ hit g1 g2 g3 => ?_) (fun m' news' h' tk J F' N' => ?_)
  · obtain ⟨rfl, _⟩ := J
    exact (N _ (List.Mem.head _)).1
  · obtain ⟨rfl, J⟩ := J
    obtain ⟨sz, tz, rfl, h1, h7⟩ := sizes_at hq hv
    refine wpAny_mono (turn sz tz m₁ h tk it itO s₀ h1 h7 J F₁ N₁ hit g1 g2 g3) (fun _ s₃ x => wpAny_mono x (fun f s₄ y => ?_) fun _ _ x => x) fun _ _ x => x
    have key : ∀ s₄, (∃ h' tk m' news', s₄ = { s₀ with heap := h', toks := tk } ∧ Fr h₀ L h' m' ∧ News h₀ L h' ((it, itO) :: news') ∧ (∀ p ∈ news', p.1 ≠ it) ∧ ∃ extra, news' = extra ++ (zl, listOf (List.toArray [Value.int 1 t1, Value.int 2 t2, Value.int 3 t3, Value.int 4 t4, Value.int (5 + q) t5]) e) :: NEWS ∧ lawJ NEWS lp o k its m' NEWS) →
        ∃ h' tk m' news', s₄ = { s₀ with heap := h', toks := tk } ∧ Fr h₀ L h' m' ∧ News h₀ L h' ((it, itO) :: news') ∧ (∀ p ∈ news', p.1 ≠ it) ∧ news' = (zl, listOf (List.toArray [Value.int 1 t1, Value.int 2 t2, Value.int 3 t3, Value.int 4 t4, Value.int (5 + q) t5]) e) :: NEWS ∧ lawJ NEWS lp o k its m' NEWS := by
      rintro s₄ ⟨h', tk, m', news', e1, F', N', hn, extra, rfl, J'⟩
      refine ⟨h', tk, m', _, e1, F', subN N' fun p hp => ?_, fun p hp => hn p (List.mem_append_right _ hp), rfl, J'⟩
      rcases List.mem_cons.mp hp with rfl | hp
      · exact List.Mem.head _
      · exact List.Mem.tail _ (List.mem_append_right _ hp)
    cases f with
    | ret v => exact y
    | brk => exact y
    | next => exact key s₄ y
    | cont => exact key s₄ y
  · obtain ⟨rfl, J⟩ := J
    exact done m' h' tk F' N'
section
variable {w : World} {A : Around} {E : Value → Shared → Prop} {s : Shared} {h₀ : Heap} {L : Addr} {m : Str → Option Value} {news : List (Addr × Obj)}
theorem meth_ws {o dx : Addr} {st : List Int × Int × Int} {pl : Sem Bool} {Q : Value × List Value → Shared → Prop} (F : Fr h₀ L s.heap m) (N : News h₀ L s.heap news) (G : Gd w h₀) (hw : WsHas w o dx st news) (h : Q (.ref 69, [.ref o]) s) :
    wpAny (model PR w) A (getMethod (.ref o) (Str.ofString "indent_level") pl) Q E s := by
  obtain ⟨t1, t2, t3, t4, t5, v1, v2, v5, nm, ct, cv, tb, tnt, a, b, c, d, r⟩ := hw
  exact method_inst (K := gen.heap_1 w.params) F G.K (InstAt.of_news N a b) (by k_is) (by k_is) (by k_is) (by kernel_rfl) h
theorem sign_len (k : Nat) : (kindN k).plain.length = 1 ∧ (kindN k).mark.length = 1 := by
  rw [(kind_signs k).1, (kind_signs k).2]
  exact ⟨rfl, rfl⟩
theorem rm1 {k sz : Nat} (h7 : sz ≤ 7) : MulOk (kindN k).plain ((sz : Int) - 1) := mulOk_of 1 7 (Nat.le_of_eq (sign_len k).1) (by lia) (by lia) (by decide) (by decide)
theorem rlen {k sz : Nat} (h7 : sz ≤ 7) : (Txt.mul (kindN k).plain ((sz : Int) - 1)).length ≤ 1 * 7 := len_mul_leN (Nat.le_of_eq (sign_len k).1) (by lia)
theorem ra {k sz : Nat} (h7 : sz ≤ 7) : (Txt.mul (kindN k).plain ((sz : Int) - 1)).length + (kindN k).mark.length ≤ sizeLine := by
  have h1 := rlen (k := k) h7
  have h2 := (sign_len k).2
  exact fitsL (by omega)
theorem rcat {k sz : Nat} (h7 : sz ≤ 7) : (Txt.mul (kindN k).plain ((sz : Int) - 1) ++ (kindN k).mark).length ≤ 8 := by
  have h1 := rlen (k := k) h7
  have h2 := (sign_len k).2
  rw [strLen_append]
  omega
theorem rtimes {its : List It} {sz : Nat} (hi : its.length ≤ 23) (h1 : 1 ≤ sz) (h7 : sz ≤ 7) : 0 ≤ Int.fdiv ((cntA its : Int) + ((cntT its : Int) + 2) * (sz : Int)) (sz : Int) + 1 ∧ Int.fdiv ((cntA its : Int) + ((cntT its : Int) + 2) * (sz : Int)) (sz : Int) + 1 ≤ 201 := by
  have hl := len_le hi h7
  have hd : Int.fdiv ((lenN its sz : Nat) : Int) (sz : Int) = ((lenN its sz / sz : Nat) : Int) := by rw [Int.fdiv_eq_ediv_of_nonneg _ (by lia)]; rfl
  have hd2 := Nat.div_le_self (lenN its sz) sz
  rw [len_eq, hd]
  generalize lenN its sz / sz = y at *
  lia
theorem rm2 {k sz : Nat} {its : List It} (hi : its.length ≤ 23) (h1 : 1 ≤ sz) (h7 : sz ≤ 7) : MulOk (Txt.mul (kindN k).plain ((sz : Int) - 1) ++ (kindN k).mark) (Int.fdiv ((cntA its : Int) + ((cntT its : Int) + 2) * (sz : Int)) (sz : Int) + 1) := by
  have h2 := rtimes hi h1 h7
  exact mulOk_of 8 201 (rcat h7) (by omega) (by omega) (by decide) (by decide)
theorem rz {k sz : Nat} {its : List It} (hi : its.length ≤ 23) (h1 : 1 ≤ sz) (h7 : sz ≤ 7) : (Txt.mul (Txt.mul (kindN k).plain ((sz : Int) - 1) ++ (kindN k).mark) (Int.fdiv ((cntA its : Int) + ((cntT its : Int) + 2) * (sz : Int)) (sz : Int) + 1)).length ≤ sizeLine := by
  have h2 := rtimes hi h1 h7
  have h3 := len_mul_leN (n := Int.fdiv ((cntA its : Int) + ((cntT its : Int) + 2) * (sz : Int)) (sz : Int) + 1) (N := 201) (rcat (k := k) h7) (by omega)
  exact fitsL (by omega)
theorem ruler_slice {value slice : PySem.Expr} {k sz : Nat} {its : List It} {t uj : Tok} {Q : Value → Shared → Prop} (hF : Fr h₀ L s.heap m) (hN : News h₀ L s.heap news) (hi : its.length ≤ 23) (h1 : 1 ≤ sz) (h7 : sz ≤ 7)
    (h : ∀ h' t' tk', Fr h₀ L h' m → News h₀ L h' news → Q (.str (tx (rulL k sz (lenN its sz))) t') { s with heap := h', toks := tk' })
    (hs : subscripted slice false (.str (Txt.mul (Txt.mul (kindN k).plain ((sz : Int) - 1) ++ (kindN k).mark) (Int.fdiv ((cntA its : Int) + ((cntT its : Int) + 2) * (sz : Int)) (sz : Int) + 1)) t) (.ref s.heap.objs.size) = operate [.ref s.heap.objs.size, .str (Txt.mul (Txt.mul (kindN k).plain ((sz : Int) - 1) ++ (kindN k).mark) (Int.fdiv ((cntA its : Int) + ((cntT its : Int) + 2) * (sz : Int)) (sz : Int) + 1)) t] (getItem (.str (Txt.mul (Txt.mul (kindN k).plain ((sz : Int) - 1) ++ (kindN k).mark) (Int.fdiv ((cntA its : Int) + ((cntT its : Int) + 2) * (sz : Int)) (sz : Int) + 1)) t) (.ref s.heap.objs.size))) :
    wpAny (model PR w) A (subscriptTail value slice (.str (Txt.mul (Txt.mul (kindN k).plain ((sz : Int) - 1) ++ (kindN k).mark) (Int.fdiv ((cntA its : Int) + ((cntT its : Int) + 2) * (sz : Int)) (sz : Int) + 1)) t) (.ref s.heap.objs.size)) Q E { s with heap := s.heap.push { cls := .type "slice", data := .fields #[.none, .int ((cntA its : Int) + ((cntT its : Int) + 2) * (sz : Int)) uj, .none] } } := by
  refine kba_turn (value' := PySem.Expr.Name (PySem.Str.ofString "_") ⟨0, 0, 0, 0⟩) (fun _ => rfl) ?_
  refine slice_strN_ns hF hN (fun h' t' tk' F' N' => ?_) hs (fun _ => rfl) (rz hi h1 h7)
  have e : Txt.slice (Txt.mul (Txt.mul (kindN k).plain ((sz : Int) - 1) ++ (kindN k).mark) (Int.fdiv ((cntA its : Int) + ((cntT its : Int) + 2) * (sz : Int)) (sz : Int) + 1)) none (some ((cntA its : Int) + ((cntT its : Int) + 2) * (sz : Int))) = tx (rulL k sz (lenN its sz)) := by
    rw [len_eq]
    exact ruler_told k sz its h1
  rw [e]
  exact h h' t' tk' F' N'
end
/-- the law came back with True; the written part stands, the code tables have grown at most, the generators are let go -/
noncomputable def TrueEnd (s₁ : Shared) (tabs : List (Addr × Addr)) (r : Result) (s' : Shared) : Prop :=
  r = .ok (.ret (.bool true)) ∧ (∀ b o, (ghostOf s₁.heap tabs).get? b = some o → s'.heap.get? b = some o) ∧ GrownAll tabs s'.heap ∧ s'.os = s₁.os ∧ AllBare s'.gens
theorem TrueEnd.good {s₁ s' : Shared} {cw : ClaimW} {cl : Str → Option Addr} {mean : ExcName → Option Value} {args : List WData} {tabs : List (Addr × Addr)} {r : Result} (hT : TabsAt tabs s₁.heap) (hr : ∀ x, cw.raises args x = false) (hp : cw.post args (.bool true) args = true) (h : TrueEnd s₁ tabs r s') : GoodWG cw cl mean args s₁ r s' := by
  obtain ⟨rfl, hk, hgr, hos, hg⟩ := h
  have old : ∀ b o, s₁.heap.get? b = some o → s'.heap.get? b = some o ∨ (isCodeTable s₁.heap b ∧ o = tabObj #[] ∧ ∃ ps, s'.heap.get? b = some (tabObj ps)) := by
    intro b o e
    by_cases hb : b ∈ tabs.map (·.2)
    · obtain ⟨q, hq, rfl⟩ := List.mem_map.mp hb
      have e2 := (hT q hq).2
      rw [e] at e2
      exact .inr ⟨((hT q hq).1.tab (hT q hq).2).isCodeTable, Option.some.inj e2, hgr.get q hq⟩
    · exact .inl (hk b o (ghost_ne e hb))
  refine ⟨.inl ⟨.bool true, .bool true, [], rfl, hr, .bool true, hp, fun _ => ⟨.nil, fun _ h => nomatch h⟩⟩, ⟨fun b o e => ?_, fun b o e => ?_⟩, hos, hg⟩
  · rcases old b o e with e | ⟨ht, rfl, ps, hP⟩
    · exact .inl e
    · exact .inr (.inl ⟨ht, rfl, #[], ps, rfl, by rw [Array.empty_append]; exact hP⟩)
  · rcases old b o e with e | ⟨_, _, ps, hP⟩
    · exact ⟨o, e⟩
    · exact ⟨_, hP⟩
theorem kn_postB {M : Model} {A : Around} {cd : Code} {s s₁ : Shared} {cw : ClaimW} {cl : Str → Option Addr} {mean : ExcName → Option Value} {args : List WData} {tabs : List (Addr × Addr)} (hT : TabsAt tabs s₁.heap) (hr : ∀ x, cw.raises args x = false) (hp : cw.post args (.bool true) args = true)
    (h : codeAny M A cd (TrueEnd s₁ tabs) s) : codeAny M A cd (GoodWG cw cl mean args s₁) s := codeAny_mono h fun _ _ x => x.good hT hr hp
end Mine
theorem Mine.off_L1 : True := by w_top off; trivial
theorem Mine.rs_L1 {M : Model} {A : Around} {E : Value → Shared → Prop} {s : Shared} {Q : Flow → Shared → Prop} {p : Pos} {env : Env} (h : wpAny M A (exec (Stmt.Pass p) env) Q E s) : wpAny M A (exec (Stmt.Pass p) env) Q E s := by first | (walk1; fail) | exact h
namespace Mine
theorem reg_L1 : True := by
  k_with_none
  k_with "cj" => (first | with_reducible assumption | exact cj1 (by with_reducible assumption) | exact cj2 (by with_reducible assumption) | exact cj3 (by with_reducible assumption) | exact cj4 (by with_reducible assumption) | exact cj5 (by with_reducible assumption) | exact ce2 (by with_reducible assumption) | exact ce3 (by with_reducible assumption) | exact ce4 (by with_reducible assumption) | exact ce5 (by with_reducible assumption))
  k_with "ne1" => (refine neN ?_; first | with_reducible assumption | (refine Ne.symm ?_; with_reducible assumption) | walk_at "cj" | (refine Ne.symm ?_; walk_at "cj") | (refine Nat.ne_of_lt ?_; walk_at "cj") | (refine Nat.ne_of_gt ?_; walk_at "cj") | ((try dsimp only); omega))
  k_with "eval Constant int" => (refine r_int ?_)
  k_with "eval Constant str" => (refine r_str ?_)
  k_with "binaryOp Add int int" => (refine r_add ?_)
  k_with "binaryOp Sub int int" => (refine r_sub ?_)
  k_with "unaryOp USub int" => (refine r_neg ?_)
  k_with "inplaceOp Add int int" => (refine r_iadd ?_)
  k_with "eval Slice" => (refine r_slice ?_)
  k_with "SlQ" => (refine SlQ.go ?_)
  k_with "mget" => (first | with_reducible assumption | with_reducible exact upd_eq | ((with_reducible refine Eq.trans upd_eq ?_); rfl) | ((with_reducible refine upd_ne (by kernel_rfl) ?_); walk_at "mget") | (goal_lacks upd; first | exact if_pos rfl | (refine Eq.trans (if_neg (by decide)) ?_; walk_at "mget")))
  k_with "newTuple" => ((refine' r_tuple (by walk_at "asm") (by walk_at "asm") (by exact Nat.le_of_ble_eq_true rfl) ?_); intro _ _ _ _ _; walk_at "lt"; (try k_sweep))
  k_with "ite" => (first | with_reducible refine ite_tt ?_ | with_reducible refine ite_ff ?_ | (refine ite_pos (by with_reducible assumption) ?_) | (refine ite_neg (by refine ne_true_of_eq_false ?_; with_reducible assumption) ?_))
  k_with "tup" => (first | (refine News.isTup (by walk_at "asm") (by walk_at "mem")) | with_reducible assumption | (refine stays_tup (Fr.keep (by walk_at "asm")) (by walk_at "asm")))
  k_with "lst" => (first | (refine News.isList (by walk_at "asm") (by walk_at "mem")) | with_reducible assumption | (refine stays_list (Fr.keep (by walk_at "asm")) (by walk_at "asm")))
  k_with "off" => (first | exact List.forall_mem_nil _ | exact OwnOff.ne (by with_reducible assumption) (List.Mem.head _) | (refine List.forall_mem_cons.mpr ?_; refine And.intro ?_ ?_; (focus k_ne); (walk_at "off")))
  k_with "upd" => (first | (apply upd_hd; walk_at "off") | (apply upd_tl; (case hne => k_ne); (case hu => walk_at "upd")))
  k_with "RunTo" => ((first | refine NextTo.next (by with_reducible assumption) ?_ | refine NextTo.ret (by with_reducible assumption) ?_ | refine NextTo.brk (by with_reducible assumption) ?_ | refine NextTo.cont (by with_reducible assumption) ?_); (try dsimp only))
  k_with "go" => (repeat' (first | (k_unfold; (try dsimp only)) | walk1 | (dsimp only; walk1)))
  k_with "sides" => (((case b => (k_is)); (case c => (k_is)); (case a => (exact Ar.room (by assumption))); (case d => (exact BindsTo.of_eq rfl)); (case e => (exact locs rfl)); (case g => (rfl)); (case h => (rfl)); (case i => (rfl)); (case j => (decide))))
  k_with "mem" => (first | exact List.Mem.head _ | (refine' List.Mem.tail _ ?_; walk_at "mem"))
  k_with "units" => (first | exact Ar.units0 (by assumption) _ | exact Ar.unitsD (by assumption) (by decide) _)
  k_with "asm" => (with_reducible assumption)
  k_with "lt" => (((rename ∀ p ∈ _, (p : Addr × Obj).1 < _ => l9); (replace l9 := allLt_of l9); (dsimp only [AllLt] at l9)))
  k_with "ne" => (((rename ∀ p ∈ _, (p : Addr × Obj).1 ≠ _ => l9); (replace l9 := allNe_of l9); (dsimp only [AllNe] at l9)))
  k_with "storeName" => ((with_reducible refine' r_store (by walk_at "asm") (by walk_at "asm") (by kernel_rfl) ?_); intro _ _ _; (try k_sweep))
  k_with "exec While Compare cons nil" => (refine Halt.out ?_)
  k_with "exec While BoolOp cons nil" => (refine Halt.out ?_)
  k_with "exec While Constant cons nil" => (refine Halt.out ?_)
  k_with "exec While Name cons nil" => (refine Halt.out ?_)
  k_with "exec While" => (refine Halt.out ?_)
  k_with "execs cons" => (first | (refine execs_lastQ (fun tk => ?_)) | (refine execs_consQ (fun tk qk hqk => ?_)))
  k_with "newList" => (((refine' r_list (by walk_at "asm") (by walk_at "asm") (by exact Nat.le_of_ble_eq_true rfl) ?_); intro _ _ _ _ _; walk_at "lt"; (try k_sweep)))
  k_with "subscriptTail Name Slice str ref" => ((with_reducible first | refine' slice_ss5 (by walk_at "asm") (by walk_at "asm") (by with_reducible assumption) ?_ | refine' slice_sn5 (by walk_at "asm") (by walk_at "asm") (by with_reducible assumption) ?_); intro _ _ _ _ _; (try k_sweep))
  k_with "handled" => (first | exact Ar.hhD (by assumption) _ | exact Ar.hh (by assumption) | rfl)
  k_with "assign Tuple" => (((with_reducible show wpAny _ _ (assign (Expr.Tuple _ _ _) _ (Value.ref _)) _ _ _); k_dflt (refine' r_unpack (by walk_at "asm") (by walk_at "asm") (by walk_at "tup") (by walk_at "handled") rfl rfl ?_); intro _ _ _; (try k_sweep)))
  k_with "asz" => (k_dflt (first | exact aszL (by with_reducible assumption) | exact Nat.le_of_ble_eq_true rfl))
  k_with "call builtin:list.append" => (((with_reducible show wpAny _ _ (call (Value.builtin _) [Value.ref _, _]) _ _ _); (refine' r_append (by walk_at "asm") (by walk_at "asm") (by walk_at "upd") (by walk_at "asz") ?_); intro _ _ _; (try k_sweep)))
  k_with "sub" => ((intro _ hpK9; first | exact List.mem_of_mem_tail hpK9 | (simp only [List.mem_cons, List.mem_append] at hpK9 ⊢; grind)))
  k_with "exec For Tuple Name cons nil" => ((k_dflt (refine' wpAny_For ?_ (by intro _; rfl))))
  k_with "exec For Name Name cons nil" => ((k_dflt (refine' wpAny_For ?_ (by intro _; rfl))))
  k_with "exec For Name Call cons nil" => ((k_dflt (refine' wpAny_For ?_ (by intro _; rfl))))
  k_with "exec For Name List cons nil" => ((k_dflt (refine' wpAny_For ?_ (by intro _; rfl))))
  k_with "exec For Name Attribute cons nil" => ((k_dflt (refine' wpAny_For ?_ (by intro _; rfl))))
  k_with "pyIter ref" => (refine Halt.out ?_)
  k_with "subscriptTail Name Constant ref int" => (((with_reducible show wpAny _ _ (subscriptTail _ _ (Value.ref _) (Value.int _ _)) _ _ _); (refine' item_tupleL (by refine' News.isTup (by walk_at "asm") (by walk_at "mem")) (by decide) (by decide) rfl rfl ?_ (by with_unfolding_all rfl) (by intro _; with_unfolding_all rfl))))
  k_with "eval Name" => ((goal_lacks compEnvC; first | (with_reducible refine' nmK (by decide +kernel) (by walk_at "asm") (by walk_at "mget") ?_) | k_dflt (first | (goal_lacks envOf; refine' nameX_L (by walk_at "asm") (by walk_at "mget") ?_ rfl (by with_unfolding_all rfl) (by decide)) | (goal_lacks envOf; refine' nameX_C (by walk_at "asm") rfl (by walk_at "mem") (by walk_at "asm") ?_ rfl (by with_unfolding_all rfl) (by decide)) | (refine' nameX_K (by walk_at "asm") (by walk_at "asm") (by k_asm) (by k_is) ?_ rfl (by with_unfolding_all rfl) (by decide)) | (refine' nameX_B (by walk_at "asm") (by walk_at "asm") (by k_asm) (by k_is) (by boot_fast) (by decide) ?_ rfl (by with_unfolding_all rfl) (by decide)))))
  k_with "loadName" => ((first | (with_reducible refine' ldL (by walk_at "asm") (by walk_at "mget") (by kernel_rfl) ?_) | k_dflt (refine' ldX (by walk_at "asm") (by walk_at "mget") ?_ rfl (by with_unfolding_all rfl))))
  trivial
theorem rg_L1_1 : True := by
  k_with "call ref" => (((with_reducible show wpAny _ _ (call (Value.ref 185) [Value.ref _] []) _ _ _); k_dflt (refine' totals_call (by walk_at "asm") (by walk_at "asm") (by with_reducible assumption) (by exact Ar.into (by assumption) (by decide) (by decide) _) (by with_reducible assumption) (by with_reducible assumption) (by with_reducible assumption) ?_); intro _ _ _ _ _ _ _ _ _ _ _; (try k_sweep)))
  trivial
theorem sums4 {ts : List Int} (h4 : ts.length = 4) (hb : ∀ t ∈ ts, 0 ≤ t ∧ t ≤ 100000000) : PySem.SumFits ts := sumFits_small (fun x hx => by have := hb x hx; lia) (by lia)
theorem rg_L1_2 : True := by
  k_with "call builtin:sum" => (((with_reducible show wpAny _ _ (call (Value.builtin _) [Value.ref _]) _ _ _); k_dflt (refine' sum_lstF (by walk_at "asm") (by walk_at "asm") (by walk_at "handled") (by walk_at "lst") (by with_reducible assumption) (by exact sums4 (by with_reducible assumption) (by with_reducible assumption)) ?_); intro _ _ _ _ _; (try k_sweep)))
  k_with "call ref" => (((with_reducible show wpAny _ _ (call (Value.ref 180) [Value.int _ _] []) _ _ _); k_dflt (refine' kind_call (by walk_at "asm") (by walk_at "asm") (by with_reducible assumption) (by exact Ar.into (by assumption) (by decide) (by decide) _) (by exact ⟨Int.fmod_nonneg_of_pos _ (by decide), Int.fmod_lt_of_pos _ (by decide)⟩) ?_); intro _ _ _ _ _ _ _ _ _ _ _ _ _ _ _ _; (try k_sweep)))
  k_with "call ref" => (((with_reducible show wpAny _ _ (call (Value.ref 192) [Value.ref _, Value.ref _, Value.ref _] []) _ _ _); k_dflt (refine' side_call (by walk_at "asm") (by walk_at "asm") (by with_reducible assumption) (by exact Ar.into (by assumption) (by decide) (by decide) _) (by walk_at "mem") (by with_reducible assumption) (by with_reducible assumption) (by with_reducible assumption) (by walk_at "mem") (by walk_at "mem") ?_); intro _ _ _ _ _ _ _ _ _ _; (try k_sweep)))
  k_with "call ref" => (((with_reducible show wpAny _ _ (call (Value.ref 116) [Value.str _ _] []) _ _ _); refine Halt.out ?_))
  k_with "call ref" => (((with_reducible show wpAny _ _ (call (Value.ref 163) [Value.str _ _] []) _ _ _); k_dflt (refine' pieces_call (by walk_at "asm") (by walk_at "asm") (by with_reducible assumption) (by exact Ar.into (by assumption) (by decide) (by decide) _) (by with_reducible assumption) ?_); intro _ _ _ _ _ _ _ _ _; (try k_sweep)))
  trivial
theorem cls3 {a b c : Addr × Obj} (h1 : a.2.cls ≠ Value.none) (h2 : b.2.cls ≠ Value.none) (h3 : c.2.cls ≠ Value.none) : ∀ p ∈ [a, b, c], p.2.cls ≠ Value.none := fun p hp => by
  rcases List.mem_cons.mp hp with rfl | hp
  · exact h1
  · rcases List.mem_cons.mp hp with rfl | hp
    · exact h2
    · rw [List.mem_singleton.mp hp]; exact h3
theorem rg_L1_3 : True := by
  k_with "subscriptTail Tuple cons BinOp ref int" => (((with_reducible show wpAny _ _ (subscriptTail _ _ (Value.ref _) (Value.int _ _)) _ _ _); k_dflt (refine' tail4_at (by refine' News.isTup (by walk_at "asm") (by walk_at "mem")) (by exact Int.fmod_nonneg_of_pos _ (by decide)) (by exact Int.fmod_lt_of_pos _ (by decide)) ?_ (by with_unfolding_all rfl)); intro _))
  k_with "binaryOp Add str str" => (((with_reducible show wpAny _ _ (binaryOp _ (Value.str (tx (leadL _)) _) (Value.str (tx (tailS _)) _)) _ _ _); k_dflt (refine' lead_add (by with_reducible assumption) ?_); intro _ _))
  k_with "call ref" => (((with_reducible show wpAny _ _ (call (Value.ref 100) [Value.str _ _] []) _ _ _); k_dflt (refine' ws_make (by walk_at "asm") (by walk_at "asm") (by with_reducible assumption) (by exact Ar.into (by assumption) (by decide) (by decide) _) (by exact lead_len9 (by with_reducible assumption)) ?_); intro _ _ _ _ _ _ _ _ _; (try k_sweep)))
  k_with "call builtin:str.count" => (((with_reducible show wpAny _ _ (call (Value.builtin _) [Value.str (tx (leadL _)) _, Value.str _ _]) _ _ _); k_dflt (first | refine cnt_sp ?_ | refine cnt_tb ?_)))
  trivial
theorem rot4 {h₀ : Heap} {L : Addr} {h : Heap} {a b c d : Addr × Obj} (N : News h₀ L h [a, b, c, d]) : News h₀ L h [d, a, b, c] := subN N fun p hp => by simp only [List.mem_cons] at hp ⊢; grind
theorem cnt_cases {its : List It} (_ : its.length ≤ 23) : cntT its = 0 ∨ cntT its ≠ 0 := by lia
theorem no_pos {n : Nat} (h : n = 0) (h2 : (0:Int) < (n:Int)) : False := by lia
theorem no_zero {n : Nat} (h : n ≠ 0) (h2 : ¬ (0:Int) < (n:Int)) : False := by lia
theorem told_int {m : Str → Option Value} {k : Str} {a b : Int} {t : Tok} (h : m k = some (.int a t)) (e : a = b) : m k = some (.int b t) := e ▸ h
theorem due_one {its : List It} {sz : Nat} {t : Tok} (hz : cntT its = 0) : IntsAre [Value.int ((colI sz 0 its : Nat) : Int) t] (dueF its sz) := by
  unfold dueF; rw [if_pos hz]; exact .cons _ _ .nil
theorem len63 {l : List Int} (h : ¬ ((63 : Nat) : Int) < (l.length : Int)) : l.length ≤ 63 := by lia
theorem rg_L1_4 : True := by
  k_with "memA" => (first | (with_reducible assumption) | (refine List.mem_cons_of_mem _ ?_; walk_at "memA"))
  k_with "binaryOp Mult str int" => ((k_dflt (refine' SB.mul (by first | exact rm1 (by with_reducible assumption) | exact rm2 (by with_reducible assumption) (by with_reducible assumption) (by with_reducible assumption)) ?_); intro _ _))
  k_with "binaryOp Add str str" => (((with_reducible show wpAny _ _ (binaryOp _ (Value.str (Txt.mul _ _) _) (Value.str _ _)) _ _ _); k_dflt (refine' PyProof.Rows.add_str ?_ (by exact ra (by with_reducible assumption))); intro _ _))
  k_with "subscriptTail BinOp Slice str ref" => (((with_reducible show wpAny _ _ (subscriptTail _ (Expr.Slice none (some _) none _) _ _) _ _ _); (refine' ruler_slice (s := ⟨_, _, _, _, _⟩) (by walk_at "asm") (by walk_at "asm") (by with_reducible assumption) (by with_reducible assumption) (by with_reducible assumption) ?_ (by with_unfolding_all rfl); intro _ _ _ _ _; (try k_sweep))))
  k_with "subscriptTail Name Slice str ref" => (((with_reducible show wpAny _ _ (subscriptTail _ (Expr.Slice none (some _) none _) _ _) _ _ _); (refine' ruler_slice (s := ⟨_, _, _, _, _⟩) (by walk_at "asm") (by walk_at "asm") (by with_reducible assumption) (by with_reducible assumption) (by with_reducible assumption) ?_ (by with_unfolding_all rfl); intro _ _ _ _ _; (try k_sweep))))
  k_with "getMethod ref" => (((with_reducible show wpAny _ _ (getMethod (Value.ref _) (PySem.Str.ofString "indent_level") _) _ _ _); k_dflt (refine' meth_ws (by walk_at "asm") (by walk_at "asm") (by with_reducible assumption) (by refine' WsHas.mono (by with_reducible assumption) (by intro _ _; walk_at "memA")) ?_)))
  k_with "call ref" => (((with_reducible show wpAny _ _ (call (Value.ref 69) [Value.ref _, Value.int _ _] []) _ _ _); k_dflt (refine' level_told (by walk_at "asm") (by walk_at "asm") (by with_reducible assumption) (by exact Ar.into (by assumption) (by decide) (by decide) _) (by refine' WsHas.mono (by with_reducible assumption) (by intro _ _; walk_at "memA")) (by with_reducible assumption) (by with_reducible assumption) (by with_reducible assumption) ?_); intro _ _ _ _ _; (try k_sweep)))
  k_with "call ref" => (((with_reducible show wpAny _ _ (call (Value.ref 173) [Value.ref _, Value.str _ _] []) _ _ _); k_dflt (refine' ends_call' (by walk_at "asm") (by walk_at "asm") (by with_reducible assumption) (by exact Ar.into (by assumption) (by decide) (by decide) _) (by with_reducible assumption) (by with_reducible assumption) (by with_reducible assumption) (by exact rfl) (by with_reducible assumption) (by with_reducible assumption) (by with_reducible assumption) (by intro _ _; walk_at "memA") ?_); intro _ _ _ _ _ _ _ _; (try k_sweep)))
  k_with "call type:list" => (((with_reducible show wpAny _ _ (call (Value.type _) [Value.ref _]) _ _ _); k_dflt (refine' due_list (by walk_at "asm") (by walk_at "asm") (by walk_at "handled") (by with_reducible assumption) (by with_reducible assumption) (by with_reducible assumption) (by with_reducible assumption) (by with_reducible assumption) (by exact congrArg (· + 1) (len_eq _ _)) ?_); intro _ _ _ _ _ _ _ _ _; (try k_sweep)))
  k_with "compareOp NotEq ref ref" => (refine Halt.out ?_)
  trivial
set_option maxRecDepth 100000 in
set_option maxHeartbeats 8000000 in
theorem law_holds : PySem.Challenge.rw_in0307_01.Holds := hd (by
  k_fill
  intro w s₀ s₁ mg mb G0 Y fa o pm cd doc dV kV ho hdd hcd hD hmg hg args vals as hpre hlay hrd hwl hlo
  have KX := km_in_of Y
  km_tabs Y
  have X := (Ground.X G0).1
  have V := (Ground.X G0).2
  refine Ground.open G0 ?_
  intro T B D TE TW
  try (refine guard_noD D (by decide +kernel) ?_; clear D)
  km_lay T hmg ho hdd cd
  clear hmg
  wrow_args hpre hlay hrd hwl hlo
  all_goals (
    first | refine callC_kw (enter_call ?_) | refine enter_call ?_
    w_top on
    refine kn_postB hT9 (fun _ => rfl) ?hpost ?_
    (case hpost => first | kernel_rfl | with_unfolding_all rfl | (simp; done))
    w_call any ho hdd hcd hD T F
    clear hdd
    kn_ghosts F T
    k_drop)
  rename Fr _ _ _ _ => F
  rename News _ _ _ _ => N
  rename Top _ _ _ _ _ _ => T
  rename Frag.In _ _ => X
  rename IntsAre _ _ => hints
  have G : Gd w _ := ⟨X, _, _, _, _, _, T⟩
  have hA : Ar callerA 590 8700 := ⟨rfl, by decide, by decide⟩
  rename ¬ _ < _ => hlen0
  have hlen := len63 hlen0
  rename _ = #[] => hgens
  have hbare := AllBare.of_eq hgens
  replace codeHd : CodeHd _ 134 130 := codeHd
  have tok0 : TabOk lamP #[] [] := ⟨trivial, .inl rfl⟩
  refine wpAny_mono (E := fun _ _ => False) ?_ (fun _ _ x => x) (fun _ _ x => x.elim)
  walk_at "go"
  refine Halt.in ?_
  rename Fr _ _ _ _ => F9
  rename News _ _ _ _ => N9
  refine trans_call F9 (rot4 N9) (cls3 (by intro e; cases e) (by intro e; cases e) (by intro e; cases e)) G (Ar.into hA (by decide) (by decide) _) hbare codeHd tok0 (by with_reducible assumption) fun h₂ gs₂ d₂ tk₂ t₂ ps₂ F₂ N₂ hgs₂ => ?_
  clear F9 N9
  walk_at "go"
  refine Halt.in ?_
  rename Fr _ _ _ _ => F9
  rename News _ _ _ _ => N9
  rename WsHas _ _ _ _ _ => W9
  rename Rel2 _ _ _ => R9
  rename ∀ p ∈ _, p ∈ _ => K9
  rename List.length _ ≤ 23 => hi
  have hl9 := K9 _ (List.Mem.tail _ (List.Mem.head _))
  have h130 := K9 _ (List.Mem.tail _ (List.Mem.tail _ (List.mem_append_right _ (List.Mem.head _))))
  replace K9 : ∀ p ∈ _, p ∈ _ := fun p hp => K9 p (List.Mem.tail _ (List.Mem.tail _ (List.mem_append_left _ hp)))
  refine' law_iter rfl F9 N9 (Ar.hhD hA _) ⟨Int.fmod_nonneg_of_pos _ (by decide), Int.fmod_lt_of_pos _ (by decide)⟩ ?hJ9 ?turn ?done
  case hJ9 =>
    refine' ⟨rfl, _, _, _, _, ?j1, ?j2, ?j3, ?j4, ?j5, ?j6⟩
    case j1 => walk_at "mget"
    case j2 => walk_at "mget"
    case j3 => exact told_int (by walk_at "mget") (count_lead _).1
    case j4 => exact told_int (by walk_at "mget") (count_lead _).2
    case j5 => walk_at "mget"
    case j6 => walk_at "mget"
  case done =>
    intro m₃ h₃ tk₃ F₃ N₃
    clear F9 N9
    walk_at "go"
    exact ⟨rfl, F₃.keep, ⟨⟨_, (N₃ _ (List.mem_cons_of_mem _ h130)).1⟩, trivial⟩, rfl, hgs₂⟩
  case turn =>
    rintro sz tz m₃ h₃ tk₃ it itO s₃ h1 h7 ⟨-, t1, t2, t3, t4, c1, c2, c3, c4, c5, c6⟩ F₃ N₃ hit hz1 hz2 hz3
    obtain ⟨_, _, _, _, _⟩ := s₃
    dsimp only at hz1 hz2 hz3
    subst hz1 hz2 hz3
    clear F9 N9
    k_with "exec If Compare" => (refine Halt.out ?_)
    walk_at "go"
    refine Halt.in ?_
    refine wpAny_If ?_
    rcases cnt_cases hi with hz | hz
    all_goals (
      iterate 7 (all_goals (try (first | (k_unfold; (try dsimp only)) | walk1 | (dsimp only; walk1)))))
    all_goals (try (first | exact (no_pos hz (by with_reducible assumption)).elim | exact (no_zero hz (by with_reducible assumption)).elim))
    all_goals walk_at "go"
    all_goals refine Halt.in ?_
    all_goals refine wpAny_If ?_
    all_goals walk_at "go"
    all_goals refine Halt.in ?_
    all_goals (
      rename Fr _ _ _ _ => F8
      rename News _ _ _ _ => N8
      rename Heap.IsList _ _ _ => hl8
      rename IntsAre _ (dueF _ _) => ho8)
    refine ne_told hl8 ⟨_, (N8 _ (List.Mem.head _)).1, rfl, _, rfl⟩ ho8 (due_one hz) (hA.unitsD (by decide) _) ?_
    rotate_left 1
    revert ho8
    rename IntsAre _ (dueF _ _) => ho7
    intro ho8
    rename _ = Value.type "list" ∧ _ => hD8
    refine ne_told hl8 ⟨_, (N8 _ (List.Mem.head _)).1, hD8.1, hD8.2⟩ ho8 ho7 (hA.unitsD (by decide) _) ?_
    all_goals walk_at "go"
    all_goals (
      refine' TurnP.next F8 ?u0 hit ⟨[], rfl, rfl, _, _, _, _, ?u1, ?u2, ?u3, ?u4, ?u5, ?u6⟩
      case u0 => first | exact subN N8 (fun p hp => List.mem_cons_of_mem _ hp) | exact subN N8 (fun p hp => List.mem_cons_of_mem _ (List.mem_cons_of_mem _ hp))
      case u1 => walk_at "mget"
      case u2 => walk_at "mget"
      case u3 => walk_at "mget"
      case u4 => walk_at "mget"
      case u5 => walk_at "mget"
      case u6 => walk_at "mget"))
end Mine
theorem PySem.Challenge.cw_in0307_01_holds : PySem.Challenge.rw_in0307_01.Holds := by
  exact Mine.law_holds
